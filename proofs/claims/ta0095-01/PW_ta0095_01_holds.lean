import PyProof.Rows.All
import Wide.All
import OpenK.AllK
import Wide.FinOn
import Lean
import PySem.Challenge.RW_ta0095_01
open PySem PySem.W PySem.Calls PyProof.Rows
set_option Elab.async false
set_option maxRecDepth 100000
set_option linter.all false
set_option genSizeOf false
set_option genInjectivity false
set_option genCtorIdx false
set_option tactic.hygienic false
set_option autoImplicit true
set_option relaxedAutoImplicit true
namespace Mine
open Option renaming some→Fb,none→Gb,casesOn→Wd,none→gu
open Bool renaming true→Hb,false→Ib,and_eq_true→Zc,casesOn→Ld,false_ne_true→Of,not_eq_true'→bn,noConfusion→Zq,true_and→kr,and_true→ur,and_false→Zt,or_eq_true→NA,false_eq_true→JG,or_false→zR
open PySem.Str renaming ofString→Kb
open PySem renaming wpAny_bind→Ob,wpAny→Pb,model→Qb,Addr→Ub,Shared→Vb,wpAny_pure→vc,Stmt→jd,World→xd,Around→Dd,wpAny_mono→Yd,NameKind→gf,execs→kf,rawInt→Ef,assign→qg,wpAny_holding→Zg,builtinsNs→qh,cellsFrom→th,strValues→Fh,wpAny_field→Rh,mainGlobals→pi,codeAny→qi,wpAny_of_eq→Hi,pyNext→fj,wpAny_standAt→gj,starEach→yj,wpAny_execs_cons→zj,backTo→Tk,backToKw→Uk,keywordEach→Vk,field→Al,wpAny_seqItems→Bl,sizeLine→cm,wpAny_call_entry→jm,pyIter→cn,wpAny_Call_ofName→jn,setItem→ln,wpAny_call→pn,sliceBounds→bo,Operator→fo,compareOp→ko,call_meets→po,wpAny_rule→so,IsPair→uo,bindArgs→vo,wpAny_items_cons→vp,wpAny_callSpecial?_slot→yp,updateSeq→Ap,seg_bind_wrap→Fp,behindInMarks→ar,wpAny_Name→br,swapsWith→jr,assignEach→lr,pushCells→mr,seg_execs_cons→yr,strIterType→zr,Arguments→Tt,wpAny_pyIter_list→au,letOwnedTupleGo→cu,wpAny_letGo→fu,cStatics→ju,typeIs_str→Yw,typeLookup→jx,wpAny_specialOf→lx,wpAny_execs_nil→mx,wpAny_newObj_type→ox,wpAny_setField_rec→px,wpAny_updateSeq→qx,methodCallForm→wx,methodCallPos→xx,sizeLine_eq→yx,typeLookup_type→Ax,builtinLookup_eq_fast→Bx,assignInOrder→FA,wpAny_assign_Name→GA,exec_Assign_arm→KA,wpAny_onRaise→LA,isSubtype_type→QA,wpAny_loadName_local→tG,wpAny_Call_method→HG,evalThenUse→MG,assignStores→NG,wpAny_setField→PG,wpAny_pyIter_enum→SG,callType_new→UG,slot_list_setitem→WG,sequenceKey→aH,recursionLimit→bH,seg_execs_nil→hH,wpAny_truthy_bool→zQ,wpAny_isTrue_Compare1→BQ,wpAny_allTrue_Or_cons→CQ,wpAny_letTemporaryGo→GQ,theTreesLotGoes→JQ,foldedSetIterable→LQ,wpAny_nextOf_list_end→NQ,wpAny_updateSeq_pair→OQ,wpAny_isInstance→PQ,wpAny_newFunctionEnv_cells→ZQ,entryFor_of_tree→fR,codeAny_builtin→lR,wpAny_pyIter_gen→oR
open Nat renaming le_trans→dc,le_refl→Ed,casesAuxOn→jf,lt_succ_self→Af,add_le_add_right→Bf,le_of_lt→Df,lt_of_le_of_lt→Nf,succ_le_succ→Ng,zero_le→ah,beq→Eh,le_of_not_lt→oi,ne_of_gt→ri,zero_add→Ii,ble→Ki,add_le_add_left→bk,blt→fk,add_le_add→Qk,add_comm→Rk,sub_le→Xk,le_add_right→wl,le_of_eq→yl,lt_of_lt_of_le→zl,add_assoc→bm,ne_of_lt→dm,le_succ→km,le_succ_of_le→Xm,add_sub_of_le→ao,not_lt_zero→io,lt_succ_of_lt→jo,mul_le_mul_left→Yq,lt_asymm→nr,le_add_left→rr,lt_irrefl→Ut,lt_of_succ_lt_succ→Yt,mul_le_mul_right→lu,le_of_succ_le→bx,min_eq_left→cx,lt_succ_of_le→zx,min_le_right→Cx,le_of_add_right_le→Ex,blt_eq→Gx,le_of_ble_eq_true→Hx,succ_pos→uA,le_antisymm→xA,sub_le_sub_left→WA,mul_zero→ZA,succ_mul→aB,eq_of_beq_eq_true→bB,sub_add_cancel→pG,le_of_lt_succ→rG,add_right_comm→wG,sub_zero→LG,succ_ne_self→VG,succ_add→dH,lt_add_of_pos_right→fH,succ_ne_zero→gH,lt_of_succ_lt→wQ,lt_of_not_le→EQ,lt_of_lt_of_eq→KQ,le_sub_of_add_le→QQ,add_sub_cancel_left→RQ,min_eq_right→iR,min_le_left→wR,ne_of_beq_eq_false→BR,succ_add_eq_add_succ→laa,le_of_add_le_add_right→saa
open Option.some renaming inj→jc,injEq→yA
open _root_.List renaming casesOn→xc,length_map→Uc,mem_cons_self→Fd,length_append→Pd,not_mem_nil→Xd,range→xe,getElem?_eq_getElem→De,mem_cons_of_mem→Ee,size_toArray→Cf,getElem?_map→bg,append_nil→ng,mem_cons→og,getD_eq_getElem?_getD→Mg,map_map→Yg,mem_of_getElem?→bh,map_cons→rh,append_assoc→Sh,map_append→ej,length_cons→xj,replicate→Sk,length_singleton→Dl,length_range→El,length_nil→gm,mem_singleton→om,drop_eq_getElem_cons→dn,length→mn,getElem?_toArray→oo,getElem?_eq_none→qo,lookup→ro,range'→Gp,length_take→vr,map_take→bu,nil_append→iu,all_eq_true→ku,drop_drop→mu,lookup_cons_self→Uw,take_length→Ww,map_drop→Zw,length_drop→ex,length_filter_le→sx,reverse_cons→ux,of_mem_zip→vx,flatten_append→Dx,foldl_cons→zA,forIn_cons→HA,forIn_nil→IA,length_flatten→SA,cons_append→TA,getElem_mem→UA,toArray→VA,drop_eq_nil_of_le→YA,getElem?_append_left→qG,getElem?_set_ne→sG,getElem_toArray→vG,take_of_length_le→AG,filter_cons→BG,filterMap_cons→DG,lookup_cons→FG,mem_map_of_mem→KG,mem_of_mem_take→ZG,range'_succ→iH,take_append_drop→jH,take_succ_eq_append_getElem→kH,drop_length→mH,map_nil→nH,range_eq_range'→oH,flatten_cons→pH,replicate_succ→qH,length_tail→rH,getElem?_set_self→sQ,length_set→tQ,extract_eq_take_drop→yQ,isEmpty_nil→DQ,eq_nil_of_length_eq_zero→WQ,idxOf_lt_length_of_mem→XQ,getElem?_append_right→YQ,all_append→sR,getElem_range→tR,drop_zero→uR,drop_append_of_le_length→vR,mem_of_mem_tail→AR,range_succ_eq_map→aaa,eraseIdx_cons_succ→caa,length_filterMap_le→kaa,range'_eq_map_range→vaa,flatten_singleton→waa
open PySem.W renaming handed→Fc,Frag→Ad,findIn→ij,emptyDict→Wk,kas_sort→Zm,kms_hi→rn,instObj→Bp,keepIn→Ep,kms_lo→Ip
open Prod.mk renaming inj→ye,injEq→Wt
open PySem.Expr renaming casesOn→pg,Tuple→eu
open PySem.Sre renaming M→Ag,ops→Og,Seen→Ji,inSet→Cp,forSearch→Dp,accepts→PA,itemWidth→eR
open Ne renaming symm→sh
open PySem.Builtin.Range renaming rangeSize→Fi,small→Ym
open List.cons renaming inj→ck,injEq→XA
open PySem.Obj renaming mapSeq→dk,data_mapFields→QG,isFreed_of_fields→MQ
open And renaming intro→ek
open Exists renaming elim→xl
open PySem.Value renaming ref→fm,type→mo,none→sp,casesOn→tp,str→xG,int→yG
open PySem.Builtin.SmallTypes renaming nextOf→im,fitsIndex→MA,ownedTupleIsFree→RG,ownedTupleHandOut→haa
open PyProof.Rows renaming seqObj→lm,assignInOrder_nil→HQ,assignInOrder_cons→IQ
open Nat.succ renaming inj→an
open PySem.NameKind renaming casesOn→wp,cell→du,free→JA
open Classical renaming byCases→xp,byContradiction→fx
open PySem.Value.ref renaming inj→cr
open PySem.Calls renaming spliced_nil→ir,callWith_builtin→DA,loadGlobal_builtin→eaa
open Int renaming toNat_natCast→pr,natCast_nonneg→qr,toNat_of_nonneg→Xw,casesOn→IG,fdiv_eq_ediv_of_nonneg→lH,max_eq_right→UQ,fmod_nonneg_of_pos→xR,fmod_lt_of_pos→yR,eq_ofNat_of_zero_le→jaa
open PySem.Sre.M renaming step→xr,attemptFrom→OA,admitted→dR
open PySem.Txt renaming split→Rt,slice→wA
open Prod renaming fst→Tw
open ForInStep renaming yield→nx
open PySem.Code renaming forLoop→Fx
open PySem.Builtin renaming divisionGoesByPylong→vA
open PySem.Builtin.Str renaming occurrences→AA,strSliceIndices→CA,partsBetween→CG,strKind→daa
open PySem.Data renaming casesOn→BA
open PySem.F renaming plainAttrs_list→EA,plainAttrs_str→EG,slot_tuple_iterator_next→OG,args_object_init_3→SQ,plain_extend_loop→pR,entry_tuple_iterator_next→faa,args_tuple_iterator_next_1→gaa,slot_str_ascii_iterator_next→raa
open PySem.Builtin.Re renaming reSlice→RA,reDrive→aR,reRunToEnd→bR,reRawOf→hR,reWholeTarget→jR,reRawItems→maa,reTarget→naa,reAnswer→oaa,ReTarget→qaa,reNewMatch→xaa
open PySem.Around renaming frames_deeper→dB,under_plainId→uaa
open _root_.Array renaming toList_append→uG,extract_empty_of_stop_le_start→XG,length_toList→eH,toList→vQ,append_assoc→xQ,extract_zero→kR,getElem?_toList→baa,getElem?_eq_none→iaa,extract_empty_of_size_le_start→paa
open PySem.Builtin.List renaming listFitsIndex→zG,listSameRef→YG,listSubscript?→TQ,listItems→VQ,listExtendWith→qR
open PySem.AutoSeq1 renaming wpAny_loadPart'→TG
open Except renaming ok→cH
open Decidable renaming byCases→rQ
open PySem.Operator renaming casesOn→uQ
open PySem.UnaryOp renaming casesOn→AQ
open PySem.Frame renaming guarded→mR
open PySem.Shared renaming setGen→nR
open PySem.Builtin.Generator renaming genWake→taa
abbrev aa:=List (List Nat×List Nat)
abbrev ba:=List (List Nat)
abbrev ca:=List Nat
abbrev da:=List Int
abbrev fa:=Array Nat
abbrev ia:=List Value
abbrev ja:=Value->Vb->Prop
abbrev ka:=List Expr
noncomputable abbrev ma:=Kb "name"
noncomputable abbrev na:=Kb "_convert_string_type"
noncomputable abbrev oa:=Kb "_headers"
noncomputable abbrev qa:=Kb "__setitem__"
noncomputable abbrev ra:=Kb "__delitem__"
noncomputable abbrev sa:=Kb "get"
noncomputable abbrev ta:=Kb "keys"
noncomputable abbrev ua:=Kb "items"
noncomputable abbrev va:=Kb "__init__"
noncomputable abbrev wa:=Kb "headers"
noncomputable abbrev xa:=Kb "self"
noncomputable abbrev ya:=Kb "addr"
noncomputable abbrev za:=Kb "insort_right"
noncomputable abbrev Aa:=Kb "bisect_right"
noncomputable abbrev Ba:=Kb "insort_left"
noncomputable abbrev Ca:=Kb "bisect_left"
noncomputable abbrev Ea:=Kb "_strip_quoted_realnames"
noncomputable abbrev Fa:=Kb "_check_parenthesis"
noncomputable abbrev Ga:=Kb "_pre_parse_validation"
noncomputable abbrev Ha:=Kb "quotedata"
noncomputable abbrev Ia:=Kb "_fix_eols"
noncomputable abbrev Ja:=Kb "_law_table"
noncomputable abbrev Ka:=Kb "_law_out"
noncomputable abbrev La:=Kb "_law_in"
noncomputable abbrev Ma:=Kb "_law_mates"
noncomputable abbrev Na:=Kb "_law_dotted"
noncomputable abbrev Oa:=Kb "law"
noncomputable abbrev Pa:=Kb "_iter_escaped_chars"
noncomputable abbrev Qa:=Kb "_law_refused"
noncomputable abbrev Ra:=Kb "Headers._convert_string_type"
noncomputable abbrev Sa:=Kb "ValueError"
noncomputable abbrev Ta:=Kb "key"
noncomputable abbrev Ua:=Kb "table"
noncomputable abbrev Va:=Kb "text"
section
set_option backward.match.sparseCases false
theorem nn{α:Type}{a:α}{p:Prop}(h:(Gb:Option α)=Fb a):p:=nomatch h
theorem G5(h:s<=n):n+1-s=n-s+1:=Nat.sub_add_comm h
theorem rM(h:s<p):p-s=p-(s+1)+1:=(pG (Nat.sub_pos_of_lt h)).symm
theorem vM(h:n-k=m+1):k<n:=Nat.sub_pos_iff_lt.mp (h▸uA m)
theorem V5(h:s<=n):n<s+(n+1-s):=by rw[ao (Xm h)];exact Af n
theorem H8(h:a+10*d+100<9900)(q:k<=100):a+k<9900:=Nf (Qk (wl _ _) q) h
theorem Z8(h:a+10*(d+1)+100<9900):a+3+10*d+100<9900:=Nf (Bf (by rw[bm,Rk 3];exact bk (bk (by decide:3<=10) (10*d)) a) 100) h
theorem G7(h:a+2*(d+1)+5<1000):a+1+2*d+5<1000:=Nf (Bf (by rw[bm,Rk 1];exact bk (bk (by decide:1<=2) (2*d)) a) 5) h
theorem eO(h:a+2*d+5<1000):a<1000:=Nf (dc (wl a (2*d)) (wl _ 5)) h
theorem d8(h:a+10*e+100<9900)(q:d<=e):a+10*d+100<9900:=Nf (Bf (bk (Yq 10 q) a) 100) h
theorem PN(h:a+2*e+5<1000)(q:d<=e):a+2*d+5<1000:=Nf (Bf (bk (Yq 2 q) a) 5) h
theorem Bo{α:Type}{c:Prop}[Decidable c]{a b:Sem α}{Q:α->Vb->Prop}(h:c)(k:Pb M A a Q E s):Pb M A (if c then a else b) Q E s:=by rw[if_pos h];exact k
theorem Jj{α:Type}{c:Prop}[Decidable c]{a b:Sem α}{Q:α->Vb->Prop}(h:¬c)(k:Pb M A b Q E s):Pb M A (if c then a else b) Q E s:=by rw[if_neg h];exact k
theorem Js{c:Prop}[Decidable c]{p q:Prop}(h:c)(k:p):if c then p else q:=by rw[if_pos h];exact k
theorem pq{c:Prop}[Decidable c]{p q:Prop}(h:¬c)(k:q):if c then p else q:=by rw[if_neg h];exact k
theorem Po{α:Type}{x y:Sem α}{Q:α->Vb->Prop}(h:x=y)(k:Pb M A y Q E s):Pb M A x Q E s:=h▸k
theorem Qc{P:Prop}(h:∀R:Prop,(P->R)->R):P:=h P (λx=>x)
theorem Mc{A:Sort _}{T:Sort _}{P:A->T->Prop}{R:Prop}(h:∃a b,P a b)(k:∀a b,P a b->R):R:=h.elim λa z=>z.elim λb z=>k a b z
theorem ge{A:Sort _}{T:Sort _}{Y:Sort _}{P:A->T->Y->Prop}{R:Prop}(h:∃a b c,P a b c)(k:∀a b c,P a b c->R):R:=h.elim λa z=>z.elim λb z=>z.elim λc z=>k a b c z
theorem Md{A:Sort _}{T:Sort _}{Y:Sort _}{B:Sort _}{P:A->T->Y->B->Prop}{R:Prop}(h:∃a b c d,P a b c d)(k:∀a b c d,P a b c d->R):R:=h.elim λa z=>z.elim λb z=>z.elim λc z=>z.elim λd z=>k a b c d z
theorem WP{A:Sort _}{T:Sort _}{Y:Sort _}{B:Sort _}{m:Sort _}{P:A->T->Y->B->m->Prop}{R:Prop}(h:∃a b c d e,P a b c d e)(k:∀a b c d e,P a b c d e->R):R:=h.elim λa z=>z.elim λb z=>z.elim λc z=>z.elim λd z=>z.elim λe z=>k a b c d e z
theorem eA{A:Sort _}{T:Sort _}{Y:Sort _}{B:Sort _}{m:Sort _}{o:Sort _}{P:A->T->Y->B->m->o->Prop}{R:Prop}(h:∃a b c d e f,P a b c d e f)(k:∀a b c d e f,P a b c d e f->R):R:=h.elim λa z=>z.elim λb z=>z.elim λc z=>z.elim λd z=>z.elim λe z=>z.elim λf z=>k a b c d e f z
theorem ql{p q R:Prop}(h:p/\q)(k:p->q->R):R:=k h.1 h.2
theorem we{p q r R:Prop}(h:p/\q/\r)(k:p->q->r->R):R:=k h.1 h.2.1 h.2.2
theorem Yj{p q r s R:Prop}(h:p/\q/\r/\s)(k:p->q->r->s->R):R:=k h.1 h.2.1 h.2.2.1 h.2.2.2
theorem qp{p q r s t R:Prop}(h:p/\q/\r/\s/\t)(k:p->q->r->s->t->R):R:=k h.1 h.2.1 h.2.2.1 h.2.2.2.1 h.2.2.2.2
theorem lG{p q r s t u R:Prop}(h:p/\q/\r/\s/\t/\u)(k:p->q->r->s->t->u->R):R:=k h.1 h.2.1 h.2.2.1 h.2.2.2.1 h.2.2.2.2.1 h.2.2.2.2.2
theorem eQ{p q r s t u v R:Prop}(h:p/\q/\r/\s/\t/\u/\v)(k:p->q->r->s->t->u->v->R):R:=k h.1 h.2.1 h.2.2.1 h.2.2.2.1 h.2.2.2.2.1 h.2.2.2.2.2.1 h.2.2.2.2.2.2
theorem dG{p q r s t u v w R:Prop}(h:p/\q/\r/\s/\t/\u/\v/\w)(k:p->q->r->s->t->u->v->w->R):R:=k h.1 h.2.1 h.2.2.1 h.2.2.2.1 h.2.2.2.2.1 h.2.2.2.2.2.1 h.2.2.2.2.2.2.1 h.2.2.2.2.2.2.2
mutual
inductive PV where
 |none
 |bool(b:Bool)
 |int(i:Int)
 |str(s:ca)
 |Sb(vs:List PV)
 |Mb(c:Cell)
 |id(i:Nat)
 |rc(i:Nat)
 |ag(lo hi st:Int)
 |kc(v:Value)
inductive Cell where
 |ints(l:da)
 |strs(l:ba)
 |Lb(l:List PV)
end
namespace Cell
noncomputable def toList:Cell->List PV
 |.ints l=>l.map .int|.strs l=>l.map .str|.Lb l=>l
noncomputable def len:Cell->Nat
 |.ints l=>l.length|.strs l=>l.length|.Lb l=>l.length
noncomputable def push:Cell->PV->Cell
 |.ints l,.int i=>.ints (l++[i])|.strs l,.str s=>.strs (l++[s])|.Lb [],.int i=>.ints [i]|.Lb [],.str s=>.strs [s]|c,v=>.Lb (c.toList++[v])
noncomputable def getD:Cell->Nat->PV
 |.ints l,i=>.int (l.getD i 0)|.strs l,i=>.str (l.getD i [])|.Lb l,i=>l.getD i .none
noncomputable def setAt:Cell->Nat->PV->Cell
 |.ints l,i,.int x=>.ints (l.set i x)|.strs l,i,.str x=>.strs (l.set i x)|c,i,v=>.Lb (c.toList.set i v)
noncomputable def Kj:Cell->Nat->Cell
 |.ints l,i=>.ints (l.eraseIdx i)|.strs l,i=>.strs (l.eraseIdx i)|.Lb l,i=>.Lb (l.eraseIdx i)
noncomputable def Dg:Cell->Nat->PV->Cell
 |.ints l,i,.int x=>.ints (l.take i++x::l.drop i)|.strs l,i,.str x=>.strs (l.take i++x::l.drop i)|c,i,v=>.Lb (c.toList.take i++v::c.toList.drop i)
noncomputable def app:Cell->Cell->Cell
 |.ints a,.ints b=>.ints (a++b)|.strs a,.strs b=>.strs (a++b)|.Lb [],b=>b|a,.Lb []=>a|a,b=>.Lb (a.toList++b.toList)
end Cell
noncomputable def allInts:List PV->Option da
 |[]=>Fb []|.int i::r=>(allInts r).map (i::·)|_=>Gb
noncomputable def allStrs:List PV->Option ba
 |[]=>Fb []|.str i::r=>(allStrs r).map (i::·)|_=>Gb
noncomputable def Rg(V:List PV):Cell:=match V with
 |[]=>.Lb []|_=>match allInts V with
  |some l=>.ints l|none=>match allStrs V with
   |some l=>.strs l|none=>.Lb V
noncomputable def pick{α:Type}(x:List α)(lo h st:Option Int):List α:=
 (sliceRange (bo lo h st x.length).1 (bo lo h st x.length).2.1 (bo lo h st x.length).2.2).filterMap (x[·]?)
noncomputable def Cell.pick:Cell->Option Int->Option Int->Option Int->Cell
 |.ints l,a,b,c=>.ints (Mine.pick l a b c)|.strs l,a,b,c=>.strs (Mine.pick l a b c)|.Lb l,a,b,c=>.Lb (Mine.pick l a b c)
abbrev Loc:=List (Option PV)
abbrev Hp:=List (Bool×Cell)
noncomputable abbrev Rm(α:Type):=Option (α×Bool)
namespace Rm
noncomputable def ret{α:Type}(a:α):Rm α:=Fb (a,Hb)
noncomputable def need(b:Bool):Rm Unit:=Fb ((),b)
noncomputable def bind{α β:Type}(m:Rm α)(f:α->Rm β):Rm β:=match m with
 |none=>Gb|some (a,b)=>match f a with
  |none=>Gb|some (c,B)=>Fb (c,b&&B)
end Rm
set_option genCtorIdx true in
inductive Rj|len|min|sum|range|list|zip|enum|sorted|int|str|type|headers
 deriving DecidableEq
set_option genCtorIdx true in
inductive Pe|append|pop|insert|index|count|join|split|upper|lower|sub|search|fn (k:Nat)
 deriving DecidableEq
noncomputable def ll:Rj->Value
 |.len=>.builtin "len"|.min=>.builtin "min"|.sum=>.builtin "sum"|.range=>.type "range"|.list=>.type "list"|.zip=>.type "zip"|.enum=>.type "enumerate"|.sorted=>.builtin "sorted"|.int=>.type "int"|.str=>.type "str"|.type=>.type "type"|.headers=>.ref 259
inductive Td where
 |oc(p:Rj)
 |fn(k:Nat)(v:Value)
 |val(v:Value)
inductive M where
 |nc
 |none
 |bool(b:Bool)
 |int(i:Int)
 |str(s:ca)
 |Jb(i:Nat)
 |kc(v:Value)
 |Xb(es:List M)
 |Sb(es:List M)
 |cc(op:fo)(a b:M)
 |neg(a:M)
 |mc(op:CmpOp)(a b:M)
 |fc(a:M)
 |dt(a:M)
 |Nn(as:List M)
 |rl(as:List M)
 |ite(t a b:M)
 |oc(p:Rj)(as:List M)
 |fn(k:Nat)(as:List M)
 |qc(m:Pe)(o:M)(as:List M)
 |Zh(m:Pe)(o:M)(as:List M)(kw:Str)(v:M)
 |sub(o i:M)
 |Oc(o lo hi st:M)
 |attr(o:M)(n:Str)
 |comp(Sd:M)(Nb:M)(src:M)(cond:Option M)(init:List (Option Nat))
inductive S where
 |nc
 |pass
 |brk
 |expr(e:M)
 |ret(e:M)
 |asg(t:M)(e:M)
 |aug(i:Nat)(op:fo)(e:M)
 |ifs(t:M)(b o:List S)
 |Ok(t:M)(b:List S)
 |Uf(t:M)(src:M)(b:List S)
 |del(o i:M)
noncomputable def mq(e:Expr):Bool:=Eh e.ctorIdx 8
noncomputable def Hh(o:Expr):Bool:=match o with
 |.Call (.Name _ _) [] [] _=>Ib|_=>Hb
noncomputable def kwFits(m k:Str)(a:ka):Bool:=k==ma&&decide (a.length=1)&&m==na
noncomputable def slotIn:List (Str×gf)->Str->Nat->Option (Nat×gf)
 |[],_,_=>Gb|(y,k)::r,x,i=>if x==y then Fb (i,k) else slotIn r x (i+1)
theorem ff{R:Prop}(h:(Ib:Bool)=Hb):R:=Zq h
theorem An{R:Prop}(h:slotIn (y::r) x j=Fb (i,k))(a:y.1=x->j=i->y.2=k->R)(b:(x==y.1)=Ib->slotIn r x (j+1)=Fb (i,k)->R):R:=by
 have h:(if x==y.1 then Fb (j,y.2) else slotIn r x (j+1))=Fb (i,k):=h
 cases q:x==y.1 with
 |true=>
  have h:=jc ((if_pos q).symm.trans h);exact a (eq_of_beq q).symm (congrArg Tw h) (congrArg Prod.snd h)
 |false=>exact b q ((if_neg (q▸Of)).symm.trans h)
theorem ct{α:Type}{c:Prop}[Decidable c]{a b:α}{P:α->Prop}(h:c->P a)(k:¬c->P b):P (if c then a else b):=by
 by_cases q:c
 ·rw[if_pos q];exact h q
 ·rw[if_neg q];exact k q
theorem tD{β:Type}{v:β}{l:List (Str×β)}(h:(x==n)=Ib):((n,v)::l).lookup x=l.lookup x:=by
 refine List.lookup_cons.trans ?_;rw[h]
noncomputable def gh:List Str->Bool
 |[]=>Hb|x::r=>!r.contains x&&gh r
noncomputable def hZ:ScopeKind->Bool
 |.function=>Hb|_=>Ib
noncomputable def Jl(j s:Scope):Bool:=hZ s.kind&&gh (s.names.map (·.1))&&s.names.all λx=>match x.2 with
 |.free=>match slotIn j.names x.1 0 with
  |some (_,.cell)=>Hb|some (_,.free)=>Hb|_=>Ib
 |_=>Hb
noncomputable def xo(s t:Scope):List (Option Nat):=t.names.map λx=>match x.2 with
 |.free=>(slotIn s.names x.1 0).map (·.1)|_=>Gb
structure Qt where
 kc:List (Str×Td)
 qc:List (Str×Pe)
mutual
noncomputable def Zb(T:Qt):Nat->Scope->Expr->M
 |0,_,_=>.nc|n+1,j,e=>match e with
  |.Constant c _ _=>match c with
    |.none=>.none|.bool b=>.bool b|.int i=>.int i|.str s=>.str s.cps.toList|_=>.nc
  |.Name x _=>match(x==("__debug__":Str))||(x==("__classdict__":Str)) with
    |true=>.nc|false=>match slotIn j.names x 0 with
     |some (i,.local)=>.Jb i|some (i,.cell)=>.Jb i|some (i,.free)=>.Jb i|some (_,.globalImplicit)=>match T.kc.lookup x with
      |some (.val v)=>.kc v|some (.oc p)=>.kc (ll p)|_=>.nc
     |_=>.nc
  |.List E _=>match decide (E.length<100) with
    |true=>.Xb (E.map (Zb T n j))|false=>.nc
  |.Tuple E _ _=>match decide (E.length<100) with
    |true=>.Sb (E.map (Zb T n j))|false=>.nc
  |.BinOp l op r _=>.cc op (Zb T n j l) (Zb T n j r)|.UnaryOp .USub x _=>.neg (Zb T n j x)|.Compare l [op] [r] _=>match ar op r with
    |false=>.mc op (Zb T n j l) (Zb T n j r)|true=>.nc
  |.IfExp t b o _=>.ite (qf T n j t) (Zb T n j b) (Zb T n j o)|.Call (.Attribute o m L) A [] U=>match Hh o&&L.endLine==U.line&&decide (A.length<20) with
    |true=>match T.qc.lookup m with
     |some k=>.qc k (Zb T n j o) (A.map (Zb T n j))|none=>.nc
    |false=>.nc
  |.Call (.Attribute o m L) A [⟨Fb y,v,_⟩] U=>match Hh o&&L.endLine==U.line&&decide (A.length<20)&&kwFits m y A with
    |true=>match T.qc.lookup m with
     |some k=>.Zh k (Zb T n j o) (A.map (Zb T n j)) y (Zb T n j v)|none=>.nc
    |false=>.nc
  |.Call (.Name x _) A [] _=>match x==("__debug__":Str)||decide (20<=A.length) with
   |true=>.nc|false=>match slotIn j.names x 0 with
    |some (_,.globalImplicit)=>match T.kc.lookup x with
     |some (.oc p)=>.oc p (A.map (Zb T n j))|some (.fn k _)=>.fn k (A.map (Zb T n j))|_=>.nc
    |_=>.nc
  |.Subscript o (.Slice l u s _) _=>.Oc (Zb T n j o) (Lg T n j l) (Lg T n j u) (Lg T n j s)|.Subscript o i _=>.sub (Zb T n j o) (Zb T n j i)|.Attribute o a _=>match Hh o with
    |true=>.attr (Zb T n j o) a|false=>.nc
  |.ListComp q [⟨Nb,iter,I,0⟩] w _=>match Jl j w with
    |true=>match I with
     |[]=>.comp (Zb T n w q) (rd T n w Nb) (Zb T n j iter) Gb (xo j w)|[c]=>.comp (Zb T n w q) (rd T n w Nb) (Zb T n j iter) (Fb (qf T n w c)) (xo j w)|_=>.nc
    |false=>.nc
  |_=>.nc
noncomputable def rd(T:Qt):Nat->Scope->Expr->M
 |0,_,_=>.nc|n+1,j,e=>match e with
  |.Name x _=>match slotIn j.names x 0 with
   |some (i,.local)=>.Jb i|some (i,.cell)=>.Jb i|_=>.nc
  |.Tuple E _ _=>.Sb (E.map (rd T n j))|.Subscript o (.Slice l u s _) _=>.Oc (Zb T n j o) (Lg T n j l) (Lg T n j u) (Lg T n j s)|.Subscript o i _=>.sub (Zb T n j o) (Zb T n j i)|_=>.nc
noncomputable def Lg(T:Qt):Nat->Scope->Option Expr->M
 |0,_,_=>.nc|n+1,s,e=>match e with
  |some e=>Zb T n s e|none=>.none
noncomputable def qf(T:Qt):Nat->Scope->Expr->M
 |0,_,_=>.nc|n+1,s,e=>match e with
  |.UnaryOp .Not x _=>.dt (qf T n s x)|.BoolOp .And V _=>.Nn (V.map (qf T n s))|.BoolOp .Or V _=>.rl (V.map (qf T n s))|.IfExp ..=>.nc|e=>.fc (Zb T n s e)
end
noncomputable def Mr(e:Expr):Bool:=match e with
 |.Tuple V _ _=>!(V.all (constantsAlone 8))|_=>Hb
noncomputable def Se(T:Qt):Nat->Scope->jd->S
 |0,_,_=>.nc|n+1,s,st=>match st with
  |.Pass _=>.pass|.Break _=>.brk|.Expr e _=>match mq e with
   |true=>.nc|false=>.expr (Zb T n s e)
  |.Return (Fb e) _=>.ret (Zb T n s e)|.Assign [t] e _=>match Mr e with
   |true=>.asg (rd T n s t) (Zb T n s e)|false=>.nc
  |.AugAssign (.Name x _) op e _=>match slotIn s.names x 0 with
   |some (i,.local)=>.aug i op (Zb T n s e)|_=>.nc
  |.If t b o _=>.ifs (qf T n s t) (b.map (Se T n s)) (o.map (Se T n s))|.While t b [] _=>.Ok (qf T n s t) (b.map (Se T n s))|.For t i b [] _=>.Uf (rd T n s t) (Zb T n s i) (b.map (Se T n s))|.Delete [.Subscript o i _] _=>.del (Zb T n s o) (Zb T n s i)|_=>.nc
noncomputable def cellAt(v:PV)(h:Hp):Option Cell:=match v with
 |.id i=>(h[i]?).map (·.2)|.Mb c=>Fb c|_=>Gb
noncomputable def td(mt:Bool)(c:Cell)(h:Hp):PV×Hp:=match mt with
 |true=>(.id h.length,h++[(Ib,c)])|false=>(.Mb c,h)
noncomputable def Fg:Nat->PV->Bool
 |0,_=>Ib|n+1,v=>match v with
  |.Sb V=>V.all (Fg n)|.Mb c=>match c with
   |.ints _=>Hb|.strs _=>Hb|.Lb l=>l.all (Fg n)
  |.id _=>Ib|.rc _=>Ib|_=>Hb
noncomputable def Be(c:Cell):Bool:=Fg 9 (.Mb c)
mutual
noncomputable def Wg(h:Hp):Nat->PV->PV->Option Bool
 |0,_,_=>Gb|n+1,a,b=>match a,b with
  |.int x,.int y=>Fb (decide (x=y))|.str x,.str y=>Fb (decide (x=y))|.Sb T,.Sb Y=>Jm h n T Y|a,b=>match cellAt a h,cellAt b h with
   |some c,Fb d=>Tm h n c d|_,_=>Gb
noncomputable def Tm(h:Hp):Nat->Cell->Cell->Option Bool
 |0,_,_=>Gb|n+1,c,d=>match c,d with
  |.ints x,.ints y=>Fb (decide (x=y))|.strs x,.strs y=>Fb (decide (x=y))|c,d=>Jm h n c.toList d.toList
noncomputable def Jm(h:Hp):Nat->List PV->List PV->Option Bool
 |0,_,_=>Gb|_+1,[],[]=>Fb Hb|_+1,[],_::_=>Fb Ib|_+1,_::_,[]=>Fb Ib|n+1,a::x,b::y=>match Wg h n a b,Jm h n x y with
  |some p,Fb q=>Fb (p&&q)|_,_=>Gb
end
noncomputable def Ih(lo h st:Int):da:=(xe (Fi lo h st).toNat).map λ(k:Nat)=>lo+k*st
noncomputable def ic:Nat:=1000000
noncomputable def Ci(i:Int):Bool:=decide (-1000000<=i)&&decide (i<=1000000)
inductive Ic where
 |Lb(l:List PV)
 |Xb(i k:Nat)
 |zip(a b:Ic)
 |enum(k:Int)(a:Ic)
noncomputable def zi:Ic->Hp->Nat
 |.Lb l,_=>l.length|.Xb i k,h=>match h[i]? with
  |some c=>c.2.len-k|none=>0
 |.zip a _,h=>zi a h|.enum _ a,h=>zi a h
noncomputable def Cd:Ic->Hp->Option (Option (PV×Ic))
 |.Lb l,_=>match l with
  |[]=>Fb Gb|v::r=>Fb (Fb (v,.Lb r))
 |.Xb i k,h=>match h[i]? with
  |some c=>match decide (k<c.2.len) with
   |true=>Fb (Fb (c.2.getD k,.Xb i (k+1)))|false=>Fb Gb
  |none=>Gb
 |.zip a b,h=>match Cd a h with
  |none=>Gb|some Gb=>Fb Gb|some (Fb (x,A))=>match Cd b h with
   |none=>Gb|some Gb=>Fb Gb|some (Fb (y,B))=>Fb (Fb (.Sb [x,y],.zip A B))
 |.enum k a,h=>match Cd a h with
  |none=>Gb|some Gb=>Fb Gb|some (Fb (x,A))=>Fb (Fb (.Sb [.int k,x],.enum (k+1) A))
noncomputable def Bi(v:PV):Rm Ic:=match v with
 |.ag lo h st=>Fb (.Lb ((Ih lo h st).map .int),Ym lo h st&&decide (0<=Fi lo h st))|.Sb V=>Rm.ret (.Lb V)|.Mb c=>Rm.ret (.Lb c.toList)|.id i=>Rm.ret (.Xb i 0)|_=>Gb
noncomputable def Yh(v:PV):Rm Ic:=match v with
 |.Mb c=>Rm.ret (.Lb c.toList)|.id i=>Rm.ret (.Xb i 0)|_=>Gb
noncomputable def zs(v:PV):Rm Ic:=match v with
 |.Sb V=>Rm.ret (.Lb V)|v=>Yh v
noncomputable def idx(k:Int)(n:Nat):Nat:=(if k<0 then k+n else k).toNat
noncomputable def Sf(k:Int)(n:Nat):Bool:=decide (0<=if k<0 then k+n else k)&&decide ((if k<0 then k+n else k)<n)
noncomputable def eg:PV->Option (Option Int)
 |.none=>Fb Gb|.int i=>Fb (Fb i)|_=>Gb
noncomputable def lq(v:PV):Option Bool:=match v with
 |.bool b=>Fb b|.int i=>Fb (decide (i≠0))|.none=>Fb Ib|_=>Gb
noncomputable def Ss(op:fo)(a b:PV)(mt:Bool)(h:Hp):Rm (PV×Hp):=match op,a,b with
 |.Add,.int x,.int y=>Rm.ret (.int (x+y),h)|.Sub,.int x,.int y=>Rm.ret (.int (x-y),h)|.Mult,.int x,.int y=>Fb ((.int (x*y),h),Ci x&&Ci y)|.FloorDiv,.int x,.int y=>Fb ((.int (x.fdiv y),h),decide (0<y)&&Ci y)|.Mod,.int x,.int y=>Fb ((.int (x.fmod y),h),decide (0<y))|.Pow,.int x,.int y=>Fb ((.int (x^y.toNat),h),decide (x=10)&&decide (y=6))|.Add,.str x,.str y=>Fb ((.str (x++y),h),decide (x.length+y.length<=ic))|.Add,a,b=>match cellAt a h,cellAt b h with
  |some c,Fb d=>Fb (td mt (c.app d) h,decide (c.len+d.len<=ic))|_,_=>Gb
 |_,_,_=>Gb
noncomputable def Pj(op:CmpOp)(a b:PV)(h:Hp):Option PV:=match op with
 |.Lt=>match a,b with|.int x,.int y=>Fb (.bool (decide (x<y)))|_,_=>Gb
 |.Gt=>match a,b with|.int x,.int y=>Fb (.bool (decide (y<x)))|_,_=>Gb
 |.LtE=>match a,b with|.int x,.int y=>Fb (.bool (decide (x<=y)))|_,_=>Gb
 |.GtE=>match a,b with|.int x,.int y=>Fb (.bool (decide (y<=x)))|_,_=>Gb
 |.Eq=>(Wg h 40 a b).map .bool|.NotEq=>(Wg h 40 a b).map λx=>.bool (!x)|.Is=>match b with
  |.none=>match a with
   |.none=>Fb (.bool Hb)|.kc _=>Gb|_=>Fb (.bool Ib)
  |.bool y=>match a with
   |.bool x=>Fb (.bool (x==y))|.kc _=>Gb|_=>Fb (.bool Ib)
  |.kc (.type y)=>match a with
   |.kc (.type x)=>Fb (.bool (decide (x=y)))|_=>Gb
  |_=>Gb
 |.IsNot=>match b with
  |.none=>match a with
   |.none=>Fb (.bool Ib)|.kc _=>Gb|_=>Fb (.bool Hb)
  |.bool y=>match a with
   |.bool x=>Fb (.bool (x !=y))|.kc _=>Gb|_=>Fb (.bool Hb)
  |_=>Gb
 |.In=>match a,b with
  |.str x,.Sb [.str y,.str z]=>Fb (.bool (decide (x=y)||decide (x=z)))|_,_=>Gb
 |.NotIn=>match a,b with
  |.str [x],.str y=>Fb (.bool (!decide (x∈y)))|_,_=>Gb
structure Dc where
 fn:Nat->List PV->Hp->Rm (PV×Hp)
 gen:Nat->List PV->Option (List PV)
noncomputable def ug:List PV->Nat->Option (List PV×ca)
 |[],_=>Fb ([],[])|v::r,j=>match v with
  |.id i=>match ug r (j+1) with
   |some (V,I)=>Fb (.id j::V,i::I)|none=>Gb
  |.rc i=>match ug r (j+1) with
   |some (V,I)=>Fb (.rc j::V,i::I)|none=>Gb
  |v=>match Fg 9 v with
   |true=>match ug r j with
    |some (V,I)=>Fb (v::V,I)|none=>Gb
   |false=>Gb
noncomputable def kj(h:Hp):ca->Option Hp
 |[]=>Fb []|i::r=>match h[i]?,kj h r with
  |some c,Fb C=>Fb (c::C)|_,_=>Gb
noncomputable def Ej:ca->Hp->Hp->Hp
 |i::r,c::C,h=>Ej r C (h.set i c)|_,_,h=>h
noncomputable def Fo(f:PV->Option PV):List PV->Option (List PV)
 |[]=>Fb []|v::r=>match f v,Fo f r with
  |some V,Fb y=>Fb (V::y)|_,_=>Gb
noncomputable def Dj(h:Hp)(lo:Nat):Nat->PV->Option PV
 |0,_=>Gb|n+1,v=>match v with
  |.id i=>match decide (lo<=i),h[i]? with
   |true,Fb (_,.Lb l)=>match Fo (Dj h lo n) l with
    |some L=>Fb (.Mb (.Lb L))|none=>Gb
   |true,Fb (_,c)=>Fb (.Mb c)|_,_=>Gb
  |v=>match Fg 9 v with
   |true=>Fb v|false=>Gb
noncomputable def jk(r:PV)(I:ca)(H:Hp)(mt:Bool)(h:Hp):Rm (PV×Hp):=match r with
 |.id j=>match I[j]? with
  |some i=>Rm.ret (.id i,h)|none=>match H[j]? with
   |some (_,c)=>match Be c with
    |true=>Rm.ret (td mt c h)|false=>match Dj H I.length 9 (.id j) with
     |some v=>Rm.ret (v,h)|none=>Gb
   |none=>Gb
 |.rc j=>match I[j]? with
  |some i=>Rm.ret (.rc i,h)|none=>match H[j]? with
   |some (_,c)=>match Be c with
    |true=>Rm.ret (.rc h.length,h++[(Ib,c)])|false=>Gb
   |none=>Gb
 |r=>match Fg 9 r with
  |true=>Rm.ret (r,h)|false=>Gb
noncomputable def Gj:ca->Bool
 |[]=>Hb|i::r=>!r.contains i&&Gj r
noncomputable def de(F:Dc)(k:Nat)(V:List PV)(mt:Bool)(h:Hp):Rm (PV×Hp):=
 match ug V 0 with
 |none=>Gb|some (a,I)=>match Gj I with
  |false=>Gb|true=>match kj h I with
   |none=>Gb|some C=>match C.all λc=>Be c.2 with
    |true=>Rm.bind (F.fn k a C) λr=>match(r.2.take I.length).all λc=>Be c.2 with
     |true=>jk r.1 I r.2 mt (Ej I r.2 h)|false=>Gb
    |false=>Gb
noncomputable def Qi(s:ca):ba->ca
 |[]=>[]|[x]=>x|x::r=>x++s++Qi s r
noncomputable def lf(x y:ca):ba:=(Rt ⟨x.toArray⟩ ⟨y.toArray⟩).map (·.cps.toList)
noncomputable def Ju:Nat->Nat->ca
 |0,_=>[]|f+1,n=>if n<10 then[48+n] else Ju f (n/10)++[48+n%10]
structure Lm where
 sub:Ub->ca->ca->Rm ca
 search:Ub->ca->Rm Bool
noncomputable def nj:Cell->Option ba
 |.strs l=>Fb l|.Lb []=>Fb []|_=>Gb
noncomputable def Fm:Cell->Option da
 |.ints l=>Fb l|.Lb []=>Fb []|_=>Gb
noncomputable def Te(P:Lm)(F:Dc)(m:Pe)(o:PV)(V:List PV)(mt:Bool)(h:Hp):Rm (PV×Hp):=match m with
 |.append=>match o,V with
  |.id i,[v]=>match h[i]? with
   |some (Ib,c)=>Fb ((.none,h.set i (Ib,c.push v)),decide (c.len+1<=ic))|_=>Gb
  |_,_=>Gb
 |.pop=>match o,V with
  |.id i,[]=>match h[i]? with
   |some (Ib,c)=>Fb ((c.getD (c.len-1),h.set i (Ib,c.Kj (c.len-1))),decide (0<c.len)&&decide (c.len<=ic))|_=>Gb
  |.id i,[.int k]=>match h[i]? with
   |some (Ib,c)=>Fb ((c.getD (idx k c.len),h.set i (Ib,c.Kj (idx k c.len))),Sf k c.len&&decide (c.len<=ic))|_=>Gb
  |_,_=>Gb
 |.insert=>match o,V with
  |.id i,[.int k,v]=>match h[i]? with
   |some (Ib,c)=>Fb ((.none,h.set i (Ib,c.Dg k.toNat v)),decide (0<=k)&&decide (k<=c.len)&&decide (c.len+1<=ic))|_=>Gb
  |_,_=>Gb
 |.index=>match cellAt o h,V with
  |some c,[.int x]=>match Fm c with
   |some l=>match decide (x∈l) with
    |true=>Fb ((.int (l.idxOf x),h),decide (l.length<=ic))|false=>Gb
   |none=>Gb
  |_,_=>Gb
 |.count=>match cellAt o h,V with
  |some c,[.str x]=>match nj c with
   |some l=>Fb ((.int (l.filter (·==x)).length,h),decide (l.length<=ic))|none=>Gb
  |_,_=>Gb
 |.join=>match o,V with
  |.str s,[v]=>match cellAt v h with
   |some c=>match nj c with
    |some l=>Fb ((.str (Qi s l),h),decide ((l.map (·.length)).sum+l.length*s.length<=ic))|none=>Gb
   |none=>Gb
  |_,_=>Gb
 |.split=>match o,V with
  |.str x,[.str y]=>Fb (td mt (.strs (lf x y)) h,decide (x.length<=ic)&&decide ((lf x y).length<=ic)&&!y.isEmpty)|_,_=>Gb
 |.upper=>match o,V with
  |.str x,[]=>Fb ((.str (x.map up1),h),x.all (λc=>decide (c<128))&&decide (x.length<=ic))|_,_=>Gb
 |.lower=>match o,V with
  |.str x,[]=>Fb ((.str (x.map lo1),h),x.all (λc=>decide (c<128))&&decide (x.length<=ic))|_,_=>Gb
 |.sub=>match o,V with
  |.kc (.ref a),[.str t,.str x]=>Rm.bind (P.sub a t x) λr=>Rm.ret (.str r,h)|_,_=>Gb
 |.search=>match o,V with
  |.kc (.ref a),[.str x]=>Rm.bind (P.search a x) λb=>match b with
   |false=>Rm.ret (.none,h)|true=>Gb
  |_,_=>Gb
 |.fn k=>match o with
  |.rc i=>match decide (k=26) with
   |true=>Gb|false=>de F k (.rc i::V) mt h
  |_=>Gb
noncomputable def yq:PV->Bool
 |.Sb [.int _,.str _]=>Hb|_=>Ib
noncomputable def Ps:PV->PV->Bool
 |.Sb [.int a,.str b],.Sb [.int c,.str d]=>decide (a<c)||(decide (a=c)&&decide (b<d))|_,_=>Ib
noncomputable def Ln{α:Type}(lt:Nat->Nat->Bool):KasT α->α
 |.ret a=>a|.ask i j k=>Ln lt (k (lt i j))
noncomputable def Ao(l:List PV):Option (List PV):=match l.all yq with
 |true=>Fb ((Ln (λi j=>Ps (l.getD i .none) (l.getD j .none)) (Zm l.length)).toList.map λi=>l.getD i .none)|false=>Gb
noncomputable def sg(p:Rj)(V:List PV)(mt:Bool)(h:Hp):Rm (PV×Hp):=match p with
 |.len=>match V with
  |[.str x]=>Fb ((.int x.length,h),decide (x.length<=ic))|[.Sb T]=>Fb ((.int T.length,h),decide (T.length<=ic))|[v]=>match cellAt v h with
   |some c=>Fb ((.int c.len,h),decide (c.len<=ic))|none=>Gb
  |_=>Gb
 |.min=>match V with
  |[.int x,.int y]=>Rm.ret (.int (if y<x then y else x),h)|_=>Gb
 |.sum=>match V with
  |[v]=>match cellAt v h with
   |some c=>match Fm c with
    |some l=>Fb ((.int l.sum,h),decide (l.length<=ic))|none=>Gb
   |none=>Gb
  |_=>Gb
 |.range=>match V with
  |[.int a]=>Rm.ret (.ag 0 a 1,h)|[.int a,.int b]=>Rm.ret (.ag a b 1,h)|[.int a,.int b,.int c]=>Fb ((.ag a b c,h),!vA (b-a) c&&decide (c≠0))|_=>Gb
 |.list=>match V with
  |[.ag lo H st]=>Fb (td mt (.ints (Ih lo H st)) h,Ym lo H st&&decide (0<=Fi lo H st)&&decide (Fi lo H st<=1000000))|_=>Gb
 |.str=>match V with
  |[.int i]=>Fb ((.str (Ju 6 i.toNat),h),decide (0<=i)&&decide (i<1000))|_=>Gb
 |.int=>match V with
  |[.str [c]]=>Fb ((.int ((c:Int)-48),h),decide (48<=c)&&decide (c<=57))|_=>Gb
 |.sorted=>match V with
  |[v]=>match cellAt v h with
   |some c=>match Ao c.toList with
    |some l=>Fb (td mt (Rg l) h,decide (2<=c.len)&&decide (c.len<=4))|none=>Gb
   |none=>Gb
  |_=>Gb
 |.type=>match V with
  |[.str _]=>Rm.ret (.kc (.type "str"),h)|_=>Gb
 |_=>Gb
noncomputable def pj(o i:PV)(h:Hp):Rm (PV×Hp):=match i with
 |.int k=>match o with
  |.Sb x=>match x[k.toNat]? with
   |some v=>Fb ((v,h),decide (0<=k)&&decide (x.length<=ic))|none=>Gb
  |o=>match cellAt o h with
   |some c=>Fb ((c.getD (idx k c.len),h),Sf k c.len&&decide (c.len<=ic))|none=>Gb
 |_=>Gb
noncomputable def kl(o l u s:PV)(mt:Bool)(h:Hp):Rm (PV×Hp):=match eg l,eg u,eg s with
 |some l,Fb u,Fb s=>match o with
  |.str x=>match s with
   |none=>Fb ((.str (wA ⟨x.toArray⟩ l u).cps.toList,h),decide (x.length<=ic))|some _=>Gb
  |o=>match cellAt o h with
   |some c=>Fb (td mt (c.pick l u s) h,decide (c.len<=ic)&&decide (s≠Fb 0))|none=>Gb
 |_,_,_=>Gb
abbrev Ke:=M->Bool->Loc->Hp->Rm (PV×Hp)
noncomputable def Vd(I:Ke)(mt:Bool)(l:Loc):List M->Hp->Rm (List PV×Hp)
 |[],h=>Rm.ret ([],h)|m::r,h=>Rm.bind (I m mt l h) λv=>Rm.bind (Vd I mt l r v.2) λV=>Rm.ret (v.1::V.1,V.2)
mutual
noncomputable def ud(I:Ke)(l:Loc):M->Hp->Rm (Bool×Hp)
 |.dt a,h=>Rm.bind (ud I l a h) λv=>Rm.ret (!v.1,v.2)|.Nn A,h=>LD I l A h|.rl A,h=>kE I l A h|.fc m,h=>Rm.bind (I m Ib l h) λv=>match lq v.1 with
  |some b=>Rm.ret (b,v.2)|none=>Gb
 |_,_=>Gb
noncomputable def LD(I:Ke)(l:Loc):List M->Hp->Rm (Bool×Hp)
 |[],h=>Rm.ret (Hb,h)|m::r,h=>Rm.bind (ud I l m h) λv=>match v.1 with
  |true=>LD I l r v.2|false=>Rm.ret (Ib,v.2)
noncomputable def kE(I:Ke)(l:Loc):List M->Hp->Rm (Bool×Hp)
 |[],h=>Rm.ret (Ib,h)|m::r,h=>Rm.bind (ud I l m h) λv=>match v.1 with
  |true=>Rm.ret (Hb,v.2)|false=>kE I l r v.2
end
noncomputable def Gm:M->Bool
 |.Sb _=>Hb|_=>Ib
noncomputable def Jf(F:Dc)(I:Ke)(l:Loc)(Nb s:M)(h:Hp):Rm (Ic×Hp):=match s with
 |.oc p as=>match p with
  |.zip=>match Gm Nb,as with
   |true,[a,b]=>Rm.bind (I a Ib l h) λx=>Rm.bind (I b Ib l x.2) λy=>Rm.bind (zs x.1) λi=>Rm.bind (Yh y.1) λj=>Rm.ret (.zip i j,y.2)|_,_=>Gb
  |.enum=>match Gm Nb,as with
   |true,[a]=>Rm.bind (I a Ib l h) λx=>Rm.bind (Yh x.1) λi=>Rm.ret (.enum 0 i,x.2)|true,[a,b]=>Rm.bind (I a Ib l h) λx=>Rm.bind (I b Ib l x.2) λy=>match y.1 with
    |.int k=>Rm.bind (Yh x.1) λi=>Fb ((.enum k i,y.2),decide (0<=k)&&Ci k)|_=>Gb
   |_,_=>Gb
  |p=>Rm.bind (I (.oc p as) Ib l h) λx=>Rm.bind (Bi x.1) λi=>Rm.ret (i,x.2)
 |.fn k as=>match as with
  |[a]=>match decide (k=4) with
   |true=>Rm.bind (I a Ib l h) λx=>match F.gen k [x.1] with
    |some T=>Rm.ret (.Lb T,x.2)|none=>Gb
   |false=>Rm.bind (I (.fn k [a]) Ib l h) λx=>Rm.bind (Bi x.1) λi=>Rm.ret (i,x.2)
  |as=>Rm.bind (I (.fn k as) Ib l h) λx=>Rm.bind (Bi x.1) λi=>Rm.ret (i,x.2)
 |m=>Rm.bind (I m Ib l h) λx=>Rm.bind (Bi x.1) λi=>Rm.ret (i,x.2)
mutual
noncomputable def He:Nat->M->PV->Loc->Option Loc
 |0,_,_,_=>Gb|n+1,t,v,l=>match t with
  |.Jb i=>Fb (l.set i (Fb v))|.Sb T=>match v with
   |.Sb V=>bindAll n T V l|_=>Gb
  |_=>Gb
noncomputable def bindAll:Nat->List M->List PV->Loc->Option Loc
 |0,_,_,_=>Gb|_+1,[],[],l=>Fb l|n+1,t::T,v::V,l=>match He n t v l with
  |some l=>bindAll n T V l|none=>Gb
 |_+1,_,_,_=>Gb
end
noncomputable def compLoop(I:Ke)(e Nb:M)(cond:Option M):Nat->Ic->Loc->Hp->Cell->Rm (Cell×Hp)
 |0,_,_,_,_=>Gb|n+1,j,l,h,a=>match Cd j h with
  |none=>Gb|some Gb=>Rm.ret (a,h)|some (Fb (v,j))=>match He 6 Nb v l with
   |none=>Gb|some l=>Rm.bind (match cond with|some c=>ud I l c h|none=>Rm.ret (Hb,h)) λb=>match b.1 with
    |true=>Rm.bind (I e Ib l b.2) λx=>Rm.bind (Rm.need (decide (a.len+1<=ic))) λJ=>compLoop I e Nb cond n j l x.2 (a.push x.1)|false=>compLoop I e Nb cond n j l b.2 a
noncomputable def oj(P:Lm)(F:Dc)(I:Ke):Ke:=λm mt L h=>match m with
 |.none=>Rm.ret (.none,h)|.bool b=>Rm.ret (.bool b,h)|.int i=>Rm.ret (.int i,h)|.str s=>Rm.ret (.str s,h)|.kc v=>match v with
  |.str s _=>Rm.ret (.str s.cps.toList,h)|v=>Rm.ret (.kc v,h)
 |.Jb i=>match L[i]? with
  |some (Fb v)=>Rm.ret (v,h)|_=>Gb
 |.Xb e=>Rm.bind (Vd I Ib L e h) λV=>Rm.ret (td mt (Rg V.1) V.2)|.Sb e=>Rm.bind (Vd I mt L e h) λV=>Rm.ret (.Sb V.1,V.2)|.cc op a b=>Rm.bind (I a Ib L h) λx=>Rm.bind (I b Ib L x.2) λy=>Ss op x.1 y.1 mt y.2|.neg a=>Rm.bind (I a Ib L h) λx=>match x.1 with
  |.int i=>Rm.ret (.int (-i),x.2)|_=>Gb
 |.mc op a b=>Rm.bind (I a Ib L h) λx=>Rm.bind (I b Ib L x.2) λy=>match Pj op x.1 y.1 y.2 with
  |some r=>Rm.ret (r,y.2)|none=>Gb
 |.ite t a b=>Rm.bind (ud I L t h) λv=>match v.1 with
  |true=>I a mt L v.2|false=>I b mt L v.2
 |.oc p A=>match p,A with
  |.list,[.fn k [a]]=>Rm.bind (I a Ib L h) λx=>match F.gen k [x.1] with
   |some T=>Fb (td mt (Rg T) x.2,decide (T.length<=ic))|none=>Gb
  |p,A=>Rm.bind (Vd I Ib L A h) λV=>sg p V.1 mt V.2
 |.fn k A=>Rm.bind (Vd I Hb L A h) λV=>de F k V.1 mt V.2|.qc m o A=>Rm.bind (I o Ib L h) λx=>Rm.bind (Vd I (m==.append) L A x.2) λV=>Te P F m x.1 V.1 mt V.2|.Zh m o A _ v=>match m with
  |.fn k=>Rm.bind (I o Ib L h) λx=>Rm.bind (Vd I Ib L A x.2) λV=>Rm.bind (I v Ib L V.2) λy=>match x.1 with
   |.rc i=>de F k (.rc i::V.1++[y.1]) mt y.2|_=>Gb
  |_=>Gb
 |.sub o i=>Rm.bind (I o Ib L h) λx=>Rm.bind (I i Ib L x.2) λy=>pj x.1 y.1 y.2|.Oc o l u s=>Rm.bind (I o Ib L h) λx=>Rm.bind (I l Ib L x.2) λa=>Rm.bind (I u Ib L a.2) λb=>Rm.bind (I s Ib L b.2) λc=>
   kl x.1 a.1 b.1 c.1 mt c.2
 |.attr o n=>Rm.bind (I o Ib L h) λx=>match x.1 with
  |.rc i=>match n==oa with
   |true=>Rm.ret (.id i,x.2)|false=>Gb
  |_=>Gb
 |.comp E Nb N cond O=>Rm.bind (Jf F I L Nb N h) λs=>
   Rm.bind (compLoop I E Nb cond (zi s.1 s.2+1) s.1 (O.map λi=>i.bind λi=>(L[i]?).join) s.2 (.Lb [])) λr=>Rm.ret (td mt r.1 r.2)
 |_=>Gb
noncomputable def Yb(P:Lm)(F:Dc):Nat->Ke
 |0=>λJ J J J=>Gb|n+1=>oj P F (Yb P F n)
set_option genCtorIdx true in
inductive Fl where
 |next|brk|ret(v:PV)
noncomputable abbrev ft:=S->Loc->Hp->Rm (Fl×Loc×Hp)
noncomputable def Kc(I:ft):List S->Loc->Hp->Rm (Fl×Loc×Hp)
 |[],l,h=>Rm.ret (.next,l,h)|s::r,l,h=>Rm.bind (I s l h) λx=>match x.1 with
  |.next=>Kc I r x.2.1 x.2.2|f=>Rm.ret (f,x.2.1,x.2.2)
noncomputable def whileLoop(t:Loc->Hp->Rm (Bool×Hp))(body:Loc->Hp->Rm (Fl×Loc×Hp)):Nat->Loc->Hp->Rm (Fl×Loc×Hp)
 |0,_,_=>Gb|n+1,l,h=>Rm.bind (t l h) λb=>match b.1 with
  |false=>Rm.ret (.next,l,b.2)|true=>Rm.bind (body l b.2) λx=>match x.1 with
   |.next=>whileLoop t body n x.2.1 x.2.2|.brk=>Rm.ret (.next,x.2.1,x.2.2)|.ret v=>Rm.ret (.ret v,x.2.1,x.2.2)
noncomputable def forLoop(body:Loc->Hp->Rm (Fl×Loc×Hp))(Nb:M):Nat->Ic->Loc->Hp->Rm (Fl×Loc×Hp)
 |0,_,_,_=>Gb|n+1,I,l,h=>match Cd I h with
  |none=>Gb|some Gb=>Rm.ret (.next,l,h)|some (Fb (v,I))=>match He 6 Nb v l with
   |none=>Gb|some l=>Rm.bind (body l h) λx=>match x.1 with
    |.next=>forLoop body Nb n I x.2.1 x.2.2|.brk=>Rm.ret (.next,x.2.1,x.2.2)|.ret v=>Rm.ret (.ret v,x.2.1,x.2.2)
noncomputable def uw(j:Nat):PV->Bool
 |.id i=>i==j|_=>Ib
mutual
noncomputable def vi(F:Dc)(I:Ke):Nat->M->PV->Loc->Hp->Rm (Loc×Hp)
 |0,_,_,_,_=>Gb|n+1,t,v,l,h=>match t with
  |.Jb i=>Rm.ret (l.set i (Fb v),h)|.Sb T=>match v with
   |.Sb V=>storeAll F I n T V l h|_=>Gb
  |.sub o i=>Rm.bind (I o Ib l h) λx=>Rm.bind (I i Ib l x.2) λy=>match x.1,y.1 with
   |.id j,.int k=>match y.2[j]? with
    |some (Ib,c)=>Fb ((l,y.2.set j (Ib,c.setAt k.toNat v)),decide (0<=k)&&decide (k<c.len)&&decide (c.len<=ic))|_=>Gb
   |.rc j,.str nm=>Rm.bind (de F 20 [.rc j,.str nm,v] Ib y.2) λr=>match r.1 with
    |.none=>Rm.ret (l,r.2)|_=>Gb
   |_,_=>Gb
  |.Oc o .none .none .none=>Rm.bind (I o Ib l h) λx=>match x.1 with
   |.id j=>match x.2[j]?,cellAt v x.2 with
    |some (Ib,C),Fb c=>Fb ((l,x.2.set j (Ib,c)),decide (c.len<=ic)&&decide (C.len<=ic)&&!uw j v)|_,_=>Gb
   |_=>Gb
  |_=>Gb
noncomputable def storeAll(F:Dc)(I:Ke):Nat->List M->List PV->Loc->Hp->Rm (Loc×Hp)
 |0,_,_,_,_=>Gb|_+1,[],[],l,h=>Rm.ret (l,h)|n+1,t::T,v::V,l,h=>Rm.bind (vi F I n t v l h) λx=>storeAll F I n T V x.1 x.2|_+1,_,_,_,_=>Gb
end
noncomputable def Kv(op:fo)(a b:PV):Rm PV:=match op,a,b with
 |.Add,.int x,.int y=>Rm.ret (.int (x+y))|.Sub,.int x,.int y=>Rm.ret (.int (x-y))|.Add,.str x,.str y=>Fb (.str (x++y),decide (x.length+y.length<=ic))|_,_,_=>Gb
noncomputable def Cq(F:Dc)(a:Ke)(I:ft):ft:=λs l h=>match s with
 |.nc=>Gb|.pass=>Rm.ret (.next,l,h)|.brk=>Rm.ret (.brk,l,h)|.expr e=>Rm.bind (a e Ib l h) λx=>match x.1 with
  |.none=>Rm.ret (.next,l,x.2)|_=>Gb
 |.ret e=>Rm.bind (a e Hb l h) λx=>Rm.ret (.ret x.1,l,x.2)|.asg t e=>Rm.bind (a e Hb l h) λx=>Rm.bind (vi F a 12 t x.1 l x.2) λy=>Rm.ret (.next,y.1,y.2)|.aug i op e=>match l[i]? with
  |some (Fb old)=>Rm.bind (a e Ib l h) λx=>Rm.bind (Kv op old x.1) λy=>Rm.ret (.next,l.set i (Fb y),x.2)|_=>Gb
 |.ifs t b o=>Rm.bind (ud a l t h) λv=>match v.1 with
  |true=>Kc I b l v.2|false=>Kc I o l v.2
 |.Ok t b=>whileLoop (λl h=>ud a l t h) (λl h=>Kc I b l h) 40 l h|.Uf t L b=>Rm.bind (Jf F a l t L h) λs=>
   forLoop (λl h=>Kc I b l h) t (zi s.1 s.2+1) s.1 l s.2
 |.del o i=>Rm.bind (a o Ib l h) λx=>Rm.bind (a i Ib l x.2) λy=>match x.1,y.1 with
  |.rc j,.str nm=>Rm.bind (de F 21 [.rc j,.str nm] Ib y.2) λr=>match r.1 with
   |.none=>Rm.ret (.next,l,r.2)|_=>Gb
  |_,_=>Gb
noncomputable def uc(P:Lm)(F:Dc):Nat->ft
 |0=>λJ J J=>Gb|n+1=>Cq F (Yb P F (n+1)) (uc P F n)
noncomputable def Hd(P:Lm)(F:Dc)(n:Nat)(body:List S)(s:Nat)(V:List PV)(h:Hp):Rm (PV×Hp):=
 Rm.bind (Kc (uc P F n) body ((V.map Fb)++Sk (s-V.length) Gb) h) λr=>match r.1 with
  |.ret v=>Rm.ret (v,r.2.2)|.next=>Rm.ret (.none,r.2.2)|.brk=>Gb
noncomputable def pw:Program:=PySem.Challenge.pw_ta0095_01
noncomputable def gz(n:Str):List jd->Option (Tt×List jd×Scope)
 |[]=>Gb|.FunctionDef m a b _ _ _ s _ _ _::r=>if m==n then Fb (a,b,s) else gz n r|_::r=>gz n r
noncomputable def aD(n:Str):List jd->List jd
 |[]=>[]|.ClassDef m _ _ b _ _ _ _ _ _ _::r=>if m==n then b else aD n r|_::r=>aD n r
noncomputable def yc(n:Str):Tt×List jd×Scope:=(gz n pw.main.body).getD ⟨⟨[],[],Gb,[],[],Gb,[]⟩,[],{kind:=.function,names:=[],isGenerator:=Ib,isCoroutine:=Ib,more:=[]}⟩
noncomputable def wd(n:Str):Tt×List jd×Scope:=(gz n (aD "Headers" pw.main.body)).getD ⟨⟨[],[],Gb,[],[],Gb,[]⟩,[],{kind:=.function,names:=[],isGenerator:=Ib,isCoroutine:=Ib,more:=[]}⟩
noncomputable def nm{α:Type}(s:String)(r:α):Str×α:=(Kb s,r)
noncomputable def GT:Qt where
 kc:=[nm "len" (Td.oc .len),nm "min" (Td.oc .min),nm "sum" (Td.oc .sum),nm "range" (Td.oc .range),
  nm "list" (Td.oc .list),nm "zip" (Td.oc .zip),nm "enumerate" (Td.oc .enum),nm "sorted" (Td.oc .sorted),
  nm "int" (Td.oc .int),nm "str" (Td.oc .str),nm "type" (Td.oc .type),nm "Headers" (Td.fn 22 (.ref 259)),
  nm "insort_right" (Td.fn 0 (.ref 47)),nm "bisect_right" (Td.fn 1 (.ref 56)),nm "insort_left" (Td.fn 2 (.ref 65)),nm "bisect_left" (Td.fn 3 (.ref 74)),
  nm "_iter_escaped_chars" (Td.fn 4 (.ref 81)),nm "_strip_quoted_realnames" (Td.fn 5 (.ref 88)),nm "_check_parenthesis" (Td.fn 6 (.ref 95)),nm "_pre_parse_validation" (Td.fn 7 (.ref 102)),
  nm "quotedata" (Td.fn 8 (.ref 119)),nm "_fix_eols" (Td.fn 9 (.ref 126)),nm "_twin_re_1" (Td.val (.ref 107)),nm "_twin_re_2" (Td.val (.ref 112)),nm "CRLF" (Td.val (.str "\r\n" 448)),
  nm "_name_disallowed_re" (Td.val (.ref 131)),nm "_value_disallowed_re" (Td.val (.ref 136)),
  nm "_law_table" (Td.fn 10 (.ref 270)),nm "_law_refused" (Td.fn 11 (.ref 277)),nm "_law_out" (Td.fn 12 (.ref 284)),nm "_law_in" (Td.fn 13 (.ref 289)),nm "_law_mates" (Td.fn 14 (.ref 294)),nm "_law_dotted" (Td.fn 15 (.ref 301))]
 qc:=[nm "append" (Pe.append),nm "pop" (Pe.pop),nm "insert" (Pe.insert),nm "index" (Pe.index),nm "count" (Pe.count),nm "join" (Pe.join),nm "split" (Pe.split),nm "upper" (Pe.upper),nm "lower" (Pe.lower),
  nm "sub" (Pe.sub),nm "search" (Pe.search),nm "get" (Pe.fn 23),nm "items" (Pe.fn 24),nm "keys" (Pe.fn 25),nm "_convert_string_type" (Pe.fn 26)]
noncomputable def Qg(d:Tt×List jd×Scope):List S:=d.2.1.map (Se GT 60 d.2.2)
noncomputable def e0:Expr:=.Constant .none 0 default
noncomputable def s0:jd:=.Pass default
noncomputable def eK(e:Expr):ka×Pos×Nat:=match e with
 |.Yield (Fb v) p=>([v],p,0)|.Call f A d p=>(f::A++d.flatMap λk=>[k.value,.Name ⟨#[]⟩ k.pos],p,0)|.Constant _ k p=>([],p,k)|.Attribute v _ p=>([v],p,0)|.Subscript a b p=>([a,b],p,0)|.Name _ p=>([],p,0)|.Tuple E k p=>(E,p,k)|.Compare l _ C p=>(l::C,p,0)|.BoolOp _ E p=>(E,p,0)|_=>([],default,0)
noncomputable def sK(s:jd):ka×List (List jd)×Pos:=match s with
 |.If t a b p=>([t],[a,b],p)|.For t i a b p=>([t,i],[a,b],p)|.Assign T v p=>(v::T,[],p)|.Expr v p=>([v],[],p)|.Raise (Fb v) _ p=>([v],[],p)|.Return (Fb v) p=>([v],[],p)|.Delete T p=>(T,[],p)|.Try a [.ExceptHandler (Fb t) _ h q] _ _ p=>([t],[a,h,[.Pass q]],p)|.Pass p=>([],[],p)|_=>([],[],default)
noncomputable def eE(e:Expr)(i:Nat):Expr:=(eK e).1.getD i e0
noncomputable def eP(e:Expr):Pos:=(eK e).2.1
noncomputable def eN(e:Expr):Nat:=(eK e).2.2
noncomputable def sE(s:jd)(i:Nat):Expr:=(sK s).1.getD i e0
noncomputable def sP(s:jd):Pos:=(sK s).2.2
noncomputable def sA(l:List jd)(i:Nat):jd:=l.getD i s0
noncomputable def sB(s:jd)(i j:Nat):jd:=sA ((sK s).2.1.getD i []) j
set_option genInjectivity true in
set_option genCtorIdx true in
inductive Tc where
 |free
 |Mb(o:Obj)
 |out(o:Obj)
 |it(o:Obj)
 |Xb(i:Nat)
 |Hc
abbrev Gh:=Ub->Tc
noncomputable def Rc(w:ia)(n:Nat):Obj:={cls:=.type "list",data:=.seq w.toArray n}
noncomputable def pf(w:ia)(n:Nat):Obj:={cls:=.type "tuple",data:=.seq w.toArray n}
noncomputable def UO(lo h st:Int)(t u v:Tok):Obj:={cls:=.type "range",data:=.fields #[.int lo t,.int h u,.int st v]}
noncomputable def gt(d:Ub):Obj:={cls:=.ref 259,dict:=Fb d}
def Dn(o:Obj)(l:Ub):Prop:=∃h t n,o={cls:=.type "dict",data:=.dict #[⟨h,.str oa t,.ref l⟩] n}
mutual
inductive Tb(g:Gh):Value->PV->Prop
 |none:Tb g .none .none
 |bool(b:Bool):Tb g (.bool b) (.bool b)
 |int(i:Int)(t:Tok):Tb g (.int i t) (.int i)
 |str{x:Str}{t:Tok}{s:ca}(h:x.cps.toList=s):Tb g (.str x t) (.str s)
 |Sb{a:Ub}{ws:ia}{n:Nat}{vs:List PV}(h:g a=.Mb (pf ws n))(hv:bc g ws vs):Tb g (.ref a) (.Sb vs)
 |Mb{a:Ub}{ws:ia}{n:Nat}{c:Cell}{l:List PV}(h:g a=.Mb (Rc ws n))(hl:c.toList=l)(hv:bc g ws l):Tb g (.ref a) (.Mb c)
 |id{a:Ub}{i:Nat}(h:g a=.Xb i):Tb g (.ref a) (.id i)
 |rc{a dx la:Ub}{od:Obj}{i:Nat}(h1:g a=.Mb (gt dx))(h2:g dx=.Mb od)(h3:Dn od la)(h4:g la=.Xb i):Tb g (.ref a) (.rc i)
 |ag{a:Ub}{lo hi st:Int}{t u v:Tok}(h:g a=.Mb (UO lo hi st t u v)):Tb g (.ref a) (.ag lo hi st)
 |kc(v:Value):Tb g v (.kc v)
inductive bc(g:Gh):ia->List PV->Prop
 |nil:bc g [] []
 |cons{v:Value}{p:PV}{vs:ia}{ps:List PV}(h:Tb g v p)(hr:bc g vs ps):bc g (v::vs) (p::ps)
end
noncomputable def R9(g:Gh)(v:Value):PV->Prop
 |.none=>v=.none|.bool b=>v=.bool b|.int i=>∃t,v=.int i t|.str s=>∃x t,v=.str x t/\x.cps.toList=s|.Sb V=>∃a y n,v=.ref a/\g a=.Mb (pf y n)/\bc g y V|.Mb c=>∃a y n l,v=.ref a/\g a=.Mb (Rc y n)/\c.toList=l/\bc g y l|.id i=>∃a,v=.ref a/\g a=.Xb i|.rc i=>∃a d L o,v=.ref a/\g a=.Mb (gt d)/\g d=.Mb o/\Dn o L/\g L=.Xb i|.ag lo h st=>∃a t u w,v=.ref a/\g a=.Mb (UO lo h st t u w)|.kc u=>v=u
theorem Tb.inv{g:Gh}{v:Value}{p:PV}(h:Tb g v p):R9 g v p:=Tb.casesOn h rfl (λJ=>rfl) (λJ J=>⟨_,rfl⟩) (λh=>⟨_,_,rfl,h⟩) (λh H=>⟨_,_,_,rfl,h,H⟩) (λh x H=>⟨_,_,_,_,rfl,h,x,H⟩) (λh=>⟨_,rfl,h⟩) (λA j Q b=>⟨_,_,_,_,rfl,A,j,Q,b⟩) (λh=>⟨_,_,_,_,rfl,h⟩) (λJ=>rfl)
noncomputable def U7(g:Gh)(V:ia):List PV->Prop
 |[]=>V=[]|p::x=>∃w y,V=w::y/\Tb g w p/\bc g y x
theorem bc.inv{g:Gh}{v:ia}{p:List PV}(h:bc g v p):U7 g v p:=bc.casesOn h rfl (λh H=>⟨_,_,rfl,h,H⟩)
def Ext(g G:Gh):Prop:=∀a,g a≠.free->G a=g a
theorem Ext.refl(g:Gh):Ext g g:=λJ J=>rfl
theorem Ext.trans{g G l:Gh}(x:Ext g G)(y:Ext G l):Ext g l:=λa h=>by
 have e:=x a h;rw[<-e];exact y a (by rw[e];exact h)
theorem Ext.at{g G:Gh}(x:Ext g G){a:Ub}{t:Tc}(h:g a=t)(H:t≠.free):G a=t:=by
 exact(x a (by rw[h];exact H)).trans h
def Jd(g G:Gh):Prop:=∀a,g a≠.free->(∀o,g a≠.it o)->G a=g a
theorem Ext.n{g G:Gh}(x:Ext g G):Jd g G:=λa h J=>x a h
theorem Jd.at{g G:Gh}(x:Jd g G){a:Ub}{t:Tc}(h:g a=t)(H:t≠.free)(y:∀o,t≠.it o):G a=t:=
 (x a (h.symm▸H) (λo=>h.symm▸y o)).trans h
theorem Jd.trans{g G l:Gh}(x:Jd g G)(y:Jd G l):Jd g l:=λJ h H=>y.at (x.at rfl h H) h H
theorem fz{o:Obj}:Tc.Mb o≠.free:=λh=>by injection h
theorem ou{o:Obj}:Tc.out o≠.free:=λh=>by injection h
theorem iz{o:Obj}:Tc.it o≠.free:=λh=>by injection h
theorem li{i:Nat}:Tc.Xb i≠.free:=λh=>by injection h
theorem pz:Tc.Hc≠.free:=λh=>by injection h
theorem fzN{o:Obj}(p:Obj):Tc.Mb o≠.it p:=λh=>by injection h
theorem gQ{o:Obj}(p:Obj):Tc.out o≠.it p:=λh=>by injection h
theorem Pw{i:Nat}(p:Obj):Tc.Xb i≠.it p:=λh=>by injection h
theorem LP(p:Obj):Tc.Hc≠.it p:=λh=>by injection h
theorem Jd.Mb{g G:Gh}(x:Jd g G){a:Ub}{o:Obj}(h:g a=.Mb o):G a=.Mb o:=Jd.at x h fz fzN
theorem Jd.out{g G:Gh}(x:Jd g G){a:Ub}{o:Obj}(h:g a=.out o):G a=.out o:=Jd.at x h ou gQ
theorem Jd.Xb{g G:Gh}(x:Jd g G){a:Ub}{i:Nat}(h:g a=.Xb i):G a=.Xb i:=Jd.at x h li Pw
theorem Jd.Hc{g G:Gh}(x:Jd g G){a:Ub}(h:g a=.Hc):G a=.Hc:=Jd.at x h pz LP
structure Tf(g g':Gh):Prop where
 Mb:∀a o,g a=.Mb o->g' a=.Mb o
 Xb:∀a i,g a=.Xb i->g' a=.Xb i
theorem Jd.v{g G:Gh}(x:Jd g G):Tf g G:=⟨λJ J=>x.Mb,λJ J=>x.Xb⟩
theorem bc.ind{g:Gh}{P:ia->List PV->Prop}(H:P [] [])(A:∀{v p V x},Tb g v p->bc g V x->P V x->P (v::V) (p::x)){V:ia}{x:List PV}(h:bc g V x):P V x:=
 bc.rec (motive_1:=λJ J J=>True) ⟨⟩ (λJ=>⟨⟩) (λJ J=>⟨⟩) (λJ=>⟨⟩) (λJ J J=>⟨⟩) (λJ J J J=>⟨⟩) (λJ=>⟨⟩) (λJ J J J=>⟨⟩) (λJ=>⟨⟩) (λJ=>⟨⟩) H (λa b J e=>A a b e) h
theorem Tb.xh{g G:Gh}(x:Tf g G){v:Value}{p:PV}(h:Tb g v p):Tb G v p:=
 Tb.rec .none .bool .int .str (λh J=>.Sb (x.Mb _ _ h)) (λh H J=>.Mb (x.Mb _ _ h) H) (λh=>.id (x.Xb _ _ h)) (λa b c d=>.rc (x.Mb _ _ a) (x.Mb _ _ b) c (x.Xb _ _ d)) (λh=>.ag (x.Mb _ _ h)) .kc .nil (λJ J=>.cons) h
theorem bc.xh{g G:Gh}(x:Tf g G){V:ia}{p:List PV}(h:bc g V p):bc G V p:=h.ind .nil λa J=>.cons (a.xh x)
theorem Tb.nh{g G:Gh}(x:Jd g G){v:Value}{p:PV}(h:Tb g v p):Tb G v p:=h.xh x.v
theorem bc.nh{g G:Gh}(x:Jd g G){V:ia}{p:List PV}(h:bc g V p):bc G V p:=h.xh x.v
theorem Tb.ext{g G:Gh}(x:Ext g G){v:Value}{p:PV}(h:Tb g v p):Tb G v p:=h.nh x.n
theorem bc.ext{g G:Gh}(x:Ext g G){V:ia}{p:List PV}(h:bc g V p):bc G V p:=h.nh x.n
section
variable{g:Gh}{vs ws:ia}{ps qs:List PV}
theorem bc.length(h:bc g vs ps):vs.length=ps.length:=h.ind (P:=λvs ps=>vs.length=ps.length) rfl λJ J=>congrArg (·+1)
theorem bc.append(h:bc g vs ps)(k:bc g ws qs):bc g (vs++ws) (ps++qs):=h.ind (P:=λvs ps=>bc g (vs++ws) (ps++qs)) k λa J=>.cons a
theorem bc.get(h:bc g vs ps):∀{i:Nat}{p:PV},ps[i]?=Fb p->∃v,vs[i]?=Fb v/\Tb g v p:=
 h.ind (P:=λvs ps=>∀{i:Nat}{p:PV},ps[i]?=Fb p->∃v,vs[i]?=Fb v/\Tb g v p) (λq=>by injection q) λa J e i p=>i.casesOn (λq=>⟨_,rfl,jc q▸a⟩) λi q=>e q
theorem bc.set(h:bc g vs ps)(i:Nat){v:Value}{p:PV}(k:Tb g v p):bc g (vs.set i v) (ps.set i p):=
 h.ind (P:=λvs ps=>∀i,bc g (vs.set i v) (ps.set i p)) (λJ=>.nil) (λa b e i=>i.casesOn (.cons k b) λi=>.cons a (e i)) i
theorem bc.take(h:bc g vs ps)(i:Nat):bc g (vs.take i) (ps.take i):=
 h.ind (P:=λvs ps=>∀i,bc g (vs.take i) (ps.take i)) (λi=>i.casesOn .nil λJ=>.nil) (λa J e i=>i.casesOn .nil λi=>.cons a (e i)) i
theorem bc.drop(h:bc g vs ps)(i:Nat):bc g (vs.drop i) (ps.drop i):=
 h.ind (P:=λvs ps=>∀i,bc g (vs.drop i) (ps.drop i)) (λi=>i.casesOn .nil λJ=>.nil) (λa b e i=>i.casesOn (.cons a b) e) i
theorem bc.eraseIdx(h:bc g vs ps)(i:Nat):bc g (vs.eraseIdx i) (ps.eraseIdx i):=
 h.ind (P:=λvs ps=>∀i,bc g (vs.eraseIdx i) (ps.eraseIdx i)) (λJ=>.nil) (λa b e i=>i.casesOn b λi=>.cons a (e i)) i
end
structure tc(h:Heap)(g:Gh)(hp:Hp):Prop where
 Mb:∀a o,g a=.Mb o->h.get? a=Fb o
 out:∀a o,g a=.out o->h.get? a=Fb o
 it:∀a o,g a=.it o->h.get? a=Fb o
 Hc:∀a,g a=.Hc->∃o,h.get? a=Fb o
 Xb:∀a i,g a=.Xb i->∃b c ws n,hp[i]?=Fb (b,c)/\h.get? a=Fb (Rc ws n)/\bc g ws c.toList
 all:∀i,i<hp.length->∃a,g a=.Xb i
 inj:∀a b i,g a=.Xb i->g b=.Xb i->a=b
theorem tc.lt{h:Heap}{g:Gh}{b:Hp}(H:tc h g b){a:Ub}{i:Nat}(e:g a=.Xb i):i<b.length:=Md (H.Xb a i e) λJ J J J z=>(List.getElem?_eq_some_iff.mp z.1).1
theorem tc.fresh{h:Heap}{g:Gh}{b:Hp}(H:tc h g b){a:Ub}(s:h.objs.size<=a):g a=.free:=by
 have no:∀{o},h.get? a=Fb o->g a=.free:=λe=>absurd (Heap.lt_size e) (Nat.not_lt.mpr s)
 cases e:g a with
 |free=>rfl|Mb o=>exact e▸no (H.Mb a o e)|out o=>exact e▸no (H.out a o e)|it o=>exact e▸no (H.it a o e)|Hc=>exact(H.Hc a e).elim λJ q=>e▸no q|Xb i=>exact Md (H.Xb a i e) λJ J J J z=>e▸no z.2.1
noncomputable def Jc(g:Gh)(a:Ub)(t:Tc):Gh:=λb=>if b=a then t else g b
theorem ze(g:Gh)(a:Ub)(t:Tc):Jc g a t a=t:=if_pos rfl
theorem pe(g:Gh){a b:Ub}(t:Tc)(h:b≠a):Jc g a t b=g b:=if_neg h
theorem lj{g:Gh}{a b:Ub}{t T:Tc}(e:Jc g a t b=T){R:Prop}(h:b=a->t=T->R)(H:b≠a->g b=T->R):R:=
 rQ (λq:b=a=>h q (by rw[q,ze] at e;exact e)) λq=>H q ((pe g t q).symm.trans e)
theorem Ext.Jc{g:Gh}{a:Ub}(t:Tc)(h:g a=.free):Ext g (Jc g a t):=λJ H=>pe g t λe=>H (e▸h)
def yf(g:Gh)(a:Ub):Prop:=g a=.free\/∃o,g a=.it o
theorem yf.ne{g:Gh}{a b:Ub}(h:yf g a){t:Tc}(e:g b=t)(H:t≠.free)(x:∀o,t≠.it o):b≠a:=λq=>
 h.elim (λh=>H (e▸q▸h)) λh=>h.elim λo h=>x o (e▸q▸h)
theorem Jd.Jc{g:Gh}{a:Ub}(t:Tc)(h:yf g a):Jd g (Jc g a t):=λJ H x=>pe g t (h.ne rfl H x)
theorem tc.keep{h V:Heap}{g:Gh}{d:Hp}(H:tc h g d)(C:∀a o,g a≠.free->h.get? a=Fb o->V.get? a=Fb o):tc V g d where
 Mb a o e:=C a o (e▸fz) (H.Mb a o e)
 out a o e:=C a o (e▸ou) (H.out a o e)
 it a o e:=C a o (e▸iz) (H.it a o e)
 Hc a e:=(H.Hc a e).elim λo q=>⟨o,C a o (e▸pz) q⟩
 Xb a i e:=Md (H.Xb a i e) λb c w n z=>⟨b,c,w,n,z.1,C a _ (e▸li) z.2.1,z.2.2⟩
 all:=H.all
 inj:=H.inj
section
variable{h h':Heap}{g:Gh}{hp Ac:Hp}{a:Ub}{t:Tc}{o:Obj}{ws:ia}{n:Nat}{b:Bool}{c:Cell}
def Heap.Kept(g:Gh)(a:Ub)(h h':Heap):Prop:=∀b x,b≠a->g b≠.free->h.get? b=Fb x->h'.get? b=Fb x
theorem tc.pO(H:tc h g hp)(T:yf g a)(C:Heap.Kept g a h h')(A:∀i,i<hp.length->Ac[i]?=hp[i]?){d:Ub}{i:Nat}(e:g d=.Xb i):∃y c ws n,Ac[i]?=Fb (y,c)/\h'.get? d=Fb (Rc ws n)/\bc (Mine.Jc g a t) ws c.toList:=
 Md (H.Xb d i e) λy c ws n z=>⟨y,c,ws,n,(A i (H.lt e)).trans z.1,C d _ (T.ne e li Pw) (e▸li) z.2.1,z.2.2.nh (.Jc _ T)⟩
theorem tc.bE(H:tc h g hp)(T:yf g a)(C:Heap.Kept g a h h')(A:∀o,t=.Mb o\/t=.out o\/t=.it o->h'.get? a=Fb o)(j:t≠.Hc)(Q:∀i,t≠.Xb i):tc h' (Jc g a t) hp where
 Mb d x e:=lj e (λq r=>q▸A x (.inl r)) λq r=>C d x q (r▸fz) (H.Mb d x r)
 out d x e:=lj e (λq r=>q▸A x (.inr (.inl r))) λq r=>C d x q (r▸ou) (H.out d x r)
 it d x e:=lj e (λq r=>q▸A x (.inr (.inr r))) λq r=>C d x q (r▸iz) (H.it d x r)
 Hc d e:=lj e (λJ r=>absurd r j) λq r=>(H.Hc d r).elim λo z=>⟨o,C d o q (r▸pz) z⟩
 Xb d i e:=lj e (λJ r=>absurd r (Q i)) λJ r=>H.pO T C (λJ J=>rfl) r
 all i y:=(H.all i y).elim λd e=>⟨d,Jd.Xb (.Jc _ T) e⟩
 inj d D i e E:=lj e (λJ r=>absurd r (Q i)) λJ r=>lj E (λJ r=>absurd r (Q i)) λJ B=>H.inj d D i r B
theorem tc.Nl(H:tc h g hp)(T:yf g a)(s:h'.get? a=Fb o)(C:∀b x,b≠a->g b≠.free->h.get? b=Fb x->h'.get? b=Fb x):tc h' (Jc g a (.Mb o)) hp:=
 H.bE T C (λx e=>e.elim (λe=>Tc.Mb.inj e▸s) λe=>e.elim (λe=>by injection e) λe=>by injection e) (λe=>by injection e) λJ e=>by injection e
theorem tc.Qo(H:tc h g hp)(T:yf g a)(s:h'.get? a=Fb o)(C:∀b x,b≠a->g b≠.free->h.get? b=Fb x->h'.get? b=Fb x):tc h' (Jc g a (.it o)) hp:=
 H.bE T C (λx e=>e.elim (λe=>by injection e) λe=>e.elim (λe=>by injection e) λe=>Tc.it.inj e▸s) (λe=>by injection e) λJ e=>by injection e
theorem tc.drop(H:tc h g hp)(T:yf g a)(C:∀b x,b≠a->g b≠.free->h.get? b=Fb x->h'.get? b=Fb x):tc h' (Jc g a .free) hp:=
 H.bE T C (λx e=>e.elim (λe=>by injection e) λe=>e.elim (λe=>by injection e) λe=>by injection e) (λe=>by injection e) λJ e=>by injection e
theorem tc.oq(H:tc h g hp)(T:yf g a)(s:h'.get? a=Fb (Rc ws n))(Q:bc g ws c.toList)(C:∀b x,b≠a->g b≠.free->h.get? b=Fb x->h'.get? b=Fb x):tc h' (Jc g a (.Xb hp.length)) (hp++[(b,c)]) where
 Mb d x e:=lj e (λJ r=>by injection r) λq r=>C d x q (r▸fz) (H.Mb d x r)
 out d x e:=lj e (λJ r=>by injection r) λq r=>C d x q (r▸ou) (H.out d x r)
 it d x e:=lj e (λJ r=>by injection r) λq r=>C d x q (r▸iz) (H.it d x r)
 Hc d e:=lj e (λJ r=>by injection r) λq r=>(H.Hc d r).elim λo z=>⟨o,C d o q (r▸pz) z⟩
 Xb d i e:=lj e (λq r=>⟨b,c,ws,n,Tc.Xb.inj r▸List.getElem?_concat_length,q.symm▸s,Q.nh (.Jc _ T)⟩) λJ r=>H.pO T C (λJ A=>qG A) r
 all i A:=rQ (λq:i<hp.length=>(H.all i q).elim λd e=>⟨d,Jd.Xb (.Jc _ T) e⟩) λq=>⟨a,(ze ..).trans (congrArg Tc.Xb (xA (oi q) (rG (by simpa using A))))⟩
 inj d D i e E:=lj e (λq r=>lj E (λU J=>q.trans U.symm) λJ y=>absurd (H.lt y) (Tc.Xb.inj r▸Ut _)) λJ r=>lj E (λJ y=>absurd (H.lt r) (Tc.Xb.inj y▸Ut _)) λJ y=>H.inj d D i r y
theorem tc.n6{i:Nat}(H:tc h g hp)(D:g a=.Xb i)(s:h'.get? a=Fb (Rc ws n))(Q:bc g ws c.toList)(C:∀b x,b≠a->h.get? b=Fb x->h'.get? b=Fb x):tc h' g (hp.set i (b,c)):=
 have ne:∀{d},g d≠.Xb i->d≠a:=λh e=>h (e▸D)
 {Mb:=λd x e=>C d x (ne λq=>by rw[e] at q;injection q) (H.Mb d x e)
  out:=λd x e=>C d x (ne λq=>by rw[e] at q;injection q) (H.out d x e)
  it:=λd x e=>C d x (ne λq=>by rw[e] at q;injection q) (H.it d x e)
  Hc:=λd e=>(H.Hc d e).elim λo z=>⟨o,C d o (ne λq=>by rw[e] at q;injection q) z⟩
  Xb:=λd j e=>rQ (λq:d=a=>by
    obtain rfl:=Tc.Xb.inj (e.symm.trans (q▸D));exact⟨b,c,ws,n,sQ (H.lt e),q▸s,Q⟩) λq=>
   Md (H.Xb d j e) λy c ws n z=>⟨y,c,ws,n,(sG λ(r:i=j)=>q (H.inj d a j e (r▸D))).trans z.1,C d _ q z.2.1,z.2.2⟩
  all:=λj u=>H.all j (tQ▸u)
  inj:=H.inj}
end
structure qw(h:Heap)(g:Gh)(sc:Scope)(env:Env)(loc:Loc):Prop where
 kind:env.scope.kind=.function
 ph:env.globals=pi
 blt:env.builtins=qh
 len:loc.length=sc.names.length
 Ug:g env.locals=.Hc
 own:∃m,h.Ns env.locals m/\∀(x:Str)(i:Nat),slotIn sc.names x 0=Fb (i,.local)->env.kindOf x=Fb .local/\∀pv,loc[i]?=Fb (Fb pv)->∃v,m x=Fb v/\Tb g v pv
 aj:∀(x:Str)(i:Nat),slotIn sc.names x 0=Fb (i,.cell)->env.kindOf x=Fb .cell/\∃a cv,env.cells.lookup x=Fb a/\g a=.Hc/\a≠env.locals/\h.IsCell a cv/\∀pv,loc[i]?=Fb (Fb pv)->∃v,cv=Fb v/\Tb g v pv
 Pk:∀(x:Str)(i:Nat),slotIn sc.names x 0=Fb (i,.free)->(env.kindOf x=Fb .free\/env.kindOf x=Fb .cell)/\∃a,env.cells.lookup x=Fb a/\(∃o,g a=.out o)/\∀pv,loc[i]?=Fb (Fb pv)->∃v,h.IsCell a (Fb v)/\Tb g v pv
 apart:∀x y a i j,slotIn sc.names x 0=Fb (i,.cell)->slotIn sc.names y 0=Fb (j,.cell)->env.cells.lookup x=Fb a->env.cells.lookup y=Fb a->x=y
 Yi:∀x i,slotIn sc.names x 0=Fb (i,.globalImplicit)->env.kindOf x=Fb .globalImplicit
theorem Heap.Ns.Wh{h H:Heap}{a:Ub}{m:Str->Option Value}(x:h.Ns a m)(C:∀o,h.get? a=Fb o->H.get? a=Fb o):H.Ns a m:=
 ge x λo e E z=>⟨o,e,E,C o z.1,z.2⟩
theorem Heap.IsCell.Wh{h H:Heap}{a:Ub}{v:Option Value}(x:h.IsCell a v)(C:∀o,h.get? a=Fb o->H.get? a=Fb o):H.IsCell a v:=
 x.elim λo z=>⟨o,C o z.1,z.2⟩
theorem qw.keep{h V:Heap}{g G:Gh}{s:Scope}{E:Env}{l:Loc}(R:qw h g s E l)(X:Jd g G)
  (C:∀a o,(g a=.Hc\/∃x,g a=.out x)->h.get? a=Fb o->V.get? a=Fb o):qw V G s E l where
 kind:=R.kind
 ph:=R.ph
 blt:=R.blt
 len:=R.len
 Ug:=X.Hc R.Ug
 own:=R.own.elim λm z=>⟨m,Heap.Ns.Wh z.1 λo e=>C _ o (.inl R.Ug) e,λx i e=>⟨(z.2 x i e).1,λp H=>((z.2 x i e).2 p H).elim λv q=>⟨v,q.1,q.2.nh X⟩⟩⟩
 aj x i e:=(R.aj x i e).elim λr z=>Mc z λa w z=>Yj z λA j Q z=>⟨r,a,w,A,X.Hc j,Q,Heap.IsCell.Wh z.1 λo e=>C _ o (.inl j) e,λp H=>(z.2 p H).elim λv q=>⟨v,q.1,q.2.nh X⟩⟩
 Pk x i e:=(R.Pk x i e).elim λr z=>z.elim λa z=>we z λA j z=>⟨r,a,A,j.elim λo q=>⟨o,X.out q⟩,λp H=>(z p H).elim λv q=>⟨v,Heap.IsCell.Wh q.1 λo e=>C _ o (.inr j) e,q.2.nh X⟩⟩
 apart:=R.apart
 Yi:=R.Yi
structure Wb(B:Heap)(sc:Scope)(env:Env)(loc:Loc)(hp:Hp)(g:Gh)(h:Heap):Prop where
 base:∀a o,B.get? a=Fb o->g a=.out o\/g a=.Mb o
 hr:tc h g hp
 er:qw h g sc env loc
theorem Wb.stays{B:Heap}{s:Scope}{E:Env}{l:Loc}{H:Hp}{g:Gh}{h:Heap}(R:Wb B s E l H g h)(a:Ub)(o:Obj)(e:B.get? a=Fb o):h.get? a=Fb o:=
 (R.base a o e).elim (R.hr.out a o) (R.hr.Mb a o)
theorem Wb.baseExt{B:Heap}{g G:Gh}(b:∀a o,B.get? a=Fb o->g a=.out o\/g a=.Mb o)(X:Jd g G):∀a o,B.get? a=Fb o->G a=.out o\/G a=.Mb o:=λa o e=>
 (b a o e).elim (λq=>.inl (X.out q)) λq=>.inr (X.Mb q)
structure Tr(s s':Vb):Prop where
 os:s'.os=s.os
 gens:∀(i:Nat)(x:GenState),s.gens[i]?=Fb x->s'.gens[i]?=Fb x
 bare:AllBare s.gens->AllBare s'.gens
theorem Tr.refl(s:Vb):Tr s s:=⟨rfl,λJ J h=>h,λh=>h⟩
theorem Tr.trans{s H l:Vb}(x:Tr s H)(y:Tr H l):Tr s l:=⟨y.os.trans x.os,λi a h=>y.gens i a (x.gens i a h),λh=>y.bare (x.bare h)⟩
theorem Tr.heap(s:Vb)(h:Heap)(t:Nat):Tr s {s with heap:=h,toks:=t}:=⟨rfl,λJ J h=>h,λh=>h⟩
structure Cc(d:Nat)(A:Dd):Prop where
 hand:A.handled=Gb
 units:A.units+10*d+100<9900
 depth:A.depth+2*d+5<1000
set_option tactic.hygienic true in
theorem Rm.bind_some{α β:Type}{m:Rm α}{f:α->Rm β}{c:β}(h:Rm.bind m f=Fb (c,Hb)):∃a,m=Fb (a,Hb)/\f a=Fb (c,Hb):=by
 unfold Rm.bind at h
 split at h
 ·exact nn h
 ·rename_i a b
  split at h
  ·exact nn h
  ·rename_i C B H
   simp only [yA,Wt,Zc] at h;obtain⟨rfl,rfl,rfl⟩:=h;exact⟨a,rfl,H⟩
theorem Rm.Gd{α:Type}{a c:α}(h:Rm.ret a=Fb (c,Hb)):c=a:=by
 (injection h with H;injection H with H h_2;subst H);rfl
def Xc(B:Heap)(j:Scope)(e:Env)(l:Loc)(h:Hp)(p:PV)(g:Gh)(s:Vb)(Q:ja):Prop:=
 ∀v Y G,Wb B j e l h G Y.heap->Ext g G->Tr s Y->Tb G v p->Q v Y
def rN(B:Heap)(j:Scope)(e:Env)(l:Loc)(h:Hp)(p:List PV)(g:Gh)(s:Vb)(Q:ia->Vb->Prop):Prop:=
 ∀V Y G,Wb B j e l h G Y.heap->Ext g G->Tr s Y->bc G V p->Q V Y
def bO(B:Heap)(j:Scope)(e:Env)(l:Loc)(h:Hp)(b:Bool)(g:Gh)(s:Vb)(Q:Bool->Vb->Prop):Prop:=
 ∀Y G,Wb B j e l h G Y.heap->Ext g G->Tr s Y->Q b Y
def Yc(w:xd)(B:Heap)(d:Nat)(e:Expr)(j:Scope)(l:Loc)(h:Hp)(p:PV)(H:Hp):Prop:=
 ∀(A:Dd)(T:Env)(g:Gh)(s:Vb)(E:ja)(Q:ja),Cc d A->Wb B j T l h g s.heap->
  Xc B j T l H p g s Q->Pb (Qb pw w) A (eval e T) Q E s
def Mw(w:xd)(B:Heap)(d:Nat)(e:Expr)(j:Scope)(l:Loc)(h:Hp)(b:Bool)(H:Hp):Prop:=
 ∀(A:Dd)(T:Env)(g:Gh)(s:Vb)(E:ja)(Q:Bool->Vb->Prop),Cc d A->Wb B j T l h g s.heap->
  bO B j T l H b g s Q->Pb (Qb pw w) A (isTrue e T (eval e T)) Q E s
section
@[elab_as_elim] theorem Oh{α β:Type}{P:α->β->Prop}{a A:α}{b B:β}(e:Rm.ret (a,b)=Fb ((A,B),Hb))(h:P a b):P A B:=(congrArg (λx:α×β=>P x.1 x.2) (Rm.Gd e)).mpr h
theorem Wb.heap(R:Wb B s E l b g h)(H:∀a o,g a≠.free->h.get? a=Fb o->V.get? a=Fb o):Wb B s E l b g V:=
 ⟨R.base,R.hr.keep H,R.er.keep (Ext.refl g).n λa o e=>H a o (by rcases e with e|⟨x,e⟩<;>rw[e]<;>intro h<;>injection h)⟩
theorem Wb.push(R:Wb B s E l H g h)(o:Obj):Wb B s E l H g (h.push o):=R.heap λJ J J e=>Heap.get?_push_of_some o e
theorem Wb.fresh(R:Wb B s e l H g h):g h.objs.size=.free:=R.hr.fresh (Ed _)
theorem Wb.Nl(R:Wb B s E l H g h)(T:o.isFreed=Ib):Wb B s E l H (Jc g h.objs.size (.Mb o)) (h.push o):=
 have X:=Ext.Jc _ R.fresh
 ⟨Wb.baseExt R.base X.n,R.hr.Nl (.inl R.fresh) (Heap.get?_push_size _ T) λJ J J J e=>Heap.get?_push_of_some o e,R.er.keep X.n λJ J J e=>Heap.get?_push_of_some o e⟩
theorem Wb.oq(R:Wb B s E l H g h)(Q:bc g w c.toList):
  Wb B s E l (H++[(b,c)]) (Jc g h.objs.size (.Xb H.length)) (h.push (Rc w n)):=
 have X:=Ext.Jc _ R.fresh
 ⟨Wb.baseExt R.base X.n,R.hr.oq (.inl R.fresh) (Heap.get?_push_size _ rfl) Q λJ J J J e=>Heap.get?_push_of_some _ e,R.er.keep X.n λJ J J e=>Heap.get?_push_of_some _ e⟩
theorem Xc.step(post:Xc B j e l h p g s Q)(X:Ext g G)(T:Tr s J):Xc B j e l h p G J Q:=
 λv Y u r x t V=>post v Y u r (X.trans x) (T.trans t) V
theorem Xc.here(post:Xc B j e l h p g s Q)(R:Wb B j e l h g s.heap)(H:Tb g v p)(t:Nat):Q v {s with toks:=t}:=
 post v _ g R (Ext.refl g) (Tr.heap s s.heap t) H
theorem Xc.Lh(post:Xc B j e l h p g s Q)(R:Wb B j e l h g s.heap)(H:Tb g v p):Q v s:=post v _ g R (Ext.refl g) (Tr.refl s) H
theorem Xc.Nl(post:Xc B j e l h p g s Q)(R:Wb B j e l h g s.heap)(H:o.isFreed=Ib)
  (T:Tb (Jc g s.heap.objs.size (.Mb o)) (.ref s.heap.objs.size) p)(t:Nat):Q (.ref s.heap.objs.size) {s with heap:=s.heap.push o,toks:=t}:=
 post _ _ _ (R.Nl H) (Ext.Jc _ R.fresh) (Tr.heap s _ t) T
theorem Xc.td{mt:Bool}(post:Xc B j E l H p g s Q)(R:Wb B j E l a g s.heap)(e:td mt c a=(p,H))(h:bc g w c.toList)(t:Nat):
  Q (.ref s.heap.objs.size) {s with heap:=s.heap.push (Rc w n),toks:=t}:=by
 refine Qc λG k=>?_
 induction mt using Ld with
 |true=>
  injection e with x h_2;subst x h_2;refine k ?_;exact post _ _ _ (R.oq h) (Ext.Jc _ R.fresh) (Tr.heap s _ t) (.id (ze ..))
 |false=>
  obtain⟨rfl,rfl⟩:=ye e;refine k ?_;exact post _ _ _ (R.Nl rfl) (Ext.Jc _ R.fresh) (Tr.heap s _ t) (.Mb (ze ..) rfl (h.ext (Ext.Jc _ R.fresh)))
theorem Kp:∀{j},slotIn N x j=Fb (i,k)->N.lookup x=Fb k:=by
 induction N with
 |nil=>exact nn|cons y r I=>exactλh=>An h (λe J q=>e▸q▸Uw) λe h=>(tD e).trans (I h)
theorem Gl(H:slotIn j.names x 0=Fb (i,.local))(T:(x==("__debug__":Str))=Ib)(U:l[i]?=Fb (Fb p)):Yc w B d (.Name x V) j l a p a:=by
 intro A e g s E Q I R post;obtain⟨m,y,h⟩:=R.er.own;obtain⟨C,h⟩:=h x i H;obtain⟨v,D,k⟩:=h p U;exact br (tG R.er.kind C y D (post.Lh R k)) T
theorem OH(h:slotIn j.names x 0=Fb (i,.cell))(H:(x==("__debug__":Str))=Ib)(T:l[i]?=Fb (Fb p)):Yc w B d (.Name x U) j l b p b:=by
 intro A V g s E Q I R post;refine Qc λm k=>?_;obtain⟨C,a,y,D,o,Y,e,h5⟩:=R.er.aj x i h;obtain⟨v,rfl,G⟩:=h5 p T;refine k ?_;exact br (wpAny_loadName_cell R.er.kind C D e (post.Lh R G)) H
theorem OS(y:slotIn j.names x 0=Fb (i,.free))(T:(x==("__debug__":Str))=Ib)(N:(x==("__classdict__":Str))=Ib)(V:l[i]?=Fb (Fb p)):Yc w B d (.Name x Y) j l e p e:=by
 intro A f g s E Q I R post;refine Qc λG k=>?_;obtain⟨H,a,C,m,h⟩:=R.er.Pk x i y;obtain⟨v,U,b⟩:=h p V;rcases H with H|H
 ·refine k ?_
  exact br (wpAny_loadName_free R.er.kind H C U (post.Lh R b) N) T
 ·refine k ?_
  exact br (wpAny_loadName_cell R.er.kind H C U (post.Lh R b)) T
theorem Vu{s:Vb}(R:Wb B j T l H g s.heap)(Q:Tb g v p)(e:cellAt p H=Fb c):∃a w n,v=.ref a/\s.heap.get? a=Fb (Rc w n)/\bc g w c.toList:=by
 cases Q with
 |Mb h x C=>obtain rfl:=jc e;exact⟨_,_,_,rfl,R.hr.Mb _ _ h,x▸C⟩|id h=>
  refine Md (R.hr.Xb _ _ h) λb f w n z=>we z λE o q=>?_;clear z;simp only [cellAt,E,Option.map_some,yA] at e;subst e;exact⟨_,_,_,rfl,o,q⟩
 |_=>exact nn e
@[elab_as_elim] theorem yh{C:Value->Prop}(h:Tb g v (.int j))(k:∀t,C (.int j t)):C v:=h.inv.elim λt z=>z▸k t
@[elab_as_elim] theorem vStr{C:Value->Prop}(h:Tb g v (.str l))(k:∀x t,x.cps.toList=l->C (.str x t)):C v:=Mc h.inv λx t z=>z.1▸k x t z.2
@[elab_as_elim] theorem HO{C:Value->Prop}(h:Tb g v (.Sb l))(k:∀a w n,g a=.Mb (pf w n)->bc g w l->C (.ref a)):C v:=ge h.inv λa w n z=>z.1▸k a w n z.2.1 z.2.2
@[elab_as_elim] theorem Ys{C:ia->Prop}(h:bc g V (p::x))(k:∀w y,Tb g w p->bc g y x->C (w::y)):C V:=Mc h.inv λw y z=>z.1▸k w y z.2.1 z.2.2
@[elab_as_elim] theorem Zs{C:ia->Prop}(h:bc g V [])(k:C []):C V:=h.inv▸k
@[elab_as_elim] theorem el{C:ia->Prop}(h:bc g V [p])(k:∀u,Tb g u p->C [u]):C V:=Ys h λu w H h=>Zs h (k u H)
@[elab_as_elim] theorem KD{C:ia->Prop}(h:bc g V [p,q])(k:∀u v,Tb g u p->Tb g v q->C [u,v]):C V:=Ys h λu w H h=>el h λv Q=>k u v H Q
@[elab_as_elim] theorem Oo{s:Vb}{C:Value->Prop}(R:Wb B j E l H g s.heap)(h:Tb g v o)(e:cellAt o H=Fb c)(k:∀a w n,s.heap.get? a=Fb (Rc w n)->bc g w c.toList->C (.ref a)):C v:=ge (Vu R h e) λa w n z=>z.1▸k a w n z.2.1 z.2.2
@[elab_as_elim] theorem Jg{α:Type}{a b:α}{C:α->Prop}(h:a=b)(k:C b):C a:=h▸k
@[elab_as_elim] theorem Kt{α:Type}{a b:α}{C:α->Prop}(h:a=b)(k:C a):C b:=h▸k
@[elab_as_elim] theorem N'{α β:Type}{a A:α}{b B:β}{C:α->β->Prop}(h:(a,b)=(A,B))(k:C A B):C a b:=(congrArg (λx:α×β=>C x.1 x.2) h).mpr k
@[elab_as_elim] theorem prN{α β:Type}{a A:α}{b B:β}{C:α->β->Prop}(h:(a,b)=(A,B))(k:C a b):C A B:=(congrArg (λx:α×β=>C x.1 x.2) h).mp k
@[elab_as_elim] theorem bQ{α:Type}{a b:α}{C:α->Prop}(h:Fb a=Fb b)(k:C b):C a:=jc h▸k
@[elab_as_elim] theorem lg{α:Type}{a b:α}{C:α->Prop}(h:Fb a=Fb b)(k:C a):C b:=jc h▸k
theorem rf{h:Heap}(e:h.get? a=Fb (Rc w n)):h.IsList a w.toArray:=⟨_,e,rfl,n,rfl⟩
theorem Cell.len_eq(c:Cell):c.len=c.toList.length:=by induction c using Cell.casesOn<;>simp[Cell.len,Cell.toList]
theorem Cell.getD_eq{c:Cell}(h:i<c.len):c.toList[i]?=Fb (c.getD i):=by
 induction c using Cell.casesOn<;>simp only [Cell.len,Cell.toList,Cell.getD] at h⊢<;>simp[h]
theorem oD(h:Ci i=Hb):-1000000<=i/\i<=1000000:=by
 simpa [Ci] using h
theorem yI(h:n<=1000000):n.log2<20:=by
 by_cases H:n=0
 ·refine Jg H ?_;decide
 ·exact(Nat.log2_lt H).mpr (by lia)
theorem OK(h:Ci y=Hb):vA x y=Ib:=by
 refine(oD h).elim λA j=>?_;unfold vA;have:y.natAbs.log2<20:=yI (by lia);have H:¬((if(y==0)=Hb then 0 else y.natAbs.log2/30+1)>300):=by split<;>lia
 simp only [H,decide_false,Bool.false_and]
theorem QR(h:Ci x=Hb):Builtin.Int.intBits x<=64:=by
 refine(oD h).elim λH j=>?_;exact intBits_le_64 (by lia) (by lia)
theorem Ae{α:Type}{a c:α}(h:(Fb (a,b):Rm α)=Fb (c,Hb)):a=c/\b=Hb:=by
 (injection h with H;injection H with H h_2;subst H h_2);exact⟨rfl,rfl⟩
theorem bl{x:Str}(h:x.cps.toList=l):x.length=l.length:=by subst h;rfl
theorem vu{x y:Str}(h:x.cps.toList=l)(H:y.cps.toList=k):(x==y)=decide (l=k):=by
 subst h H
 by_cases e:x=y
 ·subst e;simp
 ·have:¬x.cps.toList=y.cps.toList:=λq=>e (by obtain⟨⟨a⟩⟩:=x;have b:=y;simp at q;rw[q])
  simp[e,this]
noncomputable def iF(mt:Bool)(h:Hp)(x y:Option Cell):Rm (PV×Hp):=match x,y with
 |some c,Fb d=>Fb (Mine.td mt (c.app d) h,decide (c.len+d.len<=ic))|_,_=>Gb
theorem nW{mt:Bool}(e:iF mt h x y=Fb (r,Hb)):∃c d,x=Fb c/\y=Fb d/\c.len+d.len<=1000000/\Mine.td mt (c.app d) h=r:=by
 induction x using Wd with
 |none=>exact nn e|some c=>induction y using Wd with
  |none=>exact nn e|some d=>refine(Ae e).elim λE o=>?_;exact⟨c,d,rfl,rfl,of_decide_eq_true o,E⟩
noncomputable def binI(op:fo)(x y:Int):Option (Int×Bool):=match op with
 |.Add=>Fb (x+y,Hb)|.Sub=>Fb (x-y,Hb)|.Mult=>Fb (x*y,Ci x&&Ci y)|.FloorDiv=>Fb (x.fdiv y,decide (0<y)&&Ci y)|.Mod=>Fb (x.fmod y,decide (0<y))|.Pow=>Fb (x^y.toNat,decide (x=10)&&decide (y=6))|_=>Gb
def Wv(mt:Bool)(h:Hp)(r:PV×Hp)(op:fo)(x y:PV):Prop:=(∃i j z,x=.int i/\y=.int j/\binI op i j=Fb (z,Hb)/\r=(.int z,h))\/(∃a b,op=.Add/\x=.str a/\y=.str b/\a.length+b.length<=1000000/\r=(.str (a++b),h))\/(op=.Add/\iF mt h (cellAt x h) (cellAt y h)=Fb (r,Hb))
variable{w:xd}{A:Dd}{E:ja}{s:Vb}{Zd:Vb}{B:Heap}{sc:Scope}{env:Env}{loc:Loc}{hp:Hp}{Ac:Hp}{g:Gh}{Mf:Gh}{pv:PV}{v:Value}{Q:ja}{d:Nat} in
theorem Wv.i{op:fo}{mt:Bool}{r:PV×Hp}{i j z:Int}{b:Bool}(h:binI op i j=Fb (z,b))(e:Fb ((PV.int z,hp),b)=Fb (r,Hb)):Wv mt hp r op (.int i) (.int j):=by
 refine(Ae e).elim λx o=>?_;exact .inl ⟨_,_,_,rfl,rfl,o▸h,x.symm⟩
theorem Wv.c{mt:Bool}(e:iF mt hp (cellAt x hp) (cellAt y hp)=Fb (r,Hb)):Wv mt hp r .Add x y:=.inr (.inr ⟨rfl,e⟩)
theorem N1{mt:Bool}(e:Ss op x y mt hp=Fb (r,Hb)):Wv mt hp r op x y:=by
 induction op using uQ with
 |Add=>induction x using PV.casesOn with
  |int i=>induction y using PV.casesOn with
   |int j=>exact .i rfl e|_=>exact .c e
  |str a=>induction y using PV.casesOn with
   |str b=>refine(Ae e).elim λz o=>?_;exact .inr (.inl ⟨a,b,rfl,rfl,rfl,of_decide_eq_true o,z.symm⟩)|_=>exact .c e
  |_=>exact .c e
 |Sub=>induction x using PV.casesOn with
  |int i=>induction y using PV.casesOn with
   |int j=>exact .i rfl e|_=>exact nn e
  |_=>exact nn e
 |Mult=>induction x using PV.casesOn with
  |int i=>induction y using PV.casesOn with
   |int j=>exact .i rfl e|_=>exact nn e
  |_=>exact nn e
 |FloorDiv=>induction x using PV.casesOn with
  |int i=>induction y using PV.casesOn with
   |int j=>exact .i rfl e|_=>exact nn e
  |_=>exact nn e
 |Mod=>induction x using PV.casesOn with
  |int i=>induction y using PV.casesOn with
   |int j=>exact .i rfl e|_=>exact nn e
  |_=>exact nn e
 |Pow=>induction x using PV.casesOn with
  |int i=>induction y using PV.casesOn with
   |int j=>exact .i rfl e|_=>exact nn e
  |_=>exact nn e
 |_=>exact nn e
theorem Hm(h:Tb g v (.int i)):∃t,v=.int i t:=by refine(Tb.inv h).elim λJ z=>?_;refine Jg z ?_;exact⟨_,rfl⟩
theorem wi(h:Tb g v (.str l)):∃x t,v=.str x t/\x.cps.toList=l:=Tb.inv h
theorem B3(h:binI op i j=Fb (z,Hb))(q:Q (.int z s.toks) {s with toks:=s.toks+1}):Pb (Qb pw w) A (binaryOp op (.int i t) (.int j u)) Q E s:=by
 induction op using uQ with
 |Add=>obtain⟨rfl,J⟩:=Ae h;exact add_int q|Sub=>obtain⟨rfl,J⟩:=Ae h;exact sub_int q|Mult=>
  obtain⟨rfl,e⟩:=Ae h;rw[Zc] at e;refine mul_int q ?_;unfold IntMulOk;have h:=Nat.not_lt.mpr (QR e.1);simp only [shortFactorBits,h,decide_false,Bool.false_and];exact Of
 |FloorDiv=>
  obtain⟨rfl,e⟩:=Ae h;rw[Zc] at e;exact floordiv_int (Int.ne_of_gt (of_decide_eq_true e.1)) q (.inl (OK e.2))
 |Mod=>obtain⟨rfl,e⟩:=Ae h;exact mod_int' (Int.ne_of_gt (of_decide_eq_true e)) q|Pow=>
  obtain⟨rfl,e⟩:=Ae h;rw[Zc] at e;obtain rfl:=of_decide_eq_true e.1;obtain rfl:=of_decide_eq_true e.2;exact pow_int (by decide) (by decide+kernel) q
 |_=>exact nn h
theorem QT(c d:Cell):(c.app d).toList=c.toList++d.toList:=by
 induction c using Cell.casesOn with
 |«ints»=>induction d using Cell.casesOn with
  |«ints»=>exact ej|Lb l=>induction l using xc<;>first|exact(ng _).symm|rfl
  |_=>rfl
 |«strs»=>induction d using Cell.casesOn with
  |«strs»=>exact ej|Lb l=>induction l using xc<;>first|exact(ng _).symm|rfl
  |_=>rfl
 |Lb k=>induction k using xc with
  |nil=>rfl|cons=>induction d using Cell.casesOn with
   |Lb l=>induction l using xc<;>first|exact(ng _).symm|rfl
   |_=>rfl
theorem B6{mt:Bool}(R:Wb B sc env loc hp g s.heap)(H:Tb g a x)(O:Tb g b y)(e:Ss op x y mt hp=Fb ((pv,Ac),Hb))
  (post:Xc B sc env loc Ac pv g s Q):Pb (Qb pw w) A (binaryOp op a b) Q E s:=by
 refine Qc λq V=>?_;rcases N1 e with⟨i,j,z,rfl,rfl,h,C⟩|⟨l,k,rfl,rfl,rfl,h,C⟩|⟨rfl,h⟩
 ·obtain⟨rfl,rfl⟩:=ye C
  obtain⟨t,rfl⟩:=Hm H;obtain⟨u,rfl⟩:=Hm O;refine V ?_;exact B3 h (post.here R (.int _ _) _)
 ·obtain⟨rfl,rfl⟩:=ye C
  obtain⟨r,t,rfl,D⟩:=wi H;obtain⟨y',u,rfl,m⟩:=wi O;refine V ?_;refine add_str (λt tk=>post.here R (.str ?_) _) ?_
  ·rw[<-D,<-m];exact uG
  ·rw[bl D,bl m,show cm=16777216 from rfl];lia
 ·refine Mc (nW h) λc d G=>Yj G λf U hl C=>?_;clear G
  obtain⟨la,J,n,rfl,L,T⟩:=Vu R H f;obtain⟨lb,o,n',rfl,Y,I⟩:=Vu R O U;have N:J.length=c.len:=by rw[Cell.len_eq,T.length]
  have p:o.length=d.len:=by rw[Cell.len_eq,I.length]
  refine V ?_;refine P.add_list L Y ?_ ?_
  ·rw[List.append_toArray]
   exact Xc.td post R C (by rw[QT];exact T.append I) s.toks
  ·rw[Cf,Cf,N,p,show cm=16777216 from rfl];lia
end
open PySem.SeqAt
section
theorem bc.DO(h:bc g V x)(H:j<V.length):∃p,x[j]?=Fb p/\Tb g V[j] p:=by
 have y:=h.length;have:j<x.length:=y▸H;obtain⟨v,A,k⟩:=h.get (De this);refine⟨_,De this,?_⟩;rw[De H] at A;refine bQ A ?_;exact k
def Am(A:Dd)(s:Vb)(u V:ia)(r:Bool):Prop:=
 ∃e:Nat->Bool,(∀j(h:j<u.length)(H:j<V.length),EqAt A s u[j] V[j] (e j))/\(u.length=V.length->(xe u.length).all e=r)/\(u.length≠V.length->r=Ib)
section
theorem fL:Am A s [] [] Hb:=⟨λJ=>Hb,λj h=>absurd h (io j),λJ=>rfl,λh=>(h rfl).elim⟩
theorem CI:Am A s [] (v::V) Ib:=⟨λJ=>Ib,λj h=>absurd h (io j),λh=>by injection h,λJ=>rfl⟩
theorem OI:Am A s (u::U) [] Ib:=⟨λJ=>Ib,λj J h=>absurd h (io j),λh=>by injection h,λJ=>rfl⟩
theorem UI(h:EqAt A s u v p)(C:Am A s U V q):Am A s (u::U) (v::V) (p&&q):=
 C.elim λe z=>⟨λj=>j.casesOn p e,λj=>j.casesOn (λJ J=>h) λj a b=>z.1 j (Yt a) (Yt b),λH=>by
  rw[xj,aaa,List.all_cons,List.all_map,<-z.2.1 (an H)];rfl,λH=>by rw[z.2.2 λy=>H (congrArg (·+1) y),Zt]⟩
end
section
variable{α:Type}[DecidableEq α]
theorem ZJ(T:∀{u v x y},Tb g u (f x)->Tb g v (f y)->EqAt A s u v (decide (x=y)))(x:List α):∀{y:List α}{U V:ia},bc g U (x.map f)->bc g V (y.map f)->Am A s U V (decide (x=y)):=by
 induction x using List.rec with
 |nil=>
  intro y U V H h;rw[show U=[] from H.inv]
  induction y using xc with
  |nil=>rw[show V=[] from h.inv];exact fL|cons=>exact Mc h.inv λJ J z=>z.1▸CI
 |cons a x I=>
  intro y U V H h;refine Mc H.inv λu p z=>?_;rw[z.1]
  induction y using xc with
  |nil=>rw[show V=[] from h.inv];exact OI|cons b y=>
   refine Mc h.inv λv k Y=>?_;rw[Y.1,show decide (a::x=b::y)=(decide (a=b)&&decide (x=y)) by rw[<-Bool.decide_and,decide_eq_decide];exact List.cons_eq_cons];exact UI (T z.2.1 Y.2.1) (I z.2.2 Y.2.2)
theorem mK(T:∀{v x y},Tb g v (f x)->Tb g v (f y)->x=y)(x:List α):∀{y:List α}{w:ia},bc g w (x.map f)->bc g w (y.map f)->x=y:=by
 induction x using List.rec with
 |nil=>exactλ{y w}H=>y.casesOn (λJ=>rfl) λJ J h=>Mc h.inv λJ J z=>nomatch (show w=[] from H.inv).symm.trans z.1
 |cons a x I=>exactλ{y w}H=>y.casesOn (λh=>Mc H.inv λJ J z=>nomatch (show w=[] from h.inv).symm.trans z.1) λb y h=>Mc H.inv λJ J z=>Mc h.inv λJ J Y=>
  have q:=ck (Y.1.symm.trans z.1)
  List.cons_eq_cons.mpr ⟨T z.2.1 (q.1▸Y.2.1),I z.2.2 (q.2▸Y.2.2)⟩
end
theorem UL{w o:ia}(h:Data.seq w.toArray n=Data.seq o.toArray m):w=o:=congrArg vQ (Data.seq.inj h).1
theorem u5(h:pf w n=pf o m):w=o:=UL (congrArg Obj.data h)
theorem YY(h:Rc w n=Rc o m):w=o:=UL (congrArg Obj.data h)
theorem X8(h:Tb g v (.id i)):∃a,v=.ref a/\g a=.Xb i:=h.inv
theorem nv(h:Tb g v (.Sb p)):∃a w n,v=.ref a/\g a=.Mb (pf w n)/\bc g w p:=h.inv
theorem uy{s:Vb}(H:tc s.heap g d)(h:Tb g v p)(e:cellAt p d=Fb c):∃a w n,v=.ref a/\s.heap.get? a=Fb (Rc w n)/\bc g w c.toList:=by
 induction p using PV.casesOn with
 |Mb C=>exact Md h.inv λa w n l z=>⟨a,w,n,z.1,H.Mb _ _ z.2.1,jc e▸z.2.2.1▸z.2.2.2⟩|id i=>exact h.inv.elim λa z=>Md (H.Xb a i z.2) λb C w n y=>⟨a,w,n,z.1,y.2.1,jc ((congrArg (Option.map λx:Bool×Cell=>x.2) y.1).symm.trans e)▸y.2.2⟩|_=>exact nn e
noncomputable def EP(h:Hp)(n:Nat)(x y:Option Cell):Option Bool:=match x,y with
 |some c,Fb d=>Tm h n c d|_,_=>Gb
inductive Xn(hp:Hp)(n:Nat)(r:Bool):PV->PV->Prop
 |int{x y:Int}(h:decide (x=y)=r):Xn hp n r (.int x) (.int y)
 |str{x y:ca}(h:decide (x=y)=r):Xn hp n r (.str x) (.str y)
 |Sb{x y:List PV}(h:Jm hp n x y=Fb r):Xn hp n r (.Sb x) (.Sb y)
 |cell{a b:PV}{c d:Cell}(h1:cellAt a hp=Fb c)(h2:cellAt b hp=Fb d)(h:Tm hp n c d=Fb r):Xn hp n r a b
theorem YK(e:EP h n (cellAt a h) (cellAt b h)=Fb r):Xn h n r a b:=by
 have k:∀{x y},cellAt a h=x->cellAt b h=y->EP h n x y=Fb r->Xn h n r a b:=λ{x y}=>x.casesOn (λJ J e=>nn e) λc=>y.casesOn (λJ J e=>nn e) λd H j e=>.cell H j e;exact k rfl rfl e
theorem pJ(e:Wg h (n+1) a b=Fb r):Xn h n r a b:=by
 induction a using PV.casesOn with
 |int x=>induction b using PV.casesOn with
  |int y=>exact .int (jc e)|_=>exact nn e
 |str x=>induction b using PV.casesOn with
  |str y=>exact .str (jc e)|_=>exact nn e
 |Sb x=>induction b using PV.casesOn with
  |Sb y=>exact .Sb e|_=>exact nn e
 |Mb c=>exact YK e|id i=>exact YK e|_=>exact nn e
inductive Jt(hp:Hp)(n:Nat)(r:Bool):Cell->Cell->Prop
 |«ints»{x y:da}(h:decide (x=y)=r):Jt hp n r (.ints x) (.ints y)
 |«strs»{x y:ba}(h:decide (x=y)=r):Jt hp n r (.strs x) (.strs y)
 |Lb{c d:Cell}(h:Jm hp n c.toList d.toList=Fb r):Jt hp n r c d
theorem QK(e:Tm h (n+1) c d=Fb r):Jt h n r c d:=by
 induction c using Cell.casesOn with
 |«ints» x=>induction d using Cell.casesOn with
  |«ints» y=>exact .ints (jc e)|_=>exact .Lb e
 |«strs» x=>induction d using Cell.casesOn with
  |«strs» y=>exact .strs (jc e)|_=>exact .Lb e
 |Lb x=>exact .Lb e
noncomputable def A9(x y:Option Bool):Option Bool:=match x,y with
 |some p,Fb q=>Fb (p&&q)|_,_=>Gb
theorem gJ(e:A9 x y=Fb r):∃p q,x=Fb p/\y=Fb q/\(p&&q)=r:=by
 induction x using Wd with
 |none=>exact nn e|some p=>induction y using Wd with
  |none=>exact nn e|some q=>exact⟨p,q,rfl,rfl,jc e⟩
theorem vK{P Q:Nat->Prop}(p:P 0)(q0:Q 0)(x:∀n,(∀m<n+1,Q m)->P (n+1))(U:∀n,P n->Q n->Q (n+1))(n:Nat):P n:=
 (n.rec (motive:=λn=>(∀m<n+1,Q m)/\P n) ⟨λJ h=>Nat.le_zero.mp (rG h)▸q0,p⟩ λn z=>⟨λm h=>(Nat.lt_succ_iff_lt_or_eq.mp h).elim (z.1 m) λq=>q▸U n z.2 (z.1 n (Af n)),x n z.1⟩).2
def Oz(g:Gh)(h:Hp)(n:Nat):Prop:=∀{a b:PV}{u:Value}{r:Bool},Tb g u a->Tb g u b->Wg h n a b=Fb r->r=Hb
def aw(g:Gh)(h:Hp)(n:Nat):Prop:=∀{a b:List PV}{u:ia}{r:Bool},bc g u a->bc g u b->Jm h n a b=Fb r->r=Hb
theorem aL(h:Tb g v (.int x))(H:Tb g v (.int y)):x=y:=
 (Hm h).elim λJ z=>(Hm H).elim λJ Y=>(Value.int.inj (z.symm.trans Y)).1
theorem qK(h:Tb g v (.str x))(H:Tb g v (.str y)):x=y:=
 Mc (wi h) λJ J z=>Mc (wi H) λJ J Y=>z.2.symm.trans ((congrArg (λx:Str=>x.cps.toList) (Value.str.inj (z.1.symm.trans Y.1)).1).trans Y.2)
theorem fY(I:∀m<n,aw g a m)(h:bc g w x.toList)(H:bc g w y.toList)(e:Tm a n x y=Fb r):r=Hb:=by
 induction n using jf with
 |zero=>exact nn e|succ n=>
  have c:=QK e;clear e
  induction c using Jt.casesOn with
  |«ints» q=>exact q▸decide_eq_true (mK aL _ h H)|«strs» q=>exact q▸decide_eq_true (mK qK _ h H)|Lb q=>exact I n (Af n) h H q
theorem yM{v:Value}(h:v=.ref l)(H:v=.ref L):L=l:=cr (H.symm.trans h)
theorem uZ{s:Vb}(H:tc s.heap g d)(I:∀m<n+1,aw g d m):Oz g d (n+1):=by
 intro a b u r h O e;have c:=pJ e;clear e
 induction c using Xn.casesOn with
 |int q=>exact q▸decide_eq_true (aL h O)|str q=>exact q▸decide_eq_true (qK h O)|Sb q=>exact ge (nv h) λl w J z=>ge (nv O) λL J J Y=>I n (Af n) z.2.2 (u5 (Tc.Mb.inj (Y.2.1.symm.trans (yM z.1 Y.1▸z.2.1)))▸Y.2.2) q|cell A j q=>exact ge (uy H h A) λl w J z=>ge (uy H O j) λL J J Y=>fY (λm T=>I m (jo T)) z.2.2 (YY (jc (Y.2.1.symm.trans (yM z.1 Y.1▸z.2.1)))▸Y.2.2) q
theorem WU(H:Oz g d n)(f:aw g d n):aw g d (n+1):=by
 intro a b u r h O e
 induction a using xc with
 |nil=>induction b using xc with
  |nil=>exact(jc e).symm|cons=>exact Mc O.inv λJ J z=>nomatch (show u=[] from h.inv).symm.trans z.1
 |cons=>induction b using xc with
  |nil=>exact Mc h.inv λJ J z=>nomatch (show u=[] from O.inv).symm.trans z.1
  |cons=>
   refine Mc h.inv λJ J z=>Mc O.inv λJ J Y=>Mc (gJ e) λp q y=>?_;have k:=ck (Y.1.symm.trans z.1);refine y.2.2.symm.trans ?_;rw[H z.2.1 (k.1▸Y.2.1) y.1,f z.2.2 (k.2▸Y.2.2) y.2.1];rfl
theorem H2{s:Vb}(H:tc s.heap g h)(n:Nat):Oz g h n:=vK (P:=Oz g h) (Q:=aw g h) (λJ J e=>nn e) (λJ J e=>nn e) (λJ=>uZ H) (λJ=>WU) n
theorem hY(I:A.units<9900)(B:s.heap.get? l=Fb (Rc u n))(k:s.heap.get? L=Fb (Rc V m))
  (h:Am A.in1 s u V r):RcAt A s (.ref l) (.ref L) r/\RcNeAt A s (.ref l) (.ref L) (!r):=by
 refine xl h λe z=>we z λQ d h5=>?_;clear z h
 by_cases H:u.length=V.length
 ·have Y:∀j(a:j<u.toArray.size)(b:j<V.toArray.size),EqAt A.in1 s u.toArray[j] V.toArray[j] (e j):=λj a b=>by
   simp only [vG];exact Q j (by simpa using a) (by simpa using b)
  have:=d H;constructor
  ·have q:=RcAt.lists (rf B) (rf k) (by simpa using H) I Y
   rw[Cf,this] at q;exact q
  ·have q:=RcNeAt.lists (rf B) (rf k) (by simpa using H) I Y
   rw[Cf,this] at q;exact q
 ·have:=h5 H
  refine Jg this ?_;exact⟨RcAt.lists_lengths (rf B) (rf k) (by simpa using H) I,RcNeAt.lists_lengths (rf B) (rf k) (by simpa using H) I⟩
theorem Yk{h:Heap}(e:h.get? a=Fb (pf w n)):h.IsTuple a w.toArray:=⟨_,e,rfl,n,rfl⟩
theorem D2(I:A.units<9900)(B:s.heap.get? l=Fb (pf u n))(k:s.heap.get? L=Fb (pf V m))
  (h:Am A.in1 s u V r):RcAt A s (.ref l) (.ref L) r/\RcNeAt A s (.ref l) (.ref L) (!r):=by
 refine xl h λe z=>we z λQ d h5=>?_;clear z h;have Y:∀j(a:j<u.toArray.size)(b:j<V.toArray.size),EqAt A.in1 s u.toArray[j] V.toArray[j] (e j):=λj a b=>by
  simp only [vG];exact Q j (by simpa using a) (by simpa using b)
 have key:((xe (min u.toArray.size V.toArray.size)).all e&&u.toArray.size==V.toArray.size)=r:=by
  simp only [Cf]
  by_cases H:u.length=V.length
  ·rw[<-H,Nat.min_self,d H];simp
  ·rw[h5 H];simp[H]
 constructor
 ·have q:=RcAt.tuples (Yk B) (Yk k) I Y
  rw[key] at q;exact q
 ·have q:=RcNeAt.tuples (Yk B) (Yk k) I Y
  rw[key] at q;exact q
def fA(g:Gh)(h:Hp)(s:Vb)(n:Nat):Prop:=∀{A:Dd}{a b:PV}{u v:Value}{r:Bool},A.units+n<9900->Tb g u a->Tb g v b->Wg h n a b=Fb r->EqAt A s u v r/\RcAt A s u v r/\RcNeAt A s u v (!r)
def Rv(g:Gh)(h:Hp)(s:Vb)(n:Nat):Prop:=∀{A:Dd}{a b:List PV}{u V:ia}{r:Bool},A.units+n<9900->bc g u a->bc g V b->Jm h n a b=Fb r->Am A s u V r
theorem CZ(I:∀m<n,Rv g d s m)(J:A.units+n<9900)(h:bc g u x.toList)(H:bc g V y.toList)(e:Tm d n x y=Fb r):Am A s u V r:=by
 induction n using jf with
 |zero=>exact nn e|succ n=>
  have c:=QK e;clear e
  induction c using Jt.casesOn with
  |«ints» q=>exact q▸ZJ (λa b=>(Hm a).elim λK z=>(Hm b).elim λK Y=>by rw[z,Y];exact EqAt.int_int _ _ _ _) _ h H|«strs» q=>exact q▸ZJ (λa b=>Mc (wi a) λK K z=>Mc (wi b) λK K Y=>by rw[z.1,Y.1,<-vu z.2 Y.2];exact EqAt.str_str _ _ _ _) _ h H|Lb q=>exact I n (Af n) (wQ J) h H q
theorem TL(H:tc s.heap g d)(t:Tb g (.ref l) a)(O:Tb g (.ref L) b)(e:Wg d n a b=Fb r)(h:RcAt A s (.ref l) (.ref L) r/\RcNeAt A s (.ref l) (.ref L) (!r)):EqAt A s (.ref l) (.ref L) r/\RcAt A s (.ref l) (.ref L) r/\RcNeAt A s (.ref l) (.ref L) (!r):=by
 refine⟨?_,h⟩
 by_cases q:l=L
 ·subst q
  rw[H2 H n t O e];exact EqAt.same _
 ·exact EqAt.of_refs q h.1
theorem kY(H:tc s.heap g d)(I:∀m<n+1,Rv g d s m):fA g d s (n+1):=by
 intro A a b u v r J h O e;have B:=Nf (wl ..) J;have j:A.in1.units+n<9900:=by show A.units+1+n<9900;rw[wG];exact J
 have c:=pJ e
 induction c using Xn.casesOn with
 |int q=>
  refine(Hm h).elim λK z=>(Hm O).elim λK Y=>?_;rw[z,Y,<-q];exact⟨EqAt.int_int _ _ _ _,RcAt.int_int _ _ _ _,RcNeAt.int_int _ _ _ _⟩
 |str q=>
  refine Mc (wi h) λK K z=>Mc (wi O) λK K Y=>?_;rw[z.1,Y.1,<-q,<-vu z.2 Y.2];exact⟨EqAt.str_str _ _ _ _,RcAt.str_str _ _ _ _,RcNeAt.str_str _ _ _ _⟩
 |Sb q=>
  refine ge (nv h) λK K K z=>ge (nv O) λK K K Y=>?_;rw[z.1] at h⊢;rw[Y.1] at O⊢;exact TL H h O e (D2 B (H.Mb _ _ z.2.1) (H.Mb _ _ Y.2.1) (I n (Af n) j z.2.2 Y.2.2 q))
 |cell E o q=>
  refine ge (uy H h E) λK K K z=>ge (uy H O o) λK K K Y=>?_;rw[z.1] at h⊢;rw[Y.1] at O⊢;exact TL H h O e (hY B z.2.1 Y.2.1 (CZ (λm T=>I m (jo T)) j z.2.2 Y.2.2 q))
theorem iW(H:fA g d s n)(j:Rv g d s n):Rv g d s (n+1):=by
 intro A a b u V r I t h e;have f:=wQ I
 induction a using xc with
 |nil=>
  rw[show u=[] from t.inv]
  induction b using xc with
  |nil=>rw[show V=[] from h.inv,<-jc e];exact fL|cons=>refine Mc h.inv λJ J z=>?_;rw[z.1,<-jc e];exact CI
 |cons=>
  refine Mc t.inv λJ J z=>?_;rw[z.1]
  induction b using xc with
  |nil=>rw[show V=[] from h.inv,<-jc e];exact OI|cons=>
   refine Mc h.inv λJ J Y=>Mc (gJ e) λp q y=>?_;rw[Y.1,<-y.2.2];exact UI (H f z.2.1 Y.2.1 y.1).1 (j f z.2.2 Y.2.2 y.2.1)
theorem DN(H:tc s.heap g h)(n:Nat):fA g h s n:=vK (P:=fA g h s) (Q:=Rv g h s) (λJ J J e=>nn e) (λJ J J e=>nn e) (λJ=>kY H) (λJ=>iW) n
end
section
theorem yaa(b:Bool):((Value.bool b==sp)=Ib):=rfl
noncomputable def sN(f:Int->Int->Bool)(a b:PV):Option PV:=match a,b with
 |.int x,.int y=>Fb (.bool (f x y))|_,_=>Gb
theorem xT(e:sN f a b=Fb p):∃x y,a=.int x/\b=.int y/\p=.bool (f x y):=by
 induction a using PV.casesOn with
 |int x=>induction b using PV.casesOn with
  |int y=>exact⟨x,y,rfl,rfl,(jc e).symm⟩|_=>exact nn e
 |_=>exact nn e
theorem ky(R:Wb B l T L h g s.heap)(H:Tb g a x)(O:Tb g b y)(e:sN f x y=Fb p)
  (post:Xc B l T L h p g s Q)(k:∀i t j u,Q (.bool (f i j)) s->Pb (Qb pw w) A (ko op (.int i t) (.int j u)) Q E s):Pb (Qb pw w) A (ko op a b) Q E s:=by
 obtain⟨i,j,rfl,rfl,rfl⟩:=xT e;refine yh H λt=>?_;refine yh O λu=>?_;exact k i t j u (post.Lh R (.bool _))
theorem wK(h:Tb g v .none):v=.none:=h.inv
theorem QJ(h:Tb g v (.bool b)):v=.bool b:=h.inv
theorem ZK(h:Tb g v (.kc u)):v=u:=h.inv
theorem XK(c b:Bool):(Value.bool c==Value.bool b)=(c==b):=by induction c using Ld<;>induction b using Ld<;>rfl
theorem bZ(u t:String):(mo u==mo t)=decide (u=t):=by
 by_cases q:u=t
 ·rw[q,decide_eq_true rfl];exact beq_self_eq_true _
 ·rw[decide_eq_false q];exact beq_eq_false_iff_ne.mpr λh=>q (Value.type.inj h)
def FP(f:Bool->Bool)(p:PV)(a b:Value):Prop:=plainIs a b=Hb/\p=.bool (f (a==b))
theorem u0(h:Tb g a x)(H:Tb g b y)(e:Pj .Is x y d=Fb p):FP id p a b:=by
 induction y using PV.casesOn with
 |none=>
  rw[wK H];exact Tb.casesOn h (λe=>⟨rfl,(jc e).symm⟩) (λJ e=>⟨rfl,(jc e).symm⟩) (λJ J e=>⟨rfl,(jc e).symm⟩) (λJ e=>⟨rfl,(jc e).symm⟩) (λJ J e=>⟨rfl,(jc e).symm⟩) (λJ J J e=>⟨rfl,(jc e).symm⟩)
   (λJ e=>⟨rfl,(jc e).symm⟩) (λJ J J J e=>⟨rfl,(jc e).symm⟩) (λJ e=>⟨rfl,(jc e).symm⟩) (λJ e=>nn e) e
 |bool b=>
  rw[QJ H];exact Tb.casesOn h (λe=>⟨rfl,(jc e).symm⟩) (λc e=>⟨rfl,(jc e).symm.trans (congrArg PV.bool (XK c b).symm)⟩) (λJ J e=>⟨rfl,(jc e).symm⟩) (λJ e=>⟨rfl,(jc e).symm⟩) (λJ J e=>⟨rfl,(jc e).symm⟩) (λJ J J e=>⟨rfl,(jc e).symm⟩)
   (λJ e=>⟨rfl,(jc e).symm⟩) (λJ J J J e=>⟨rfl,(jc e).symm⟩) (λJ e=>⟨rfl,(jc e).symm⟩) (λJ e=>nn e) e
 |kc t=>
  rw[ZK H]
  induction t using tp with
  |type t=>induction x using PV.casesOn with
   |kc u=>
    rw[ZK h]
    induction u using tp with
    |type u=>exact⟨rfl,(jc e).symm.trans (congrArg PV.bool (bZ u t).symm)⟩|_=>exact nn e
   |_=>exact nn e
  |_=>exact nn e
 |_=>exact nn e
theorem US(h:Tb g a x)(H:Tb g b y)(e:Pj .IsNot x y d=Fb p):FP not p a b:=by
 induction y using PV.casesOn with
 |none=>
  rw[wK H];exact Tb.casesOn h (λe=>⟨rfl,(jc e).symm⟩) (λJ e=>⟨rfl,(jc e).symm⟩) (λJ J e=>⟨rfl,(jc e).symm⟩) (λJ e=>⟨rfl,(jc e).symm⟩) (λJ J e=>⟨rfl,(jc e).symm⟩) (λJ J J e=>⟨rfl,(jc e).symm⟩)
   (λJ e=>⟨rfl,(jc e).symm⟩) (λJ J J J e=>⟨rfl,(jc e).symm⟩) (λJ e=>⟨rfl,(jc e).symm⟩) (λJ e=>nn e) e
 |bool b=>
  rw[QJ H];exact Tb.casesOn h (λe=>⟨rfl,(jc e).symm⟩) (λc e=>⟨rfl,(jc e).symm.trans (congrArg (λx=>PV.bool (!x)) (XK c b).symm)⟩) (λJ J e=>⟨rfl,(jc e).symm⟩) (λJ e=>⟨rfl,(jc e).symm⟩) (λJ J e=>⟨rfl,(jc e).symm⟩) (λJ J J e=>⟨rfl,(jc e).symm⟩)
   (λJ e=>⟨rfl,(jc e).symm⟩) (λJ J J J e=>⟨rfl,(jc e).symm⟩) (λJ e=>⟨rfl,(jc e).symm⟩) (λJ e=>nn e) e
 |_=>exact nn e
theorem b4(e:Pj .In x y h=Fb f):∃a b c,x=.str a/\y=.Sb [.str b,.str c]/\f=.bool (decide (a=b)||decide (a=c)):=by
 induction x using PV.casesOn with
 |str a=>induction y using PV.casesOn with
  |Sb l=>cases l with
   |nil=>exact nn e|cons p l=>induction p using PV.casesOn with
    |str b=>induction l using xc with
     |nil=>exact nn e|cons p l=>induction p using PV.casesOn with
      |str c=>induction l using xc with
       |nil=>exact⟨a,b,c,rfl,rfl,(jc e).symm⟩|cons=>exact nn e
      |_=>exact nn e
    |_=>exact nn e
  |_=>exact nn e
 |_=>exact nn e
theorem lU(e:Pj .NotIn x y h=Fb p):∃a b,x=.str [a]/\y=.str b/\p=.bool (!decide (a∈b)):=by
 induction x using PV.casesOn with
 |str l=>induction l using xc with
  |nil=>exact nn e|cons a l=>induction l using xc with
   |nil=>induction y using PV.casesOn with
    |str b=>exact⟨a,b,rfl,rfl,(jc e).symm⟩|_=>exact nn e
   |cons=>exact nn e
 |_=>exact nn e
theorem L8(R:Wb B j T l h g s.heap)(H:Tb g a x)(O:Tb g b y)(e:Pj .Is x y h=Fb p)(post:Xc B j T l h p g s Q):Pb (Qb pw w) A (ko .Is a b) Q E s:=
 have k:=u0 H O e
 wpAny_is_plain k.1 (post.Lh R (k.2.symm▸.bool _))
theorem tZ(R:Wb B j T l h g s.heap)(H:Tb g a x)(O:Tb g b y)(e:Pj .IsNot x y h=Fb p)(post:Xc B j T l h p g s Q):Pb (Qb pw w) A (ko .IsNot a b) Q E s:=
 have k:=US H O e
 wpAny_isNot_plain k.1 (post.Lh R (k.2.symm▸.bool _))
theorem m8(R:Wb B j T L H g s.heap)(t:Tb g a x)(O:Tb g b y)(e:Pj .In x y H=Fb p)(post:Xc B j T L H p g s Q):Pb (Qb pw w) A (ko .In a b) Q E s:=by
 refine Qc λJ V=>?_;obtain⟨l,m,n,rfl,rfl,rfl⟩:=b4 e;obtain⟨z,t0,rfl,r⟩:=wi t;obtain⟨a,f,k,rfl,C,h⟩:=nv O;obtain⟨K,K,rfl,I,h⟩:=bc.inv h;obtain⟨K,K,rfl,D,h⟩:=bc.inv h;obtain rfl:=bc.inv h;obtain⟨Y,u,rfl,o⟩:=wi I;obtain⟨d,G,rfl,U⟩:=wi D;refine V ?_;refine in_tupleAt (λv=>match v with|.str q _=>q==z|_=>Ib) (Yk (R.hr.Mb _ _ C)) ?_ ?_
 ·intro q N
  simp only [List.mem_toArray,og,Xd,or_false] at N;rcases N with rfl|rfl<;>exact EqAt.str_str _ _ _ _
 ·rw[show(#[xG Y u,xG d G].any λv=>match v with|.str q _=>q==z|_=>Ib)=((Y==z)||(d==z)) by simp,vu o r,vu U r]
  rw[show∀a b c:ca,(decide (a=c)||decide (b=c))=(decide (c=a)||decide (c=b)) fromλa b c=>by simp[eq_comm]];exact post.Lh R (.bool _)
theorem CM(I:Cc d A)(R:Wb B k T L f g s.heap)(H:Tb g a x)(O:Tb g b y)(e:Pj op x y f=Fb p)
  (post:Xc B k T L f p g s Q):Pb (Qb pw w) A (ko op a b) Q E s:=by
 have j:A.units+40<9900:=by have:=I.units;exact H8 ‹_› (by decide)
 induction op using CmpOp.casesOn with
 |Lt=>exact ky R H O e post λJ J J J h=>lt_int h|Gt=>exact ky R H O e post λJ J J J h=>gt_int h|LtE=>exact ky R H O e post λJ J J J h=>le_int h|GtE=>exact ky R H O e post λJ J J J h=>ge_int h|Eq=>
  obtain⟨r,z,rfl⟩:=Option.map_eq_some_iff.mp e;exact(DN R.hr 40 j H O z).2.1 _ _ E Q (post.Lh R (.bool _))
 |NotEq=>
  obtain⟨r,z,rfl⟩:=Option.map_eq_some_iff.mp e;exact(DN R.hr 40 j H O z).2.2 _ _ E Q (post.Lh R (.bool _))
 |Is=>exact L8 R H O e post|IsNot=>exact tZ R H O e post|In=>exact m8 R H O e post|NotIn=>
  obtain⟨c,l,rfl,rfl,rfl⟩:=lU e;refine vStr H λC t0 q=>?_;refine vStr O λY u D=>?_;refine P.notIn_str ?_;have:C=⟨#[c]⟩:=by
   obtain⟨⟨l⟩⟩:=C;have q:l=[c]:=q;rw[q]
  rw[this,StrLaws.found_one,D];exact post.Lh R (.bool _)
end
section
theorem tK(e:h.get? a=Fb (pf w n)):IsTup h a w.toArray:=⟨_,e,rfl,n,rfl⟩
theorem Xc.keep(post:Xc B j E l H p g s Q)(R:Wb B j E l H g s.heap)(C:∀a o,s.heap.get? a=Fb o->h.get? a=Fb o)(T:Tb g v p)(t:Nat):
  Q v {s with heap:=h,toks:=t}:=
 post v _ g (R.heap λa o J e=>C a o e) (Ext.refl g) (Tr.heap s h t) T
theorem Wb.Y5(R:Wb B s E l d g h)(t:h.objs.size<=a)(z:H.get? a=Fb o)(C:∀b x,h.get? b=Fb x->H.get? b=Fb x):
  Wb B s E l d (Jc g a (.Mb o)) H:=
 have T:=R.hr.fresh t;have X:=Ext.Jc _ T
 ⟨Wb.baseExt R.base X.n,R.hr.Nl (.inl T) z λb x J J e=>C b x e,R.er.keep X.n λb x J e=>C b x e⟩
theorem Wb.T5(R:Wb B s E l H g h)(t:h.objs.size<=a)(z:V.get? a=Fb (Rc w n))(Q:bc g w c.toList)
  (C:∀b x,h.get? b=Fb x->V.get? b=Fb x):Wb B s E l (H++[(b,c)]) (Jc g a (.Xb H.length)) V:=
 have T:=R.hr.fresh t;have X:=Ext.Jc _ T
 ⟨Wb.baseExt R.base X.n,R.hr.oq (.inl T) z Q λb x J J e=>C b x e,R.er.keep X.n λb x J e=>C b x e⟩
theorem Xc.vL{mt:Bool}(post:Xc B j E l V p g s Q)(R:Wb B j E l d g s.heap)(e:Mine.td mt c d=(p,V))(U:bc g w c.toList)
  (H:s.heap.objs.size<=a)(z:h.get? a=Fb (Rc w n))(C:∀b x,s.heap.get? b=Fb x->h.get? b=Fb x)(t:Nat):
  Q (.ref a) {s with heap:=h,toks:=t}:=by
 have T:=R.hr.fresh H
 induction mt using Ld with
 |true=>
  obtain⟨rfl,rfl⟩:=ye e;exact post _ _ _ (R.T5 H z U C) (Ext.Jc _ T) (Tr.heap s h t) (.id (ze ..))
 |false=>
  obtain⟨rfl,rfl⟩:=ye e;exact post _ _ _ (R.Y5 H z C) (Ext.Jc _ T) (Tr.heap s h t) (.Mb (ze ..) rfl (U.ext (Ext.Jc _ T)))
theorem bc.un(h:bc g V (p::x)):∃v r,V=v::r/\Tb g v p/\bc g r x:=by
 refine Mc (bc.inv h) λJ J z=>we z λrfl H j=>?_;clear z;exact⟨_,_,rfl,H,j⟩
theorem bc.ni(h:bc g V []):V=[]:=by obtain rfl:=bc.inv h;rfl
theorem vals1(h:bc g V [p]):∃v,V=[v]/\Tb g v p:=by
 refine Mc h.un λv r z=>we z λrfl H h=>?_;clear z;refine Kt h.ni ?_;exact⟨v,rfl,H⟩
theorem vals2(h:bc g V [p,q]):∃v u,V=[v,u]/\Tb g v p/\Tb g u q:=by
 refine Mc h.un λv r z=>we z λrfl H h=>?_;clear z;refine(vals1 h).elim λu j=>?_;obtain rfl:=j.1;have k:=j.2;exact⟨v,u,rfl,H,k⟩
theorem vals3(h:bc g V [p,q,r]):∃v u x,V=[v,u,x]/\Tb g v p/\Tb g u q/\Tb g x r:=by
 refine Qc λG k=>?_;refine Mc h.un λv r z=>we z λrfl H h=>?_;clear z;obtain⟨u,x,rfl,j,Q⟩:=vals2 h;refine k ?_;exact⟨v,u,x,rfl,H,j,Q⟩
theorem DJ(h:Fm c=Fb l):c.toList=l.map .int:=by
 induction c using Cell.casesOn with
 |«ints»=>refine lg h ?_;rfl|Lb k=>induction k using xc with
  |nil=>refine lg h ?_;rfl|cons=>exact nn h
 |_=>exact nn h
theorem KI(h:nj c=Fb l):c.toList=l.map .str:=by
 induction c using Cell.casesOn with
 |«strs»=>refine lg h ?_;rfl|Lb k=>induction k using xc with
  |nil=>refine lg h ?_;rfl|cons=>exact nn h
 |_=>exact nn h
theorem YH{l:da}(h:∀j(s:j<l.length),val j=l[j]):∀n,n<=l.length->preSum val n=(l.take n).sum
 |0,_=>by simp[preSum]
 |n+1,H=>by
  have I:=YH h n (by exact Df ‹_›);have:preSum val (n+1)=preSum val n+val n:=rfl;have q:l.take (n+1)=l.take n++[l[n]]:=by refine List.take_add_one.trans ?_;rw[De (by lia)];rfl
  refine this.trans ?_;rw[I,h n (by exact H),q,List.sum_append];simp
def Ku(w:xd):Prop:=∀(A:Dd)(E:ja)(s:Vb)(g:Gh)(H:Hp)(L:Ub)(y:ia)(n:Nat)(l z:List PV)(Q:ja),A.handled=Gb->A.units+100<9900->
 tc s.heap g H->s.heap.get? L=Fb (Rc y n)->bc g y l->2<=l.length->l.length<=4->Ao l=Fb z->
 (∀a o N h t,s.heap.objs.size<=a->h.get? a=Fb (Rc o N)->bc g o z->(∀b x,s.heap.get? b=Fb x->h.get? b=Fb x)->Q (.ref a) {s with heap:=h,toks:=t})->
 Pb (Qb pw w) A (call (.builtin "sorted") [.ref L]) Q E s
def Hv(w:xd):Prop:=∀(A:Dd)(E:ja)(s:Vb)(x:Str)(u:Tok)(c:Nat)(Q:ja),A.handled=Gb->x.cps.toList=[c]->48<=c->c<=57->
 (∀t T,Q (.int ((c:Int)-48) t) {s with toks:=T})->Pb (Qb pw w) A (call (.type "int") [.str x u]) Q E s
theorem YS:∀n:Nat,n<1000->(Kb (toString (n:Int))).cps.toList=Ju 6 n:=by decide+kernel
theorem FJ:∀{l:List PV}{k:da},allInts l=Fb k->k.map PV.int=l
 |[],_,h=>by refine lg h ?_;rfl
 |v::r,k,h=>by
  induction v using PV.casesOn with
  |int i=>
   obtain⟨G,H,rfl⟩:=Option.map_eq_some_iff.mp (show(allInts r).map (i::·)=Fb k from h);refine List.map_cons.trans ?_;rw[FJ H]
  |_=>exact nn h
theorem iJ:∀{l:List PV}{k:ba},allStrs l=Fb k->k.map PV.str=l
 |[],_,h=>by refine lg h ?_;rfl
 |v::r,k,h=>by
  induction v using PV.casesOn with
  |str i=>
   obtain⟨G,H,rfl⟩:=Option.map_eq_some_iff.mp (show(allStrs r).map (i::·)=Fb k from h);refine List.map_cons.trans ?_;rw[iJ H]
  |_=>exact nn h
theorem zJ(l:List PV):(Rg l).toList=l:=by
 induction l using xc with
 |nil=>rfl|cons v r=>
  unfold Rg
  cases h:allInts (v::r) with
  |some k=>exact FJ h|none=>cases H:allStrs (v::r) with
   |some k=>exact iJ H|none=>rfl
noncomputable def hN(h:Hp)(f:Cell->Rm (PV×Hp))(o:Option Cell):Rm (PV×Hp):=match o with
 |some c=>f c|none=>Gb
theorem Vx(e:hN hp f o=Fb (r,Hb)):∃c,o=Fb c/\f c=Fb (r,Hb):=by
 induction o using Wd with
 |none=>exact nn e|some c=>exact⟨c,rfl,e⟩
def SE(h:Hp)(r:PV×Hp)(V:List PV):Prop:=∃v n,V=[v]/\n<=1000000/\r=(.int (n:Nat),h)/\((∃x,v=.str x/\n=x.length)\/(∃T,v=.Sb T/\n=T.length)\/∃c,cellAt v h=Fb c/\n=c.len)
theorem SE.c(H:cellAt v h=o)(e:hN h (λc=>Fb ((.int c.len,h),decide (c.len<=ic))) o=Fb (r,Hb)):SE h r [v]:=by
 refine(Vx e).elim λc z=>z.elim λA j=>?_;refine(Ae j).elim λE p=>?_;exact⟨v,c.len,rfl,of_decide_eq_true p,E.symm,.inr (.inr ⟨c,H.trans A,rfl⟩)⟩
theorem SY{mt:Bool}(e:sg .len V mt h=Fb (r,Hb)):SE h r V:=by
 induction V using xc with
 |nil=>exact nn e|cons v l=>induction l using xc with
  |nil=>induction v using PV.casesOn with
   |str x=>refine(Ae e).elim λE o=>?_;exact⟨_,x.length,rfl,of_decide_eq_true o,E.symm,.inl ⟨x,rfl,rfl⟩⟩|Sb x=>refine(Ae e).elim λE o=>?_;exact⟨_,x.length,rfl,of_decide_eq_true o,E.symm,.inr (.inl ⟨x,rfl,rfl⟩)⟩|_=>exact .c rfl e
  |cons=>induction v using PV.casesOn<;>exact nn e
theorem W6{mt:Bool}(R:Wb B j T l d g s.heap)(u:bc g C D)(e:sg .len D mt d=Fb ((p,U),Hb))(post:Xc B j T l U p g s Q):Pb (Qb pw w) A (call (ll .len) C) Q E s:=by
 refine Qc λm V=>?_;obtain⟨v,n,rfl,O,G,h⟩:=SY e;injection G with I h_2;subst I h_2;obtain⟨a,rfl,H⟩:=vals1 u;have q:∀t k,Q (.int (n:Nat) t) {s with toks:=k}:=λt k=>post.here R (.int _ _) k;rcases h with⟨x,rfl,rfl⟩|⟨Y,rfl,rfl⟩|⟨c,f,rfl⟩
 ·obtain⟨y,t,rfl,b⟩:=wi H
  refine V ?_;refine P.len_str (by rw[bl b];lia) ?_;rw[bl b];exact q _ _
 ·obtain⟨K,K,K,rfl,J,H⟩:=Tb.inv H
  have z:=H.length;refine V ?_;refine len_tuple (tK (R.hr.Mb _ _ J)) (by rw[Cf];lia) ?_;rw[Cf,z];exact q _ _
 ·obtain⟨o,L,k,rfl,z,H⟩:=Vu R H f
  have N:L.length=c.len:=by rw[Cell.len_eq,H.length]
  refine V ?_;refine call_len_list (rf z) (by rw[Cf];lia) ?_;rw[Cf,N];exact q _ _
theorem AY{mt:Bool}(e:sg .min V mt h=Fb (r,Hb)):∃x y,V=[.int x,.int y]/\r=(.int (if y<x then y else x),h):=by
 cases V with
 |nil=>exact nn e|cons v l=>induction v using PV.casesOn with
  |int x=>induction l using xc with
   |nil=>exact nn e|cons v l=>induction v using PV.casesOn with
    |int y=>induction l using xc with
     |nil=>exact⟨x,y,rfl,Rm.Gd e⟩|cons=>exact nn e
    |_=>exact nn e
  |_=>exact nn e
theorem bI{f:da->Rm (PV×Hp)}(e:(match Fm c with|some l=>f l|none=>Gb)=Fb (r,Hb)):∃l,Fm c=Fb l/\f l=Fb (r,Hb):=by
 cases h:Fm c with
 |none=>rw[h] at e;exact nn e|some l=>rw[h] at e;exact⟨l,rfl,e⟩
theorem kZ{mt:Bool}(e:sg .sum V mt h=Fb (r,Hb)):∃v c l,V=[v]/\cellAt v h=Fb c/\Fm c=Fb l/\r=(.int l.sum,h):=by
 induction V using xc with
 |nil=>exact nn e|cons v k=>induction k using xc with
  |cons=>exact nn e|nil=>
   obtain⟨c,H,j⟩:=Vx (hp:=h) e;obtain⟨l,Q,b⟩:=bI j;exact⟨v,c,l,rfl,H,Q,(Ae b).1.symm⟩
theorem G6{mt:Bool}(J:Cc d A)(R:Wb B k U L f g s.heap)(u:bc g N V)(e:sg .sum V mt f=Fb ((m,r),Hb))(post:Xc B k U L r m g s Q):Pb (Qb pw w) A (call (ll .sum) N) Q E s:=by
 refine Qc λGG kk=>?_;obtain⟨v,c,l,rfl,hc,h,z⟩:=kZ e;obtain⟨rfl,rfl⟩:=ye z;obtain⟨a,rfl,H⟩:=vals1 u;obtain⟨la,C,n,rfl,D,H⟩:=Vu R H hc;rw[DJ h] at H;have hlen:C.length=l.length:=by rw[H.length,Uc]
 have lt:=Heap.lt_size D;refine kk ?_;refine call_sum_walkAnyS (au (rf D) ?_);refine⟨_,_,_,_,_,_,_,λj=>l.getD j 0,rfl,(Walks.list (A:=A.in1) J.hand s.heap.objs.size la (dm lt) C.toArray).toS,
  ⟨⟨_,Heap.get?_push_size _ rfl,rfl,rfl⟩,(rf (Heap.get?_push_of_some _ D))⟩,?_,?_,?_⟩
 ·intro b O
  rw[Heap.size_push];rcases List.mem_cons.mp O with rfl|O
  ·exact Af _
  ·rw[List.mem_singleton.mp O];exact jo lt
 ·intro i v y
  replace y:=(oo).symm.trans y;have h:=(List.getElem?_eq_some_iff.mp y).1;obtain⟨p,z,r1⟩:=H.DO h;have G:=hlen▸h;rw[bg,De G] at z;obtain rfl:=jc z;obtain⟨t,r1⟩:=Hm r1;rw[De h,r1] at y;exact⟨t,by refine(jc y).symm.trans ?_;show yG l[i] t=.int (l.getD i 0) t;rw[Mg,De G];rfl⟩
 ·intro Y t' T
  have:preSum (λj=>l.getD j 0) C.toArray.size=l.sum:=by
   rw[Cf,hlen,YH (λj hj=>by refine(Mg).trans ?_;rw[De hj];rfl) l.length (Ed _),Ww]
  rw[this];refine post _ _ g (R.heap λa o I e=>T.heap a o (λq=>?_) (Heap.get?_push_of_some _ e)) (Ext.refl g) ⟨T.os,λi x hx=>?_,λO=>?_⟩ (.int _ _)
  ·rw[List.mem_singleton.mp q] at I;exact I R.fresh
  ·rw[show Y.gens=s.gens from T.gens];exact hx
  ·rw[show Y.gens=s.gens from T.gens];exact O
def m_(h:Hp)(r:PV×Hp)(V:List PV):Prop:=(∃a,V=[.int a]/\r=(.ag 0 a 1,h))\/(∃a b,V=[.int a,.int b]/\r=(.ag a b 1,h))\/∃a b c,V=[.int a,.int b,.int c]/\r=(.ag a b c,h)/\vA (b-a) c=Ib/\c≠0
theorem DY{mt:Bool}(e:sg .range V mt h=Fb (r,Hb)):m_ h r V:=by
 cases V with
 |nil=>exact nn e|cons v l=>induction v using PV.casesOn with
  |int a=>cases l with
   |nil=>exact .inl ⟨a,rfl,Rm.Gd e⟩|cons v l=>induction v using PV.casesOn with
    |int b=>induction l using xc with
     |nil=>exact .inr (.inl ⟨a,b,rfl,Rm.Gd e⟩)|cons v l=>induction v using PV.casesOn with
      |int c=>induction l using xc with
       |nil=>
        obtain⟨x,E⟩:=Ae e;rw[Zc,bn] at E;exact .inr (.inr ⟨a,b,c,rfl,x.symm,E.1,of_decide_eq_true E.2⟩)
       |cons=>exact nn e
      |_=>exact nn e
    |_=>exact nn e
  |_=>exact nn e
theorem J6{mt:Bool}(R:Wb B k T l d g s.heap)(H:bc g z V)(e:sg .range V mt d=Fb ((p,U),Hb))(post:Xc B k T l U p g s Q):Pb (Qb pw w) A (call (ll .range) z) Q E s:=by
 rcases DY e with⟨a,rfl,y⟩|⟨a,b,rfl,y⟩|⟨a,b,c,rfl,y,C,m⟩<;>obtain⟨rfl,rfl⟩:=ye y
 ·refine el H λv h=>?_
  refine yh h λt=>?_;exact call_range_1 (post.Nl R rfl (.ag (ze ..)) _)
 ·refine KD H λv u h j=>?_
  refine yh h λt=>?_;refine yh j λY=>?_;exact call_range_2 (post.Nl R rfl (.ag (ze ..)) _)
 ·obtain⟨v,u,x,rfl,h,j,N⟩:=vals3 H
  refine yh h λt=>?_;refine yh j λY=>?_;refine yh N λf=>?_;exact call_range_3 m (post.Nl R rfl (.ag (ze ..)) s.toks) (.inl C)
theorem eW{mt:Bool}(e:sg .list V mt H=Fb (r,Hb)):∃lo h st,V=[.ag lo h st]/\Mine.td mt (.ints (Ih lo h st)) H=r/\Ym lo h st=Hb/\0<=Fi lo h st/\Fi lo h st<=1000000:=by
 induction V using xc with
 |nil=>exact nn e|cons v l=>induction v using PV.casesOn with
  |ag lo h st=>induction l using xc with
   |nil=>
    obtain⟨x,E⟩:=Ae e;rw[Zc,Zc] at E;exact⟨lo,h,st,rfl,x,E.1.1,of_decide_eq_true E.1.2,of_decide_eq_true E.2⟩
   |cons=>exact nn e
  |_=>exact nn e
variable{w:xd}{A:Dd}{E:ja}{s:Vb}{Zd:Vb}{B:Heap}{sc:Scope}{env:Env}{loc:Loc}{hp:Hp}{Ac:Hp}{g:Gh}{Mf:Gh}{pv:PV}{v:Value}{Q:ja}{d:Nat} in
theorem xK:∀(n:Nat)(l:ia)(f:Nat->Int),l.length=n->(∀j v,l[j]?=Fb v->∃t,v=yG (f j) t)->bc g l (((xe n).map f).map PV.int)
 |0,l,f,H,_=>by rw[List.length_eq_zero_iff.mp H];exact .nil
 |_+1,[],_,H,_=>nomatch H
 |n+1,v::r,f,H,h=>by
  rw[aaa,rh,rh];refine(h 0 v rfl).elim λt q=>?_;have:=xK n r (λj=>f (j+1)) (an H) (λj V x=>h (j+1) V x);rw[Yg] at this⊢;rw[Yg];exact .cons (q▸.int _ _) this
theorem G4{mt:Bool}(I:Cc d A)(R:Wb B sc env loc hp g s.heap)(t:bc g x V)(e:sg .list V mt hp=Fb ((pv,Ac),Hb))(post:Xc B sc env loc Ac pv g s Q):Pb (Qb pw w) A (call (ll .list) x) Q E s:=by
 refine Qc λl Y=>?_;obtain⟨lo,z,st,rfl,y,o,p,q⟩:=eW e;obtain⟨v,rfl,H⟩:=vals1 t;obtain⟨J,J,J,J,rfl,C⟩:=Tb.inv H;refine Y ?_;refine PySem.call_list_range I.hand (R.hr.Mb _ _ C) o (by exact(Xw ‹_›).symm) (by lia) λb T a f D U h=>?_;have G:=h.1;have h:=h.2;exact Xc.vL post R y (xK _ a.toList (λk=>lo+k*st) (by refine Array.length_toList.trans ?_;exact G) (λj v H=>h j v (by refine(baa).symm.trans ?_;exact H))) (Ed _) (show b.get? s.heap.objs.size=Fb (Rc a.toList f) from U) D T
theorem VY{mt:Bool}(e:sg .str V mt hp=Fb (r,Hb)):∃i,V=[.int i]/\r=(.str (Ju 6 i.toNat),hp)/\0<=i/\i<1000:=by
 induction V using xc with
 |nil=>exact nn e|cons v l=>induction v using PV.casesOn with
  |int i=>induction l using xc with
   |nil=>
    obtain⟨x,o⟩:=Ae e;rw[Zc] at o;exact⟨i,rfl,x.symm,of_decide_eq_true o.1,of_decide_eq_true o.2⟩
   |cons=>exact nn e
  |_=>exact nn e
theorem E1{mt:Bool}(e:sg .int V mt hp=Fb (r,Hb)):∃c,V=[.str [c]]/\r=(.int ((c:Int)-48),hp)/\48<=c/\c<=57:=by
 induction V using xc with
 |nil=>exact nn e|cons v l=>induction v using PV.casesOn with
  |str x=>induction x using xc with
   |nil=>exact nn e|cons c x=>induction x using xc with
    |nil=>induction l using xc with
     |nil=>
      obtain⟨y,o⟩:=Ae e;rw[Zc] at o;exact⟨c,rfl,y.symm,of_decide_eq_true o.1,of_decide_eq_true o.2⟩
     |cons=>exact nn e
    |cons=>exact nn e
  |_=>exact nn e
noncomputable def C8(mt:Bool)(hp:Hp)(n:Nat)(o:Option (List PV)):Rm (PV×Hp):=match o with
 |some l=>Fb (Mine.td mt (Rg l) hp,decide (2<=n)&&decide (n<=4))|none=>Gb
theorem PT{mt:Bool}(e:C8 mt hp n o=Fb (r,Hb)):∃l,o=Fb l/\Mine.td mt (Rg l) hp=r/\2<=n/\n<=4:=by
 induction o using Wd with
 |none=>exact nn e|some l=>
  refine(Ae e).elim λx p=>?_;rw[Zc] at p;exact⟨l,rfl,x,of_decide_eq_true p.1,of_decide_eq_true p.2⟩
theorem BS{mt:Bool}(e:sg .sorted V mt hp=Fb (r,Hb)):∃v c l,V=[v]/\cellAt v hp=Fb c/\Ao c.toList=Fb l/\Mine.td mt (Rg l) hp=r/\2<=c.len/\c.len<=4:=by
 induction V using xc with
 |nil=>exact nn e|cons v k=>induction k using xc with
  |cons=>exact nn e|nil=>
   obtain⟨c,h,H⟩:=Vx (hp:=hp) e;obtain⟨l,T,b⟩:=PT H;exact⟨v,c,l,rfl,h,T,b⟩
theorem MU{mt:Bool}(e:sg .type V mt hp=Fb (r,Hb)):∃x,V=[.str x]/\r=(.kc (.type "str"),hp):=by
 induction V using xc with
 |nil=>exact nn e|cons v l=>induction v using PV.casesOn with
  |str x=>induction l using xc with
   |nil=>exact⟨x,rfl,Rm.Gd e⟩|cons=>exact nn e
  |_=>exact nn e
theorem T4{mt:Bool}(U:Ku w)(G:Hv w)(I:Cc d A)(R:Wb B sc env loc hp g s.heap)(H:bc g D V)(e:sg p V mt hp=Fb ((pv,Ac),Hb))
  (post:Xc B sc env loc Ac pv g s Q):Pb (Qb pw w) A (call (ll p) D) Q E s:=by
 induction p using Rj.casesOn with
 |len=>exact W6 R H e post|min=>
  obtain⟨x,y,rfl,z⟩:=AY e;obtain⟨rfl,rfl⟩:=ye z;refine KD H λv u h k=>?_;refine yh h λt=>?_;refine yh k λt'=>?_;exact min_two_ints I.hand λY T J=>post.keep R J (by split<;>exact .int _ _) T
 |sum=>exact G6 I R H e post|range=>exact J6 R H e post|list=>exact G4 I R H e post|str=>
  obtain⟨i,rfl,z,C,j⟩:=VY e;obtain⟨rfl,rfl⟩:=ye z;refine el H λv h=>?_;refine yh h λt=>?_;have L:=(Xw C).symm;refine P.str_of_int ?_ (post.here R (.str ?_) _)
  ·have:i.natAbs.log2<20:=yI (by lia)
   exact dc ‹_› (by decide)
  ·conv=>lhs;rw[L]
   exact YS _ (by lia)
 |int=>
  obtain⟨c,rfl,z,C,j⟩:=E1 e;obtain⟨rfl,rfl⟩:=ye z;refine el H λv h=>?_;refine vStr h λy u b=>?_;exact G A E s _ _ _ Q I.hand b C j λt T=>post.here R (.int _ _) T
 |sorted=>
  obtain⟨v,c,l,rfl,f,N,z,C,j⟩:=BS e;refine el H λa h=>?_;refine Oo R h f λm O n o h=>?_;rw[Cell.len_eq] at C j;exact U A E s g hp m O n c.toList l Q I.hand (Nf (Bf (wl _ _) _) I.units) R.hr o h C j N λa ak n' Y t q r h5 h6=>Xc.vL post R z (by rw[zJ];exact h5) q r h6 t
 |type=>
  refine Qc λGG kk=>?_;obtain⟨x,rfl,z⟩:=MU e;obtain⟨rfl,rfl⟩:=ye z;obtain⟨v,rfl,h⟩:=vals1 H;obtain⟨y,t,rfl,K⟩:=wi h;refine kk ?_;exact call_type_of (Yw _ _ _) (by decide) (post.Lh R (.kc _))
 |zip=>exact nn e|enum=>exact nn e|headers=>exact nn e
end
noncomputable def Bv:Pe->PV->Option String
 |.append,_=>Fb "list"|.pop,_=>Fb "list"|.insert,_=>Fb "list"|.index,_=>Fb "list"|.count,_=>Fb "list"|.join,_=>Fb "str"|.split,_=>Fb "str"|.upper,_=>Fb "str"|.lower,_=>Fb "str"|_,_=>Gb
noncomputable def Py:Pe->String
 |.append=>"list.append"|.pop=>"list.pop"|.insert=>"list.insert"|.index=>"list.index"|.count=>"list.count"|.join=>"str.join"|.split=>"str.split"|.upper=>"str.upper"|.lower=>"str.lower"|_=>""
section
theorem Vr{h:Heap}(f:Array Value->Array Value)(H:h.get? a=Fb (Rc w n))(T:f w.toArray=ak.toArray):
  ∃N,(h.update a (dk f)).get? a=Fb (Rc ak N):=by
 refine⟨if(ak.toArray.size==w.toArray.size)=Hb then n else n+1,(Heap.get?_update_self _ H ?_).trans ?_⟩
 ·simp only [dk,Rc];rfl
 ·simp only [dk,Rc,T]
theorem Wb.upd(R:Wb B s E l d g h)(H:g a=.Xb i)(z:V.get? a=Fb (Rc w n))
  (Q:bc g w c.toList)(C:∀b x,b≠a->h.get? b=Fb x->V.get? b=Fb x):Wb B s E l (d.set i (b,c)) g V:=
 ⟨R.base,R.hr.n6 H z Q C,R.er.keep (Ext.refl g).n λx o e=>C x o (λq=>by obtain rfl:=q.symm;rw[H] at e;rcases e with e|⟨y,e⟩<;>injection e)⟩
theorem Xc.upd(post:Xc B j E l (h.set i (b,c)) p g s Q)(R:Wb B j E l h g s.heap)(f:Array Value->Array Value)
  (H:g a=.Xb i)(z:s.heap.get? a=Fb (Rc w n))(T:f w.toArray=o.toArray)(U:bc g o c.toList)(C:Tb g v p):Q v {s with heap:=s.heap.update a (dk f)}:=by
 refine(Vr f z T).elim λN k=>?_;exact post _ _ g (R.upd H k U λb x O e=>(Heap.get?_update_other _ _ (sh O)).trans e) (Ext.refl g) (Tr.heap s _ s.toks) C
theorem ls{s:Vb}(R:Wb B j T l H g s.heap)(D:g a=.Xb i)(y:H[i]?=Fb (b,c)):∃w n,s.heap.get? a=Fb (Rc w n)/\bc g w c.toList:=by
 refine Qc λG k=>?_;refine Md (R.hr.Xb a i D) λf C w n z=>we z λe E p=>?_;clear z;rw[y] at e;injection e with h;injection h with h h_2;subst h h_2;refine k ?_;exact⟨w,n,E,p⟩
theorem Nx(c:Cell)(v:PV):(c.push v).toList=c.toList++[v]:=by
 induction c using Cell.casesOn with
 |Lb l=>induction l using xc<;>induction v using PV.casesOn<;>rfl
 |_=>induction v using PV.casesOn<;>first|rfl|exact ej
theorem GH{α β:Type}(f:α->β):∀(l:List α)(k:Nat),(l.eraseIdx k).map f=(l.map f).eraseIdx k
 |[],_=>rfl|_::_,0=>rfl|x::r,k+1=>by rw[caa,rh,rh,caa,GH f r k]
theorem RR(c:Cell)(k:Nat):(c.Kj k).toList=c.toList.eraseIdx k:=by
 induction c using Cell.casesOn<;>simp[Cell.Kj,Cell.toList,GH]
theorem YR(c:Cell)(k:Nat)(v:PV):(c.Dg k v).toList=c.toList.take k++v::c.toList.drop k:=by
 induction c using Cell.casesOn<;>induction v using PV.casesOn<;>first|rfl|simp[Cell.Dg,Cell.toList,bu,Zw]
theorem sS(c:Cell)(k:Nat)(v:PV):(c.setAt k v).toList=c.toList.set k v:=by
 induction c using Cell.casesOn<;>induction v using PV.casesOn<;>first|rfl|exact List.map_set
theorem LI(h:Sf k n=Hb):seqIndex? k n=Fb (idx k n)/\idx k n<n:=by
 unfold Sf at h;simp only [Zc,decide_eq_true_eq] at h;unfold seqIndex? idx;obtain⟨H,j⟩:=h;refine⟨?_,by omega⟩;simp only [H,j,decide_true,Bool.and_self,if_true]
theorem tV(h:bc g w (l.map .str)):∃k:List (Str×Tok),w=Fh k/\k.map (λp=>p.1.cps.toList)=l:=by
 induction l generalizing w with
 |nil=>refine Zs h ?_;exact⟨[],rfl,rfl⟩|cons x r I=>
  refine Mc (bc.inv h) λJ J z=>we z λrfl h H=>?_;clear z;obtain⟨y,t,rfl,a⟩:=wi h;obtain⟨k,rfl,C⟩:=I H;exact⟨(y,t)::k,rfl,by refine List.map_cons.trans ?_;rw[C,a]⟩
theorem yW:bc g (Fh l) (l.map λp=>PV.str p.1.cps.toList):=by
 induction l with
 |nil=>exact .nil|cons p r I=>exact .cons (.str rfl) I
theorem zC(s:Str):∀l:List Str,(Txt.join s l).cps.toList=Qi s.cps.toList (l.map (·.cps.toList))
 |[]=>rfl|[x]=>rfl|x::y::r=>by
  have I:=zC s (y::r);have key:∀(r:List Str)(a b:fa),(List.foldl (λ(A:fa)(p:Str)=>A++s.cps++p.cps) (a++b) r)=a++(List.foldl (λ(A:fa)(p:Str)=>A++s.cps++p.cps) b r):=by
   intro r
   induction r with
   |nil=>intro a b;rfl|cons z r I=>intro a b;refine List.foldl_cons.trans ?_;rw[zA,<-I,xQ,xQ,xQ]
  show(List.foldl (λ(A:fa)(p:Str)=>A++s.cps++p.cps) (x.cps++s.cps++y.cps) r).toList=x.cps.toList++s.cps.toList++Qi s.cps.toList ((y::r).map (·.cps.toList));rw[<-I,key,uG,uG]
  rfl
section
inductive xg(mt:Bool)(hp:Hp):Pe->PV->List PV->PV×Hp->Prop
 |append{i:Nat}{v:PV}{c:Cell}(h:hp[i]?=Fb (Ib,c))(l:c.len+1<=1000000):xg mt hp .append (.id i) [v] (.none,hp.set i (Ib,c.push v))
 |QE{i:Nat}{c:Cell}(h:hp[i]?=Fb (Ib,c))(l:c.len<=1000000)(p:0<c.len):xg mt hp .pop (.id i) [] (c.getD (c.len-1),hp.set i (Ib,c.Kj (c.len-1)))
 |NE{i:Nat}{c:Cell}{k:Int}(h:hp[i]?=Fb (Ib,c))(l:c.len<=1000000)(p:Sf k c.len=Hb):xg mt hp .pop (.id i) [.int k] (c.getD (idx k c.len),hp.set i (Ib,c.Kj (idx k c.len)))
 |insert{i:Nat}{k:Int}{v:PV}{c:Cell}(h:hp[i]?=Fb (Ib,c))(p:0<=k)(q:k<=c.len)(l:c.len+1<=1000000):xg mt hp .insert (.id i) [.int k,v] (.none,hp.set i (Ib,c.Dg k.toNat v))
 |index{o:PV}{c:Cell}{x:Int}{l:da}(hc:cellAt o hp=Fb c)(hl:Fm c=Fb l)(hm:x∈l)(n:l.length<=1000000):xg mt hp .index o [.int x] (.int (l.idxOf x:Nat),hp)
 |count{o:PV}{c:Cell}{x:ca}{l:ba}(hc:cellAt o hp=Fb c)(hl:nj c=Fb l):xg mt hp .count o [.str x] (.int (l.filter (·==x)).length,hp)
 |join{MF:ca}{v:PV}{c:Cell}{l:ba}(hc:cellAt v hp=Fb c)(hl:nj c=Fb l)(n:(l.map (·.length)).sum+l.length*MF.length<=1000000):xg mt hp .join (.str MF) [v] (.str (Qi MF l),hp)
 |split{x y:ca}(n:x.length<=1000000)(k:(lf x y).length<=1000000)(e:y.isEmpty=Ib):xg mt hp .split (.str x) [.str y] (Mine.td mt (.strs (lf x y)) hp)
 |upper{x:ca}(h:∀c∈x,c<128)(n:x.length<=1000000):xg mt hp .upper (.str x) [] (.str (x.map up1),hp)
 |lower{x:ca}(h:∀c∈x,c<128)(n:x.length<=1000000):xg mt hp .lower (.str x) [] (.str (x.map lo1),hp)
noncomputable def G'(i:Nat)(f:Cell->Rm (PV×Hp))(o:Option (Bool×Cell)):Rm (PV×Hp):=match o with
 |some (Ib,c)=>f c|_=>Gb
theorem ey{R:Prop}(e:G' i f x=Fb (r,Hb))(k:∀c,x=Fb (Ib,c)->f c=Fb (r,Hb)->R):R:=by
 induction x using Wd with
 |none=>exact nn e|some q=>
  obtain⟨b,c⟩:=q
  induction b using Ld with
  |true=>exact nn e|false=>exact k c rfl e
theorem Zk{α:Type}{a c:α}{C:α->Prop}(h:(Fb (a,b):Rm α)=Fb (c,Hb))(k:b=Hb->C a):C c:=(Ae h).1▸k (Ae h).2
theorem vm{p q:Prop}[Decidable p][Decidable q](h:(decide p&&decide q)=Hb):p/\q:=have h:=(Zc _ _).mp h;⟨of_decide_eq_true h.1,of_decide_eq_true h.2⟩
theorem DS{mt:Bool}(e:Te P F .append o V mt h=Fb (r,Hb)):xg mt h .append o V r:=by
 induction o using PV.casesOn with
 |id i=>induction V using xc with
  |nil=>exact nn e|cons v l=>induction l using xc with
   |cons=>exact nn e|nil=>exact ey (i:=i) e λc H j=>Zk j λq=>.append H (of_decide_eq_true q)
 |_=>exact nn e
theorem YX{mt:Bool}(e:Te P F .pop o V mt a=Fb (r,Hb)):xg mt a .pop o V r:=by
 induction o using PV.casesOn with
 |id i=>induction V using xc with
  |nil=>exact ey (i:=i) e λc h H=>Zk H λq=>.QE h (vm q).2 (vm q).1|cons v l=>induction v using PV.casesOn with
   |int k=>induction l using xc with
    |cons=>exact nn e|nil=>exact ey (i:=i) e λc h H=>Zk H λq=>.NE h (of_decide_eq_true ((Zc _ _).mp q).2) ((Zc _ _).mp q).1
   |_=>exact nn e
 |_=>exact nn e
theorem LS{mt:Bool}(e:Te P F .insert o V mt h=Fb (r,Hb)):xg mt h .insert o V r:=by
 induction o using PV.casesOn with
 |id i=>induction V using xc with
  |nil=>exact nn e|cons x l=>induction x using PV.casesOn with
   |int k=>induction l using xc with
    |nil=>exact nn e|cons v l=>induction l using xc with
     |cons=>exact nn e|nil=>exact ey (i:=i) e λc H j=>Zk j λq=>have z:=(Zc _ _).mp q;.insert H (vm z.1).1 (vm z.1).2 (of_decide_eq_true z.2)
   |_=>exact nn e
 |_=>exact nn e
noncomputable def D_(h:Hp)(x:Option Cell)(V:List PV):Rm (PV×Hp):=match x,V with
 |some c,[.int x]=>match Fm c with
  |some l=>match decide (x∈l) with
   |true=>Fb ((.int (l.idxOf x),h),decide (l.length<=ic))|false=>Gb
  |none=>Gb
 |_,_=>Gb
theorem HX{mt:Bool}(b:cellAt o a=y)(e:D_ a y V=Fb (r,Hb)):xg mt a .index o V r:=by
 induction y using Wd with
 |none=>exact nn e|some c=>induction V using xc with
  |nil=>exact nn e|cons v k=>induction v using PV.casesOn with
   |int x=>induction k using xc with
    |cons=>exact nn e|nil=>
     refine(bI e).elim λl z=>?_;have h:=z.2
     cases H:decide (x∈l) with
     |false=>rw[H] at h;exact nn h|true=>
      rw[H] at h;exact Zk h λq=>.index b z.1 (of_decide_eq_true H) (of_decide_eq_true q)
   |_=>exact nn e
noncomputable def zO(h:Hp)(x:Option Cell)(V:List PV):Rm (PV×Hp):=match x,V with
 |some c,[.str x]=>match nj c with
  |some l=>Fb ((.int (l.filter (·==x)).length,h),decide (l.length<=ic))|none=>Gb
 |_,_=>Gb
theorem lI{f:ba->Rm (PV×Hp)}(e:(match nj c with|some l=>f l|none=>Gb)=Fb (r,Hb)):∃l,nj c=Fb l/\f l=Fb (r,Hb):=by
 cases h:nj c with
 |none=>rw[h] at e;exact nn e|some l=>rw[h] at e;exact⟨l,rfl,e⟩
theorem uV{mt:Bool}(H:cellAt o h=y)(e:zO h y V=Fb (r,Hb)):xg mt h .count o V r:=by
 induction y using Wd with
 |none=>exact nn e|some c=>induction V using xc with
  |nil=>exact nn e|cons v k=>induction v using PV.casesOn with
   |str x=>induction k using xc with
    |cons=>exact nn e|nil=>exact(lI e).elim λl z=>Zk z.2 λJ=>.count H z.1
   |_=>exact nn e
theorem QW{mt:Bool}(e:Te P F .join o V mt h=Fb (r,Hb)):xg mt h .join o V r:=by
 induction o using PV.casesOn with
 |str s=>induction V using xc with
  |nil=>exact nn e|cons v k=>induction k using xc with
   |cons=>exact nn e|nil=>exact(Vx (hp:=h) e).elim λc z=>(lI z.2).elim λl y=>Zk y.2 λq=>.join z.1 y.1 (of_decide_eq_true q)
 |_=>exact nn e
theorem RT{mt:Bool}(e:Te P F .split o V mt h=Fb (r,Hb)):xg mt h .split o V r:=by
 induction o using PV.casesOn with
 |str x=>induction V using xc with
  |nil=>exact nn e|cons v k=>induction v using PV.casesOn with
   |str y=>induction k using xc with
    |cons=>exact nn e|nil=>exact Zk e λq=>have z:=(Zc _ _).mp q;.split (vm z.1).1 (vm z.1).2 (bn _▸z.2)
   |_=>exact nn e
 |_=>exact nn e
theorem qy{x:ca}(q:(x.all (λc=>decide (c<128))&&decide (x.length<=ic))=Hb):(∀c∈x,c<128)/\x.length<=1000000:=
 have z:=(Zc _ _).mp q;⟨λc h=>of_decide_eq_true (List.all_eq_true.mp z.1 c h),of_decide_eq_true z.2⟩
theorem nU{mt:Bool}(e:Te P F .upper o V mt h=Fb (r,Hb)):xg mt h .upper o V r:=by
 induction o using PV.casesOn with
 |str x=>induction V using xc with
  |nil=>exact Zk e λq=>.upper (qy q).1 (qy q).2|cons=>exact nn e
 |_=>exact nn e
theorem gT{mt:Bool}(e:Te P F .lower o V mt h=Fb (r,Hb)):xg mt h .lower o V r:=by
 induction o using PV.casesOn with
 |str x=>induction V using xc with
  |nil=>exact Zk e λq=>.lower (qy q).1 (qy q).2|cons=>exact nn e
 |_=>exact nn e
theorem LJ{mt:Bool}(hT:Bv m o=Fb T)(e:Te P F m o V mt h=Fb (r,Hb)):xg mt h m o V r:=by
 induction m using Pe.casesOn with
 |append=>exact DS e|pop=>exact YX e|insert=>exact LS e|index=>exact HX rfl e|count=>exact uV rfl e|join=>exact QW e|split=>exact RT e|upper=>exact nU e|lower=>exact gT e|_=>exact nn hT
section
@[elab_as_elim] theorem Nq{C:Value->ca->Prop}(h:Tb g o (.str l))(k:∀x t,C (.str x t) x.cps.toList):C o l:=Mc h.inv λx t z=>z.1▸z.2▸k x t
@[elab_as_elim] theorem Yn{C:Value->Prop}(h:Tb g o (.id i))(k:∀a,g a=.Xb i->C (.ref a)):C o:=h.inv.elim λa z=>z.1▸k a z.2
@[elab_as_elim] theorem mN{C:ia->ba->Prop}(h:bc g a (l.map .str))(k:∀H:List (Str×Tok),C (Fh H) (H.map λp=>p.1.cps.toList)):C a l:=(tV h).elim λH z=>z.1▸z.2▸k H
theorem seq_fits{c:Cell}{w:ia}(H:w.length=c.len)(h:c.len<=1000000):w.toArray.size<=cm:=dc (H▸h) (by decide)
theorem aV(h:H[i]?=Fb (Ib,c))(l:c.len+1<=1000000)(R:Wb B j e L H g s.heap)(C:Tb g o (.id i))(t:bc g G [v])(post:Xc B j e L (H.set i (Ib,c.push v)) .none g s Q):Pb (Qb pw w) A (call (.builtin "list.append") (o::G)) Q E s:=by
 refine Yn C λa D=>el t λx N=>Mc (ls R D h) λy n z=>?_;have I:y.length=c.len:=by rw[Cell.len_eq,z.2.length]
 exact po PySem.F.slot_list_append ⟨_,z.1,rfl⟩ PySem.F.entry_list_append (PySem.F.args_list_append_2 _ _) (list_append a y.toArray n x (seq_fits I (bx l))) ⟨z.1,Xc.upd post R _ D z.1 (List.push_toArray _ _) (by rw[Nx];exact z.2.append (.cons N .nil)) .none⟩
theorem BL{c:Cell}(R:Wb B k e l h g s.heap)(H:g a=.Xb i)(x:s.heap.get? a=Fb (Rc w n))(T:bc g w c.toList)(A:w.length=c.len)(t:j<c.len)(post:Xc B k e l (h.set i (Ib,c.Kj j)) (c.getD j) g s Q)(C:Tb g y (c.getD j)):
  Q y {s with heap:=s.heap.update a (dk λU=>U.eraseIdxIfInBounds j)}:=by
 refine Xc.upd post R _ H x ?_ (by rw[RR];exact T.eraseIdx _) C;have:j<w.length:=A▸t;simp[this,Array.eraseIdxIfInBounds]
theorem K3(h:b[i]?=Fb (Ib,c))(l:c.len<=1000000)(p:0<c.len)(R:Wb B j e L b g s.heap)(I:Tb g o (.id i))(t:bc g x [])(post:Xc B j e L (b.set i (Ib,c.Kj (c.len-1))) (c.getD (c.len-1)) g s Q):Pb (Qb pw w) A (call (.builtin "list.pop") (o::x)) Q E s:=by
 rw[show x=[] from t.inv];refine Yn I λa D=>Mc (ls R D h) λC n z=>?_;have H:C.length=c.len:=by rw[Cell.len_eq,z.2.length]
 have G:c.len-1<c.len:=Nat.sub_lt p (by decide);refine(z.2.get (Cell.getD_eq G)).elim λy d=>?_;refine po PySem.F.slot_list_pop ⟨_,z.1,rfl⟩ PySem.F.entry_list_pop (PySem.F.args_list_pop_1 _) (MeetsSeq.list_pop_last a C.toArray n y (by rw[Cf,H,oo];exact d.1) (seq_fits H l)) ⟨z.1,?_⟩;have q:=BL R D z.1 z.2 H G post d.2;rwa[<-H] at q
theorem b5(h:Sf k n=Hb)(l:n<=1000000):zG k=Hb:=by
 unfold Sf at h;simp only [Zc,decide_eq_true_eq] at h;simp only [zG,Zc,decide_eq_true_eq]
 omega
theorem x3(h:b[i]?=Fb (Ib,c))(l:c.len<=1000000)(p:Sf k c.len=Hb)(R:Wb B j e L b g s.heap)(G:Tb g o (.id i))(u:bc g I [.int k])(post:Xc B j e L (b.set i (Ib,c.Kj (idx k c.len))) (c.getD (idx k c.len)) g s Q):Pb (Qb pw w) A (call (.builtin "list.pop") (o::I)) Q E s:=by
 refine Yn G λa D=>el u λx N=>yh N λt=>Mc (ls R D h) λC n z=>?_;have H:C.length=c.len:=by rw[Cell.len_eq,z.2.length]
 have q:=LI p;exact(z.2.get (Cell.getD_eq q.2)).elim λy d=>po PySem.F.slot_list_pop ⟨_,z.1,rfl⟩ PySem.F.entry_list_pop (PySem.F.args_list_pop_2 _ _) (MeetsSeq.list_pop_at a C.toArray n k _ (idx k c.len) y (b5 p l) (by rw[Cf,H];exact q.1) (by refine(oo).trans ?_;exact d.1) (seq_fits H l)) ⟨z.1,BL R D z.1 z.2 H q.2 post d.2⟩
theorem mX(h:H[i]?=Fb (Ib,c))(p:0<=k)(q:k<=c.len)(l:c.len+1<=1000000)(R:Wb B j e L H g s.heap)(I:Tb g o (.id i))(u:bc g J [.int k,v])(post:Xc B j e L (H.set i (Ib,c.Dg k.toNat v)) .none g s Q):Pb (Qb pw w) A (call (.builtin "list.insert") (o::J)) Q E s:=by
 refine Yn I λa D=>Mc (vals2 u) λy x z=>?_;rw[z.1];refine yh z.2.1 λt=>Mc (ls R D h) λC n y=>?_;have G:C.length=c.len:=by rw[Cell.len_eq,y.2.length]
 have N:¬(!zG k)=Hb:=by
  simp only [zG,bn,Bool.and_eq_false_iff,decide_eq_false_iff_not]
  lia
 refine po PySem.F.slot_list_insert ⟨_,y.1,rfl⟩ PySem.F.entry_list_insert (PySem.F.args_list_insert_3 _ _ _) (AutoSeq1.list_insert_list_int_val_1 a C.toArray n k _ x N (seq_fits G (bx l))) ⟨y.1,?_⟩;refine Xc.upd post R _ D y.1 ?_ (by rw[YR];exact(y.2.take _).append (.cons z.2.2 (y.2.drop _))) .none;have O:=cx (G▸Int.toNat_le.mpr q);simp only [Int.not_lt.mpr p,if_false,Cf,O];apply Array.toList_inj.mp;simp[yQ];exact AG (by rw[ex];exact Ed _)
theorem W1(f:cellAt o e=Fb c)(I:Fm c=Fb l)(U:x∈l)(r:l.length<=1000000)(R:Wb B k V L e g s.heap)(J:Tb g O o)(N:bc g Y [.int x])(post:Xc B k V L e (.int (l.idxOf x:Nat)) g s Q):Pb (Qb pw w) A (call (.builtin "list.index") (O::Y)) Q E s:=by
 refine Oo R J f λm C n D T=>el N λy b=>yh b λt=>?_;rw[DJ I] at T;have H:C.length=l.length:=by rw[T.length,Uc]
 have u:=H▸List.idxOf_lt_length_iff.mpr U;have d:∀j(h:j<C.length),∃t,C[j]=yG (l[j]'(H▸h)) t:=λj h=>by
  obtain⟨p,G,r1⟩:=T.DO h;rw[bg,De (H▸h)] at G;obtain rfl:=jc G;exact Hm r1
 refine po PySem.F.slot_list_index ⟨_,D,rfl⟩ PySem.F.entry_list_index (PySem.F.args_list_index_2 _ _)
  (SeqAt.list_indexAt m C.toArray n Gb #[] (.int x t) (λv=>match v with|.int q _=>q==x|_=>Ib) (l.idxOf x) (by rw[Cf];exact u) (Int.lt_of_le_of_lt (Int.ofNat_le.mpr (dc (Df u) (dc (yl H) r))) (by decide)) ?_ ?_) ⟨D,λy b=>?_,post.here R (.int _ _) _⟩
 ·refine(d (l.idxOf x) u).elim λt q=>?_
  simp only [vG,q];simp[List.getElem_idxOf (H▸u)]
 ·intro j a UP
  rw[Cf] at a;refine(d j a).elim λt q=>?_;simp only [vG,q];exact ne_of_lt_idxOf UP _
 ·refine(List.getElem_of_mem (List.mem_toArray.mp b)).elim λj z=>z.elim λa z=>(d j a).elim λt' q=>?_
  rw[<-z,q];exact SeqAt.EqAt.int_int _ _ _ _
theorem kI(k:Str):∀z:List (Str×Tok),List.countP (λv=>match v with|.str q _=>q==k|_=>Ib) (Fh z)=((z.map λp=>p.1.cps.toList).filter (·==k.cps.toList)).length
 |[]=>rfl|p::r=>by
  have q:(p.1==k)=(p.1.cps.toList==k.cps.toList):=by
   refine(vu rfl rfl).trans ?_;rw[Bool.eq_iff_iff,decide_eq_true_eq,beq_iff_eq]
  show List.countP _ (xG p.1 p.2::Fh r)=_;refine List.countP_cons.trans ?_;rw[kI k r,rh,BG];simp only [q]
  split<;>rfl
theorem nZ(d:cellAt o b=Fb c)(z:nj c=Fb l)(R:Wb B j e L b g s.heap)(C:Tb g O o)(u:bc g D [.str x])(post:Xc B j e L b (.int (l.filter (·==x)).length) g s Q):Pb (Qb pw w) A (call (.builtin "list.count") (O::D)) Q E s:=by
 refine Oo R C d λf G n h H=>el u λy a=>?_;have H:=KI z▸H;revert post h;refine Nq a λk t=>mN H λI post h=>?_;refine po PySem.F.slot_list_count ⟨_,h,rfl⟩ PySem.F.entry_list_count (PySem.F.args_list_count_2 _ _) (SeqAt.list_countAt f (Fh I).toArray n Gb #[] (.str k t) (λv=>match v with|.str q _=>q==k|_=>Ib)) ⟨h,λy a=>?_,?_⟩
 ·refine(List.mem_map.mp (List.mem_toArray.mp a)).elim λp m=>?_
  refine Kt m.2 ?_;exact SeqAt.EqAt.str_str _ _ _ _
 ·rw[List.toList_toArray,kI]
  exact post.here R (.int _ _) _
theorem f5(d:cellAt v a=Fb c)(z:nj c=Fb l)(e:(l.map (·.length)).sum+l.length*T.length<=1000000)(R:Wb B j U L a g s.heap)(C:Tb g o (.str T))(u:bc g D [v])(post:Xc B j U L a (.str (Qi T l)) g s Q):Pb (Qb pw w) A (call (.builtin "str.join") (o::D)) Q E s:=by
 refine el u λy b=>Oo R b d λf G n h H=>?_;have H:=KI z▸H;revert post e h;refine Nq C λx t=>mN H λI e post h=>?_;refine SC.join (rf h) rfl (joinOk_of ?_) λV k=>post.here R (.str ?_) k
 ·rw[Yg,Uc] at e
  rw[Yg,Uc,bl rfl];exact dc e (by decide)
 ·rw[zC,Yg];rfl
theorem qX{mt:Bool}(J:Mine.td mt (.strs (lf x.cps.toList y.cps.toList)) a=r)(o:x.cps.toList.length<=1000000)(e:(lf x.cps.toList y.cps.toList).length<=1000000)(C:y.cps.toList.isEmpty=Ib)(R:Wb B j U l a g s.heap)(post:Xc B j U l r.2 r.1 g s Q):Pb (Qb pw w) A (call (.builtin "str.split") [.str x t,.str y u]) Q E s:=by
 have G:(y.length==0)=Ib:=by rw[bl rfl];cases h:y.cps.toList with
  |nil=>rw[h] at C;injection C|cons=>rfl
 have I:lf x.cps.toList y.cps.toList=(Rt x y).map (·.cps.toList):=rfl;have f:∀(z:List (Str×Tok))(D:Nat),z.map (·.1)=Rt x y->Q (.ref s.heap.objs.size) {s with heap:=s.heap.push (Rc (Fh z) 0),toks:=D}:=by
  intro z D L;refine Xc.td post R J ?_ D;show bc g (Fh z) ((lf x.cps.toList y.cps.toList).map .str);rw[I,<-L,Yg,Yg];exact yW
 rw[I,Uc] at e
 cases H:(decide (x.length<y.length)||decide (daa x<daa y))
 ·cases T:(AA x y 0 x.length (x.length+1)).isEmpty
  ·have V:Rt x y=CG x (AA x y 0 x.length (x.length+1)) y.length:=by
    unfold Rt;rw[H,T];rfl
   rw[V] at f e;refine po PySem.F.slot_str_split (Yw _ _ _) PySem.F.entry_str_split (PySem.F.args_str_split_2 _ _) (meets_str_split_sep x y t u H G T (by rw[bl rfl];exact dc o (by decide)) (dc e (by decide))) ?_;have q:=strsFrom_eq s.toks (CG x (AA x y 0 x.length (x.length+1)) y.length);have:=f (numbered s.toks (CG x (AA x y 0 x.length (x.length+1)) y.length)) (s.toks+(CG x (AA x y 0 x.length (x.length+1)) y.length).length) (numbered_texts _ _);rw[<-q] at this;exact this
  ·exact po PySem.F.slot_str_split (Yw _ _ _) PySem.F.entry_str_split (PySem.F.args_str_split_2 _ _) (meets_str_split_not_found x y t u H G T)
    (f [(x,t)] s.toks (by unfold Rt;rw[H,T];rfl))
 ·exact po PySem.F.slot_str_split (Yw _ _ _) PySem.F.entry_str_split (PySem.F.args_str_split_2 _ _) (meets_str_split_cannot_occur x y t u H)
   (f [(x,t)] s.toks (by unfold Rt;rw[H];rfl))
theorem Q0{mt:Bool}(e:x.length<=1000000)(p:(lf x y).length<=1000000)(q:y.isEmpty=Ib)(R:Wb B j T l h g s.heap)(H:Tb g o (.str x))(z:bc g a [.str y])(post:Xc B j T l (Mine.td mt (.strs (lf x y)) h).2 (Mine.td mt (.strs (lf x y)) h).1 g s Q):Pb (Qb pw w) A (call (.builtin "str.split") (o::a)) Q E s:=by
 refine el z λY b=>?_;revert e p q post;exact Nq H λx t=>Nq b λy u e p q post=>qX rfl e p q R post
theorem F1(h:∀c∈x,c<128)(n:x.length<=1000000)(R:Wb B j e l H g s.heap)(z:Tb g o (.str x))(u:bc g a [])(post:Xc B j e l H (.str (x.map up1)) g s Q):Pb (Qb pw w) A (call (.builtin "str.upper") (o::a)) Q E s:=by
 rw[show a=[] from u.inv];revert h n post;exact Nq z λx t h n post=>SCL.upper (by rw[bl rfl];exact dc n (by decide)) λJ=>post.here R (.str (by rw[upper_ascii h,Array.toList_map])) _
theorem n0(h:∀c∈x,c<128)(n:x.length<=1000000)(R:Wb B j e l H g s.heap)(z:Tb g o (.str x))(u:bc g a [])(post:Xc B j e l H (.str (x.map lo1)) g s Q):Pb (Qb pw w) A (call (.builtin "str.lower") (o::a)) Q E s:=by
 rw[show a=[] from u.inv];revert h n post;exact Nq z λx t h n post=>SCL.lower (by rw[bl rfl];exact dc n (by decide)) λJ=>post.here R (.str (by rw[lower_ascii h,Array.toList_map])) _
theorem RZ{mt:Bool}(q:xg mt a m o V r)(R:Wb B j T L a g s.heap)(H:Tb g O o)(t:bc g y V)(post:Xc B j T L r.2 r.1 g s Q):Pb (Qb pw w) A (call (.builtin (Py m)) (O::y)) Q E s:=by
 induction q using xg.casesOn with
 |append h l=>exact aV h l R H t post|QE h l p=>exact K3 h l p R H t post|NE h l p=>exact x3 h l p R H t post|insert h p q l=>exact mX h p q l R H t post|index d x U n=>exact W1 d x U n R H t post|count d x=>exact nZ d x R H t post|join d x n=>exact f5 d x n R H t post|split n k e=>exact Q0 n k e R H t post|upper h n=>exact F1 h n R H t post|lower h n=>exact n0 h n R H t post
theorem m4{mt:Bool}(hT:Bv m o=Fb T)(R:Wb B j U l h g s.heap)(H:Tb g O o)(t:bc g a V)
 (e:Te P F m o V mt h=Fb ((p,Y),Hb))(post:Xc B j U l Y p g s Q):Pb (Qb pw w) A (call (.builtin (Py m)) (O::a)) Q E s:=RZ (LJ hT e) R H t post
end
end
end
end
def jt(g G:Gh):Prop:=∀a,g a≠.free->g a≠.Hc->G a=g a
theorem Ext.i(x:Ext g G):jt g G:=λa h J=>x a h
theorem jt.at(x:jt g G)(h:g a=t)(H:t≠.free)(y:t≠.Hc):G a=t:=by
 exact(x a (by rw[h];exact H) (by rw[h];exact y)).trans h
theorem jt.v(x:jt g G):Tf g G:=⟨λJ J h=>x.at h (by intro h;injection h) (by intro h;injection h),λJ J h=>x.at h (by intro h;injection h) (by intro h;injection h)⟩
structure kq(w:xd)(d:Nat)(it:Value)(Nb:Expr)(fp:Ub->Prop)(TR:Vb->Vb->Prop)(St:Ic->Gh->Vb->Prop):Prop where
 own:∀i g s a,St i g s->fp a->∃o,g a=.it o
 ji:∀i g s g' s' hp Ac,St i g s->tc s.heap g hp->(∀a,fp a->g' a=g a)->Tf g g'->Tr s s'->tc s'.heap g' Ac->St i g' s'
 next:∀(A:Dd)(E:ja)(Qn:Vb->Prop)(Qs:ja)i g s hp r,Cc d A->St i g s->tc s.heap g hp->Cd i hp=Fb r->
  (∀s' g',tc s'.heap g' hp->Jd g g'->(∀a,g a≠.free->¬fp a->g' a=g a)->TR s s'->(∀a o,g a≠.free->¬fp a->s.heap.get? a=Fb o->s'.heap.get? a=Fb o)->
   match r with
   |none=>Qn s'|some (v,i')=>∀val,Tb g' val v->St i' g' s'->Qs val s')->
  Pb (Qb pw w) A (fj it) (λr Zd=>match r with
   |none=>Qn Zd|some val=>Pb (Qb pw w) A (cu Nb it val) (λJ jg=>Qs val jg) E Zd) E s
 self:∀(A:Dd)(E:ja)(Q:ja)i g s hp,Cc d A->St i g s->tc s.heap g hp->Q it s->Pb (Qb pw w) A (cn it) Q E s
structure Jh(w:xd)(d:Nat)(it:Value)(Nb:Expr)(TR:Vb->Vb->Prop)(St:(Ub->Prop)->Ic->Gh->Vb->Prop):Prop where
 own:∀f i g s a,St f i g s->f a->∃o,g a=.it o
 ji:∀f i g s g' s' hp Ac,St f i g s->tc s.heap g hp->(∀a,f a->g' a=g a)->Tf g g'->(∀a o,g a=.out o->g' a=.out o)->Tr s s'->tc s'.heap g' Ac->St f i g' s'
 next:∀(A:Dd)(E:ja)(Qn:Vb->Prop)(Qs:ja)f i g s hp r,Cc d A->St f i g s->tc s.heap g hp->Cd i hp=Fb r->
  (∀s' g',tc s'.heap g' hp->Jd g g'->(∀a,g a≠.free->¬f a->g' a=g a)->TR s s'->(∀a o,g a≠.free->¬f a->s.heap.get? a=Fb o->s'.heap.get? a=Fb o)->
   match r with
   |none=>Qn s'|some (v,i')=>∀val f',(∀a,f' a->f a\/g a=.free)->Tb g' val v->St f' i' g' s'->Qs val s')->
  Pb (Qb pw w) A (fj it) (λr Zd=>match r with
   |none=>Qn Zd|some val=>Pb (Qb pw w) A (cu Nb it val) (λJ jg=>Qs val jg) E Zd) E s
 self:∀(A:Dd)(E:ja)(Q:ja)f i g s hp,Cc d A->St f i g s->tc s.heap g hp->Q it s->Pb (Qb pw w) A (cn it) Q E s
theorem kq.up{w:xd}{d:Nat}{l:Value}{Nb:Expr}{U:Ub->Prop}{t:Vb->Vb->Prop}{St:Ic->Gh->Vb->Prop}(W:kq w d l Nb U t St):
  Jh w d l Nb t (λf i g s=>f=U/\St i g s) where
 own:=by rintro f i g s a ⟨rfl,h⟩ m;exact W.own i g s a h m
 ji:=by rintro f i g s G Y b o ⟨rfl,h⟩ H F X _ T j;exact⟨rfl,W.ji i g s G Y b o h H F X T j⟩
 next:=by
  intro A E y p f i g s b r I z H e k;obtain⟨rfl,h⟩:=z;refine W.next A E y p i g s b r I h H e λY G j u C hT B=>?_;have q:=k Y G j u C hT B
  induction r using Wd with
  |none=>exact q|some x=>exactλval V st=>q val f (λa D=>.inl D) V ⟨rfl,st⟩
 self:=by rintro A E Q f i g s b I ⟨rfl,h⟩ H q;exact W.self A E Q i g s b I h H q
theorem Jh.mz{St:(Ub->Prop)->Ic->Gh->Vb->Prop}(W:Jh w d I Nb V St)
  (h:St f i g s)(H:tc s.heap g b)(X:jt g G)(T:Tr s Y)(j:tc Y.heap G U):St f i G Y:=
 W.ji f i g s G Y b U h H (λa t=>by obtain⟨o,e⟩:=W.own f i g s a h t;rw[e];exact X.at e (by intro h;injection h) (by intro h;injection h)) X.v (λa o e=>X.at e (by intro h;injection h) (by intro h;injection h)) T j
section
noncomputable def MI(c:String):Bool:=!["enumerate","zip","dict_itemiterator","dict_reverseitemiterator","odict_iterator","itertools.zip_longest","itertools.pairwise"].contains c
theorem gB(z:s.heap.get? I=Fb o)(d:o.cls=.type c)(H:MI c=Hb)(h:Q () s):
  Pb (Qb pw w) A (cu Nb (.ref I) val) Q E s:=by
 have m:Pb (Qb pw w) A (do
   let(.ref r,.ref a):=((fm I,val):Value×Value)|return
   let o<-load r
   match o.cls,o.data with
   |.type n,.fields V=>
    if["enumerate","zip","dict_itemiterator","dict_reverseitemiterator","odict_iterator","itertools.zip_longest","itertools.pairwise"].contains n&&V[0]?==Fb (Ef a) then
     rule "for.unpacks-the-owned-tuple"
     updateField r 0 .none
   |_,_=>pure ():Sem Unit) Q E s:=by
  induction val using tp with
  |ref a=>
   refine Ob (wpAny_load z ?_);rw[d];generalize o.data=D
   induction D using BA with
   |fields V=>
    have H:=bn _▸H;exact Jj (by rw[H];exact Of) (vc h)
   |_=>exact vc h
  |_=>exact vc h
 induction Nb using pg with
 |Tuple=>exact m|List=>exact m|_=>exact vc h
theorem Qx:∀a,g a≠.free->¬(a=I)->Jc g I t a=g a:=λa J h=>pe g t h
variable{w:xd}{A:Dd}{E:ja}{s:Vb}{hp:Hp}{Ac:Hp}{g:Gh}{Q:ja}{d:Nat} in
theorem Jh.live{I a:Ub}{j:Nat}{Nb:Expr}:
  kq w d (.ref I) Nb (·=I) Tr (λi g s=>∃(k:Nat)(o:Obj),i=.Xb j k/\g I=.it o/\g a=.Xb j/\o.cls=.type "list_iterator"/\o.data=.fields #[.ref a,.int k 0]) where
 own:=by
  intro i g s b u UF;refine Mc u λk o z=>we z λK h K=>?_;clear z u;refine Jg UF ?_;exact⟨o,h⟩
 ji:=by
  intro i g s g' s' hp Ac B K F X K K;refine Qc λG V=>?_;refine Mc B λk o z=>qp z λD m T f h5=>?_;clear z B;refine V ?_;exact⟨k,o,D,(F I rfl).trans m,X.Xb _ _ T,f,h5⟩
 self:=by
  intro A E Q i g s hp K J H hQ;refine Qc λG V=>?_;refine Mc J λk o z=>qp z λD m T f h5=>?_;clear z J;refine V ?_;exact wpAny_pyIter_listiter (l:=a) (i:=k) ⟨o,H.it _ _ m,f,h5⟩ hQ
 next:=by
  intro A E Qn Qs i g s hp r hA vF H e h;refine Qc λG V=>?_;obtain⟨k,o,rfl,m,T,f,h5⟩:=vF;have hit:s.heap.IsListIter I a k:=⟨o,H.it _ _ m,f,h5⟩;have YF:a≠I:=λq=>by subst q;rw[m] at T;injection T
  refine Md (H.Xb _ _ T) λb c ws n z=>we z λe1 L N=>?_;clear z;have e:(match hp[j]? with
   |some c=>match decide (k<c.2.len) with
    |true=>Fb (Fb (c.2.getD k,Ic.Xb j (k+1)))|false=>Fb Gb
   |none=>Gb)=Fb r:=e
  rw[e1] at e;have e:(match decide (k<c.len) with
    |true=>Fb (Fb (c.getD k,Ic.Xb j (k+1)))|false=>Fb Gb)=Fb r:=e
  have hl:ws.length=c.len:=(bc.length N).trans (Cell.len_eq c).symm;have t:yf g I:=.inr ⟨o,m⟩
  by_cases C:k<c.len
  ·rw[decide_eq_true C] at e
   obtain rfl:=jc e;obtain⟨x,hx,rx⟩:=N.get (Cell.getD_eq C);refine V ?_;refine wpAny_pyNext_list_item hit (rf L) (x:=x) (by refine(oo).trans ?_;exact hx) λY U p=>?_;refine xl U λy z=>we z λq1 q2 q3=>?_;clear z U;have X:Jd g (Jc g I (.it y)):=Jd.Jc _ t;refine gB q1 q2 (by decide) ?_;refine h {s with heap:=Y} (Jc g I (.it y)) (H.Qo t q1 λb x O K e=>p.extBut b x O e) X Qx (Tr.heap s Y s.toks) (λb x K O e=>p.extBut b x O e) x (rx.nh X)
    ⟨k+1,y,rfl,ze ..,(by refine(pe g _ YF).trans ?_;exact T),q2,q3⟩
  ·rw[decide_eq_false C] at e
   obtain rfl:=jc e;refine V ?_;refine wpAny_pyNext_list_end hA.hand hit (rf L) (List.getElem?_toArray.trans (qo (hl▸oi C))) λY p=>?_;exact h {s with heap:=Y} (Jc g I .free) (H.drop t (λb x O K e=>p b x O e))
    (Jd.Jc _ t) Qx (Tr.heap s Y s.toks) (λb x K O e=>p b x O e)
variable{w:xd}{A:Dd}{E:ja}{s:Vb}{hp:Hp}{Ac:Hp}{g:Gh}{v:Value}{Q:ja}{d:Nat} in
set_option tactic.hygienic true in
theorem Jh.fixed{I:Ub}{Nb:Expr}{L:List Ub}{c:String}{P:Nat->Value->Prop}{m:Nat->Heap->Prop}{l:List PV}(hc:MI c=Hb)
  (W:∀A:Dd,A.handled=Gb->Walks pw w A I L [I] l.length P m)(hI:∀k h,m k h->∃o,h.get? I=Fb o/\o.cls=.type c)
  (Yl:∀(i:Nat)(h V:Heap),m i h->(∀b∈L,∀o,h.get? b=Fb o->V.get? b=Fb o)->m i V):
  kq w d (.ref I) Nb (·=I) Tr (λi g s=>∃(k:Nat)(o:Obj),i=.Lb (l.drop k)/\k<=l.length/\g I=.it o/\m k s.heap/\(∀b∈L,b≠I->∃x,g b=.Mb x)/\∀j v p,P j v->l[j]?=Fb p->Tb g v p) where
 own:=by
  intro i g s b vP UF;refine Qc λGG Y=>?_;refine Mc vP λk o z=>Yj z λK K h K=>?_;clear z vP;obtain rfl:=UF;refine Y ?_;exact⟨o,h⟩
 ji:=by
  intro i g s g' s' hp Ac KP H F X K H';refine Qc λGG Y=>?_;refine Mc KP λk o z=>lG z λh1 N T f h5 u=>?_;clear z KP;refine Y ?_;refine⟨k,o,h1,N,(F I rfl).trans T,?_,λb O D=>?_,λj v p hj hl=>(u j v p hj hl).xh X⟩
  ·refine Yl _ _ _ f λb O x e=>?_
   by_cases q:b=I
   ·obtain rfl:=q.symm
    have:=H.it _ _ T;rw[this] at e;obtain rfl:=jc e;exact H'.it _ _ ((F _ rfl).trans T)
   ·obtain⟨y,a⟩:=h5 b O q
    have:=H.Mb _ _ a;rw[this] at e;obtain rfl:=jc e;exact H'.Mb _ _ (X.Mb _ _ a)
  ·obtain⟨y,a⟩:=h5 b O D
   exact⟨y,X.Mb _ _ a⟩
 self:=by
  intro A E Q i g s hp J BP K hQ;refine Mc BP λk o z=>qp z λh1 N T f K=>?_;clear z BP;exact(W A J.hand).self k s Q E f hQ
 next:=by
  intro A E Qn Qs i g s hp r J vF H e h;refine Qc λGG Y=>?_;obtain⟨k,o,rfl,N,T,f,h5,u⟩:=vF;have G:yf g I:=.inr ⟨o,T⟩;have e:(match l.drop k with
   |[]=>Fb Gb|v::r=>Fb (Fb (v,Ic.Lb r)))=Fb r:=e
  cases U:l.drop k with
  |nil=>
   rw[U] at e;obtain rfl:=jc e;have C:k=l.length:=by
    have:=List.drop_eq_nil_iff.mp U;exact xA ‹_› ‹_›
   subst C;refine Y ?_;refine(W A J.hand).done s _ E f λV t EF=>?_;have B:∀b x,b≠I->s.heap.get? b=Fb x->V.get? b=Fb x:=λb x O e=>EF b x (by simpa using O) e;exact h {s with heap:=V,toks:=t} (Jc g I .free) (H.drop G (λb x O K e=>B b x O e))
    (Jd.Jc _ G) Qx (Tr.heap s V t) (λb x K O e=>B b x O e)
  |cons p r=>
   rw[U] at e;obtain rfl:=jc e;have C:k<l.length:=by
    apply fx;intro q;rw[List.drop_eq_nil_iff.mpr (by exact oi ‹_›)] at U;injection U
   have GP:=dn C;rw[U] at GP;injection GP with e1 e2;refine Y ?_;refine(W A J.hand).item k s _ E C f λv V t hP Xj EF=>?_;have B:∀b x,b≠I->s.heap.get? b=Fb x->V.get? b=Fb x:=λb x O e=>EF b x (by simpa using O) e;obtain⟨o',q1,q2⟩:=hI _ _ Xj;have X:Jd g (Jc g I (.it o')):=Jd.Jc _ G;refine gB q1 q2 hc ?_;refine h {s with heap:=V,toks:=t} (Jc g I (.it o')) (H.Qo G q1 λb x O K e=>B b x O e) X Qx (Tr.heap s V t) (λb x K O e=>B b x O e) v
    ((u k v p hP (by refine(De C).trans ?_;rw[e1])).nh X) ⟨k+1,o',by rw[e2],C,ze ..,Xj,λb O D=>?_,λj v p hj hl=>(u j v p hj hl).nh X⟩
   obtain⟨y,a⟩:=h5 b O D;exact⟨y,by refine(pe g _ D).trans ?_;exact a⟩
end
section
set_option backward.match.sparseCases false
noncomputable def wq:Td->Value
 |.oc p=>ll p|.fn _ v=>v|.val v=>v
structure Ml(B:Heap):Prop where
 at':∀x r,GT.kc.lookup x=Fb r->∃mg mb,B.Ns pi mg/\B.Ns qh mb/\(mg x=Fb (wq r)\/mg x=Gb/\mb x=Fb (wq r))
structure qd(w:xd)(B:Heap)(d:Nat)(rE:Ke):Prop where
 nc:∀mt loc hp,rE .nc mt loc hp=Gb
 non:∀mt loc hp r,rE .none mt loc hp=Fb (r,Hb)->r=(.none,hp)
 ok:∀k sc e mt loc hp pv Ac,rE (Zb GT k sc e) mt loc hp=Fb ((pv,Ac),Hb)->Yc w B d e sc loc hp pv Ac
 mc:∀k sc l op r p mt loc hp pv Ac,rE (Zb GT k sc (.Compare l [op] [r] p)) mt loc hp=Fb ((pv,Ac),Hb)->ar op r=Ib/\
  ∀(A:Dd)(env:Env)(g:Gh)(s:Vb)(E:ja)(Q:ja),Cc d A->Wb B sc env loc hp g s.heap->Xc B sc env loc Ac pv g s Q->
   Pb (Qb pw w) A (eval l env) (λa Zd=>Pb (Qb pw w) A (eval r env) (λb jg=>Pb (Qb pw w) A (ko op a b) Q E jg) E Zd) E s
def Tj(w:xd)(B:Heap)(d:Nat)(J:ka)(j:Scope)(l:Loc)(h:Hp)(p:List PV)(H:Hp):Prop:=
 ∀(A:Dd)(e:Env)(g:Gh)(s:Vb)(E:ja)(Q:ia->Vb->Prop)(T:Pos),Cc d A->Wb B j e l h g s.heap->
  rN B j e l H p g s Q->Pb (Qb pw w) A (spliced (Tk T (yj J e))) Q E s
section
theorem qm(h:∀x p,e≠.Starred x p):yj (e::r) E=(Ib,eval e E)::yj r E:=by
 induction e using pg<;>first|rfl|exact(h _ _ rfl).elim
theorem zm(I:qd w B d b){mt:Bool}:∀(L:ka){H:Hp}{Y:List PV}{T:Hp},Vd b mt l (L.map (Zb GT k j)) H=Fb ((Y,T),Hb)->Tj w B d L j l H Y T
 |[],H,Y,T,h=>by
  refine Oh h ?_;intro A U g s E Q V J R post;exact ir (post [] s g R (Ext.refl g) (Tr.refl s) .nil)
 |e::r,H,Y,T,h=>by
  obtain⟨v,C,m⟩:=Rm.bind_some h;obtain⟨vs,f,o⟩:=Rm.bind_some m;refine Oh o ?_;have D:∀x p,e≠.Starred x p:=λx p q=>by
   subst q;have:Zb GT k j (.Starred x p)=.nc:=by induction k using jf<;>rfl
   rw[this,I.nc] at C;exact nn C
  intro A U g s E Q V J R post;refine vp (I.ok _ _ _ _ _ _ _ _ C A U g s E _ J R λx N G O t u y=>?_) (qm D);refine zm I r f A U G N E _ V J O λxs z sd nf a mf Ui=>?_;exact post _ z sd nf (t.trans a) (u.trans mf) (.cons (y.ext a) Ui)
theorem uk(l:Ml B)(y:slotIn j.names x 0=Fb (i,.globalImplicit))(U:(x==("__debug__":Str))=Ib)(C:GT.kc.lookup x=Fb r)
  (R:Wb B j T L a g s.heap)(h:Q (wq r) s):Pb (Qb pw w) A (eval (.Name x p) T) Q E s:=by
 refine br ?_ U;rw[loadName_read R.er.kind (R.er.Yi x i y)];refine Mc (l.at' x r C) λY D z=>we z λN G H=>?_;clear z;have m:s.heap.Ns T.globals Y:=by rw[R.er.ph];exact Heap.Ns.Wh N λo e=>R.stays _ o e
 have t:s.heap.Ns T.builtins D:=by rw[R.er.blt];exact Heap.Ns.Wh G λo e=>R.stays _ o e
 rcases H with H|⟨H,b⟩
 ·exact Calls.loadGlobal_global m H h
 ·exact eaa m H t b h
theorem aS(l:Ml B){mt:Bool}(h:oj P F r (.kc v) mt L H=Fb ((p,T),Hb)):T=H/\Tb g v p:=by
 induction v using tp with
 |str=>refine Oh h ?_;exact⟨rfl,.str rfl⟩|_=>refine Oh h ?_;exact⟨rfl,.kc _⟩
theorem WZ{mt:Bool}(post:Xc B j E l h p g s Q)(R:Wb B j E l H g s.heap)(e:td mt c H=(p,h))(T:bc g w c.toList):
  Q (.ref s.heap.objs.size) {s with heap:=s.heap.push {cls:=.type "list",data:=.seq w.toArray}}:=
 Xc.td post R e T s.toks
theorem FH(l:List PV):(Rg l).toList=l:=zJ l
theorem DR(s:Expr)(o i:Value):subscripted s Ib o i=operate [i,o] (getItem o i)\/subscripted s Ib o i=operate [o,i] (getItem o i):=by
 induction s using pg with
 |Slice a b c p=>rcases c with J|c;exact .inl rfl;exact .inr rfl
 |_=>exact .inr rfl
theorem PH{M:Model}(h:Pb M A (eval value U) (λo J=>Pb M A (eval w U) (λi H=>∃T id,jx (.type T) "__getitem__"=pure (Fb (.builtin id))/\H.TypeIs o T/\
   Pb M A (getItem o i) (λr l=>Pb M A (letTemporaryGo value o r) (λK g=>Q r g) E l) E H) E J) E s):Pb M A (eval (.Subscript value w V) U) Q E s:=by
 rw[eval_Subscript];refine Ob (Yd h (λo J B=>Ob (Zg (Yd B (λi H y=>Ob (gj ?_)) λK K x=>x))) λK K x=>x);refine Mc y λT id z=>we z λC hT N=>?_;clear z y;have f:Pb M A (subscripted w Ib o i) (λr l=>Pb M A (letTemporaryGo value o r>>=λK=>pure r) Q E l) E H:=by
  have q:=
   Yd N (λr l p=>Ob (Yd p (λK K x=>vc x) λK K x=>x)) λK K x=>x
  rcases DR w o i with e|e<;>rw[e]<;>exact wpAny_operating q
 refine Ob ?_;refine Po (by exact(getitemInPython_of_ne hT.not_modules)) ?_;refine Ob (lx hT C ?_)
 first
  |exact vc (Ob f)
  |exact Ob (vc (Ob f))
  |exact Ob f
theorem o4{R:Prop}(e:pj x y H=Fb (r,Hb))(I:∀T v k,x=.Sb T->y=.int k->T[k.toNat]?=Fb v->r=(v,H)->0<=k->T.length<=1000000->R)
  (B:∀c k,cellAt x H=Fb c->y=.int k->r=(c.getD (idx k c.len),H)->Sf k c.len=Hb->c.len<=1000000->R):R:=by
 induction y using PV.casesOn with
 |int k=>_|_=>exact nn e
 have C:(match cellAt x H with
   |some c=>Fb ((c.getD (idx k c.len),H),Sf k c.len&&decide (c.len<=ic))|none=>Gb)=Fb (r,Hb)->R:=λe=>by
  cases h:cellAt x H with
  |none=>rw[h] at e;exact nn e|some c=>
   rw[h] at e;obtain⟨z,E⟩:=Ae e;rw[Zc] at E;exact B c k h rfl z.symm E.1 (of_decide_eq_true E.2)
 induction x using PV.casesOn with
 |Sb T=>
  have e:(match T[k.toNat]? with
   |some v=>Fb ((v,H),decide (0<=k)&&decide (T.length<=ic))|none=>Gb)=Fb (r,Hb):=e
  cases h:T[k.toNat]? with
  |none=>rw[h] at e;exact nn e|some v=>
   rw[h] at e;obtain⟨z,E⟩:=Ae e;rw[Zc] at E;exact I T v k rfl rfl h z.symm (of_decide_eq_true E.1) (of_decide_eq_true E.2)
 |_=>exact C e
def uz(w:xd)(A:Dd)(E:ja)(Q:ja)(s:Vb)(o i:Value):Prop:=∃T id,jx (.type T) "__getitem__"=pure (Fb (.builtin id))/\s.TypeIs o T/\Pb (Qb pw w) A (getItem o i) Q E s
theorem O4(R:Wb B l e L a g s.heap)(z:Tb g o (.Sb x))(D:Tb g i (.int k))(h:x[k.toNat]?=Fb p)(q:0<=k)(G:x.length<=1000000)(post:Xc B l e L a p g s Q):uz w A E Q s o i:=by
 refine(Tb.inv D).elim λt m=>?_;refine Jg m ?_;refine HO z λJ y n C H=>?_;obtain⟨v,r,N⟩:=H.get h;have O:k.toNat<y.length:=by rw[H.length];exact(List.getElem?_eq_some_iff.mp h).1
 refine⟨"tuple",_,F.slot_tuple_getitem.lookup,⟨_,R.hr.Mb _ _ C,rfl⟩,getItem_tuple (j:=k.toNat) (tK (R.hr.Mb _ _ C)) (by lia) (by rw[<-H.length] at G;lia) ?_ (by refine(oo).trans ?_;exact r) (post.Lh R N)⟩;rw[Cf];unfold seqIndex?;rw[if_neg (Int.not_lt.mpr q)];show(if(decide (0<=k)&&decide (k<y.length))=Hb then Fb k.toNat else Gb)=_;rw[decide_eq_true q,decide_eq_true (show k<y.length by lia)]
 rfl
theorem NZ(R:Wb B j U l a g s.heap)(z:Tb g o x)(y:Tb g i (.int k))(d:cellAt x a=Fb c)(e:Sf k c.len=Hb)(I:c.len<=1000000)(post:Xc B j U l a (c.getD (idx k c.len)) g s Q):uz w A E Q s o i:=by
 refine(Tb.inv y).elim λt m=>?_;refine Jg m ?_;refine Oo R z d λL D n h T=>?_;have G:D.length=c.len:=by rw[Cell.len_eq,T.length]
 obtain⟨v,H,N⟩:=T.get (Cell.getD_eq (LI e).2);have e:=(Zc _ _).mp e;have a1:=of_decide_eq_true e.1;have a2:=of_decide_eq_true e.2;refine⟨"list",_,F.slot_list_getitem.lookup,⟨_,h,rfl⟩,?_⟩;unfold idx at H
 by_cases C:k<0
 ·rw[if_pos C] at H a1 a2
  exact wpAny_getItem_list_neg (rf h) C (by rw[Cf];lia) (by lia) (by rw[Cf,G,oo];exact H) (post.Lh R N)
 ·rw[if_neg C] at H a1 a2
  exact wpAny_getItem_list (rf h) a1 (by lia) (by refine(oo).trans ?_;exact H) (post.Lh R N)
theorem I5(R:Wb B j U l b g s.heap)(z:Tb g o x)(H:Tb g i y)(e:pj x y b=Fb ((p,V),Hb))(post:Xc B j U l V p g s Q):
  ∃T id,jx (.type T) "__getitem__"=pure (Fb (.builtin id))/\s.TypeIs o T/\Pb (Qb pw w) A (getItem o i) Q E s:=by
 refine o4 e (λY v k N a h C q D=>?_) λc k d a C q D=>?_
 ·obtain⟨rfl,rfl⟩:=ye C
  rw[N] at z;rw[a] at H;exact O4 R z H h q D post
 ·obtain⟨rfl,rfl⟩:=ye C
  rw[a] at H;exact NZ R z H d q D post
theorem part_of(H:Tb g v p)(e:eg p=Fb o):∃q:Option (Int×Tok),v=partValue q/\q.map (·.1)=o/\IsPart v o:=by
 induction p using PV.casesOn with
 |none=>rw[<-jc e];exact⟨Gb,Tb.inv H,rfl,by rw[Tb.inv H];exact .none⟩|int i=>refine(Tb.inv H).elim λt h=>?_;rw[<-jc e,h];exact⟨Fb (i,t),rfl,rfl,.int _ _⟩|_=>exact nn e
theorem pW(h:bc g w l)(I:ca):bc g (I.filterMap (w[·]?)) (I.filterMap (l[·]?)):=by
 induction I with
 |nil=>exact .nil|cons i r d=>
  simp only [DG];have x:=h.length
  by_cases H:i<l.length
  ·refine(h.get (De H)).elim λv z=>?_
   have A:=z.1;have j:=z.2;rw[A,De H];exact .cons j d
  ·rw[qo (by lia),qo (by exact oi ‹_›)]
   exact d
theorem CS(c:Cell)(a b st:Option Int):(c.pick a b st).toList=pick c.toList a b st:=by
 have key:∀{α:Type}(f:α->PV)(l:List α),(pick l a b st).map f=pick (l.map f) a b st:=by
  intro α f l;unfold pick;rw[Uc,List.map_filterMap]
  congr 1
  funext i
  rw[bg]
 induction c using Cell.casesOn with
 |«ints» l=>exact key _ l|«strs» l=>exact key _ l|Lb l=>rfl
theorem E3{x l u st:PV}{mt:Bool}{R:Prop}(e:kl x l u st mt H=Fb (r,Hb))(k:∀t a b,x=.str t->eg l=Fb a->eg u=Fb b->eg st=Fb Gb->(.str (wA ⟨t.toArray⟩ a b).cps.toList,H)=r->t.length<=1000000->R)
  (B:∀c a b s,cellAt x H=Fb c->eg l=Fb a->eg u=Fb b->eg st=Fb s->td mt (c.pick a b s) H=r->c.len<=1000000->s≠Fb 0->R):R:=by
 unfold kl at e
 cases A:eg l with
 |none=>rw[A] at e;exact nn e|some a=>cases j:eg u with
  |none=>rw[A,j] at e;exact nn e|some b=>cases Q:eg st with
   |none=>rw[A,j,Q] at e;exact nn e|some s=>
    rw[A,j,Q] at e;have C:(match cellAt x H with
      |some c=>Fb (td mt (c.pick a b s) H,decide (c.len<=ic)&&decide (s≠Fb 0))|none=>Gb)=Fb (r,Hb)->R:=λe=>by
     cases h:cellAt x H with
     |none=>rw[h] at e;exact nn e|some c=>
      rw[h] at e;obtain⟨y,E⟩:=Ae e;rw[Zc] at E;exact B c a b s h A j Q y (of_decide_eq_true E.1) (of_decide_eq_true E.2)
    induction x using PV.casesOn with
    |str t=>
     rcases s with J|s
     ·obtain⟨y,E⟩:=Ae e
      exact k t a b rfl A j Q y (of_decide_eq_true E)
     ·exact nn e
    |_=>exact C e
section
theorem W2{st:PV}(R:Wb B j e L H g s.heap)(C:Tb g o (.str t))(x:Tb g V l)(m:Tb g Y u)(G:Tb g D st)(I:eg l=Fb a)(O:eg u=Fb b)(d:eg st=Fb Gb)(J:t.length<=1000000)
  (post:Xc B j e L H (.str (wA ⟨t.toArray⟩ a b).cps.toList) g s Q):uz w A E Q {s with heap:=s.heap.push {cls:=.type "slice",data:=.fields #[V,Y,D]}} o (.ref s.heap.objs.size):=by
 refine(part_of x I).elim λp z=>?_;have N:=z.1;have q:=z.2.1;have i1:=z.2.2;refine(part_of m O).elim λU z=>?_;have r:=z.1;have f:=z.2.1;have i2:=z.2.2;refine(part_of G d).elim λps z=>?_;have e5:=z.1;have e6:=z.2.1;have i3:=z.2.2;refine vStr C λy T h=>?_;obtain rfl:ps=Gb:=Option.map_eq_none_iff.mp e6;refine⟨"str",_,F.slot_str_getitem.lookup,Yw _ _ _,wpAny_getItem_str_slice (by rw[N,r,e5];exact⟨_,Heap.get?_push_size _ rfl,rfl,rfl⟩) rfl ?_⟩;have key:sliceMade y T p U Gb=if((1:Int)==1&&(CA a b 1 y.length).length==y.length)=Hb then .val (.str y T) else .str ⟨((CA a b 1 y.length).filterMap (y.cps[·]?)).toArray⟩:=by
  unfold sliceMade slicePicked;rw[q,f];rfl
 rw[key];refine post_val_or_str ⟨dc (Txt.slice_le y a b) (by rw[bl h];exact dc J (by decide)),λt' k=>?_⟩;exact(post.step (Ext.refl g) (Tr.heap s (s.heap.push {cls:=.type "slice",data:=.fields #[V,Y,D]}) s.toks)).here (R.push _) (.str (by rw[<-h];rfl)) k
theorem i4{st:PV}{mt:Bool}(R:Wb B j T L h g s.heap)(I:Tb g o x)(J:Tb g V l)(k:Tb g Y u)(N:Tb g D st)(O:cellAt x h=Fb c)(t:eg l=Fb a)(U:eg u=Fb b)(d:eg st=Fb C)(e:td mt (c.pick a b C) h=(p,f))(m:c.len<=1000000)(q:C≠Fb 0)
  (post:Xc B j T L f p g s Q):uz w A E Q {s with heap:=s.heap.push {cls:=.type "slice",data:=.fields #[V,Y,D]}} o (.ref s.heap.objs.size):=by
 refine(part_of J t).elim λK z=>?_;have i1:=z.2.2;refine(part_of k U).elim λK z=>?_;have i2:=z.2.2;refine(part_of N d).elim λK z=>?_;have i3:=z.2.2;have r:Wb B j T L h g (s.heap.push {cls:=.type "slice",data:=.fields #[V,Y,D]}):=R.push _;refine Oo (s:={s with heap:=s.heap.push {cls:=.type "slice",data:=.fields #[V,Y,D]}}) r I O λla y n G H=>?_;have hs:y.length=c.len:=by rw[Cell.len_eq,H.length]
 refine⟨"list",_,F.slot_list_getitem.lookup,⟨_,G,rfl⟩,wpAny_getItem_list_slice (rf G) (Heap.IsSliceOf.new ..) i1 i2 i3 q ?_ (by rw[Cf,hs];exact dc m (by decide))⟩;have eq:slicePick y.toArray a b C=((sliceRange (bo a b C y.length).1 (bo a b C y.length).2.1 (bo a b C y.length).2.2).filterMap (y[·]?)).toArray:=by
  unfold slicePick;rw[Cf];simp only [oo]
 rw[eq];refine Xc.td (s:={s with heap:=s.heap.push {cls:=.type "slice",data:=.fields #[V,Y,D]}}) (post.step (Ext.refl g) (Tr.heap s _ s.toks)) r e ?_ s.toks;rw[CS];unfold pick;rw[<-H.length];exact pW H _
end
theorem F5{x l u st:PV}{mt:Bool}(R:Wb B k U L f g s.heap)(h:Tb g o x)(z:Tb g V l)(j:Tb g Y u)(C:Tb g D st)
  (e:kl x l u st mt f=Fb ((p,m),Hb))(post:Xc B k U L m p g s Q)(G:sl=.ref s.heap.objs.size):
  ∃T id,jx (.type T) "__getitem__"=pure (Fb (.builtin id))/\Shared.TypeIs {s with heap:=s.heap.push {cls:=.type "slice",data:=.fields #[V,Y,D]}} o T/\
   Pb (Qb pw w) A (getItem o sl) Q E {s with heap:=s.heap.push {cls:=.type "slice",data:=.fields #[V,Y,D]}}:=by
 rw[G];refine E3 e (λt a b N H O d y I=>?_) λc a b s' J H O d y q r=>i4 R h z j C J H O d y q r post;obtain⟨rfl,rfl⟩:=ye y;rw[N] at h;exact W2 R h z j C H O d I post
end
def se(E:ka):Prop:=∀e∈E,∀x p,e≠.Starred x p
def zM(w:xd)(B:Heap)(d:Nat)(F:Dc)(k:Nat)(v:Value):Prop:=
 ∀(A:Dd)(E:ja)(Q:ja)(T:Env)(p:Pos)(e:ka)(j:Scope)(l:Loc)(h H:Hp)(Y:List PV)(mt:Bool)(f:PV)(U:Hp)(g:Gh)(s:Vb),
  Cc d A->Wb B j T l h g s.heap->Tj w B d e j l h Y H->se e->e.length<20->de F k Y mt H=Fb ((f,U),Hb)->Xc B j T l U f g s Q->
  Pb (Qb pw w) A (callWith p v [] (Tk p (yj e T)) []) Q E s
structure Rest(w:xd)(B:Heap)(d:Nat)(P:Lm)(F:Dc)(rE:Ke):Prop where
 kc:Ml B
 sorted:Ku w
 int:Hv w
 fn:∀x k v,GT.kc.lookup x=Fb (.fn k v)->zM w B d F k v
 qc:∀m k o as Dk pos sc loc hp x dd Hg Nd mt pv Ac,GT.qc.lookup m=Fb (.fn k)->Hh o=Hb->(Dk.endLine==pos.line)=Hb->as.length<20->Yc w B d o sc loc hp x dd->
  Tj w B d as sc loc dd Hg Nd->se as->Te P F (.fn k) x Hg mt Nd=Fb ((pv,Ac),Hb)->Yc w B d (.Call (.Attribute o m Dk) as [] pos) sc loc hp pv Ac
 Zh:∀m k o as kw kp v Dk pos sc loc hp i dd Hg Nd y Gv mt pv Ac,GT.qc.lookup m=Fb (.fn k)->Hh o=Hb->(Dk.endLine==pos.line)=Hb->as.length<20->kwFits m kw as=Hb->Hg.length=as.length->Yc w B d o sc loc hp (.rc i) dd->
  Tj w B d as sc loc dd Hg Nd->se as->Yc w B d v sc loc Nd y Gv->de F k (.rc i::Hg++[y]) mt Gv=Fb ((pv,Ac),Hb)->Yc w B d (.Call (.Attribute o m Dk) as [⟨Fb kw,v,kp⟩] pos) sc loc hp pv Ac
 pat:∀m k o as Dk pos sc loc hp x dd Hg Nd mt pv Ac,GT.qc.lookup m=Fb k->(k=.sub\/k=.search)->Hh o=Hb->(Dk.endLine==pos.line)=Hb->as.length<20->Yc w B d o sc loc hp x dd->
  Tj w B d as sc loc dd Hg Nd->se as->Te P F k x Hg mt Nd=Fb ((pv,Ac),Hb)->Yc w B d (.Call (.Attribute o m Dk) as [] pos) sc loc hp pv Ac
 attr:∀o pos sc loc hp i Ac,Hh o=Hb->Yc w B d o sc loc hp (.rc i) Ac->Yc w B d (.Attribute o oa pos) sc loc hp (.id i) Ac
 comp:∀k Sd Nb iter ifs scope pos sc mt loc hp pv Ac,oj P F rE (Zb GT (k+1) sc (.ListComp Sd [⟨Nb,iter,ifs,0⟩] scope pos)) mt loc hp=Fb ((pv,Ac),Hb)->
  Yc w B d (.ListComp Sd [⟨Nb,iter,ifs,0⟩] scope pos) sc loc hp pv Ac
 gen:∀x p x' p' a pos Nz k v sc loc hp y dd i i' xs mt pv Ac,GT.kc.lookup x=Fb (.oc .list)->slotIn sc.names x 0=Fb (i,.globalImplicit)->(x==("__debug__":Str))=Ib->
  GT.kc.lookup x'=Fb (.fn k v)->slotIn sc.names x' 0=Fb (i',.globalImplicit)->(x'==("__debug__":Str))=Ib->Yc w B d a sc loc hp y dd->se [a]->F.gen k [y]=Fb xs->
  xs.length<=ic->td mt (Rg xs) dd=(pv,Ac)->Yc w B d (.Call (.Name x p) [.Call (.Name x' p') [a] [] Nz] [] pos) sc loc hp pv Ac
section
theorem eJ(H:Tb g v x)(e:lq x=Fb b)(h:Q b s):Pb (Qb pw w) A (truthy v) Q E s:=by
 induction x using PV.casesOn with
 |bool=>rw[<-jc e] at h;obtain⟨J,rfl⟩:=Tb.inv H;exact zQ h|int i=>
  rw[<-jc e] at h;refine(Tb.inv H).elim λJ z=>?_;refine Jg z ?_;refine P.truthy_int ?_;rw[show(i !=0)=decide (i≠0) by rw[Bool.eq_iff_iff];simp];exact h
 |none=>rw[<-jc e] at h;obtain⟨J,rfl⟩:=Tb.inv H;exact PyProof.Rows.truthy_none h|_=>exact nn e
noncomputable def Ws:Expr->Bool
 |.UnaryOp .Not _ _=>Hb|.BoolOp _ _ _=>Hb|.IfExp _ _ _ _=>Hb|_=>Ib
noncomputable def CE(e:Expr):Bool:=Eh e.ctorIdx 15
noncomputable def eF(e:Expr):Bool:=Eh e.ctorIdx 9||Eh e.ctorIdx 10
theorem V6(h:eF e=Hb):Zb GT k s e=.nc:=by
 rcases k with J|k
 ·rfl
 induction e using pg with
 |SetComp=>rfl|DictComp=>rfl|_=>exact ff h
theorem GB(h:mq e=Ib)(H:Zb GT k s e≠.nc):jr e o l E=pure Ib:=by
 have b:eF e=Ib:=by
  cases q:eF e with
  |true=>exact(H (V6 q)).elim|false=>rfl
 clear H
 induction e using pg with
 |ListComp=>exact ff h.symm|SetComp=>exact ff b.symm|DictComp=>exact ff b.symm|_=>rfl
theorem nN{P:Expr->Prop}(h:mq e=Hb)(k:∀E g s q,P (.ListComp E g s q)):P e:=by
 induction e using pg with
 |ListComp E g s q=>exact k E g s q|_=>exact ff h
theorem oX{P:Expr->Prop}(h:Ws e=Hb)(n:∀y p,P (.UnaryOp .Not y p))(b:∀op V p,P (.BoolOp op V p))(i:∀t a c p,P (.IfExp t a c p)):P e:=by
 induction e using pg with
 |UnaryOp op y p=>induction op using AQ with
  |Not=>exact n y p|_=>exact ff h
 |BoolOp op V p=>exact b op V p|IfExp t a c p=>exact i t a c p|_=>exact ff h
theorem L4{P:Expr->Prop}(h:CE e=Hb)(H:Zb GT k sc e≠.nc)(one:∀l op r p,P (.Compare l [op] [r] p)):P e:=by
 induction e using pg with
 |Compare l o C p=>
  rcases k with J|k
  ·exact(H rfl).elim
  rcases o with J|⟨op,J|⟨J,J⟩⟩
  ·exact(H rfl).elim
  ·rcases C with J|⟨r,J|⟨J,J⟩⟩
   ·exact(H rfl).elim
   ·exact one l op r p
   ·exact(H rfl).elim
  ·exact(H rfl).elim
 |_=>exact ff h
theorem f1(h:Ws e=Ib)(H:CE e=Ib):isTrue e E w=(do let v<-w;standAt e.pos;holding [v] (truthy v)):=by
 induction e using pg with
 |UnaryOp op y p=>induction op using AQ with
  |Not=>exact ff h.symm|_=>rfl
 |BoolOp op V p=>exact ff h.symm|IfExp t a c p=>exact ff h.symm|Compare l o C p=>exact ff H.symm|_=>rfl
theorem v5(I:qd w B d a)(h:a (Zb GT k j e) Ib L H=Fb ((x,T),Hb))(D:lq x=Fb b)(y:Ws e=Ib):Mw w B d e j L H b T:=by
 cases f:CE e with
 |true=>
  refine L4 (sc:=j) (k:=k) (P:=λe=>a (Zb GT k j e) Ib L H=Fb ((x,T),Hb)->Mw w B d e j L H b T) f (λq=>?_) (λl op r p h A U g s E Q J R post=>?_) h
  ·rw[q,I.nc] at h;exact nn h
  ·exact(I.mc _ _ _ _ _ _ _ _ _ _ _ h).elim λm o=>BQ (o A U g s E _ J R λv N G O Y t V=>eJ V D (post N G O Y t)) m
 |false=>
  intro A U g s E Q J R post;exact wpAny_isTrue_value (I.ok _ _ _ _ _ _ _ _ h A U g s E _ J R λv N G O Y t V=>eJ V D (post N G O Y t)) (f1 y f)
def jF(w:xd)(B:Heap)(d:Nat)(s:Scope)(l:Loc)(r:Ke)(k:Nat):Prop:=∀(e:Expr){h:Hp}{b:Bool}{H:Hp},ud r l (qf GT k s e) h=Fb ((b,H),Hb)->Mw w B d e s l h b H
theorem RV(I:qd w B d r)(h:ud r l (.fc (Zb GT k s e)) a=Fb ((b,T),Hb))(A:Ws e=Ib):Mw w B d e s l a b T:=by
 obtain⟨v,Q,q⟩:=Rm.bind_some h
 cases H:lq v.1 with
 |none=>rw[H] at q;exact nn q|some f=>
  rw[H] at q;refine Oh q ?_;exact v5 I Q H A
theorem ZL(H:jF w B d j l f k)(I:Cc d A):∀(V:ka){a:Hp}{g:Gh}{s:Vb},LD f l (V.map (qf GT k j)) a=Fb ((b,U),Hb)->Wb B j e l a g s.heap->
  (∀Y G,Wb B j e l U G Y.heap->Ext g G->Tr s Y->m b Y)->Pb (Qb pw w) A (allTrue .And V e) m E s
 |[],a,g,s,h,R,post=>by
  revert post;refine Oh h λpost=>?_;exact wpAny_allTrue_And_nil (post s g R (Ext.refl g) (Tr.refl s))
 |x::r,a,g,s,h,R,post=>by
  obtain⟨⟨t,O⟩,q,Q⟩:=Rm.bind_some h;refine wpAny_allTrue_And_cons (H x q A e g s E _ I R λY G J X T=>?_);clear q h
  induction t using Ld with
  |true=>exact ZL H I r Q J λy o p L N=>post y o p (X.trans L) (T.trans N)|false=>
   revert post;refine Oh Q λpost=>?_;exact post Y G J X T
theorem YM(H:jF w B d j l f k)(I:Cc d A):∀(V:ka){a:Hp}{g:Gh}{s:Vb},kE f l (V.map (qf GT k j)) a=Fb ((b,U),Hb)->Wb B j e l a g s.heap->
  (∀Y G,Wb B j e l U G Y.heap->Ext g G->Tr s Y->m b Y)->Pb (Qb pw w) A (allTrue .Or V e) m E s
 |[],a,g,s,h,R,post=>by
  revert post;refine Oh h λpost=>?_;exact wpAny_allTrue_Or_nil (post s g R (Ext.refl g) (Tr.refl s))
 |x::r,a,g,s,h,R,post=>by
  obtain⟨⟨t,O⟩,q,Q⟩:=Rm.bind_some h;refine CQ (H x q A e g s E _ I R λY G J X T=>?_);clear q h
  induction t using Ld with
  |false=>exact YM H I r Q J λy o p L N=>post y o p (X.trans L) (T.trans N)|true=>
   revert post;refine Oh Q λpost=>?_;exact post Y G J X T
theorem w3(h:Ws e=Ib):qf GT (k+1) s e=.fc (Zb GT k s e):=by
 induction e using pg with
 |UnaryOp op y p=>induction op using AQ with
  |Not=>exact ff h.symm|_=>rfl
 |BoolOp op V p=>exact ff h.symm|IfExp t a c p=>exact ff h.symm|_=>rfl
theorem Zp(m:qd w B d r)(k:Nat):jF w B d j l r k:=by
 induction k with
 |zero=>exactλJ J J J=>nn|succ k I=>
  intro e f b T h
  cases D:Ws e with
  |false=>rw[w3 D] at h;exact RV m h D|true=>
   refine oX (P:=λe=>ud r l (qf GT (k+1) j e) f=Fb ((b,T),Hb)->Mw w B d e j l f b T) D (λy p h A U g s E Q H R post=>?_) (λop V p h A U g s E Q H R post=>wpAny_isTrue_BoolOp ?_) (λt a c p=>nn) h
   ·obtain⟨v,q,Y⟩:=Rm.bind_some (show Rm.bind (ud r l (qf GT k j y) f) (λv=>Rm.ret (!v.1,v.2))=_ from h)
    revert post;refine Oh Y λpost=>?_;exact PyProof.Rows.isTrue_not (I y q A U g s E _ H R post)
   ·induction op using BoolOp.casesOn with
    |And=>exact ZL I H V h R post|Or=>exact YM I H V h R post
end
section
theorem Cr(I:qd w B d b){mt:Bool}:∀(E:ka){a:Hp}{r:List PV×Hp},Vd b mt l (E.map (Zb GT k s)) a=Fb (r,Hb)->se E
 |[],_,_,_=>by intro e V;cases V
 |e::r,a,_,h=>by
  obtain⟨v,A,j⟩:=Rm.bind_some h;obtain⟨D,f,Q⟩:=Rm.bind_some j;intro x H;rcases List.mem_cons.mp H with rfl|H
  ·rintro y p rfl
   have:Zb GT k s (.Starred y p)=.nc:=by induction k using jf<;>rfl
   rw[this,I.nc] at A;exact nn A
  ·exact Cr I r f x H
theorem ik(h:se E):(Tk p (yj E T)).any (·.1)=Ib:=by
 induction E with
 |nil=>rfl|cons e r I=>
  rw[qm (h e Fd)];show(Ib||(Tk p (yj r T)).any (·.1))=Ib;refine(I λx H=>h x (Ee _ H)).trans ?_;rfl
theorem qu(h:se E):(Tk p (yj E T)).all (λx=>!x.1)=Hb:=by
 induction E with
 |nil=>rfl|cons e r I=>
  rw[qm (h e Fd)];show(Hb&&(Tk p (yj r T)).all (λx=>!x.1))=Hb;refine(I λx H=>h x (Ee _ H)).trans ?_;rfl
theorem gk(h:Tj w B d J j l a Hg Ac)(y:se J)(H:Cc d A)(R:Wb B j T l a g s.heap)
  (post:rN B j T l Ac Hg g s (λV Y=>Q ⟨V,[]⟩ Y)):Pb (Qb pw w) A (evalArgs f Hb (Tk p (yj J T)) []) Q E s:=by
 induction J using xc with
 |nil=>
  have q:=h A T g s E _ p H R post;unfold evalArgs;show Pb _ A (spliced []>>=_) Q E s;refine Ob (Yd q (λV Y b=>?_) λK K x=>x);refine Ob (vc ?_);refine Zg ?_;exact Ob (vc (Ob (vc (vc b))))
 |cons e r=>
  have q:=h A T g s E _ p H R post;rw[qm (y e Fd)] at q⊢;exact Calls.evalArgs_plain q
theorem MX{mt:Bool}(b:Ku w)(G:Hv w)(h:Tj w B d J j l k m q)(H:se J)(I:Cc d A)(R:Wb B j U l k g s.heap)
  (e:sg p m mt q=Fb ((o,r),Hb))(post:Xc B j U l r o g s Q):Pb (Qb pw w) A (callWith Y (ll p) [] (Tk Y (yj J U)) []) Q E s:=by
 have key:∀f:Value,Pb (Qb pw w) A (evalArgs f Hb (Tk Y (yj J U)) []) (λa L=>Pb (Qb pw w) A (call (ll p) ([]++a.pos) a.kw) Q E L) E s:=λf=>
  gk h H I R λD t u N X T V=>T4 b G I N V e (post.step X T)
 induction p using Rj.casesOn<;>first|exact DA (ik H) (key _)|exact PySem.callWith_type (ik H) (key _)|exact PyProof.Rows.callWith_type (ik H) (key _)|(injection e)
theorem yS(m:Pe)(o:PV)(T:String)(h:Bv m o=Fb T):PlainAttrs T/\typeOf (.builtin (Py m))=pure (.type "method_descriptor"):=by
 induction m using Pe.casesOn with
 |append=>refine lg h ?_;exact⟨EA,F.type_list_append⟩|pop=>refine lg h ?_;exact⟨EA,F.type_list_pop⟩|insert=>refine lg h ?_;exact⟨EA,F.type_list_insert⟩|index=>refine lg h ?_;exact⟨EA,F.type_list_index⟩|count=>refine lg h ?_;exact⟨EA,F.type_list_count⟩|join=>refine lg h ?_;exact⟨EG,F.type_str_join⟩|split=>refine lg h ?_;exact⟨EG,F.type_str_split⟩|upper=>refine lg h ?_;exact⟨EG,F.type_str_upper⟩|lower=>refine lg h ?_;exact⟨EG,F.type_str_lower⟩|sub=>exact nn h|search=>exact nn h|fn k=>exact nn h
noncomputable def AllP{β:Type}(P:Str->β->Prop):List (Str×β)->Prop
 |[]=>True|p::r=>P p.1 p.2/\AllP P r
theorem xC{β:Type}{P:Str->β->Prop}{b:β}:∀{l:List (Str×β)},AllP P l->l.lookup x=Fb b->P x b
 |[],_,h=>nn h|(y,c)::r,H,h=>by
  rw[FG] at h
  cases q:x==y with
  |true=>
   rw[q] at h;rw[eq_of_beq q,<-jc h];exact H.1
  |false=>rw[q] at h;exact xC H.2 h
def iE(m:Str)(k:Pe):Prop:=(∀j,k≠.fn j)->k≠.sub->k≠.search->∀o,∃T,Bv k o=Fb T/\Slot T m (Py k)
theorem kW:AllP iE GT.qc:=by
 have fn:∀{m j},iE m (.fn j):=λh=>(h _ rfl).elim;exact ek (λJ J J J=>⟨"list",rfl,F.slot_list_append⟩) (ek (λJ J J J=>⟨"list",rfl,F.slot_list_pop⟩) (ek (λJ J J J=>⟨"list",rfl,F.slot_list_insert⟩)
  (ek (λJ J J J=>⟨"list",rfl,F.slot_list_index⟩) (ek (λJ J J J=>⟨"list",rfl,F.slot_list_count⟩) (ek (λJ J J J=>⟨"str",rfl,F.slot_str_join⟩)
  (ek (λJ J J J=>⟨"str",rfl,F.slot_str_split⟩) (ek (λJ J J J=>⟨"str",rfl,F.slot_str_upper⟩) (ek (λJ J J J=>⟨"str",rfl,F.slot_str_lower⟩)
  (ek (λJ h=>(h rfl).elim) (ek (λJ J h=>(h rfl).elim) (ek fn (ek fn (ek fn (ek fn trivial))))))))))))))
theorem N0(h:GT.qc.lookup m=Fb k):iE m k:=xC kW h
theorem wo(h:Hh o=Hb):attributeBase o m e (eval o e)=eval o e:=by
 induction o using pg with
 |Call f a k p=>
  induction f using pg with
  |Name x q=>induction a using xc with
   |nil=>induction k using xc with
    |nil=>injection h|cons=>rfl
   |cons=>rfl
  |_=>rfl
 |_=>rfl
def zE(s:Vb)(o:Value)(T:String):Prop:=s.TypeIs o T/\∀a,o=.ref a->∃O,s.heap.get? a=Fb O/\O.dict=Gb
theorem o3(h:Tb g o (.str x)):zE s o "str":=Nq h λJ J=>⟨Yw _ _ _,λJ h=>by injection h⟩
theorem zD(R:Wb B j E l d g s.heap)(h:Tb g O o)(e:cellAt o d=Fb c):zE s O "list":=
 Oo R h e λJ J J H J=>⟨⟨_,H,rfl⟩,λJ h=>cr h▸⟨_,H,rfl⟩⟩
theorem cell_in(e:cellAt o a=Fb c)(H:∀i,o=.id i->∃c,d[i]?=Fb c):∃c,cellAt o d=Fb c:=by
 induction o using PV.casesOn with
 |id i=>exact(H i rfl).elim λc h=>⟨c.2,congrArg (·.map (·.2)) h⟩|Mb c=>exact⟨c,rfl⟩|_=>exact nn e
theorem iY{mt:Bool}(hT:Bv m o=Fb T)(R:Wb B j E l d g s.heap)(H:Tb g O o)
  (e:xg mt a m o V r)(x:∀i,o=.id i->∃c,d[i]?=Fb c):zE s O T:=by
 have Xb:=λi q=>(x i q).elim λc h=>zD R H (c:=c.2) (q▸congrArg (·.map (·.2)) h)
 induction e using xg.casesOn with
 |append=>exact jc hT▸Xb _ rfl|QE=>exact jc hT▸Xb _ rfl|NE=>exact jc hT▸Xb _ rfl|insert=>exact jc hT▸Xb _ rfl|index h=>exact(cell_in h x).elim λJ h=>jc hT▸zD R H h|count h=>exact(cell_in h x).elim λJ h=>jc hT▸zD R H h|_=>exact jc hT▸o3 H
theorem u8(H:tc h g d)(Q:Tb g v (.id i)):∃c,d[i]?=Fb c:=by
 refine xl (X8 Q) λa z=>ql z λrfl D=>?_;clear z;refine Md (H.Xb a i D) λb c J J z=>ql z λe J=>?_;clear z;exact⟨_,e⟩
theorem eV{mt:Bool}(Y:GT.qc.lookup m=Fb k)(C:∀j,k≠.fn j)(D:k≠.sub)(u:k≠.search)
  (O:Hh o=Hb)(y:(N.endLine==p.line)=Hb)(hlen:a.length<20)(z:Yc w B d o l L b x G)(I:Tj w B d a l L G J Nd)(h:se a)
  (e:Te P F k x J mt Nd=Fb ((pv,Ac),Hb)):Yc w B d (.Call (.Attribute o m N) a [] p) l L b pv Ac:=by
 intro A U g s E Q H R post;obtain⟨T,hT,O9⟩:=N0 Y C D u x;obtain⟨pa,ty⟩:=yS k x T hT;refine HG (wo O) ?_ y pa O9 ty (z A U g s E _ H R λov Zd Mf r Ek ig V=>?_)
 ·rw[qu h,kr,show(Uk p (Vk [] U)).all (λx=>x.1.isSome)=Hb from rfl,kr]
  exact decide_eq_true (by simp only [gm,DQ,if_true];exact dc ‹_› (by decide))
 ·have t:=iY hT r V (LJ hT e) (λi q=>by subst q;exact u8 r.hr V)
  refine⟨t.1,t.2,DA (ik h) (gk I h H r λvs s' g' R' f T' V'=>?_)⟩;exact m4 hT R' (V.ext f) V' e (post.step (Ek.trans f) (ig.trans T'))
end
section
inductive Zf(k:Nat)(sc:Scope):Expr->M->Prop
 |nc{e:Expr}:Zf k sc e .nc
 |none{a:Nat}{b:Pos}:Zf k sc (.Constant .none a b) .none
 |bool{v:Bool}{a:Nat}{b:Pos}:Zf k sc (.Constant (.bool v) a b) (.bool v)
 |int{v:Int}{a:Nat}{b:Pos}:Zf k sc (.Constant (.int v) a b) (.int v)
 |str{v:Str}{a:Nat}{b:Pos}:Zf k sc (.Constant (.str v) a b) (.str v.cps.toList)
 |Jb{x:Str}{p:Pos}{i:Nat}{kd:gf}(hd:(x==("__debug__":Str))=Ib)(hd':(x==("__classdict__":Str))=Ib)(h:slotIn sc.names x 0=Fb (i,kd))(hk:kd=.local\/kd=.cell\/kd=.free):Zf k sc (.Name x p) (.Jb i)
 |kc{x:Str}{p:Pos}{i:Nat}{r:Td}(hd:(x==("__debug__":Str))=Ib)(h:slotIn sc.names x 0=Fb (i,.globalImplicit))(hl:GT.kc.lookup x=Fb r):Zf k sc (.Name x p) (.kc (wq r))
 |Xb{es:ka}{p:Pos}(h:es.length<100):Zf k sc (.List es p) (.Xb (es.map (Zb GT k sc)))
 |Sb{es:ka}{q:Nat}{p:Pos}(h:es.length<100):Zf k sc (.Tuple es q p) (.Sb (es.map (Zb GT k sc)))
 |cc{l r:Expr}{op:fo}{p:Pos}:Zf k sc (.BinOp l op r p) (.cc op (Zb GT k sc l) (Zb GT k sc r))
 |neg{x:Expr}{p:Pos}:Zf k sc (.UnaryOp .USub x p) (.neg (Zb GT k sc x))
 |mc{l r:Expr}{op:CmpOp}{p:Pos}(h:ar op r=Ib):Zf k sc (.Compare l [op] [r] p) (.mc op (Zb GT k sc l) (Zb GT k sc r))
 |ite{t a b:Expr}{p:Pos}:Zf k sc (.IfExp t a b p) (.ite (qf GT k sc t) (Zb GT k sc a) (Zb GT k sc b))
 |oc{x:Str}{p pos:Pos}{as:ka}{i:Nat}{q:Rj}(hd:(x==("__debug__":Str))=Ib)(hl:as.length<20)(h:slotIn sc.names x 0=Fb (i,.globalImplicit))(hq:GT.kc.lookup x=Fb (.oc q)):Zf k sc (.Call (.Name x p) as [] pos) (.oc q (as.map (Zb GT k sc)))
 |fn{x:Str}{p pos:Pos}{as:ka}{i n:Nat}{v:Value}(hd:(x==("__debug__":Str))=Ib)(hl:as.length<20)(h:slotIn sc.names x 0=Fb (i,.globalImplicit))(hq:GT.kc.lookup x=Fb (.fn n v)):Zf k sc (.Call (.Name x p) as [] pos) (.fn n (as.map (Zb GT k sc)))
 |qc{o:Expr}{m:Str}{ap pos:Pos}{as:ka}{q:Pe}(hb:Hh o=Hb)(he:(ap.endLine==pos.line)=Hb)(hl:as.length<20)(hm:GT.qc.lookup m=Fb q):Zf k sc (.Call (.Attribute o m ap) as [] pos) (.qc q (Zb GT k sc o) (as.map (Zb GT k sc)))
 |Zh{o v:Expr}{m kn:Str}{ap pos kp:Pos}{as:ka}{q:Pe}(hb:Hh o=Hb)(he:(ap.endLine==pos.line)=Hb)(hl:as.length<20)(hk:kwFits m kn as=Hb)(hm:GT.qc.lookup m=Fb q):Zf k sc (.Call (.Attribute o m ap) as [⟨Fb kn,v,kp⟩] pos) (.Zh q (Zb GT k sc o) (as.map (Zb GT k sc)) kn (Zb GT k sc v))
 |Oc{o:Expr}{l u t:Option Expr}{q p:Pos}:Zf k sc (.Subscript o (.Slice l u t q) p) (.Oc (Zb GT k sc o) (Lg GT k sc l) (Lg GT k sc u) (Lg GT k sc t))
 |sub{o i:Expr}{p:Pos}:Zf k sc (.Subscript o i p) (.sub (Zb GT k sc o) (Zb GT k sc i))
 |attr{o:Expr}{n:Str}{p:Pos}(hb:Hh o=Hb):Zf k sc (.Attribute o n p) (.attr (Zb GT k sc o) n)
 |comp{Sd Nb iter:Expr}{ifs:ka}{scope:Scope}{p:Pos}{a b c:M}{f:Option M}{l:List (Option Nat)}:Zf k sc (.ListComp Sd [⟨Nb,iter,ifs,0⟩] scope p) (.comp a b c f l)
noncomputable def bM(b:Bool)(m:M):M:=match b with
 |true=>m|false=>.nc
noncomputable def nM(b:Bool)(m:M):M:=match b with
 |true=>.nc|false=>m
noncomputable def mM(o:Option Pe)(f:Pe->M):M:=match o with
 |some k=>f k|none=>.nc
noncomputable def X7(x:Str)(o:Option (Nat×gf))(l:Option Td):M:=match o with
 |some (i,.local)=>.Jb i|some (i,.cell)=>.Jb i|some (i,.free)=>.Jb i|some (_,.globalImplicit)=>match l with
  |some (.val v)=>.kc v|some (.oc p)=>.kc (ll p)|_=>.nc
 |_=>.nc
noncomputable def R8(k:Nat)(s:Scope)(a:ka)(o:Option (Nat×gf))(l:Option Td):M:=match o with
 |some (_,.globalImplicit)=>match l with
  |some (.oc p)=>.oc p (a.map (Zb GT k s))|some (.fn n _)=>.fn n (a.map (Zb GT k s))|_=>.nc
 |_=>.nc
theorem zt{C:M->Prop}(H:C .nc)(h:b=Hb->C m):C (bM b m):=by
 induction b using Ld with
 |true=>exact h rfl|false=>exact H
theorem nO{C:M->Prop}(H:C .nc)(h:b=Ib->C m):C (nM b m):=by
 induction b using Ld with
 |true=>exact H|false=>exact h rfl
theorem yO{C:M->Prop}(H:C .nc)(h:∀q,o=Fb q->C (f q)):C (mM o f):=by
 induction o using Wd with
 |none=>exact H|some q=>exact h q rfl
section
theorem a7(h:(x==("__debug__":Str))=Ib)(d:(x==("__classdict__":Str))=Ib)(H:slotIn s.names x 0=o)(z:GT.kc.lookup x=l):Zf k s (.Name x p) (X7 x o l):=by
 induction o using Wd with
 |none=>exact .nc|some y=>
  obtain⟨i,N⟩:=y
  induction N using wp with
  |«local»=>exact .Jb h d H (.inl rfl)|cell=>exact .Jb h d H (.inr (.inl rfl))|free=>exact .Jb h d H (.inr (.inr rfl))|globalImplicit=>induction l using Wd with
   |none=>exact .nc|some r=>induction r using Td.casesOn with
    |fn=>exact .nc|_=>exact .kc h H z
  |_=>exact .nc
theorem Z5(h:(x==("__debug__":Str))=Ib)(H:a.length<20)(z:slotIn s.names x 0=o)(A:GT.kc.lookup x=l):Zf k s (.Call (.Name x p) a [] T) (R8 k s a o l):=by
 induction o using Wd with
 |none=>exact .nc|some y=>
  obtain⟨i,N⟩:=y
  induction N using wp with
  |globalImplicit=>induction l using Wd with
   |none=>exact .nc|some r=>induction r using Td.casesOn with
    |oc q=>exact .oc h H z A|fn n v=>exact .fn h H z A|val v=>exact .nc
  |_=>exact .nc
end
theorem and_2(h:(a&&b)=Hb):a=Hb/\b=Hb:=(Zc a b).mp h
theorem Kz(h:(a||b)=Ib):a=Ib/\b=Ib:=(Bool.or_eq_false_iff).mp h
theorem dO(k:Nat)(e:Expr):Zf k sc e (Zb GT (k+1) sc e):=by
 induction e using pg with
 |Constant c a b=>cases c with
  |none=>exact .none|bool=>exact .bool|int=>exact .int|str=>exact .str|_=>exact .nc
 |Name x p=>exact nO .nc λh=>a7 (Kz h).1 (Kz h).2 rfl rfl|List E p=>exact zt .nc λh=>.Xb (of_decide_eq_true h)|Tuple E q p=>exact zt .nc λh=>.Sb (of_decide_eq_true h)|BinOp=>exact .cc|UnaryOp op x p=>cases op with
  |USub=>exact .neg|_=>exact .nc
 |Compare l O C p=>induction O using xc with
  |nil=>exact .nc|cons op O=>induction O using xc with
   |cons=>exact .nc|nil=>induction C using xc with
    |nil=>exact .nc|cons r C=>induction C using xc with
     |cons=>exact .nc|nil=>
      have y:Zb GT (k+1) sc (.Compare l [op] [r] p)=match ar op r with
       |false=>.mc op (Zb GT k sc l) (Zb GT k sc r)|true=>.nc:=rfl
      rw[y]
      cases h:ar op r with
      |false=>exact .mc h|true=>exact .nc
 |IfExp=>exact .ite|Call f A d T=>induction f using pg with
  |Name x p=>induction d using xc with
   |nil=>exact nO .nc λh=>Z5 (Kz h).1 (EQ (of_decide_eq_false (Kz h).2)) rfl rfl|cons=>exact .nc
  |Attribute o m j=>induction d using xc with
   |nil=>exact zt .nc λh=>yO .nc λq H=>.qc (and_2 (and_2 h).1).1 (and_2 (and_2 h).1).2 (of_decide_eq_true (and_2 h).2) H|cons u r=>
    obtain⟨L,Y,kp⟩:=u
    induction L using Wd with
    |none=>exact .nc|some L=>induction r using xc with
     |nil=>exact zt .nc λh=>yO .nc λq H=>.Zh (and_2 (and_2 (and_2 h).1).1).1 (and_2 (and_2 (and_2 h).1).1).2 (of_decide_eq_true (and_2 (and_2 h).1).2) (and_2 h).2 H|cons=>exact .nc
  |_=>exact .nc
 |Subscript o i p=>induction i using pg with
  |Slice=>exact .Oc|_=>exact .sub
 |Attribute o a p=>exact zt .nc λh=>.attr h|ListComp s g t p=>induction g using xc with
  |nil=>exact .nc|cons c r=>
   obtain⟨Nb,iter,I,a⟩:=c
   induction a using IG with
   |negSucc n=>exact .nc|ofNat n=>induction n using jf with
    |succ n=>exact .nc|zero=>induction r using xc with
     |cons=>exact .nc|nil=>exact zt .nc λJ=>I.casesOn .comp λc r=>r.casesOn .comp λJ J=>.nc
 |_=>exact .nc
inductive Ts(k:Nat)(sc:Scope)(q:Rj)(ms:List M):Expr->Prop
 |mk{k0:Nat}{x:Str}{p pos:Pos}{es:ka}{i:Nat}(hk:k=k0+1)(hq:GT.kc.lookup x=Fb (.oc q))(hi:slotIn sc.names x 0=Fb (i,.globalImplicit))(hd:(x==("__debug__":Str))=Ib)(he:es.map (Zb GT k0 sc)=ms):Ts k sc q ms (.Call (.Name x p) es [] pos)
inductive Iw(k:Nat)(sc:Scope)(n:Nat)(ms:List M):Expr->Prop
 |mk{k0:Nat}{x:Str}{p pos:Pos}{es:ka}{i:Nat}{v:Value}(hk:k=k0+1)(hq:GT.kc.lookup x=Fb (.fn n v))(hi:slotIn sc.names x 0=Fb (i,.globalImplicit))(hd:(x==("__debug__":Str))=Ib)(he:es.map (Zb GT k0 sc)=ms):Iw k sc n ms (.Call (.Name x p) es [] pos)
def TrK(k:Nat)(s:Scope)(e:Expr)(m:M):Prop:=match m with
 |.none=>∃a b,e=.Constant .none a b|.oc q N=>Ts k s q N e|.fn n N=>Iw k s n N e|_=>True
theorem DE(h:Zb GT k s e=m):TrK k s e m:=by
 rw[<-h];clear h
 induction k using jf with
 |zero=>exact⟨⟩|succ k=>
  have c:=dO (sc:=s) k e;generalize Zb GT (k+1) s e=m at c
  induction c using Zf.casesOn with
  |none=>exact⟨_,_,rfl⟩|oc H _ h N=>exact .mk rfl N h H rfl|fn H _ h N=>exact .mk rfl N h H rfl|_=>exact⟨⟩
theorem DD(h:Zb GT k s e=.oc q m):Ts k s q m e:=DE h
theorem XO(h:Zb GT k s e=.fn n m):Iw k s n m e:=DE h
theorem o5(h:Zb GT k s e=.none):∃a b,e=.Constant .none a b:=DE h
theorem By{α β:Type}{f:α->β}{l:List α}{b:β}(h:l.map f=[b]):∃a,l=[a]/\f a=b:=by
 induction l using xc with
 |nil=>exact nomatch h
 |cons a r=>induction r using xc with
  |nil=>exact⟨a,rfl,(ck h).1⟩|cons=>exact nomatch (ck h).2
theorem zf(I:qd w B d r){mt:Bool}(h:r (Zb GT k s e) mt l H=Fb (x,Hb)):Yc w B d e s l H x.1 x.2:=I.ok _ _ _ _ _ _ _ _ h
theorem ND(I:qd w B d r)(h:r (Lg GT k j e) Ib l H=Fb (x,Hb))
  (J:Cc d A)(R:Wb B j T l H g s.heap)(post:Xc B j T l x.2 x.1 g s Q):Pb (Qb pw w) A (evalPart e T) Q E s:=by
 induction k using jf with
 |zero=>
  have:Lg GT 0 j e=.nc:=rfl;rw[this,I.nc] at h;injection h
 |succ k=>
  induction e using Wd with
  |none=>
   have:Lg GT (k+1) j Gb=.none:=rfl;rw[this] at h;obtain rfl:=I.non _ _ _ _ h;exact vc (post.Lh R .none)
  |some e=>
   have:Lg GT (k+1) j (Fb e)=Zb GT k j e:=rfl;rw[this] at h;exact zf I h A T g s E Q J R post
theorem Tx{mt:Bool}:∀{N:List M}{H:Hp}{r:List PV×Hp},Vd a mt l N H=Fb (r,Hb)->r.1.length=N.length
 |[],_,_,h=>by refine Jg (Rm.Gd h) ?_;rfl
 |m::N,H,r,h=>by
  obtain⟨v,A,j⟩:=Rm.bind_some h;obtain⟨V,b,Q⟩:=Rm.bind_some j;refine Jg (Rm.Gd Q) ?_;refine List.length_cons.trans ?_;rw[xj,Tx b]
section
noncomputable def ZO(o:Option (Option PV))(h:Hp):Rm (PV×Hp):=match o with
 |some (Fb v)=>Rm.ret (v,h)|_=>Gb
theorem U1(h:ZO o H=Fb (r,Hb)):o=Fb (Fb r.1)/\r.2=H:=by
 induction o using Wd with
 |none=>exact nn h|some o=>induction o using Wd with
  |none=>exact nn h|some v=>rw[show r=_ from Rm.Gd h];exact⟨rfl,rfl⟩
theorem bV{mt:Bool}:oj P F r (.Jb i) mt l h=ZO l[i]? h:=by kernel_rfl
theorem gZ{mt:Bool}(H:(x==("__debug__":Str))=Ib)(e:(x==("__classdict__":Str))=Ib)(y:slotIn s.names x 0=Fb (i,k))(C:k=.local\/k=.cell\/k=.free)(h:oj P F b (.Jb i) mt l a=Fb (r,Hb)):Yc w B d (.Name x p) s l a r.1 r.2:=by
 have q:=U1 (bV.symm.trans h);rw[q.2];rcases C with rfl|rfl|rfl
 ·exact Gl y H q.1
 ·exact OH y H q.1
 ·exact OS y H e q.1
theorem EW{mt:Bool}(H:Rest w B d P F a)(T:(x==("__debug__":Str))=Ib)(y:slotIn j.names x 0=Fb (i,.globalImplicit))(z:GT.kc.lookup x=Fb v)(h:oj P F a (.kc (wq v)) mt l b=Fb (r,Hb)):Yc w B d (.Name x p) j l b r.1 r.2:=λA e g s E Q I R post=>
 have V:=aS H.kc h
 uk H.kc y T z R (post.Lh (V.1.symm▸R) V.2)
theorem MZ{mt:Bool}(I:qd w B d b)(H:a.length<100)(h:(Rm.bind (Vd b Ib l (a.map (Zb GT k j)) e) λV=>Rm.ret (td mt (Rg V.1) V.2))=Fb (r,Hb)):Yc w B d (.List a p) j l e r.1 r.2:=
 (Rm.bind_some h).elim λV z=>λA T g s E Q J R post=>wpAny_List (zm I a z.1 A T g s E _ p J R λy L m G x C t=>
  ⟨by rw[t.length,Tx z.1,Uc];exact dc (Df H) (by decide),WZ (post.step x C) G (Rm.Gd z.2).symm (by rw[FH];exact t)⟩)
theorem mZ{mt:Bool}(I:qd w B d b)(H:a.length<100)(h:(Rm.bind (Vd b mt l (a.map (Zb GT k j)) e) λV=>Rm.ret (.Sb V.1,V.2))=Fb (r,Hb)):Yc w B d (.Tuple a q p) j l e r.1 r.2:=
 (Rm.bind_some h).elim λV z=>by
  rw[show r=_ from Rm.Gd z.2];exactλA T g s E Q J R post=>wpAny_Tuple (zm I a z.1 A T g s E _ p J R λy L m G x C t=>
   ⟨by rw[t.length,Tx z.1,Uc];exact dc (Df H) (by decide),(post.step x C).Nl G rfl (.Sb (ze ..) (t.ext (Ext.Jc _ G.fresh))) L.toks⟩)
theorem I0{mt:Bool}(I:qd w B d e)(h:(Rm.bind (e (Zb GT k j a) Ib l m) λx=>Rm.bind (e (Zb GT k j b) Ib l x.2) λy=>Ss op x.1 y.1 mt y.2)=Fb (r,Hb)):Yc w B d (.BinOp a op b p) j l m r.1 r.2:=
 (Rm.bind_some h).elim λx z=>(Rm.bind_some z.2).elim λy Y=>λA T g s E Q H R post=>wpAny_BinOp (zf I z.1 A T g s E _ H R λK K K G o t V=>zf I Y.1 A T _ _ E _ H G λK K K J f U q=>
  B6 J (V.ext f) q Y.2 (post.step (o.trans f) (t.trans U)))
noncomputable def lP(x:PV)(h:Hp):Rm (PV×Hp):=match x with
 |.int i=>Rm.ret (.int (-i),h)|_=>Gb
theorem QX(I:qd w B d e)(h:(Rm.bind (e (Zb GT k j a) Ib l H) λx=>lP x.1 x.2)=Fb (r,Hb)):Yc w B d (.UnaryOp .USub a p) j l H r.1 r.2:=
 (Rm.bind_some h).elim λx z=>λA T g s E Q J R post=>wpAny_UnaryOp (zf I z.1 A T g s E _ J R λv L m G Y C V=>by
  obtain⟨x,D⟩:=x;have b:lP x D=Fb (r,Hb):=z.2
  induction x using PV.casesOn with
  |int i=>
   rw[show r=_ from Rm.Gd b] at post;exact yh V λt=>PySem.P.neg_int ((post.step Y C).here G (.int _ _) _)
  |_=>exact nn b)
noncomputable def sO(o:Option PV)(h:Hp):Rm (PV×Hp):=match o with
 |some r=>Rm.ret (r,h)|none=>Gb
theorem sZ(h:sO o H=Fb (r,Hb)):o=Fb r.1/\r.2=H:=by
 induction o using Wd with
 |none=>exact nn h|some v=>rw[show r=_ from Rm.Gd h];exact⟨rfl,rfl⟩
theorem lJ(I:qd w B d f)(h:(Rm.bind (f (Zb GT k j a) Ib l o) λx=>Rm.bind (f (Zb GT k j b) Ib l x.2) λy=>sO (Pj op x.1 y.1 y.2) y.2)=Fb (r,Hb)):
  ∀(A:Dd)(e:Env)(g:Gh)(s:Vb)(E:ja)(Q:ja),Cc d A->Wb B j e l o g s.heap->Xc B j e l r.2 r.1 g s Q->
   Pb (Qb pw w) A (eval a e) (λa J=>Pb (Qb pw w) A (eval b e) (λb L=>Pb (Qb pw w) A (ko op a b) Q E L) E J) E s:=
 (Rm.bind_some h).elim λx z=>(Rm.bind_some z.2).elim λy Y=>λA e g s E Q H R post=>zf I z.1 A e g s E _ H R λK K K G p T V=>zf I Y.1 A e _ _ E _ H G λK K K N m t u=>
  have q:=sZ Y.2
  CM H N (V.ext m) u q.1 (q.2▸post.step (p.trans m) (T.trans t))
theorem OY{mt:Bool}(I:qd w B d f)(h:oj P F f (Zb GT (k+1) j (.Compare l [op] [b] p)) mt L m=Fb (r,Hb)):ar op b=Ib/\
  ∀(A:Dd)(e:Env)(g:Gh)(s:Vb)(E:ja)(Q:ja),Cc d A->Wb B j e L m g s.heap->Xc B j e L r.2 r.1 g s Q->
   Pb (Qb pw w) A (eval l e) (λa J=>Pb (Qb pw w) A (eval b e) (λb N=>Pb (Qb pw w) A (ko op a b) Q E N) E J) E s:=by
 have x:Zb GT (k+1) j (.Compare l [op] [b] p)=match ar op b with
   |false=>.mc op (Zb GT k j l) (Zb GT k j b)|true=>.nc:=rfl
 rw[x] at h
 cases H:ar op b with
 |true=>rw[H] at h;injection h|false=>rw[H] at h;exact⟨rfl,lJ I h⟩
theorem vY{mt:Bool}(I:qd w B d e)(h:(Rm.bind (ud e l (qf GT k j t) f) λv=>match v.1 with
   |true=>e (Zb GT k j a) mt l v.2|false=>e (Zb GT k j b) mt l v.2)=Fb (r,Hb)):Yc w B d (.IfExp t a b p) j l f r.1 r.2:=
 (Rm.bind_some h).elim λv z=>λA T g s E Q H R post=>by
  obtain⟨V,N⟩:=v;refine wpAny_IfExp (Zp I k t z.1 A T g s E _ H R λJ G L x C=>?_)
  induction V using Ld with
  |true=>exact zf I z.2 A T G J E Q H L (post.step x C)|false=>exact zf I z.2 A T G J E Q H L (post.step x C)
noncomputable def xO(mt:Bool)(h:Hp)(o:Option (List PV)):Rm (PV×Hp):=match o with
 |some x=>Fb (td mt (Rg x) h,decide (x.length<=ic))|none=>Gb
noncomputable def qN(F:Dc)(r:Ke)(mt:Bool)(l:Loc)(h:Hp)(q:Rj)(m:List M):Rm (PV×Hp):=match q,m with
 |.list,[.fn n [a]]=>Rm.bind (r a Ib l h) λx=>xO mt x.2 (F.gen n [x.1])|q,m=>Rm.bind (Vd r Ib l m h) λV=>sg q V.1 mt V.2
theorem IU{mt:Bool}:oj P F r (.oc q m) mt l h=qN F r mt l h q m:=by kernel_rfl
inductive Mt(F:Dc)(rE:Ke)(mt:Bool)(loc:Loc)(hp:Hp)(r:PV×Hp):Rj->List M->Prop
 |gen{n:Nat}{a:M}{x:PV×Hp}{xs:List PV}(h:rE a Ib loc hp=Fb (x,Hb))(hx:F.gen n [x.1]=Fb xs)(hl:xs.length<=ic)(e:td mt (Rg xs) x.2=r):Mt F rE mt loc hp r .list [.fn n [a]]
 |plain{q:Rj}{ms:List M}{vs:List PV×Hp}(h:Vd rE Ib loc ms hp=Fb (vs,Hb))(e:sg q vs.1 mt vs.2=Fb (r,Hb)):Mt F rE mt loc hp r q ms
theorem Hr{mt:Bool}(h:(Rm.bind (Vd a Ib l m H) λV=>sg q V.1 mt V.2)=Fb (r,Hb)):Mt F a mt l H r q m:=(Rm.bind_some h).elim λJ z=>.plain z.1 z.2
theorem s5{mt:Bool}(h:qN F b mt L H q N=Fb (r,Hb)):Mt F b mt L H r q N:=by
 induction q using Rj.casesOn with
 |list=>induction N using xc with
  |nil=>exact Hr h|cons m N=>induction m using M.casesOn with
   |fn n l=>induction l using xc with
    |nil=>induction N using xc<;>exact Hr h
    |cons a l=>induction l using xc with
     |cons=>induction N using xc<;>exact Hr h
     |nil=>induction N using xc with
      |cons=>exact Hr h|nil=>
       have h:=h;refine(Rm.bind_some h).elim λx z=>?_;have k:∀{o},F.gen n [x.1]=o->xO mt x.2 o=Fb (r,Hb)->Mt F b mt L H r .list [.fn n [a]]:=λ{o}=>o.casesOn (λJ e=>nn e) λT O e=>.gen z.1 O (of_decide_eq_true (Ae e).2) (Ae e).1;exact k rfl z.2
   |_=>exact Hr h
 |_=>exact Hr h
theorem SU{mt:Bool}(I:qd w B d f)(H:Rest w B d P F f)(T:(x==("__debug__":Str))=Ib)(D:slotIn j.names x 0=Fb (i,.globalImplicit))(N:GT.kc.lookup x=Fb (.oc q))(h:oj P F f (.oc q (C.map (Zb GT k j))) mt l m=Fb (r,Hb)):Yc w B d (.Call (.Name x p) C [] Y) j l m r.1 r.2:=by
 have c:=s5 (IU.symm.trans h);clear h;generalize U:C.map (Zb GT k j)=ms at c
 induction c using Mt.casesOn with
 |gen h O G e=>
  refine(By U).elim λa z=>?_;rw[z.1];have c:=XO z.2
  induction c using Iw.casesOn with
  |mk hk o t u J=>
   refine(By J).elim λb y=>?_;rw[y.1];rw[<-y.2] at h;exact H.gen x p _ _ b Y _ _ _ j l m _ _ i _ _ mt r.1 r.2 N D T o t u (zf I h) (Cr I [b] (by
    show Rm.bind (f (Zb GT _ j b) Ib l m) (λv=>Rm.bind (Vd f Ib l [] v.2) λV=>Rm.ret (v.1::V.1,V.2))=_;rw[h];rfl)) O G e
 |plain h e=>
  rw[<-U] at h;exactλA env g s E Q L R post=>jn (uk H.kc D T N R (MX H.sorted H.int (zm I C h) (Cr I C h) L R e post))
theorem k5{mt:Bool}(I:qd w B d b)(H:Rest w B d P F b)(T:(x==("__debug__":Str))=Ib)(y:a.length<20)(C:slotIn j.names x 0=Fb (i,.globalImplicit))(N:GT.kc.lookup x=Fb (.fn n v))(h:(Rm.bind (Vd b Hb l (a.map (Zb GT k j)) e) λV=>de F n V.1 mt V.2)=Fb (r,Hb)):Yc w B d (.Call (.Name x p) a [] U) j l e r.1 r.2:=
 (Rm.bind_some h).elim λV z=>λA Y g s E Q J R post=>jn (uk H.kc C T N R (H.fn x n v N A E Q Y U a j l e V.2 V.1 mt r.1 r.2 g s J R (zm I a z.1) (Cr I a z.1) y z.2 post))
theorem VV{mt:Bool}(I:qd w B d b)(t:Rest w B d P F b)(O:Hh o=Hb)(V:(A.endLine==p.line)=Hb)(y:a.length<20)(T:GT.qc.lookup m=Fb q)
  (h:(Rm.bind (b (Zb GT k s o) Ib l f) λx=>Rm.bind (Vd b (q==.append) l (a.map (Zb GT k s)) x.2) λD=>Te P F q x.1 D.1 mt D.2)=Fb (r,Hb)):Yc w B d (.Call (.Attribute o m A) a [] p) s l f r.1 r.2:=
 (Rm.bind_some h).elim λx z=>(Rm.bind_some z.2).elim λD Y=>
  have U:=zf I z.1;have J:=zm I a Y.1;have N:=Cr I a Y.1
  xp (λg:∃j,q=.fn j=>g.elim λj e=>t.qc m j o a A p s l f _ _ _ _ mt r.1 r.2 (e▸T) O V y U J N (e▸Y.2)) λg=>
   xp (λH:q=.sub\/q=.search=>t.pat m q o a A p s l f _ _ _ _ mt r.1 _ T H O V y U J N Y.2) λH=>eV T (λj e=>g ⟨j,e⟩) (λe=>H (.inl e)) (λe=>H (.inr e)) O V y U J N Y.2
noncomputable def lQ(F:Dc)(j:Nat)(mt:Bool)(V:List PV)(y:PV)(h:Hp)(x:PV):Rm (PV×Hp):=match x with
 |.rc i=>de F j (.rc i::V++[y]) mt h|_=>Gb
theorem ES{mt:Bool}(I:qd w B d b)(u:Rest w B d P F b)(O:Hh o=Hb)(Y:(A.endLine==T.line)=Hb)(C:a.length<20)(D:kwFits m L a=Hb)(U:GT.qc.lookup m=Fb q)
  (h:oj P F b (.Zh q (Zb GT k s o) (a.map (Zb GT k s)) L (Zb GT k s v)) mt l H=Fb (r,Hb)):Yc w B d (.Call (.Attribute o m A) a [⟨Fb L,v,kp⟩] T) s l H r.1 r.2:=by
 induction q using Pe.casesOn with
 |fn j=>
  have h:(Rm.bind (b (Zb GT k s o) Ib l H) λx=>Rm.bind (Vd b Ib l (a.map (Zb GT k s)) x.2) λV=>Rm.bind (b (Zb GT k s v) Ib l V.2) λy=>lQ F j mt V.1 y.1 y.2 x.1)=Fb (r,Hb):=h;refine(Rm.bind_some h).elim λx z=>(Rm.bind_some z.2).elim λV p=>(Rm.bind_some p.2).elim λy e=>?_;obtain⟨x,N⟩:=x;have t:lQ F j mt V.1 y.1 y.2 x=Fb (r,Hb):=e.2
  induction x using PV.casesOn with
  |rc i=>exact u.Zh m j o a L kp v A T s l H i _ _ _ _ _ mt r.1 r.2 U O Y C D ((Tx p.1).trans (Uc _)) (zf I z.1) (zm I a p.1) (Cr I a p.1) (zf I e.1) t|_=>exact nn t
 |_=>exact nn h
theorem C0{mt:Bool}(I:qd w B d e)(h:(Rm.bind (e (Zb GT k j o) Ib L D) λx=>Rm.bind (e (Lg GT k j l) Ib L x.2) λa=>Rm.bind (e (Lg GT k j u) Ib L a.2) λb=>Rm.bind (e (Lg GT k j t) Ib L b.2) λc=>
   kl x.1 a.1 b.1 c.1 mt c.2)=Fb (r,Hb)):Yc w B d (.Subscript o (.Slice l u t q) p) j L D r.1 r.2:=
 (Rm.bind_some h).elim λx z=>(Rm.bind_some z.2).elim λa m=>(Rm.bind_some m.2).elim λb f=>(Rm.bind_some f.2).elim λc C=>λA U g s E Q H R post=>
  PH (zf I z.1 A U g s E _ H R λK K K G J N V=>wpAny_Slice (ND I m.1 H G λK K K O Y mf Ui=>ND I f.1 H O λK K K Pm y Ve ml=>ND I C.1 H Pm λK K K Vl T Mm Tv=>
   F5 Vl (V.ext (Y.trans (y.trans T))) (Ui.ext (y.trans T)) (ml.ext T) Tv C.2 (λr xw mF qt qF UE B9=>GQ (post r xw mF qt (J.trans (Y.trans (y.trans (T.trans qF)))) (N.trans (mf.trans (Ve.trans (Mm.trans UE)))) B9)) rfl))
theorem KY(I:qd w B d a)(h:(Rm.bind (a (Zb GT k j o) Ib l b) λx=>Rm.bind (a (Zb GT k j i) Ib l x.2) λy=>pj x.1 y.1 y.2)=Fb (r,Hb)):Yc w B d (.Subscript o i p) j l b r.1 r.2:=
 (Rm.bind_some h).elim λx z=>(Rm.bind_some z.2).elim λy m=>λA e g s E Q H R post=>
  PH (zf I z.1 A e g s E _ H R λK K K G f T V=>zf I m.1 A e _ _ E _ H G λK K K J Y t q=>
   I5 J (V.ext Y) q m.2 λr u C U D L N=>GQ (post r u C U (f.trans (Y.trans D)) (T.trans (t.trans L)) N))
noncomputable def QO(n:Str)(x:PV)(h:Hp):Rm (PV×Hp):=match x with
 |.rc i=>match n==oa with
  |true=>Rm.ret (.id i,h)|false=>Gb
 |_=>Gb
theorem vW(I:qd w B d b)(m:Rest w B d P F b)(O:Hh o=Hb)(h:(Rm.bind (b (Zb GT k j o) Ib l e) λx=>QO n x.1 x.2)=Fb (r,Hb)):Yc w B d (.Attribute o n p) j l e r.1 r.2:=
 (Rm.bind_some h).elim λx z=>by
  obtain⟨x,H⟩:=x;have a:QO n x H=Fb (r,Hb):=z.2
  induction x using PV.casesOn with
  |rc i=>
   by_cases q:(n==oa)=Hb
   ·have s:=Rm.Gd (show Rm.ret (PV.id i,H)=Fb (r,Hb) by rw[<-a];show _=(match n==oa with|true=>Rm.ret (.id i,H)|false=>Gb:Rm (PV×Hp));rw[q])
    rw[s,eq_of_beq q];exact m.attr o p j l e i H O (zf I z.1)
   ·have s:(match n==oa with|true=>Rm.ret (.id i,H)|false=>Gb:Rm (PV×Hp))=Fb (r,Hb):=a
    rw[Bool.eq_false_iff.mpr q] at s;exact nn s
  |_=>exact nn a
end
end
section
theorem R4(I:qd w B d a)(j:Rest w B d P F a){mt:Bool}(h:oj P F a (Zb GT (k+1) l e) mt L b=Fb (r,Hb)):Yc w B d e l L b r.1 r.2:=by
 have c:=dO (sc:=l) k e;generalize Y:Zb GT (k+1) l e=m at c h
 induction c using Zf.casesOn with
 |nc=>exact nn h|none=>rw[show r=_ from Rm.Gd h];exactλA U g s E Q J R post=>wpAny_Constant_none (post.Lh R .none)|bool=>rw[show r=_ from Rm.Gd h];exactλA U g s E Q J R post=>wpAny_Constant_bool (post.Lh R (.bool _))|int=>rw[show r=_ from Rm.Gd h];exactλA U g s E Q J R post=>wpAny_Constant_int (post.here R (.int _ _) _)|str=>rw[show r=_ from Rm.Gd h];exactλA U g s E Q J R post=>wpAny_Constant_str (post.here R (.str rfl) _)|Jb T f y C=>exact gZ T f y C h|kc T y H=>exact EW j T y H h|Xb H=>exact MZ I H h|Sb H=>exact mZ I H h|cc=>exact I0 I h|neg=>exact QX I h|mc O=>exactλA U g s E Q J R post=>wpAny_Compare1 (lJ I h A U g s E Q J R post) O|ite=>exact vY I h|oc T _ y N=>exact SU I j T y N h|fn T H y N=>exact k5 I j T H y N h|qc O V H N=>exact VV I j O V H N h|Zh O V H C N=>exact ES I j O V H C N h|Oc=>exact C0 I h|sub=>exact KY I h|attr O=>exact vW I j O h|comp=>rw[<-Y] at h;exact j.comp k _ _ _ _ _ _ l mt L b r.1 r.2 h
theorem oL(j:∀n,qd w B d (Yb P F n)->Rest w B d P F (Yb P F n)):∀n,qd w B d (Yb P F n)
 |0=>⟨λJ J J=>rfl,(by intro mt L H r h;injection h),(by intro k s e mt L H f T h;injection h),(by intro k s l op r p mt L H f T h;injection h)⟩|n+1=>by
  have I:=oL j n;have R:=j n I;refine⟨λJ J J=>rfl,?_,?_,?_⟩
  ·intro mt L H r h
   exact Rm.Gd h
  ·intro k s e mt L H f T h
   induction k using jf with
   |zero=>exact nn h|succ k=>exact R4 I R h
  ·intro k s l op r p mt L H f T h
   induction k using jf with
   |zero=>exact nn h|succ k=>exact OY I h
end
theorem DI:∀{j},slotIn N x j=Fb (i,k)->j<=i:=by
 induction N with
 |nil=>exact nn|cons y r I=>exactλh=>An h (λJ q J=>yl q) λJ h=>bx (I h)
theorem NL{R:Prop}(h:slotIn r x (j+1)=Fb (i,k))(q:j=i):R:=absurd (DI h) (q▸Nat.not_succ_le_self j)
theorem Mp:∀{j},slotIn N x j=Fb (i,k)->slotIn N y j=Fb (i,G)->x=y:=by
 induction N with
 |nil=>exact nn|cons z r I=>exactλh H=>An h (λe q J=>An H (λE J J=>e.symm.trans E) λJ H=>NL H q) λJ h=>An H (λJ q J=>NL h q) λJ H=>I h H
section
variable{hp:Hp}{Ac:Hp}{g:Gh} in
theorem tc.xN{h V:Heap}(H:tc h g hp)(C:∀a o,g a≠.free->g a≠.Hc->h.get? a=Fb o->V.get? a=Fb o)(Ac:∀a,g a=.Hc->∃o,V.get? a=Fb o):tc V g hp where
 Mb a o e:=C a o (by rw[e];intro h;injection h) (by rw[e];intro h;injection h) (H.Mb a o e)
 out a o e:=C a o (by rw[e];intro h;injection h) (by rw[e];intro h;injection h) (H.out a o e)
 it a o e:=C a o (by rw[e];intro h;injection h) (by rw[e];intro h;injection h) (H.it a o e)
 Hc a e:=Ac a e
 Xb a i e:=Md (H.Xb a i e) λb c w n z=>⟨b,c,w,n,z.1,C a _ (by rw[e];intro h;injection h) (by rw[e];intro h;injection h) z.2.1,z.2.2⟩
 all:=H.all
 inj:=H.inj
theorem dq{l:Loc}(h:(l.set i (Fb p))[j]?=Fb (Fb q)):(i=j/\p=q)\/(i≠j/\l[j]?=Fb (Fb q)):=by
 by_cases e:i=j
 ·subst e
  rw[List.getElem?_set] at h;simp only [if_true] at h
  split at h
  ·injection h with h;injection h with h;exact .inl ⟨rfl,h⟩
  ·exact nn h
 ·rw[sG e] at h
  exact .inr ⟨e,h⟩
theorem Wb.HK(R:Wb B l T L hp g h){m:Str->Option Value}(z:slotIn l.names x 0=Fb (i,.local))(Y:∀(y:Str)(j:Nat),slotIn l.names y 0=Fb (j,.local)->∀f,L[j]?=Fb (Fb f)->∃v,m y=Fb v/\Tb g v f)
  (C:V.Ns T.locals (λy=>if y=x then Fb v else m y))(I:Heap.SameBut T.locals h V)(d:Tb g v f):Wb B l T (L.set i (Fb f)) hp g V:=by
 have keep:=λa o s e=>I.extBut a o s e;have N:∀a,g a≠.Hc->a≠T.locals:=λa s q=>s (q▸R.er.Ug);refine⟨R.base,R.hr.xN (λa o K s e=>keep a o (N a s) e) (λa s=>?_),?_⟩
 ·by_cases q:a=T.locals
  ·refine Jg q ?_
   refine ge C λo es ep G=>ql G λe K=>?_;clear G C;exact⟨o,e⟩
  ·obtain⟨o,e⟩:=R.hr.Hc a s
   exact⟨o,keep a o q e⟩
 ·refine{kind:=R.er.kind,ph:=R.er.ph,blt:=R.er.blt,len:=by refine List.length_set.trans ?_;exact R.er.len,Ug:=R.er.Ug,own:=⟨_,C,λy j H=>⟨?_,λp hp=>?_⟩⟩,aj:=λy j H=>?_,Pk:=λy j H=>?_,apart:=R.er.apart,Yi:=R.er.Yi}
  ·refine R.er.own.elim λm' u=>?_
   have V:=u.2;exact(V y j H).1
  ·rcases dq hp with⟨E,r⟩|⟨E,r⟩
   ·subst E r
    have:=Mp z H;refine Jg this ?_;exact⟨v,if_pos rfl,d⟩
   ·have J:y≠x:=by
     intro q;subst q;rw[z] at H;(injection H with D;injection D with D h_2;subst D);exact E rfl
    obtain⟨U,A,k⟩:=Y y j H p r;exact⟨U,by refine(if_neg J).trans ?_;exact A,k⟩
  ·obtain⟨t,a,w,A,k,Q,b,h5⟩:=R.er.aj y j H
   refine⟨t,a,w,A,k,Q,Heap.IsCell.Wh b λo e=>keep a o Q e,λp hp=>?_⟩;rcases dq hp with⟨E,r⟩|⟨E,r⟩
   ·obtain rfl:=E.symm
    have:=Mp z H;subst this;replace H:=z.symm.trans H;cases H
   ·exact h5 p r
  ·obtain⟨t,a,A,⟨o,k⟩,h5⟩:=R.er.Pk y j H
   refine⟨t,a,A,⟨o,k⟩,λp hp=>?_⟩;refine Qc λGG O=>?_;rcases dq hp with⟨E,r⟩|⟨E,r⟩
   ·obtain rfl:=E.symm
    have:=Mp z H;subst this;replace H:=z.symm.trans H;cases H
   ·obtain⟨U,Q,b⟩:=h5 p r
    refine O ?_;exact⟨U,Heap.IsCell.Wh Q λo' e=>keep a o' (N a (by rw[k];intro h;injection h)) e,b⟩
theorem Wb.setCell(R:Wb B t T L hp g h)(A:slotIn t.names x 0=Fb (i,.cell))(d:T.cells.lookup x=Fb c)(I:g c=.Hc)(u:c≠T.locals)
  (G:Y.IsCell c (Fb v))(J:Heap.SameBut c h Y)(U:Tb g v w):Wb B t T (L.set i (Fb w)) hp g Y:=by
 have keep:=λa o s e=>J.extBut a o s e;have N:∀a,g a≠.Hc->a≠c:=λa s q=>s (q▸I);refine⟨R.base,R.hr.xN (λa o K s e=>keep a o (N a s) e) (λa s=>?_),?_⟩
 ·by_cases q:a=c
  ·refine Jg q ?_
   refine G.elim λo l=>?_;have e:=l.1;exact⟨o,e⟩
  ·obtain⟨o,e⟩:=R.hr.Hc a s
   exact⟨o,keep a o q e⟩
 ·refine R.er.own.elim λm l=>l.elim λO f=>?_
  refine{kind:=R.er.kind,ph:=R.er.ph,blt:=R.er.blt,len:=by refine List.length_set.trans ?_;exact R.er.len,Ug:=R.er.Ug,own:=⟨m,Heap.Ns.Wh O λo e=>keep _ o (sh u) e,λy j H=>⟨(f y j H).1,λp hp=>?_⟩⟩,aj:=λy j H=>?_,Pk:=λy j H=>?_,apart:=R.er.apart,Yi:=R.er.Yi}
  ·rcases dq hp with⟨z,E⟩|⟨z,E⟩
   ·subst z
    have:=Mp A H;subst this;replace H:=A.symm.trans H;cases H
   ·exact(f y j H).2 p E
  ·obtain⟨r,a,cv,C,k,Q,b,h5⟩:=R.er.aj y j H
   by_cases q:a=c
   ·subst q
    have:=R.er.apart x y a i j A H d C;subst this;rw[A] at H;(injection H with D;injection D with D h_2;refine Jg D ?_);refine⟨r,a,Fb v,C,k,Q,G,λp hp=>?_⟩;rcases dq hp with⟨K,E⟩|⟨z,E⟩
    ·refine Kt E ?_;exact⟨v,rfl,U⟩
    ·exact(z rfl).elim
   ·refine⟨r,a,cv,C,k,Q,Heap.IsCell.Wh b λo e=>keep a o q e,λp hp=>?_⟩
    refine Qc λGG V=>?_;rcases dq hp with⟨z,E⟩|⟨z,E⟩
    ·obtain rfl:=z.symm
     have:=Mp A H;subst this;rw[d] at C;obtain rfl:=jc C;exact(q rfl).elim
    ·refine V ?_
     exact h5 p E
  ·obtain⟨r,a,C,⟨o,k⟩,h5⟩:=R.er.Pk y j H
   refine⟨r,a,C,⟨o,k⟩,λp hp=>?_⟩;refine Qc λGG V=>?_;rcases dq hp with⟨z,E⟩|⟨z,E⟩
   ·obtain rfl:=z.symm
    have:=Mp A H;subst this;replace H:=A.symm.trans H;cases H
   ·obtain⟨v',Q,b⟩:=h5 p E
    refine V ?_;exact⟨v',Heap.IsCell.Wh Q λo' e=>keep a o' (N a (by rw[k];intro h;injection h)) e,b⟩
def wh(B:Heap)(j:Scope)(e:Env)(l:Loc)(Ac:Hp)(g:Gh)(s:Vb)(Q:Unit->Vb->Prop):Prop:=
 ∀Y G,Wb B j e l Ac G Y.heap->Ext g G->Tr s Y->Q () Y
theorem Pp(R:Wb B k T L hp g s.heap)(z:slotIn k.names x 0=Fb (i,N))(I:N=.local\/N=.cell)(Q:Tb g v f)
  (h:∀H t,Wb B k T (L.set i (Fb f)) hp g H->(∀a o,g a≠.Hc->s.heap.get? a=Fb o->H.get? a=Fb o)->J () {s with heap:=H,toks:=t}):Pb (Qb pw w) A (storeName T x v) J E s:=by
 refine Qc λGG V=>?_;rcases I with rfl|rfl
 ·obtain⟨m,O,Y⟩:=R.er.own
  refine V ?_;refine wpAny_storeName_local (Y x i z).1 O (λH D C=>?_) (by rw[R.er.kind];rfl);exact h H _ (R.HK z (λy j u p hp=>(Y y j u).2 p hp) D C Q) λa o U e=>C.extBut a o (λq=>U (q▸R.er.Ug)) e
 ·obtain⟨r,a,cv,G,l,d,h4,h5⟩:=R.er.aj x i z
  refine V ?_;refine wpAny_storeName_cell R.er.kind r G h4 λH D C=>?_;exact h H s.toks (R.setCell z G l d D C Q) λb o hb e=>C.extBut b o (λq=>hb (q▸l)) e
inductive Xl(sc:Scope)(k:Nat):Expr->M->Prop
 |nc{e:Expr}:Xl sc k e .nc
 |name{x:Str}{p:Pos}{i:Nat}{kd:gf}(h:slotIn sc.names x 0=Fb (i,kd))(hk:kd=.local\/kd=.cell):Xl sc k (.Name x p) (.Jb i)
 |Sb{es:ka}{q:Nat}{p:Pos}:Xl sc k (.Tuple es q p) (.Sb (es.map (rd GT k sc)))
 |Oc{o:Expr}{l u s:Option Expr}{q p:Pos}:Xl sc k (.Subscript o (.Slice l u s q) p) (.Oc (Zb GT k sc o) (Lg GT k sc l) (Lg GT k sc u) (Lg GT k sc s))
 |sub{o i:Expr}{p:Pos}:Xl sc k (.Subscript o i p) (.sub (Zb GT k sc o) (Zb GT k sc i))
theorem Uy(k:Nat)(e:Expr):Xl sc k e (rd GT (k+1) sc e):=by
 induction e using pg with
 |Name x p=>
  show Xl sc k (.Name x p) (match slotIn sc.names x 0 with
   |some (i,.local)=>.Jb i|some (i,.cell)=>.Jb i|_=>.nc)
  cases h:slotIn sc.names x 0 with
  |none=>exact .nc|some q=>
   obtain⟨i,N⟩:=q
   induction N using wp with
   |«local»=>exact .name h (.inl rfl)|cell=>exact .name h (.inr rfl)|_=>exact .nc
 |Tuple=>exact .Sb|Subscript o i p=>induction i using pg with
  |Slice=>exact .Oc|_=>exact .sub
 |_=>exact .nc
noncomputable def mv:M->Option Nat
 |.Jb i=>Fb i|.none=>Fb 0|.oc _ _=>Fb 0|_=>Gb
noncomputable def VE:M->Option (List M)
 |.Sb t=>Fb t|_=>Gb
theorem WK(h:rd GT k s (.Name x p)=.Jb i):∃N,slotIn s.names x 0=Fb (i,N)/\(N=.local\/N=.cell):=by
 rcases k with J|k
 ·exact nn (congrArg mv h)
 have h:(match slotIn s.names x 0 with
   |some (i,.local)=>M.Jb i|some (i,.cell)=>.Jb i|_=>.nc)=.Jb i:=h
 cases H:slotIn s.names x 0 with
 |none=>rw[H] at h;exact nn (congrArg mv h)|some q=>
  rw[H] at h;obtain⟨j,N⟩:=q
  induction N using wp with
  |«local»=>exact⟨.local,congrArg (λj=>Fb (j,NameKind.local)) (jc (congrArg mv h)),.inl rfl⟩|cell=>exact⟨.cell,congrArg (λj=>Fb (j,du)) (jc (congrArg mv h)),.inr rfl⟩|_=>exact nn (congrArg mv h)
theorem O2(h:rd GT k s e=.Jb i):∃x p,e=.Name x p:=by
 rcases k with J|k
 ·exact nn (congrArg mv h)
 have t:=Uy (sc:=s) k e;generalize rd GT (k+1) s e=m at t h
 induction t using Xl.casesOn with
 |name=>exact⟨_,_,rfl⟩|_=>exact nn (congrArg mv h)
theorem AL(h:rd GT k s e=.Sb T):∃G E q p,k=G+1/\e=.Tuple E q p/\T=E.map (rd GT G s):=by
 rcases k with J|k
 ·exact nn (congrArg VE h)
 have t:=Uy (sc:=s) k e;generalize rd GT (k+1) s e=m at t h
 induction t using Xl.casesOn with
 |Sb=>exact⟨k,_,_,_,rfl,rfl,(jc (congrArg VE h)).symm⟩|_=>exact nn (congrArg VE h)
theorem JH(h:bindAll (n+1) (t::T) (v::V) L=Fb r):∃l,He n t v L=Fb l/\bindAll n T V l=Fb r:=by
 have h:(match He n t v L with|some L=>bindAll n T V L|none=>Gb)=Fb r:=h
 cases e:He n t v L with
 |none=>rw[e] at h;exact nn h|some l=>rw[e] at h;exact⟨l,rfl,h⟩
theorem kC:rd GT k s (.Starred x p)=.nc:=by induction k using jf<;>rfl
theorem z0{R:Prop}(h:He n .nc v l=Fb L):R:=by
 rcases n with J|n<;>exact nn h
theorem CH:∀{n:Nat}{V:List PV}{l L:Loc},bindAll n (E.map (rd GT k s)) V l=Fb L->se E/\E.length=V.length:=by
 induction E with
 |nil=>
  intro n V l L h;rcases n with J|n
  ·exact nn h
  rcases V with J|⟨v,V⟩
  ·exact⟨λJ Y=>(Xd Y).elim,rfl⟩
  ·exact nn h
 |cons e r I=>
  intro n V l L h;rcases n with J|n
  ·exact nn h
  rcases V with J|⟨v,V⟩
  ·exact nn h
  obtain⟨U,H,h⟩:=JH h;refine(I h).elim λa b=>⟨λx N=>(List.mem_cons.mp N).elim (λq y p z=>?_) (a x),congrArg (·+1) b⟩;rw[<-q,z,kC] at H;exact z0 H
theorem Ix(h:∀x p,e≠.Starred x p):lr (e::r) E=(Ib,qg e E)::lr r E:=by
 induction e using pg<;>first|rfl|exact(h _ _ rfl).elim
theorem sH(h:se E):(lr E env).length=E.length/\(lr E env).findIdx? (·.1)=Gb:=by
 induction E with
 |nil=>exact⟨rfl,rfl⟩|cons e r I=>
  rw[Ix (h e Fd)];refine(I λx H=>h x (Ee _ H)).elim λa b=>?_;refine⟨by rw[xj,xj,a],?_⟩;refine(List.findIdx?_cons).trans ?_;rw[b];rfl
def Xz(w:xd)(B:Heap)(j:Scope)(e:Env)(hp:Hp)(A:Dd)(E:ja)(n:Nat):Prop:=∀{k:Nat}{Nb:Expr}{p:PV}{l L:Loc}{val:Value}{g:Gh}{s:Vb}{Q:Unit->Vb->Prop},He n (rd GT k j Nb) p l=Fb L->Tb g val p->A.handled=Gb->Wb B j e l hp g s.heap->
 wh B j e L hp g s Q->Pb (Qb pw w) A (qg Nb e val) Q E s
def ww(w:xd)(B:Heap)(j:Scope)(e:Env)(hp:Hp)(A:Dd)(E:ja)(n:Nat):Prop:=∀{k:Nat}{J:ka}{p:List PV}{l L:Loc}{Lb:ia}{g:Gh}{s:Vb}{Q:Unit->Vb->Prop},bindAll n (J.map (rd GT k j)) p l=Fb L->bc g Lb p->A.handled=Gb->Wb B j e l hp g s.heap->
 wh B j e L hp g s Q->Pb (Qb pw w) A (FA ((lr J e).map (·.2)) Lb) Q E s
theorem mY(H:ww w B j U hp A E n)(h:He (n+1) (.Sb (J.map (rd GT O j))) p l=Fb L)(V:Tb g val p)(I:A.handled=Gb)(R:Wb B j U l hp g s.heap)
  (post:wh B j U L hp g s x):Pb (Qb pw w) A (qg (.Tuple J q z) U val) x E s:=by
 refine Qc λt k=>?_
 induction p using PV.casesOn with
 |Sb f=>
  obtain⟨K,K,K,rfl,C,Q⟩:=Tb.inv V;obtain⟨N,y⟩:=CH h;obtain⟨a,b⟩:=sH N;refine k ?_;refine wpAny_assign_Tuple I (Yk (R.hr.Mb _ _ C)) (by refine a.trans ?_;refine y.trans ?_;rw[Cf,Q.length]) b λY D=>?_;have m:=λb o e=>D b o (dm (Heap.lt_size e)) e;refine H h Q I (R.heap λb o K e=>m b o e) ?_;exactλd G r X T=>post d G r X ((Tr.heap s Y s.toks).trans T)
 |_=>exact nn h
theorem WV(H:ww w B j e hp A E n):Xz w B j e hp A E (n+1):=by
 intro k Nb p L m val g s Q h V I R post;refine Qc λG Y=>?_
 cases T:rd GT k j Nb with
 |Jb i=>
  rw[T] at h;obtain rfl:=jc h;obtain⟨x,q,rfl⟩:=O2 T;obtain⟨N,C,l⟩:=WK T;refine Y ?_;exact GA (Pp R C l V λa t r K=>post {s with heap:=a,toks:=t} g r (Ext.refl g) (Tr.heap s a t))
 |Sb b=>
  rw[T] at h;obtain⟨J,O,q,y,rfl,rfl,rfl⟩:=AL T;refine Y ?_;exact mY H h V I R post
 |_=>rw[T] at h;exact nn h
theorem fS(H:Xz w B j U hp A E n)(b:ww w B j U hp A E n):ww w B j U hp A E (n+1):=by
 intro k J p Y q Lb g s y h V I R post
 cases V with
 |nil=>induction J using xc with
  |nil=>obtain rfl:=jc h;exact HQ (post s g R (Ext.refl g) (Tr.refl s))|cons=>exact nn h
 |cons m t=>induction J using xc with
  |nil=>exact nn h|cons e r=>
   have N:=(CH h).1;obtain⟨l,C,h⟩:=JH h;rw[Ix (N e Fd)];refine IQ (H C m I R λa u G X T=>?_);exact b h (t.ext X) I G λx o Q L O=>post x o Q (X.trans L) (T.trans O)
theorem BJ:∀n,Xz w B s e hp A E n/\ww w B s e hp A E n
 |0=>⟨by intro J J J J J J J J J h;exact nn h,by intro J J J J J J J J J h;exact nn h⟩|n+1=>(BJ n).elim λa b=>⟨WV b,fS a b⟩
theorem sy(n:Nat):Xz w B s e hp A E n:=(BJ n).1
end
def wj(w:xd)(B:Heap)(d:Nat)(j:Scope)(e:Env)(l:Loc)(Nb:Expr)(I:Ic)(h:Hp)(g:Gh)(s:Vb)(k:Value)(Y:Vb):Prop:=
 ∃f T St G,Jh w d k Nb T St/\St f I G Y/\Wb B j e l h G Y.heap/\Ext g G/\Tr s Y/\(∀a,f a->g a=.free)/\(∀x y,Tr s x->T x y->Tr s y)/\∀a o,g a=.Hc->s.heap.get? a=Fb o->Y.heap.get? a=Fb o
inductive Uq(g:Gh):Flow->Fl->Prop
 |next:Uq g .next .next
 |brk:Uq g .brk .brk
 |ret{v:Value}{p:PV}(h:Tb g v p):Uq g (.ret v) (.ret p)
def Eg(B:Heap)(j:Scope)(e:Env)(l:Loc)(h:Hp)(L:Fl)(g:Gh)(s:Vb)(Q:Flow->Vb->Prop):Prop:=
 ∀f Y G,Wb B j e l h G Y.heap->Ext g G->Tr s Y->Uq G f L->Q f Y
def Nk(w:xd)(B:Heap)(d:Nat)(st:jd)(j:Scope)(l:Loc)(h:Hp)(f:Fl)(L:Loc)(H:Hp):Prop:=
 ∀(A:Dd)(e:Env)(g:Gh)(s:Vb)(E:ja)(Q:Flow->Vb->Prop),Cc d A->Wb B j e l h g s.heap->
  Eg B j e L H f g s Q->Pb (Qb pw w) A (exec st e) Q E s
def Rz(w:xd)(B:Heap)(d:Nat)(b:List jd)(j:Scope)(l:Loc)(h:Hp)(f:Fl)(L:Loc)(H:Hp):Prop:=
 ∀(A:Dd)(e:Env)(g:Gh)(s:Vb)(E:ja)(Q:Flow->Vb->Prop),Cc d A->Wb B j e l h g s.heap->
  Eg B j e L H f g s Q->Pb (Qb pw w) A (kf b e) Q E s
theorem Eg.at(e:(L,k,H)=(f,l,h))(post:Eg B j E k H L g s Q):Eg B j E l h f g s Q:=(congrArg (λx:Fl×Loc×Hp=>Eg B j E x.2.1 x.2.2 x.1 g s Q) e).mp post
theorem Eg.ret(e:Rm.ret (f,l,h)=Fb ((L,j,H),Hb))(post:Eg B k E j H L g s Q):Eg B k E l h f g s Q:=Eg.at (Rm.Gd e) post
section
theorem Wb.J7(R:Wb B s E l d g h)(t:h.objs.size<=a)(z:H.get? a=Fb o)(C:∀b x,h.get? b=Fb x->H.get? b=Fb x):Wb B s E l d (Jc g a (.it o)) H:=
 have T:=R.hr.fresh t;have X:=Ext.Jc _ T
 ⟨Wb.baseExt R.base X.n,R.hr.Qo (.inl T) z λb x J J e=>C b x e,R.er.keep X.n λb x J e=>C b x e⟩
theorem wj.mk{St:Ic->Gh->Vb->Prop}(R:Wb B j E l H g s.heap)(W:kq w d (.ref s.heap.objs.size) Nb (·=s.heap.objs.size) Tr St)(T:o.isFreed=Ib)
  (A:St I (Jc g s.heap.objs.size (.it o)) {s with heap:=s.heap.push o}):wj w B d j E l Nb I H g s (.ref s.heap.objs.size) {s with heap:=s.heap.push o}:=
 ⟨_,_,_,_,W.up,⟨rfl,A⟩,R.J7 (Ed _) (Heap.get?_push_size _ T) (λb x e=>Heap.get?_push_of_some _ e),Ext.Jc _ R.fresh,Tr.heap s _ s.toks,λa h=>by rw[h];exact R.fresh,λx y h V=>h.trans V,λa x J e=>Heap.get?_push_of_some _ e⟩
section
theorem oZ{lo H st:Int}(R:Wb B l T L e g s.heap)(U:Tb g v (.ag lo H st))(D:Ym lo H st=Hb)(o:0<=Fi lo H st)
  (h:∀I Y,wj w B d l T L Nb (.Lb ((Ih lo H st).map .int)) e g s I Y->Q I Y):Pb (Qb pw w) A (cn v) Q E s:=by
 refine Md U.inv λa t u x z=>?_;rw[z.1];refine wpAny_pyIter_range (R.hr.Mb _ _ z.2) D (h _ _ ?_);have G:((Ih lo H st).map PV.int).length=(Fi lo H st).toNat:=by unfold Ih;simp
 refine wj.mk R
  (Jh.fixed (by decide)
   (λA J=>Walks.range J s.heap.objs.size lo st _) (λk h r=>⟨_,r,rfl⟩) (λi h m st N=>N _ Fd _ st)) rfl
  ⟨0,_,rfl,ah _,ze ..,?_,λb O V=>(V (List.mem_singleton.mp O)).elim,λj v p C e=>?_⟩
 ·show Heap.get? _ _=_
  rw[G,Xw o];simp only [Int.ofNat_zero,Int.natCast_zero,Int.zero_mul,Int.add_zero,Int.sub_zero];exact Heap.get?_push_size _ rfl
 ·unfold Ih at e
  rw[Yg,bg] at e;refine C.elim λt C=>(Option.map_eq_some_iff.mp e).elim λq y=>?_;have:q=j:=by
   obtain⟨C,f⟩:=List.getElem?_eq_some_iff.mp y.1
   simpa using f.symm
  rw[C,<-y.2,this];exact .int _ _
theorem held(H:g a=.Mb x)(G:a≠I):∀b∈[I,a],b≠I->∃x,Jc g I (.it o) b=.Mb x:=λb h y=>
 have h:b=a:=List.mem_singleton.mp ((List.mem_cons.mp h).resolve_left y)
 ⟨x,h▸(pe g _ G).trans H⟩
theorem fP(H:bc g w V)(fresh:g a=.free):∀(j:Nat)(v:Value)(p:PV),w.toArray[j]?=Fb v->V[j]?=Fb p->Tb (Jc g a (.it o)) v p:=λj v p h b=>by
 rw[oo] at h;exact(H.get b).elim λT q=>jc (q.1.symm.trans h)▸q.2.ext (Ext.Jc _ fresh)
theorem VX(R:Wb B j e l b g s.heap)(T:Tb g v (.Sb V))(h:∀I Y,wj w B d j e l Nb (.Lb V) b g s I Y->Q I Y):Pb (Qb pw w) A (cn v) Q E s:=by
 refine ge T.inv λa y n z=>?_;rw[z.1];have H:=R.hr.Mb _ _ z.2.1;have G:=dm (Heap.lt_size H);exact wpAny_pyIter_tuple (Yk H) (h _ _ (wj.mk R
  (Jh.fixed (by decide)
   (λA J=>(List.size_toArray.trans z.2.2.length:y.toArray.size=_)▸Walks.tuple J s.heap.objs.size a G y.toArray) (λk h p=>p.1.elim λo q=>⟨o,q.1,q.2.1⟩)
   (λi h f st C=>⟨st.1.elim λo q=>⟨o,C _ Fd _ q.1,q.2⟩,st.2.elim λo q=>⟨o,C _ (Ee _ Fd) _ q.1,q.2⟩⟩)) rfl
  ⟨0,_,rfl,ah _,ze ..,⟨⟨_,Heap.get?_push_size _ rfl,rfl,rfl⟩,Yk (Heap.get?_push_of_some _ H)⟩,held z.2.1 G,fP z.2.2 R.fresh⟩))
theorem IY(R:Wb B j e L b g s.heap)(H:Tb g v (.Mb c))(h:∀I Y,wj w B d j e L Nb (.Lb c.toList) b g s I Y->Q I Y):Pb (Qb pw w) A (cn v) Q E s:=by
 refine Md H.inv λa y n l z=>?_;rw[z.1];have C:=R.hr.Mb _ _ z.2.1;have H:=z.2.2.1▸z.2.2.2;have G:=dm (Heap.lt_size C);exact au (rf C) (h _ _ (wj.mk R
  (Jh.fixed (l:=c.toList) (by decide)
   (λA J=>(List.size_toArray.trans H.length:y.toArray.size=_)▸Walks.list J s.heap.objs.size a G y.toArray) (λk h p=>p.1.elim λo q=>⟨o,q.1,q.2.1⟩)
   (λi h V st D=>⟨st.1.elim λo q=>⟨o,D _ Fd _ q.1,q.2⟩,st.2.elim λo q=>⟨o,D _ (Ee _ Fd) _ q.1,q.2⟩⟩)) rfl
  ⟨0,_,rfl,ah _,ze ..,⟨⟨_,Heap.get?_push_size _ rfl,rfl,rfl⟩,rf (Heap.get?_push_of_some _ C)⟩,held z.2.1 G,fP H R.fresh⟩))
theorem v2(R:Wb B j e l b g s.heap)(T:Tb g v (.id i))(h:∀I Y,wj w B d j e l Nb (.Xb i 0) b g s I Y->Q I Y):Pb (Qb pw w) A (cn v) Q E s:=
 Yn T λa H=>Md (R.hr.Xb _ _ H) λJ J J J z=>au (rf z.2.1) (h _ _ (wj.mk R (Jh.live) rfl
  ⟨0,_,rfl,ze ..,(pe g _ (dm (Heap.lt_size z.2.1))).trans H,rfl,rfl⟩))
theorem C5(R:Wb B j U l a g s.heap)(H:Tb g v p)(e:Bi p=Fb (t,Hb))(h:∀I Y,wj w B d j U l Nb t a g s I Y->Q I Y):Pb (Qb pw w) A (cn v) Q E s:=by
 induction p using PV.casesOn with
 |ag lo y st=>
  have q:=Ae e;have T:=(Zc _ _).mp q.2;rw[<-q.1] at h;exact oZ R H T.1 (of_decide_eq_true T.2) h
 |Sb V=>
  rw[Rm.Gd e] at h;exact VX R H h
 |Mb c=>
  rw[Rm.Gd e] at h;exact IY R H h
 |id i=>
  rw[Rm.Gd e] at h;exact v2 R H h
 |_=>exact nn e
end
theorem Wb.turn{f:Ub->Prop}(R:Wb B j E l b g h)(H:tc V G b)(X:Jd g G)(d:∀a,f a->∃o,g a=.it o)(C:∀a o,g a≠.free->¬f a->h.get? a=Fb o->V.get? a=Fb o):Wb B j E l b G V:=
 ⟨Wb.baseExt R.base X,H,R.er.keep X λa o s e=>C a o (by rcases s with s|⟨x,s⟩<;>rw[s]<;>intro h<;>injection h)
  (λq=>by obtain⟨y,k⟩:=d a q;rw[k] at s;rcases s with s|⟨x,s⟩<;>injection s) e⟩
inductive Uo(body:Loc->Hp->Rm (Fl×Loc×Hp))(Nb:M)(n:Nat)(it:Ic)(loc:Loc)(hp:Hp):Fl×Loc×Hp->Prop
 |stop(h:Cd it hp=Fb Gb):Uo body Nb n it loc hp (.next,loc,hp)
 |again{v:PV}{vl:Ic}{Di To:Loc}{cp:Hp}{r:Fl×Loc×Hp}(h:Cd it hp=Fb (Fb (v,vl)))(hb:He 6 Nb v loc=Fb Di)(h1:body Di hp=Fb ((.next,To,cp),Hb))(h2:forLoop body Nb n vl To cp=Fb (r,Hb)):Uo body Nb n it loc hp r
 |brk{v:PV}{vl:Ic}{Di To:Loc}{cp:Hp}(h:Cd it hp=Fb (Fb (v,vl)))(hb:He 6 Nb v loc=Fb Di)(h1:body Di hp=Fb ((.brk,To,cp),Hb)):Uo body Nb n it loc hp (.next,To,cp)
 |ret{v p:PV}{vl:Ic}{Di To:Loc}{cp:Hp}(h:Cd it hp=Fb (Fb (v,vl)))(hb:He 6 Nb v loc=Fb Di)(h1:body Di hp=Fb ((.ret p,To,cp),Hb)):Uo body Nb n it loc hp (.ret p,To,cp)
noncomputable def k_(body:Loc->Hp->Rm (Fl×Loc×Hp))(Nb:M)(n:Nat)(I:Ic)(x:Fl×Loc×Hp):Rm (Fl×Loc×Hp):=x.1.casesOn (forLoop body Nb n I x.2.1 x.2.2) (Rm.ret (.next,x.2.1,x.2.2)) λv=>Rm.ret (.ret v,x.2.1,x.2.2)
noncomputable def VO(body:Loc->Hp->Rm (Fl×Loc×Hp))(Nb:M)(n:Nat)(I:Ic)(h:Hp)(o:Option Loc):Rm (Fl×Loc×Hp):=o.casesOn Gb λl=>Rm.bind (body l h) (k_ body Nb n I)
noncomputable def uO(body:Loc->Hp->Rm (Fl×Loc×Hp))(Nb:M)(n:Nat)(l:Loc)(h:Hp)(o:Option (Option (PV×Ic))):Rm (Fl×Loc×Hp):=o.casesOn Gb λo=>o.casesOn (Rm.ret (.next,l,h)) λp=>VO body Nb n p.2 h (He 6 Nb p.1 l)
theorem NT:forLoop body Nb (n+1) I l h=uO body Nb n l h (Cd I h):=by kernel_rfl
theorem A5(h:forLoop body Nb (n+1) I L H=Fb (r,Hb)):Uo body Nb n I L H r:=by
 have k:∀{v G o},Cd I H=Fb (Fb (v,G))->He 6 Nb v L=o->VO body Nb n G H o=Fb (r,Hb)->Uo body Nb n I L H r:=λ{v G o}=>o.casesOn (λK K h=>nn h) λl A j h=>(Rm.bind_some h).elim λx z=>by
  obtain⟨f,U,Q⟩:=x;have a:=z.2
  induction f using Fl.casesOn with
  |next=>exact .again A j z.1 a|brk=>rw[show r=_ from Rm.Gd a];exact .brk A j z.1|ret p=>rw[show r=_ from Rm.Gd a];exact .ret A j z.1
 have J:∀{o},Cd I H=o->uO body Nb n L H o=Fb (r,Hb)->Uo body Nb n I L H r:=λ{o}=>o.casesOn (λK h=>nn h) λo=>o.casesOn (λh e=>(show r=_ from Rm.Gd e)▸.stop h) λp h e=>k h rfl e;exact J rfl (NT.symm.trans h)
inductive RE(w:xd)(B:Heap)(sc:Scope)(env:Env)(St:(Ub->Prop)->Ic->Gh->Vb->Prop)(body:Loc->Hp->Rm (Fl×Loc×Hp))(Nb:M)(r:Fl×Loc×Hp)(tj:Gh)(Qh:Vb)(n:Nat)(s:Vb):Prop
 |mk{f:Ub->Prop}{g:Gh}{ef:Ic}{loc:Loc}{hp:Hp}(Xj:St f ef g s)(hf:∀a,f a->tj a=.free)(R:Wb B sc env loc hp g s.heap)(X:Ext tj g)(T:Tr Qh s)(h:forLoop body Nb n ef loc hp=Fb (r,Hb)):RE w B sc env St body Nb r tj Qh n s
theorem fq{f:Ub->Prop}(X:Ext G g)(H:∀a,f a->G a=.free)(C:∀a,g a≠.free->¬f a->u a=g a):Ext G u:=λa h=>
 have e:=X a h
 (C a (e.symm▸h) λq=>h (H a q)).trans e
theorem OD{f r:Ub->Prop}(X:Ext G g)(h:∀a,f a->G a=.free)(H:∀a,r a->f a\/g a=.free):∀a,r a->G a=.free:=λa s=>
 (H a s).elim (h a) λq=>fx λQ=>Q ((X a Q).symm.trans q)
section
theorem EC(O:Rz w B d body j L a N b m)(h:Cc d A)(o:He 6 (rd GT k j Nb) x U=Fb L)(V:Tb g val x)(R:Wb B j e U a g s.heap)(X:Ext p g)(T:Tr r s)
  (post:∀f l G,Uq G f N->Wb B j e b m G l.heap->Ext g G->Tr s l->Ext p G->Tr r l->Q f l):Pb (Qb pw w) A (qg Nb e val) (λJ H=>Pb (Qb pw w) A (kf body e) Q E H) E s:=
 sy _ o V h.hand R λH y I Y t=>O A e y H _ _ h I λf l G z q u C=>post f l G C z (Y.trans q) (t.trans u) (X.trans (Y.trans q)) (T.trans (t.trans u))
end
theorem b7
  (hb:∀q b L l U,VN q b=Fb ((L,l,U),Hb)->Rz w B d body u q b L l U)(J:Cc d A)
  (h:forLoop VN (rd GT k u Nb) n I q b=Fb ((L,l,U),Hb))(S:wj w B d u env q Nb I b tj Qh it s)(post:Eg B u env l U L tj Qh Q):
  qi (Qb pw w) A (.forLoop Nb it body [] env) (λr Y=>match r with|.ok f=>Q f Y|.error e=>cameBackBy (Qb pw w) A env E e Y) s:=by
 refine Md S λfp TR St g z=>dG z λW C R X T Sz Um K=>?_;refine codeAny_forLoop_any (RE w B u env St VN (rd GT k u Nb) (L,l,U) tj Qh) ?_ n ⟨C,Sz,R,X,T,h⟩;clear C R X T h Sz S z;intro n s i
 induction i using RE.casesOn with
 |@mk f g I q b C G R X T h=>
  induction n using jf with
  |zero=>exact nn h|succ n=>
   have c:=A5 h;clear h;generalize H:(L,l,U)=r at c
   induction c using Uo.casesOn with
   |stop y=>
    replace post:=Eg.at H post;refine Yd (W.next A _ (λY=>Q .next Y) (λK K=>False) f I g s _ Gb J C R.hr y λY g' j m D hT o=>post .next Y g' (R.turn j m (λa t=>W.own f I g s a C t) o) (fq X G D) (Um _ _ T hT) .next) (λr Y H=>?_) λK K x=>x
    induction r using Wd with
    |none=>exact mx H|some v=>exact Yd H (λK K x=>x.elim) λK K x=>x
   |again y N O h2=>
    refine Yd (W.next A _ (λK=>False) ?_ f I g s b _ J C R.hr y ?_) (λr Y H=>?_) λK K x=>x
    rotate_left 2
    ·induction r using Wd with
     |none=>exact H.elim|some v=>exact H
    exactλY g' j m D hT o val f' Sq V On=>EC (hb _ _ _ _ _ O) J N V (R.turn j m (λa t=>W.own f I g s a C t) o) (fq X G D) (Um _ _ T hT) λfv Mh zh F p oh Ve X' T'=>by
     cases F
     exact⟨n,Af n,W.mz On j oh.i Ve p.hr,OD X G Sq,p,X',T',H▸h2⟩
   |brk y N O=>
    replace post:=Eg.at H post;refine Yd (W.next A _ (λK=>False) ?_ f I g s b _ J C R.hr y ?_) (λr Y H=>?_) λK K x=>x
    rotate_left 2
    ·induction r using Wd with
     |none=>exact H.elim|some v=>exact H
    exactλY g' j m D hT o val f' Sq V On=>EC (hb _ _ _ _ _ O) J N V (R.turn j m (λa t=>W.own f I g s a C t) o) (fq X G D) (Um _ _ T hT) λfv Mh zh F p oh Ve X' T'=>by
     cases F
     exact post .next Mh zh p X' T' .next
   |ret y N O=>
    replace post:=Eg.at H post;refine Yd (W.next A _ (λK=>False) ?_ f I g s b _ J C R.hr y ?_) (λr Y H=>?_) λK K x=>x
    rotate_left 2
    ·induction r using Wd with
     |none=>exact H.elim|some v=>exact H
    exactλY g' j m D hT o val f' Sq V On=>EC (hb _ _ _ _ _ O) J N V (R.turn j m (λa t=>W.own f I g s a C t) o) (fq X G D) (Um _ _ T hT) λfv Mh zh F p oh Ve X' T'=>by
     cases F with|ret hv=>exact post _ Mh zh p X' T' (.ret hv)
end
noncomputable def Ye(g:Gh)(h:Heap):Gh:=λa=>match g a with
 |.Hc=>match h.get? a with
  |some o=>.out o|none=>.free
 |t=>t
theorem Mi(H:g a≠.Hc):Ye g h a=g a:=by
 unfold Ye;generalize g a=t at H⊢
 induction t using Tc.casesOn with
 |Hc=>exact(H rfl).elim|_=>rfl
theorem MM(H:g a=.Hc):Ye g h a=match h.get? a with
 |some o=>.out o|none=>.free:=by unfold Ye;rw[H]
theorem Nu(H:g a=.Hc)(z:h.get? a=Fb o):Ye g h a=.out o:=by
 refine(MM H).trans ?_;rw[z]
theorem Qp(e:Ye g h a=t)(D:t≠.free):(g a=t/\t≠.Hc)\/(g a=.Hc/\∃o,t=.out o/\h.get? a=Fb o):=by
 by_cases q:g a=.Hc
 ·replace e:=(MM q).symm.trans e
  cases H:h.get? a with
  |some o=>rw[H] at e;exact .inr ⟨q,o,e.symm,rfl⟩|none=>rw[H] at e;exact(D e.symm).elim
 ·replace e:=(Mi q).symm.trans e
  exact .inl ⟨e,λz=>q (e.trans z)⟩
theorem Tf.Ye(g:Gh)(h:Heap):Tf g (Ye g h):=⟨λa o e=>by rw[Mi (by rw[e];intro h;injection h),e],λa i e=>by exact(Mi (by rw[e];intro h;injection h)).trans e⟩
theorem tc.Ye{h:Heap}{g:Gh}{d:Hp}(H:tc h g d):tc h (Mine.Ye g h) d where
 Mb a o e:=by
  rcases Qp e (by intro h;injection h) with⟨q,J⟩|⟨J,O,q,J⟩
  ·exact H.Mb a o q
  ·injection q
 out a o e:=by
  rcases Qp e (by intro h;injection h) with⟨q,J⟩|⟨J,O,q,Q⟩
  ·exact H.out a o q
  ·(injection q with x;refine Jg x ?_);exact Q
 it a o e:=by
  rcases Qp e (by intro h;injection h) with⟨q,J⟩|⟨J,O,q,J⟩
  ·exact H.it a o q
  ·injection q
 Hc a e:=by
  rcases Qp e (by intro h;injection h) with⟨J,q⟩|⟨J,O,q,J⟩
  ·exact(q rfl).elim
  ·injection q
 Xb a i e:=by
  refine Qc λG k=>?_;rcases Qp e (by intro h;injection h) with⟨q,J⟩|⟨J,O,q,J⟩
  ·refine Md (H.Xb a i q) λb c w n z=>we z λE p r=>?_;clear z
   refine k ?_;exact⟨b,c,w,n,E,p,r.xh (Tf.Ye g h)⟩
  ·injection q
 all i y:=by
  obtain⟨a,e⟩:=H.all i y;exact⟨a,(Tf.Ye g h).Xb a i e⟩
 inj a b i E p:=by
  rcases Qp E (by intro h;injection h) with⟨s,J⟩|⟨J,O,q,J⟩
  ·rcases Qp p (by intro h;injection h) with⟨T,J⟩|⟨J,O,q,J⟩
   ·exact H.inj a b i s T
   ·injection q
  ·injection q
noncomputable def Kh(g G:Gh):Gh:=λa=>match g a with
 |.free=>match G a with
  |.Mb o=>.Mb o|.Xb i=>.Xb i|_=>.free
 |t=>t
theorem Vp(h:g a≠.free):Kh g G a=g a:=by
 unfold Kh
 split
 ·rename_i e;exact(h e).elim
 ·rfl
theorem sn(h:g a=.free):Kh g G a=match G a with|.Mb o=>.Mb o|.Xb i=>.Xb i|_=>.free:=by
 unfold Kh;rw[h]
theorem Ext.Kh(g G:Gh):Ext g (Kh g G):=λJ h=>Vp h
section
theorem yJ(b:tc H g d)(X:Ext (Ye g H) G):Tf G (Kh g G):=by
 have key:∀a t,G a=t->t≠.free->(∀o,t≠.out o)->g a=.free\/Kh g G a=t:=λa t e D x=>by
  by_cases q:g a=.free
  ·exact .inl q
  ·refine .inr ?_
   refine(Vp q).trans ?_
   by_cases p:g a=.Hc
   ·refine(b.Hc a p).elim λo z=>?_
    have E:=Nu p z;have:=X a (by rw[E];intro h;injection h);rw[E,e] at this;exact(x o this).elim
   ·have E:=Mi (h:=H) p
    have:=X a (by rw[E];exact q);rw[E,e] at this;exact this.symm
 refine⟨λa o e=>?_,λa i e=>?_⟩
 ·rcases key a _ e (by intro h;injection h) (by intro o h;injection h) with q|q
  ·refine(sn q).trans ?_;rw[e]
  ·exact q
 ·rcases key a _ e (by intro h;injection h) (by intro o h;injection h) with q|q
  ·refine(sn q).trans ?_;rw[e]
  ·exact q
theorem su(b:tc l g d)(X:Ext (Ye g l) G)(H:tc h G T)(s:g a=.Hc\/(∃x,g a=.out x)\/(∃x,g a=.Mb x)\/(∃x,g a=.it x))(e:l.get? a=Fb o):h.get? a=Fb o:=by
 rcases s with s|⟨x,s⟩|⟨x,s⟩|⟨x,s⟩
 ·have E:=Nu s e
  exact H.out a o (by exact(X a (by rw[E];intro h;injection h)).trans E)
 ·have E:=Mi (g:=g) (h:=l) (by rw[s];intro h;injection h)
  have:=b.out a x s;replace e:=this.symm.trans e;cases e;exact H.out a o (by rw[X a (by rw[E,s];intro h;injection h),E,s])
 ·have E:=Mi (g:=g) (h:=l) (by rw[s];intro h;injection h)
  have:=b.Mb a x s;rw[this] at e;cases e;exact H.Mb a o (by rw[X a (by rw[E,s];intro h;injection h),E,s])
 ·have E:=Mi (g:=g) (h:=l) (by rw[s];intro h;injection h)
  have:=b.it a x s;rw[this] at e;cases e;exact H.it a o (by rw[X a (by rw[E,s];intro h;injection h),E,s])
set_option tactic.hygienic true in
theorem tc.Kh(d:tc m g f)(X:Ext (Mine.Ye g m) G)(H:tc h G T):tc h (Mine.Kh g G) T:=by
 have V:=yJ d X;have l:∀a i,Mine.Kh g G a=.Xb i->G a=.Xb i:=λa i e=>by
  by_cases q:g a=.free
  ·rw[sn q] at e
   split at e
   ·injection e
   ·rename_i k;exact k.trans e
   ·injection e
  ·replace e:=(Vp q).symm.trans e
   have E:=Mi (g:=g) (h:=m) (a:=a) (by rw[e];intro h;injection h);refine(X a (by rw[E,e];intro h;injection h)).trans ?_;exact E.trans e
 refine⟨λa o e=>?_,λa o e=>?_,λa o e=>?_,λa e=>?_,λa i e=>?_,λi y=>?_,λa b i E p=>H.inj a b i (l a i E) (l b i p)⟩
 ·by_cases q:g a=.free
  ·rw[sn q] at e
   split at e
   ·rename_i O k;(injection e with x;subst x);exact H.Mb a _ k
   ·injection e
   ·injection e
  ·rw[Vp q] at e
   exact su d X H (.inr (.inr (.inl ⟨o,e⟩))) (d.Mb a o e)
 ·by_cases q:g a=.free
  ·rw[sn q] at e;split at e<;>injection e
  ·rw[Vp q] at e
   exact su d X H (.inr (.inl ⟨o,e⟩)) (d.out a o e)
 ·by_cases q:g a=.free
  ·rw[sn q] at e;split at e<;>injection e
  ·rw[Vp q] at e
   exact su d X H (.inr (.inr (.inr ⟨o,e⟩))) (d.it a o e)
 ·by_cases q:g a=.free
  ·replace e:=(sn q).symm.trans e;split at e<;>injection e
  ·replace e:=(Vp q).symm.trans e
   obtain⟨o,A⟩:=d.Hc a e;exact⟨o,su d X H (.inl e) A⟩
 ·refine Qc λs Y=>?_
  refine Md (H.Xb a i (l a i e)) λb c w n z=>we z λE p r=>?_;clear z;refine Y ?_;exact⟨b,c,w,n,E,p,r.xh V⟩
 ·obtain⟨a,e⟩:=H.all i y
  exact⟨a,V.Xb a i e⟩
theorem Wb.Kh(R:Wb B j E l b g m)(X:Ext (Ye g m) G)(H:tc h G T):Wb B j E l T (Mine.Kh g G) h:=
 ⟨Wb.baseExt R.base (Ext.Kh g G).n,R.hr.Kh X H,R.er.keep (Ext.Kh g G).n λa o s e=>su R.hr X H (by rcases s with s|s;exact .inl s;exact .inr (.inl s)) e⟩
theorem Wb.I4(R:Wb B s E l b g H):∀a o,B.get? a=Fb o->Ye g H a=.out o\/Ye g H a=.Mb o:=λa o e=>by
 rcases R.base a o e with q|q
 ·exact .inl (by exact(Mi (by rw[q];intro h;injection h)).trans q)
 ·exact .inr (by exact(Mi (by rw[q];intro h;injection h)).trans q)
end
section
theorem OT(I:Nat->Vb->Prop)
  (turn:∀n s,I n s->Pb (Qb pw w) A (fj j) (λr J=>match r with
   |none=>R (.ok .next) J|some v=>Pb (Qb pw w) A (cu target j v) (λK g=>Pb (Qb pw w) A (qg target E v) (λK L=>
    Pb (Qb pw w) A (forIn N Hb λc r=>if r=Hb then do let o<-isTrue c E (eval c E);pure (nx o) else pure (nx r)) (λo l=>
     if o=Hb then Pb (Qb pw w) A (eval p E) (λx f=>
      Pb (Qb pw w) A (call (.builtin "list.append") [a,x]) (λK k=>∃m,m<n/\I m k) (notedBy (Qb pw w) A E λe Y=>R (.error e) Y) f) (notedBy (Qb pw w) A E λe Y=>R (.error e) Y) l
     else∃m,m<n/\I m l) (notedBy (Qb pw w) A E λe Y=>R (.error e) Y) L) (notedBy (Qb pw w) A E λe Y=>R (.error e) Y) g) (notedBy (Qb pw w) A E λe Y=>R (.error e) Y) J)
   (notedBy (Qb pw w) A E λe Y=>R (.error e) Y) s)
  (n:Nat)(h:I n s):qi (Qb pw w) A (.compLoop (.ListComp p [⟨target,iter,N,0⟩] t T) 0 j a E) R s:=by
 refine codeAny_loop rfl I (λn s G=>?_) n h;show Pb _ A ((compTurn (.ListComp p [⟨target,iter,N,0⟩] t T) 0 j a E).onRaise (λx=>do noteFrame x E;JQ x)) _ _ s;refine wpAny_noted ?_;refine Po (by rw[compTurn_list]) ?_;refine Ob (gj (Ob (Yd (turn n s G) (λr J z=>?_) λK K H=>H)))
 induction r using Wd with
 |none=>exact vc z|some v=>
  refine Ob (Yd z (λK g u=>?_) λK K H=>H);refine Ob (Yd u (λK L y=>?_) λK K H=>H);refine Ob (Yd y (λo l q=>?_) λK K H=>H)
  induction o using Ld with
  |false=>exact vc ⟨rfl,q⟩|true=>exact Ob (Ob (Yd q (λx f B=>Ob (Yd B (λK k C=>vc (vc ⟨rfl,C⟩)) λK K H=>H)) λK K H=>H))
noncomputable def Lv(k:Nat)(s:Scope):ka->Option (Option M)
 |[]=>Fb Gb|[c]=>Fb (Fb (qf GT k s c))|_=>Gb
noncomputable def cz(r:Ke)(l:Loc)(h:Hp)(cond:Option M):Rm (Bool×Hp):=match cond with|some c=>ud r l c h|none=>Rm.ret (Hb,h)
theorem RL(f:qd w B d a){cond:Option M}(h:cz a l m cond=Fb ((b,U),Hb))(H:Lv k j I=Fb cond)(J:Cc d A)(R:Wb B j e l m g s.heap)(post:bO B j e l U b g s Q):
  Pb (Qb pw w) A (forIn I Hb λc r=>if r=Hb then do let o<-isTrue c e (eval c e);pure (nx o) else pure (nx r)) Q E s:=by
 induction I using xc with
 |nil=>
  rw[<-jc H] at h;revert post;refine Oh h λpost=>?_;exact vc (post s g R (Ext.refl g) (Tr.refl s))
 |cons c r=>induction r using xc with
  |cons=>exact nn H|nil=>
   rw[<-jc H] at h;simp only [HA,IA,if_true];exact Ob (Ob (Zp f k c h A e g s E _ J R λY G L X T=>vc (vc (post Y G L X T))))
theorem Wb.RN(R:Wb B s E l d g h)(D:g a=.it o)(z:V.get? a=Fb A)(C:∀b x,b≠a->h.get? b=Fb x->V.get? b=Fb x):Wb B s E l d (Jc g a (.it A)) V:=
 have O:yf g a:=.inr ⟨o,D⟩;have X:=Jd.Jc _ O
 ⟨Wb.baseExt R.base X,R.hr.Qo O z λb x H J e=>C b x H e,R.er.keep X λb x H e=>C b x (λq=>by obtain rfl:=q.symm;rw[D] at H;rcases H with H|⟨y,H⟩<;>injection H) e⟩
inductive Wq(rE:Ke)(Sd Nb:M)(cond:Option M)(n:Nat)(it:Ic)(loc:Loc)(hp:Hp)(acc:Cell):Cell×Hp->Prop
 |stop(h:Cd it hp=Fb Gb):Wq rE Sd Nb cond n it loc hp acc (acc,hp)
 |skip{v:PV}{vl:Ic}{Di:Loc}{Nw:Hp}{r:Cell×Hp}(h:Cd it hp=Fb (Fb (v,vl)))(hb:He 6 Nb v loc=Fb Di)(h1:cz rE Di hp cond=Fb ((Ib,Nw),Hb))(h2:compLoop rE Sd Nb cond n vl Di Nw acc=Fb (r,Hb)):Wq rE Sd Nb cond n it loc hp acc r
 |add{v:PV}{vl:Ic}{Di:Loc}{Nw:Hp}{x:PV×Hp}{r:Cell×Hp}(h:Cd it hp=Fb (Fb (v,vl)))(hb:He 6 Nb v loc=Fb Di)(h1:cz rE Di hp cond=Fb ((Hb,Nw),Hb))(h3:rE Sd Ib Di Nw=Fb (x,Hb))(h5:acc.len+1<=ic)(h2:compLoop rE Sd Nb cond n vl Di x.2 (acc.push x.1)=Fb (r,Hb)):Wq rE Sd Nb cond n it loc hp acc r
noncomputable def coT(r:Ke)(e Nb:M)(cond:Option M)(n:Nat)(I:Ic)(l:Loc)(a:Cell)(b:Bool×Hp):Rm (Cell×Hp):=b.1.casesOn (compLoop r e Nb cond n I l b.2 a) (Rm.bind (r e Ib l b.2) λx=>Rm.bind (Rm.need (decide (a.len+1<=ic))) λJ=>compLoop r e Nb cond n I l x.2 (a.push x.1))
noncomputable def mQ(r:Ke)(e Nb:M)(cond:Option M)(n:Nat)(I:Ic)(h:Hp)(a:Cell)(o:Option Loc):Rm (Cell×Hp):=o.casesOn Gb λl=>Rm.bind (cz r l h cond) (coT r e Nb cond n I l a)
noncomputable def uP(r:Ke)(e Nb:M)(cond:Option M)(n:Nat)(l:Loc)(h:Hp)(a:Cell)(o:Option (Option (PV×Ic))):Rm (Cell×Hp):=o.casesOn Gb λo=>o.casesOn (Rm.ret (a,h)) λp=>mQ r e Nb cond n p.2 h a (He 6 Nb p.1 l)
theorem XS{cond:Option M}:compLoop r e Nb cond (n+1) I l h a=uP r e Nb cond n l h a (Cd I h):=by kernel_rfl
theorem BY{cond:Option M}(h:compLoop a E Nb cond (n+1) I L H A=Fb (r,Hb)):Wq a E Nb cond n I L H A r:=by
 have k:∀{v G o},Cd I H=Fb (Fb (v,G))->He 6 Nb v L=o->mQ a E Nb cond n G H A o=Fb (r,Hb)->Wq a E Nb cond n I L H A r:=λ{v G o}=>o.casesOn (λK K h=>nn h) λl B j h=>(Rm.bind_some h).elim λx z=>by
  obtain⟨b,O⟩:=x
  induction b using Ld with
  |false=>exact .skip B j z.1 z.2|true=>
   have d:=z.2;exact(Rm.bind_some d).elim λx y=>(Rm.bind_some y.2).elim λu Y=>.add B j z.1 y.1 (of_decide_eq_true (Ae Y.1).2) Y.2
 have J:∀{o},Cd I H=o->uP a E Nb cond n L H A o=Fb (r,Hb)->Wq a E Nb cond n I L H A r:=λ{o}=>o.casesOn (λK h=>nn h) λo=>o.casesOn (λh e=>(show r=_ from Rm.Gd e)▸.stop h) λp h e=>k h rfl e;exact J rfl (XS.symm.trans h)
inductive tA(w:xd)(B:Heap)(sc:Scope)(env:Env)(St:(Ub->Prop)->Ic->Gh->Vb->Prop)(rE:Ke)(Sd Nb:M)(cond:Option M)(r:Cell×Hp)(D:Ub)(tj:Gh)(Qh:Vb)(n:Nat)(s:Vb):Prop
 |mk{f:Ub->Prop}{g:Gh}{ef:Ic}{loc:Loc}{hp:Hp}{acc:Cell}{ws:ia}{m:Nat}(Xj:St f ef g s)(hf:∀a,f a->tj a=.free)(QP:¬f D)(R:Wb B sc env loc hp g s.heap)(X:Ext tj g)(T:Tr Qh s)(hD:g D=.it (Rc ws m))(hV:bc g ws acc.toList)(hl:acc.len<=ic)
  (h:compLoop rE Sd Nb cond n ef loc hp acc=Fb (r,Hb)):tA w B sc env St rE Sd Nb cond r D tj Qh n s
section
theorem aY{cond:Option M}{St:(Ub->Prop)->Ic->Gh->Vb->Prop}{l:Cell}(ih:qd w B d z)(hA:Cc d A)(W:Jh w d it Nb TR St)(VF:G D=.free)(Xj:St f L g s)(hf:∀a,f a->G a=.free)(Y:¬f D)(R:Wb B j V N hp g s.heap)(X:Ext G g)(T:Tr Qh s)(hD:g D=.it (Rc y m))(hV:bc g y l.toList)(h3:z (Zb GT k j C) Ib N hp=Fb (x,Hb))(h5:l.len+1<=ic)
  (h2:compLoop z (Zb GT k j C) (rd GT k j Nb) cond n L N x.2 (l.push x.1)=Fb (r,Hb)):
  Pb (Qb pw w) A (eval C V) (λt h=>Pb (Qb pw w) A (call (.builtin "list.append") [.ref D,t]) (λK xw=>∃m,m<n+1/\tA w B j V St z (Zb GT k j C) (rd GT k j Nb) cond r D G Qh m xw) E h) E s:=by
 refine zf ih h3 A V g s _ _ hA R λt h I p U O Tv=>?_;have Q:=U.at hD iz;have qQ:=hV.ext U;have J:=p.hr.it _ _ Q;have hs:y.length=l.len:=by rw[Cell.len_eq,qQ.length]
 refine po PySem.F.slot_list_append ⟨_,J,rfl⟩ PySem.F.entry_list_append (PySem.F.args_list_append_2 _ _) (list_append D y.toArray m t (seq_fits hs (bx h5))) ⟨J,?_⟩;refine(Vr (λx=>x.push t) J (List.push_toArray _ _)).elim λn' Xq=>?_;have qt:=p.RN Q Xq λb x hb e=>(Heap.get?_update_other _ _ (sh hb)).trans e;have u:Jd I (Jc I D (.it (Rc (y++[t]) n'))):=Jd.Jc _ (.inr ⟨_,Q⟩);exact⟨n,Af n,W.ji f L I h _ _ _ _ (W.mz Xj R.hr U.i O p.hr) p.hr (λa H=>pe _ _ (λq:a=D=>Y (q▸H))) u.v (λa o e=>u.out e) (Tr.heap h _ _) qt.hr,hf,Y,qt,
  λa H=>(pe _ _ λq:a=D=>H (q▸VF)).trans ((X.trans U) a H),(T.trans O).trans (Tr.heap h _ _),ze ..,by rw[Nx];exact(qQ.nh u).append (.cons (Tv.nh u) .nil),by rw[Cell.len_eq,Nx,Pd,<-Cell.len_eq];exact h5,h2⟩
end
theorem M4{cond:Option M}
  {St:(Ub->Prop)->Ic->Gh->Vb->Prop}(ih:qd w B d rE)(I:Cc d A)(hc:Lv k j ifs=Fb cond)
  (h:compLoop rE (Zb GT k j Sd) (rd GT k j Nb) cond n u loc hp HM=Fb ((Pq,Ac),Hb))
  (W:Jh w d it Nb TR St)(E:St f u g s)(R:Wb B j env loc hp g s.heap)(X:Ext tj g)(T:Tr Qh s)(e:∀a,f a->tj a=.free)(Um:∀x y,Tr Qh x->TR x y->Tr Qh y)
  (o:∃z n,g D=.it (Rc z n)/\bc g z HM.toList)(Q:¬f D)(VF:tj D=.free)(hlen:HM.len<=ic)
  (post:∀Y G cf,Wb B j env cf Ac G Y.heap->Ext tj G->Tr Qh Y->(∃z n,G D=.it (Rc z n)/\bc G z Pq.toList)->Rr (.ok .next) Y):
  qi (Qb pw w) A (.compLoop (.ListComp Sd [⟨Nb,iter,ifs,0⟩] scope pos) 0 it (.ref D) env) Rr s:=by
 refine o.elim λz o=>o.elim λm o=>OT (tA w B j env St rE (Zb GT k j Sd) (rd GT k j Nb) cond (Pq,Ac) D tj Qh) ?_ n ⟨E,e,Q,R,X,T,o.1,o.2,hlen,h⟩;clear E R X T o h hlen e Q;intro n s i
 induction i using tA.casesOn with
 |@mk f g u loc hp acc z m E e Q R X T o hV hlen h=>
  induction n using jf with
  |zero=>exact nn h|succ n=>
   have c:=BY h;clear h;have BE:∀{G:Gh},(∀a,g a≠.free->¬f a->G a=g a)->G D=.it (Rc z m):=λC=>(C D (o▸iz) Q).trans o;have oN:∀{f':Ub->Prop},(∀a,f' a->f a\/g a=.free)->¬f' D:=λL J=>(L D J).elim Q λq=>iz (o.symm.trans q);generalize H:(Pq,Ac)=r at c
   induction c using Wq.casesOn with
   |stop N=>
    have q:=ye H;rw[q.1,q.2] at post;refine Yd (W.next A _ (λY=>Rr (.ok .next) Y) (λK K=>False) f u g s _ Gb I E R.hr N λY G b p C hT O=>post Y G loc (R.turn b p (λa J=>W.own f u g s a E J) O) (fq X e C) (Um _ _ T hT) ⟨z,m,BE C,hV.nh p⟩) (λr Y H=>?_) λK K x=>x
    induction r using Wd with
    |none=>exact H|some v=>exact Yd H (λK K x=>x.elim) λK K x=>x
   |skip N Mv h1 h2=>
    refine Yd (W.next A _ (λK=>False) ?_ f u g s hp _ I E R.hr N ?_) (λr Y H=>?_) λK K x=>x
    rotate_left 2
    ·induction r using Wd with
     |none=>exact H.elim|some v=>exact H
    refineλY G b p C hT O val f' L V On=>sy _ Mv V I.hand (R.turn b p (λa J=>W.own f u g s a E J) O) λjg sd nf Vg mf=>RL ih h1 hc I nf λMh zh U oh Ve=>?_;have t:=Vg.trans oh;have l:=mf.trans Ve;refine pq Of ?_;exact⟨n,Af n,W.mz On b t.i l U.hr,OD X e L,oN L,U,(fq X e C).trans t,(Um _ _ T hT).trans l,t.at (BE C) iz,(hV.nh p).ext t,hlen,H▸h2⟩
   |add N Mv h1 h3 h5 h2=>
    refine Yd (W.next A _ (λK=>False) ?_ f u g s hp _ I E R.hr N ?_) (λr Y H=>?_) λK K x=>x
    rotate_left 2
    ·induction r using Wd with
     |none=>exact H.elim|some v=>exact H
    refineλY G b p C hT O val f' L V On=>sy _ Mv V I.hand (R.turn b p (λa J=>W.own f u g s a E J) O) λjg sd nf Vg mf=>RL ih h1 hc I nf λMh zh U oh Ve=>?_;have t:=Vg.trans oh;have l:=mf.trans Ve;refine Js rfl ?_;exact aY ih I W VF (W.mz On b t.i l U.hr) (OD X e L) (oN L) U ((fq X e C).trans t) ((Um _ _ T hT).trans l) (t.at (BE C) iz) ((hV.nh p).ext t) h3 h5 (H▸h2)
end
noncomputable def Ei(e:Env):List (Str×gf)->List (Str×Ub)->List (Str×Ub)
 |[],a=>a|(n,k)::r,a=>if k==.free then Ei e r ((n,(e.cells.lookup n).getD 0)::a) else Ei e r a
theorem SR(h:∀x∈s.names,x.2=.free->(e.cells.lookup x.1).isSome=Hb):closureFor s e=pure (Ei e s.names []):=by
 have key:∀(N:List (Str×gf))(A:List (Str×Ub)),(∀x∈N,x.2=.free->(e.cells.lookup x.1).isSome=Hb)->
   (forIn N A (λ(x:Str×gf)(C:List (Str×Ub))=>if x.2==.free then(do let a<-cellOf e x.1;pure (nx ((x.1,a)::C))) else pure (nx C)):Sem (List (Str×Ub)))=pure (Ei e N A):=by
  intro N
  induction N with
  |nil=>intro A J;rfl|cons x r I=>
   intro A O;obtain⟨n,k⟩:=x;rw[HA];have D:=λA=>I A (λy b=>O y (Ee _ b));refine Eq.trans ?_ (congrArg pure (show(if k==.free then Ei e r ((n,(e.cells.lookup n).getD 0)::A) else Ei e r A)=Ei e ((n,k)::r) A from rfl))
   cases H:k==JA with
   |false=>
    simp only [H,JG,if_false,pure_bind];exact D A
   |true=>
    have B:=O (n,k) Fd (eq_of_beq H);refine(Option.isSome_iff_exists.mp B).elim λa t=>?_;have d:cellOf e n=pure a:=by unfold cellOf;rw[t]
    simp only [H,if_true,d,pure_bind,t,Option.getD_some];exact D _
 have:=key s.names [] h;unfold closureFor;simp only [bind_pure];refine Eq.trans ?_ this
 congr 1
theorem R1:∀{a:List (Str×Ub)},(∀y∈N,y.1≠x)->(Ei T N a).lookup x=a.lookup x:=by
 induction N with
 |nil=>exactλJ=>rfl|cons y r I=>
  intro a h;have H:=λz E=>h z (Ee _ E);exact ct (P:=λl=>ro x l=ro x a) (λJ=>(I H).trans (tD (beq_false_of_ne λe=>h y Fd e.symm))) λJ=>I H
theorem Hl(h:gh (x::r)=Hb):x∉r/\gh r=Hb:=by
 have h:=(Zc _ _).mp h;exact⟨λq=>Of (((bn _).mp h.1).symm.trans (List.contains_iff_mem.mpr q)),h.2⟩
theorem Zx{y:Str×gf}{r:List (Str×gf)}(h:y.1∉r.map (·.1))(e:y.1=x):∀z∈r,z.1≠x:=λJ H w=>h (e.trans w.symm▸KG H)
theorem bY:∀{a:List (Str×Ub)}{j:Nat},gh (N.map (·.1))=Hb->slotIn N x j=Fb (i,.free)->(Ei E N a).lookup x=Fb ((E.cells.lookup x).getD 0):=by
 induction N with
 |nil=>exactλJ=>nn|cons y r I=>
  refineλz h=>(Hl z).elim λA H=>An h (λe J q=>?_) λJ h=>ct (P:=λl=>ro x l=Fb ((E.cells.lookup x).getD 0)) (λJ=>I H h) λJ=>I H h;refine(congrArg (ro x) (if_pos (beq_iff_eq.mpr q))).trans ((R1 (Zx A e)).trans ?_);exact e▸Uw
theorem OR(N:List (Str×gf)):∀(n:Nat)(a A:List (Str×Ub)),th n N (a++A)=th n N a++A:=by
 induction N with
 |nil=>exactλJ J J=>rfl|cons y r I=>
  intro n a A;show(if y.2==.cell then th (n+1) r ((y.1,n)::(a++A)) else th n r (a++A))=(if y.2==.cell then th (n+1) r ((y.1,n)::a) else th n r a)++A
  by_cases q:(y.2==du)=Hb
  ·rw[if_pos q,if_pos q];exact I (n+1) ((y.1,n)::a) A
  ·rw[if_neg q,if_neg q];exact I n a A
theorem AH:∀{n:Nat}{a:List (Str×Ub)},(∀y∈N,y.1=x->y.2≠.cell)->(th n N a).lookup x=a.lookup x:=by
 induction N with
 |nil=>exactλJ=>rfl|cons y r I=>
  intro n a h;have H:=λz E=>h z (Ee _ E);exact ct (P:=λl=>ro x l=ro x a) (λq=>(I H).trans (tD (beq_false_of_ne λe=>h y Fd e.symm (eq_of_beq q)))) λJ=>I H
theorem iB:∀{n:Nat}{acc:List (Str×Ub)}{j:Nat},slotIn N x j=Fb (i,.cell)->gh (N.map (·.1))=Hb->∃a,(th n N acc).lookup x=Fb a/\n<=a:=by
 induction N with
 |nil=>exactλh=>nn h|cons y r I=>
  intro n acc j h A;refine(Hl A).elim λB H=>An h (λe J q=>⟨n,?_,Ed _⟩) λJ h=>ct (P:=λl=>∃a,ro x l=Fb a/\n<=a) (λJ=>(I h H).elim λa z=>⟨a,z.1,bx z.2⟩) λJ=>I h H;refine(congrArg (ro x) (if_pos (beq_iff_eq.mpr q))).trans ((AH λz E w=>(Zx B e z E w).elim).trans ?_);exact e▸Uw
theorem Yp:∀{j},slotIn N x j=Fb (i,k)->(x,k)∈N:=by
 induction N with
 |nil=>exact nn|cons y r I=>exactλh=>An h (λe J q=>e▸q▸Fd) λJ h=>Ee _ (I h)
theorem oU{N:List (Str×gf)}(z:gh (N.map (·.1))=Hb)(h:(x,k)∈N)(H:(x,G)∈N):k=G:=by
 induction N with
 |nil=>exact(Xd h).elim|cons y r I=>
  refine(Hl z).elim λA j=>(List.mem_cons.mp h).elim (λe=>(List.mem_cons.mp H).elim (λE=>congrArg Prod.snd (e.trans E.symm)) λH=>?_) λh=>(List.mem_cons.mp H).elim (λE=>?_) (I j h)
  ·exact(Zx A (congrArg Tw e).symm _ H rfl).elim
  ·exact(Zx A (congrArg Tw E).symm _ h rfl).elim
theorem fB:∀(N:List (Str×gf))(h:Heap),h.objs.size<=(mr h N).objs.size
 |[],_=>Ed _|(_,kind)::r,h=>by
  exact ct (P:=λz:Heap=>h.objs.size<=z.objs.size) (λJ=>dc (Df (Heap.size_push h _▸Af _)) (fB r (h.push {cls:=.type "cell",data:=.cell Gb}))) λJ=>fB r h
theorem tc.grow(H:tc h g d)(C:∀a o,h.get? a=Fb o->V.get? a=Fb o)(D:∀a,g a≠.free->G a=g a)
  (B:∀a,g a=.free->G a=.free\/(G a=.Hc/\∃o,V.get? a=Fb o)\/(∃o,G a=.it o/\V.get? a=Fb o)):tc V G d:=by
 have X:Ext g G:=D;have back:∀a t,G a=t->t≠.free->t≠.Hc->(∀o,t≠.it o)->g a=t:=λa t e I j Q=>by
  by_cases q:g a=.free
  ·rcases B a q with z|⟨z,K⟩|⟨o,z,K⟩
   ·exact(I (e.symm.trans z)).elim
   ·exact(j (e.symm.trans z)).elim
   ·exact(Q o (e.symm.trans z)).elim
  ·refine(D a q).symm.trans ?_;exact e
 refine⟨λa o e=>C a o (H.Mb a o (back a _ e (by intro h;injection h) (by intro h;injection h) (by intro o h;injection h))),λa o e=>C a o (H.out a o (back a _ e (by intro h;injection h) (by intro h;injection h) (by intro o h;injection h))),
  λa o e=>?_,λa e=>?_,λa i e=>?_,λi y=>?_,λa b i E p=>H.inj a b i (back a _ E (by intro h;cases h) (by intro h;cases h) (by intro o h;cases h)) (back b _ p (by intro h;cases h) (by intro h;cases h) (by intro o h;cases h))⟩
 ·by_cases q:g a=.free
  ·rcases B a q with z|⟨z,K⟩|⟨O,z,Y⟩
   ·rw[z] at e;injection e
   ·rw[z] at e;injection e
   ·rw[z] at e;(injection e with x;subst x);exact Y
  ·rw[D a q] at e;exact C a o (H.it a o e)
 ·by_cases q:g a=.free
  ·rcases B a q with z|⟨K,z⟩|⟨O,z,Y⟩
   ·rw[z] at e;injection e
   ·exact z
   ·rw[z] at e;injection e
  ·rw[D a q] at e
   obtain⟨o,J⟩:=H.Hc a e;exact⟨o,C a o J⟩
 ·refine Qc λl k=>?_
  refine Md (H.Xb a i (back a _ e (by intro h;injection h) (by intro h;injection h) (by intro o h;injection h))) λb c w n A=>we A λE p r=>?_;clear A;refine k ?_;exact⟨b,c,w,n,E,C a _ p,r.ext X⟩
 ·obtain⟨a,e⟩:=H.all i y
  exact⟨a,X.at e (by intro h;injection h)⟩
theorem slot_get:∀{j},slotIn N x j=Fb (i,k)->N[i-j]?=Fb (x,k):=by
 induction N with
 |nil=>exact nn|cons y r I=>exactλ{j}h=>An h (λe p q=>p▸e▸q▸(Nat.sub_self j).symm▸rfl) λJ h=>(rM (DI h)).symm▸I h
theorem xH{env:Env}:∀{N:List (Str×gf)}{x:Str}{k:gf},N.lookup x=Fb k->
  (N.map λ(n,k)=>if(k==JA&&env.scope.kind==.function&&env.kindOf n==Fb .cell) then(n,du) else(n,k)).lookup x=Fb (if(k==JA&&env.scope.kind==.function&&env.kindOf x==Fb .cell) then du else k)
 |[],x,k,h=>by injection h
 |(n,G)::r,x,k,h=>by
  rw[FG] at h;rw[rh]
  by_cases e:x=n
  ·subst e
   simp only [beq_self_eq_true] at h;refine lg h ?_;dsimp only
   split<;>rw[Uw]
  ·have E:(x==n)=Ib:=by simpa using e
   rw[E] at h;have I:=xH (env:=env) h;dsimp only
   split<;>(refine List.lookup_cons.trans ?_;rw[E];exact I)
noncomputable def Cn(s t:Scope)(l:Loc):Loc:=(xo s t).map λi=>i.bind λi=>(l[i]?).join
section
theorem WI{s:Vb}(T:Jl l t=Hb)(R:Wb B l e L d g s.heap)(N:(x,JA)∈t.names):∃(j:Nat)(a:Ub),(slotIn l.names x 0).map (·.1)=Fb j/\e.cells.lookup x=Fb a/\
  (g a=.Hc\/∃o,g a=.out o)/\∀p,L[j]?=Fb (Fb p)->∃v,s.heap.IsCell a (Fb v)/\Tb g v p:=by
 have this:=List.all_eq_true.mp ((Zc _ _).mp T).2 _ N
 cases h:slotIn l.names x 0 with
 |none=>rw[h] at this;exact absurd this Of|some q=>
  rw[h] at this;obtain⟨i,k⟩:=q;refine Qc λG V=>?_
  induction k using wp with
  |cell=>
   obtain⟨J,a,C,H,m,J,b,h5⟩:=R.er.aj x i h;refine V ?_;exact⟨i,a,rfl,H,.inl m,λp Q=>(h5 p Q).elim λv z=>⟨v,z.1▸b,z.2⟩⟩
  |free=>
   obtain⟨J,a,H,m,U⟩:=R.er.Pk x i h;refine V ?_;exact⟨i,a,rfl,H,.inr m,U⟩
  |_=>exact absurd this Of
end
section
theorem SS{M:Model}
  (h:Q (newEnv t s.heap.objs.size g (th (s.heap.objs.size+1) t.names C) q Gb .none (Fb o) qh) {s with heap:=mr (s.heap.push {cls:=.type "dict",data:=.dict #[]}) t.names}):
  Pb M A (newFunctionEnv t g C [] q Gb .none (Fb o)) Q E s:=by
 simp only [newFunctionEnv,Option.isSome_some,if_true];refine Ob (wpAny_alloc ?_);refine Ob (wpAny_layCells _ (λname kind r=>by cases H:kind==du<;>simp[H]) _ _ _ _ ?_);rw[show({s with heap:=s.heap.push {cls:=.type "dict",data:=.dict #[]}}:Vb).heap.objs.size=s.heap.objs.size+1 from Heap.size_push ..];rw[IA];exact Ob (vc (vc h))
noncomputable def Aq(g:Gh)(h:Heap)(top:Nat):Gh:=λa=>
 if a<h.objs.size then Ye g h a else if a=h.objs.size then .it (Rc [] 0) else if a<top then .Hc else .free
theorem rB:∀(N:List (Str×gf))(h:Heap)(a:Ub),(∀b,b<h.objs.size->l0<=b->∃o,h.get? b=Fb o)->l0<=a->a<(mr h N).objs.size->∃o,(mr h N).get? a=Fb o
 |[],h,a,H,C,L=>H a L C|(_,kind)::r,h,a,H,C,L=>by
  unfold mr at L⊢
  split at L
  ·rename_i D
   rw[if_pos D];refine rB r _ a (λb O Q=>?_) C L;rw[Heap.size_push] at O
   by_cases q:b<h.objs.size
   ·refine(H b q Q).elim λo e=>?_
    exact⟨o,Heap.get?_push_of_some _ e⟩
   ·have:b=h.objs.size:=by lia
    refine Jg this ?_;exact⟨_,Heap.get?_push_size _ rfl⟩
  ·rename_i D
   rw[if_neg D];exact rB r h a H C L
theorem YJ(H:a<h.objs.size):Aq g h top a=Ye g h a:=if_pos H
theorem cL:Aq g h top h.objs.size=.it (Rc [] 0):=(if_neg (Ut _)).trans (if_pos rfl)
theorem nC(H:h.objs.size<a)(j:a<top):Aq g h top a=.Hc:=(if_neg (nr H)).trans ((if_neg (ri H)).trans (if_pos j))
theorem WX(H:¬a<h.objs.size)(j:a≠h.objs.size)(Q:¬a<top):Aq g h top a=.free:=(if_neg H).trans ((if_neg j).trans (if_neg Q))
theorem SI(H:tc h g b):Ext (Ye g h) (Aq g h top):=λa s=>YJ (fx λq=>s (H.Ye.fresh (oi q)))
theorem EV(H:tc h g b)(k:∀a o,h.get? a=Fb o->V.get? a=Fb o)(p:V.get? h.objs.size=Fb (Rc [] 0))(L:∀a,h.objs.size<a->a<V.objs.size->∃o,V.get? a=Fb o):tc V (Aq g h V.objs.size) b:=by
 refine H.Ye.grow k (SI H) λa s=>?_
 by_cases q:a<h.objs.size
 ·exact .inl ((YJ q).trans s)
 ·by_cases Q:a=h.objs.size
  ·rw[Q];exact .inr (.inr ⟨_,cL,p⟩)
  ·by_cases Y:a<V.objs.size
   ·have f:=Nat.lt_of_le_of_ne (oi q) (sh Q)
    exact .inr (.inl ⟨nC f Y,L a f Y⟩)
   ·exact .inl (WX q Q Y)
inductive Qw(sc:Scope)(loc:Loc)(x:Str)(pv:PV):gf->Prop
 |mk{j:Nat}(h:(slotIn sc.names x 0).map (·.1)=Fb j)(h':loc[j]?=Fb (Fb pv)):Qw sc loc x pv .free
theorem Qw.free(q:Qw s l x p k):∃j,(slotIn s.names x 0).map (·.1)=Fb j/\l[j]?=Fb (Fb p):=by
 induction q using Qw.casesOn with|mk h H=>exact⟨_,h,H⟩
theorem CB(y:slotIn s.names x 0=Fb (i,k))(h:(Cn l s L)[i]?=Fb (Fb p)):Qw l L x p k:=by
 have H:=slot_get y;rw[LG] at H;unfold Cn xo at h;rw[Yg,bg,H,Option.map_some] at h;have h:=jc h
 induction k using wp with
 |free=>exact(Option.bind_eq_some_iff.mp h).elim λj z=>⟨z.1,(Option.join_eq_some_iff.mp z.2)⟩|_=>exact nn h
theorem zX{s:Vb}(U:Jl r t=Hb)(p:gh (t.names.map (·.1))=Hb)(G:t.kind=.function)(R:Wb B r E L hp g s.heap)(Y:∀a o,s.heap.get? a=Fb o->V.get? a=Fb o)(X:Ext (Ye g s.heap) gc)
  (u:CellsOk V N (th N t.names []))(d:∀a,N<=a->a<V.objs.size->gc a=.Hc)(w:gc C=.Hc)(I:C<N)(J:V.Ns C (λK=>Gb)):
  qw V gc t {newEnv t C E.globals (th N t.names []++Ei E t.names []) E.qual Gb .none (Fb E) qh with scope:=relabel t E} (Cn r t L):=by
 have kind:∀{x:Str}{i:Nat}{k:gf},slotIn t.names x 0=Fb (i,k)->Env.kindOf {newEnv t C E.globals (th N t.names []++Ei E t.names []) E.qual Gb .none (Fb E) qh with scope:=relabel t E} x=
   Fb (if(k==JA&&E.scope.kind==.function&&E.kindOf x==Fb .cell) then du else k):=λH=>xH (Kp H)
 have O:∀{x:Str}{i:Nat},slotIn t.names x 0=Fb (i,.cell)->∃a,(th N t.names []).lookup x=Fb a:=λH=>(iB H p).elim λa z=>⟨a,z.1⟩;have look:∀{x:Str}{a:Ub},(th N t.names []).lookup x=Fb a->ro x (th N t.names []++Ei E t.names [])=Fb a:=λh=>by rw[List.lookup_append,h];rfl
 refine{kind:=G,ph:=R.er.ph,blt:=R.er.blt,len:=?_,Ug:=w,own:=⟨λK=>Gb,J,λx i H=>⟨kind H,λf T=>nomatch CB H T⟩⟩,aj:=λx i H=>?_,Pk:=λx i H=>?_,apart:=λx y a i j H hj A l=>?_,Yi:=λx i H=>kind H}
 ·unfold Cn xo;rw[Uc,Uc]
 ·refine(O H).elim λa A=>?_
  have l:=u.empty x a (mem_of_lookup A);exact⟨kind H,a,Gb,look A,d a l.2 l.1.lt,ri (zl I l.2),l.1,λf T=>nomatch CB H T⟩
 ·refine Mc (WI U R (Yp H)) λj a zz=>Yj zz λA l Q h4=>⟨?_,a,?_,?_,λf T=>?_⟩
  ·rw[kind H]
   exact(Bool.eq_false_or_eq_true _).elim (λq=>.inr (by rw[if_pos q])) λq=>.inl (by rw[q];rfl)
  ·have IP:(th N t.names []).lookup x=Gb:=by
    refine(AH λy b e hc=>?_).trans rfl;rw[<-show(x,du)=y from Prod.ext e.symm hc.symm] at b;have:=oU p b (Yp H);injection this
   show ro x (th N t.names []++Ei E t.names [])=Fb a;rw[List.lookup_append,IP,bY p H,l];rfl
  ·exact Q.elim (λQ=>(R.hr.Hc a Q).elim λo ho=>⟨o,X.at (Nu Q ho) ou⟩) λQ=>Q.elim λo Q=>⟨o,X.at ((Mi (Q▸λq=>by injection q)).trans Q) ou⟩
  ·exact(CB H T).free.elim λj' q=>(h4 f (jc (A.symm.trans q.1)▸q.2)).elim λv q=>⟨v,Heap.IsCell.Wh q.1 λo e=>Y a o e,(q.2.xh (Tf.Ye g s.heap)).ext X⟩
 ·refine(O H).elim λax D=>(O hj).elim λay m=>?_
  have e1:=jc ((look D).symm.trans A);have e2:=jc ((look m).symm.trans l);rw[e1] at D;rw[e2] at m;exact name_of_addr u.apart (mem_of_lookup D) (mem_of_lookup m)
theorem dU{Q:Value->Env->Vb->Prop}(U:Jl j t=Hb)(R:Wb B j T V f g s.heap)
  (h:∀(C:Ub)(r:List (Str×Ub))(Y:Vb)(gc:Gh),Wb B t {newEnv t C T.globals r T.qual Gb .none (Fb T) qh with scope:=relabel t T} (Cn j t V) f gc Y.heap->Ext (Ye g s.heap) gc->
   gc s.heap.objs.size=.it (Rc [] 0)->gc C=.Hc->g C=.free->Tr s Y->C≠s.heap.objs.size->(∀a o,s.heap.get? a=Fb o->Y.heap.get? a=Fb o)->
   Q (.ref s.heap.objs.size) (newEnv t C T.globals r T.qual Gb .none (Fb T) qh) Y):
  Pb (Qb pw w) A (newList []) (λy D=>Pb (Qb pw w) A (newFunctionEnv t T.globals (Ei T t.names []) [] T.qual Gb .none (Fb T)) (λI J=>Q y I J) E D) E s:=by
 have L:=U;unfold Jl at L;have L:=(Zc _ _).mp ((Zc _ _).mp L).1;have pE:t.kind=.function:=by
  have q:=L.1
  cases h:t.kind<;>rw[h] at q<;>first|rfl|injection q
 refine ox (SS ?_);generalize m:s.heap.push {cls:=.type "list",dict:=Gb,data:=.seq ([]:ia).toArray}=H;have z:H.objs.size=s.heap.objs.size+1:=by rw[<-m,Heap.size_push]
 have k2:∀a o,s.heap.get? a=Fb o->H.get? a=Fb o:=λa o e=>m▸Heap.get?_push_of_some _ e;have d2:=m▸Heap.get?_push_size _ rfl;have u:(H.push {cls:=.type "dict",data:=.dict #[]}).objs.size=H.objs.size+1:=Heap.size_push ..;have p:=fB t.names (H.push {cls:=.type "dict",data:=.dict #[]});have d:∀a o,H.get? a=Fb o->(mr (H.push {cls:=.type "dict",data:=.dict #[]}) t.names).get? a=Fb o:=λa o e=>pushCells_keeps _ _ a o (Heap.get?_push_of_some _ e);have O:=cellsFrom_ok t.names (H.push {cls:=.type "dict",data:=.dict #[]}) (H.push {cls:=.type "dict",data:=.dict #[]}).objs.size [] ⟨λK K hm=>(nomatch hm),List.Pairwise.nil⟩ (Ed _);have N:=rB (l0:=s.heap.objs.size+1) t.names (H.push {cls:=.type "dict",data:=.dict #[]});have hC:=(Heap.Ns.new H (.type "dict")).keeps (h':=mr (H.push {cls:=.type "dict",data:=.dict #[]}) t.names) (pushCells_keeps _ _);have C2:th (H.objs.size+1) t.names (Ei T t.names [])=th (H.objs.size+1) t.names []++Ei T t.names []:=(OR t.names (H.objs.size+1) [] (Ei T t.names []));have hD:=Heap.get?_push_size H (o:={cls:=.type "dict",data:=.dict #[]}) rfl;rw[C2];rw[u] at p O;have N:=λa=>N a λb hb TF=>⟨_,(show b=H.objs.size from xA (rG (KQ hb u)) (dc (yl z) TF))▸hD⟩;generalize mr (H.push {cls:=.type "dict",data:=.dict #[]}) t.names=x at*;have k:=λa o e=>d a o (k2 a o e);have l:s.heap.objs.size<H.objs.size:=z▸Af _;have X:=SI (top:=x.objs.size) R.hr;have G:=nC (g:=g) l p;exact h H.objs.size _ {s with heap:=x} (Aq g s.heap x.objs.size) ⟨λa o e=>(R.I4 a o e).imp (X.at · ou) (X.at · fz),EV R.hr k (d _ _ d2) N,zX U L.2 pE R k X O (λa h1 h2=>nC (zl l (bx h1)) h2) G (Af _) hC⟩ X cL G (R.hr.fresh (Df l)) (Tr.heap s x s.toks) (ri l) k
end
def Hk(w:xd)(B:Heap)(d:Nat)(iter Nb:Expr)(j:Scope)(l:Loc)(H:Hp)(t:Ic)(h:Hp):Prop:=
 ∀(A:Dd)(e:Env)(g:Gh)(s:Vb)(E:ja)(Q:ja),Cc d A->Wb B j e l H g s.heap->
  (∀I Y G T,Wb B j e l h G T.heap->Ext g G->Tr s T->wj w B d j e l Nb t h G T I Y->Q I Y)->Pb (Qb pw w) A (eval iter e) (λx J=>Pb (Qb pw w) A (cn x) Q E J) E s
def Bs(w:xd)(B:Heap)(d:Nat)(F:Dc)(r:Ke):Prop:=
 ∀k G s L Nb iter l h I H,Jf F r l (rd GT G L Nb) (Zb GT k s iter) h=Fb ((I,H),Hb)->Hk w B d iter Nb s l h I H
section
variable{w:xd}{A:Dd}{E:ja}{s Zd:Vb}{B:Heap}{sc scope:Scope}{env:Env}{loc:Loc}{hp Ac dd Nd:Hp}{g Mf:Gh}{pv:PV}{v:Value}{d:Nat}{rE:Ke}{P:Lm}{F:Dc}
theorem O3{g G:Gh}{h x:Heap}{hp Nd:Hp}(H:tc h g hp)(X:Ext g G)(C:∀a o,g a=.Hc->h.get? a=Fb o->x.get? a=Fb o):Ext (Ye g h) (Ye G x):=λa t=>by
 by_cases q:g a=.Hc
 ·refine(H.Hc a q).elim λo z=>?_
  rw[Nu q z,Nu (X.at q (by intro h;injection h)) (C a o q z)]
 ·have e:=Mi (h:=h) q
  rw[e] at t;have p:=X a t;rw[e,Mi (by rw[p];exact q),p]
theorem Wb.QM{h:Heap}(R:Wb B sc env loc hp g h){a:Ub}{o:Obj}(H:g a=.free)(z:h.get? a=Fb o):Wb B sc env loc hp (Jc g a (.Mb o)) h:=
 have X:=Ext.Jc _ H
 ⟨Wb.baseExt R.base X.n,R.hr.Nl (.inl H) z λb x J J e=>e,R.er.keep X.n λb x J e=>e⟩
theorem Wb.bN{h:Heap}(R:Wb B sc env loc hp g h){a:Ub}{y:ia}{n:Nat}{b:Bool}{c:Cell}(H:g a=.free)(z:h.get? a=Fb (Rc y n))(Q:bc g y c.toList):
  Wb B sc env loc (hp++[(b,c)]) (Jc g a (.Xb hp.length)) h:=
 have X:=Ext.Jc _ H
 ⟨Wb.baseExt R.base X.n,R.hr.oq (.inl H) z Q λb x J J e=>e,R.er.keep X.n λb x J e=>e⟩
theorem Xc.tag{mt:Bool}{c:Cell}{y:ia}{n:Nat}{a:Ub}{Q:ja}(post:Xc B sc env loc Ac pv g s Q)(R:Wb B sc env loc hp g s.heap)(e:Mine.td mt c hp=(pv,Ac))(h:g a=.free)(H:s.heap.get? a=Fb (Rc y n))
  (T:bc g y c.toList):Q (.ref a) s:=by
 induction mt using Ld with
 |true=>
  obtain⟨rfl,rfl⟩:=ye e;exact post _ _ _ (R.bN h H T) (Ext.Jc _ h) (Tr.refl s) (.id (ze ..))
 |false=>
  obtain⟨rfl,rfl⟩:=ye e;exact post _ _ _ (R.QM h H) (Ext.Jc _ h) (Tr.refl s) (.Mb (ze ..) rfl (T.ext (Ext.Jc _ h)))
theorem uB{k:Nat}{iter:Expr}(h:Zb GT k sc iter≠.nc)(env:Env):∀x,LQ iter env x=pure x:=by
 intro x
 induction iter using pg<;>first|rfl|(exfalso;apply h;induction k using jf<;>rfl)
theorem Y4{Nb:M}(h:∀mt loc hp,rE .nc mt loc hp=Gb):Jf F rE loc Nb .nc hp=Gb:=by
 unfold Jf;simp only [h];rfl
theorem eI{p Nb iter:Expr}{N:ka}{t:Pos}{k:Nat}{cond:Option M}{I:Ic}{Pq:Cell}{use:Option (Value->Sem Unit)}{Q:ja}
  (ih:qd w B d rE)(u:Jl sc scope=Hb)(hc:Lv k scope N=Fb cond)(M9:Hk w B d iter Nb sc loc hp I dd)(T9:Zb GT k sc iter≠.nc)(hA:Cc d A)
  (h:compLoop rE (Zb GT k scope p) (rd GT k scope Nb) cond (zi I dd+1) I (Cn sc scope loc) dd (.Lb [])=Fb ((Pq,Nd),Hb))(R:Wb B sc env loc hp g s.heap)
  (post:∀D C Y G,Wb B sc env loc Nd G Y.heap->Ext g G->Tr s Y->G D=.free->G C=.free->D≠C->(∃V n,Y.heap.get? D=Fb (Rc V n)/\bc G V Pq.toList)->(∃m,Y.heap.Ns C m)->
   compPost (Qb pw w) A E use Q (.ref D) C (.ok .next) Y):
  Pb (Qb pw w) A (comprehension (.ListComp p [⟨Nb,iter,N,0⟩] scope t) scope env (firstIterPos [⟨Nb,iter,N,0⟩] t) (newList []) Ib (firstIter [⟨Nb,iter,N,0⟩] env) use) Q E s:=by
 have Sq:=u;unfold Jl at Sq;simp only [Zc] at Sq;refine Sq.1.elim λhk L'=>?_;have pE:scope.kind=.function:=by
  cases q:scope.kind<;>rw[q] at hk<;>first|rfl|injection hk
 have g8:=SR λx H Yl=>by
  obtain⟨x,kx⟩:=x;simp only at Yl;subst Yl;refine Mc (WI u R H) λK a z=>we z λK e K=>?_;clear z;rw[e];rfl
 have N5:∀x∈scope.names,x.2=.local->scope.names.lookup x.1=Fb .local:=by
  have key:∀(O:List (Str×gf)),gh (O.map (·.1))=Hb->∀x∈O,O.lookup x.1=Fb x.2:=by
   intro O
   induction O with
   |nil=>intro K x H;cases H
   |cons y r ihn=>
    intro hn x H;refine(Hl hn).elim λh1 h2=>?_;obtain⟨y1,y2⟩:=y;rcases List.mem_cons.mp H with rfl|H
    ·exact Uw
    ·refine List.lookup_cons.trans ?_
     have:(x.1==y1)=Ib:=by
      by_cases e:x.1=y1
      ·exact(h1 (by rw[<-e];exact KG (f:=(·.1)) H)).elim
      ·simpa using e
     rw[this];exact ihn h2 x H
  intro x H hl;refine(key _ L' x H).trans ?_;rw[hl]
 refine wpAny_comprehension_free rfl (uB T9 env) g8 pE N5 ?_;refine M9 A env g s E _ hA R λit J b Qh Sv gw sw S=>?_;refine Qc λGG kk=>?_;refine Md S λU TR St L z=>dG z λW Xj nf Vg mf Sz Um hpk=>?_;clear z S;refine kk ?_;refine dU u nf λC cells j gc Vl T hD hC hCf Mm hCD Caa=>?_;have Pz:=(O3 (Nd:=dd) Sv.hr Vg hpk).trans T;have freeOf:∀a,L a=.free->b a=.free:=λa e=>by
  apply fx;intro q;rw[Vg a q] at e;exact q e
 have zF:=nf.hr.fresh (Ed _);have QL:∀a,b a=.free->Ye b Qh.heap a=.free:=λa e=>by exact(Mi (by rw[e];intro h;injection h)).trans e
 have QP:¬U J.heap.objs.size:=λq=>by
  obtain⟨o,e⟩:=W.own U I L J _ Xj q;rw[zF] at e;injection e
 have fN:St U I gc j:=by
  refine W.ji U I L J gc j _ _ Xj nf.hr (λa ha=>?_) ⟨λa o e=>?_,λa i e=>?_⟩ (λa o e=>?_) Mm Vl.hr
  ·obtain⟨o,e⟩:=W.own U I L J a Xj ha
   refine(T.at ((Mi (by rw[e];intro h;injection h)).trans e) (by intro h;injection h)).trans ?_;rw[e]
  ·exact T.at ((Tf.Ye L J.heap).Mb a o e) (by intro h;injection h)
  ·exact T.at ((Tf.Ye L J.heap).Xb a i e) (by intro h;injection h)
  ·exact T.at ((Mi (by rw[e];intro h;injection h)).trans e) (by intro h;injection h)
 have fin:qi (Qb pw w) A (.compLoop (.ListComp p [⟨Nb,iter,N,0⟩] scope t) 0 it (.ref J.heap.objs.size) {newEnv scope C env.globals cells env.qual Gb .none (Fb env) qh with scope:=relabel scope env})
   (compPost (Qb pw w) A E use Q (.ref J.heap.objs.size) C) j:=by
  refine M4 ih hA hc h W fN Vl Pz (mf.trans Mm) (λa ha=>QL a (Sz a ha)) Um ⟨[],0,hD,.nil⟩ QP (QL _ (freeOf _ zF)) (ah _) λY G cf l X' T' dw=>?_;refine Mc dw λV n z=>ql z λYP hV'=>?_;clear z dw;have Rb:=Sv.Kh X' l.hr;have hCp:G C=.Hc:=l.er.Ug;refine post _ _ Y (Kh b G) Rb (gw.trans (Ext.Kh b G)) (sw.trans T') ?_ ?_ hCD.symm ⟨V,n,l.hr.it _ _ YP,hV'.xh (yJ Sv.hr X')⟩ (l.er.own.elim λm h=>⟨m,h.1⟩)
  ·refine(sn (freeOf _ zF)).trans ?_;rw[YP]
  ·refine(sn (freeOf _ hCf)).trans ?_;rw[hCp]
 exact codeAny_compStart_list fin (W.self A _ _ U I gc j _ hA fN Vl.hr fin)
theorem AU{p Nb iter:Expr}{N:ka}{T:Pos}{k:Nat}{cond:Option M}{I:Ic}{G:Cell}{mt:Bool}
  (f:qd w B d rE)(U:Jl sc scope=Hb)(j:Lv k scope N=Fb cond)(V:Hk w B d iter Nb sc loc hp I dd)(L:Zb GT k sc iter≠.nc)
  (h:compLoop rE (Zb GT k scope p) (rd GT k scope Nb) cond (zi I dd+1) I (Cn sc scope loc) dd (.Lb [])=Fb ((G,Nd),Hb))(e:td mt G Nd=(pv,Ac)):
  Yc w B d (.ListComp p [⟨Nb,iter,N,0⟩] scope T) sc loc hp pv Ac:=by
 intro A env g s E Q O R post;rw[eval_ListComp];refine eI f U j V L O h R λD C Y g' r x t u b l H y=>?_;refine Mc H λws n z=>ql z λho hV=>?_;clear z H;obtain⟨m,hm⟩:=y;refine⟨m,hm,λh' J=>?_⟩;have R2:=r.heap λa o ha e=>J.extBut a o (λq=>by subst q;exact ha b) e;exact Xc.tag (post.step x (t.trans (Tr.heap Y h' Y.toks))) R2 e u (J.extBut _ _ l ho) hV
end
section
theorem j3:Zb GT (k+1) j (.ListComp e [⟨Nb,iter,I,0⟩] s p)=match Jl j s with
 |true=>match I with
  |[]=>.comp (Zb GT k s e) (rd GT k s Nb) (Zb GT k j iter) Gb (xo j s)|[c]=>.comp (Zb GT k s e) (rd GT k s Nb) (Zb GT k j iter) (Fb (qf GT k s c)) (xo j s)|_=>.nc
 |false=>.nc:=rfl
theorem mI{mt:Bool}(h:oj P F d (Zb GT (k+1) j (.ListComp e [⟨Nb,iter,N,0⟩] s g)) mt l f=Fb ((p,T),Hb)):
  Jl j s=Hb/\∃cond I H A Y,Lv k s N=Fb cond/\Jf F d l (rd GT k s Nb) (Zb GT k j iter) f=Fb ((I,H),Hb)/\
   compLoop d (Zb GT k s e) (rd GT k s Nb) cond (zi I H+1) I (Cn j s l) H (.Lb [])=Fb ((A,Y),Hb)/\td mt A Y=(p,T):=by
 rw[j3] at h
 cases U:Jl j s with
 |false=>rw[U] at h;exact nn h|true=>
  rw[U] at h;refine⟨rfl,?_⟩;have key:∀cond,oj P F d (.comp (Zb GT k s e) (rd GT k s Nb) (Zb GT k j iter) cond (xo j s)) mt l f=Fb ((p,T),Hb)->∃I H A Y,Jf F d l (rd GT k s Nb) (Zb GT k j iter) f=Fb ((I,H),Hb)/\
   compLoop d (Zb GT k s e) (rd GT k s Nb) cond (zi I H+1) I (Cn j s l) H (.Lb [])=Fb ((A,Y),Hb)/\td mt A Y=(p,T):=by
   intro cond h;have h:=h;refine(Rm.bind_some h).elim λa z=>?_;have B:=z.1;have h:=z.2;obtain⟨b,m,h⟩:=Rm.bind_some h;exact⟨a.1,a.2,b.1,b.2,B,m,(Rm.Gd h).symm⟩
  refine Qc λG V=>?_;rcases N with J|⟨c,J|⟨C,r⟩⟩
  ·obtain⟨I,H,A,Y,B,m,Q⟩:=key _ h
   refine V ?_;exact⟨_,I,H,A,Y,rfl,B,m,Q⟩
  ·obtain⟨I,H,A,Y,B,m,Q⟩:=key _ h
   refine V ?_;exact⟨_,I,H,A,Y,rfl,B,m,Q⟩
  ·exact nn h
theorem EB(I:qd w B d a)(h:Jf F a l Nb m H=Fb (r,Hb)):m≠.nc:=by
 rintro rfl
 rw[Y4 I.nc] at h;injection h
theorem NU(I:qd w B d r)(U:Bs w B d F r){mt:Bool}
  (h:oj P F r (Zb GT (k+1) s (.ListComp e [⟨Nb,iter,N,0⟩] t p)) mt l a=Fb ((f,T),Hb)):Yc w B d (.ListComp e [⟨Nb,iter,N,0⟩] t p) s l a f T:=by
 refine Qc λG V=>?_;obtain⟨Y,cond,u,q,A,b,g,H,j,Q⟩:=mI h;refine V ?_;exact AU I Y g (U _ _ _ _ _ _ _ _ _ _ H) (EB I H) j Q
theorem DZ(r:qd w B d y)(hS:Bs w B d F y){mt:Bool}(hi:slotIn j.names x 0=Fb (i,.local))
  (h:oj P F y (Zb GT (k+1) j (.ListComp z [⟨Nb,iter,I,0⟩] u p)) mt l hp=Fb ((J,U),Hb))(hA:Cc d A)(R:Wb B j T l hp g s.heap)
  (post:wh B j T (l.set i (Fb J)) U g s Q):Pb (Qb pw w) A (MG (.ListComp z [⟨Nb,iter,I,0⟩] u p) T (qg (.Name x L) T)) Q E s:=by
 refine Qc λGG V=>?_;obtain⟨hf,cond,ef,dd,Pq,Nd,hc,N,h2,O⟩:=mI h;refine V ?_;show Pb _ A (do let _<-comprehension (.ListComp z [⟨Nb,iter,I,0⟩] u p) u T (firstIterPos [⟨Nb,iter,I,0⟩] p) (newList []) Ib (firstIter [⟨Nb,iter,I,0⟩] T) (Fb (qg (.Name x L) T))) Q E s;refine Ob (eI r hf hc (hS _ _ _ _ _ _ _ _ _ _ N) (EB r N) hA h2 R λD C Y g' R' X' T' H hC qP dw hns=>?_);refine Qc λGG V=>?_;refine Mc dw λws n zz=>ql zz λho hV=>?_;clear zz dw;obtain⟨m,hm⟩:=hns;have fin:∀G,Wb B j T l U G Y.heap->Ext g' G->Tb G (.ref D) J->G C=.free->Pb (Qb pw w) A (qg (.Name x L) T (.ref D)) (λK b=>∃m,b.heap.Ns C m/\∀f,Heap.SameBut C b.heap f->Pb (Qb pw w) A (pure ()) Q E {b with heap:=f}) E Y:=by
  intro G nf Vg Ui CP;refine GA (Pp nf hi (.inl rfl) Ui λf t Pm hk=>⟨m,Heap.Ns.Wh hm λo e=>hk C o (by rw[CP];intro h;injection h) e,λJP hs=>vc ?_⟩);have Vl:=Pm.heap λa o ha e=>hs.extBut a o (λq=>by obtain rfl:=q.symm;exact ha CP) e;exact post {Y with heap:=JP,toks:=t} G Vl (X'.trans Vg) (T'.trans (Tr.heap Y JP t))
 induction mt using Ld with
 |true=>
  obtain⟨rfl,rfl⟩:=ye O;refine V ?_;exact fin _ (R'.bN H ho hV) (Ext.Jc _ H) (.id (ze ..)) (by exact(pe _ _ qP.symm).trans hC)
 |false=>
  obtain⟨rfl,rfl⟩:=ye O;refine V ?_;exact fin _ (R'.QM H ho) (Ext.Jc _ H) (.Mb (ze ..) rfl (hV.ext (Ext.Jc _ H))) (by exact(pe _ _ qP.symm).trans hC)
end
structure Wm(w:xd)(B:Heap)(d:Nat)(rS:ft):Prop where
 nc:∀loc hp,rS .nc loc hp=Gb
 ok:∀k sc st loc hp fl cf Ac,rS (Se GT k sc st) loc hp=Fb ((fl,cf,Ac),Hb)->Nk w B d st sc loc hp fl cf Ac
structure FE(w:xd)(B:Heap)(d:Nat)(F:Dc)(rE:Ke):Prop where
 Zv:Bs w B d F rE
 asg:∀k sc t e pos loc hp x dd cf Ac,Mr e=Hb->rE (Zb GT k sc e) Hb loc hp=Fb ((x,dd),Hb)->vi F rE 12 (rd GT k sc t) x loc dd=Fb ((cf,Ac),Hb)->Nk w B d (.Assign [t] e pos) sc loc hp .next cf Ac
 del:∀k sc o i BO pos loc hp fl cf Ac,Cq F rE (λJ J J=>Gb) (.del (Zb GT k sc o) (Zb GT k sc i)) loc hp=Fb ((fl,cf,Ac),Hb)->Nk w B d (.Delete [.Subscript o i BO] pos) sc loc hp fl cf Ac
section
theorem Qr(o:Wm w B d rS)(b:List jd):∀{L:Loc}{H:Hp}{N:Fl}{j:Loc}{T:Hp},Kc rS (b.map (Se GT k p)) L H=Fb ((N,j,T),Hb)->Rz w B d b p L H N j T:=by
 induction b with
 |nil=>exactλh A e g s E Q I R post=>mx (Eg.ret h post .next s g R (Ext.refl g) (Tr.refl s) .next)|cons st r q=>
  intro L H N j T h A e g s E Q I R post;obtain⟨⟨f,l,hx⟩,C,m⟩:=Rm.bind_some h;clear h;refine zj (o.ok _ _ _ _ _ _ _ _ C A e g s E _ I R λfv J G O x t y=>?_);clear C
  induction y using Uq.casesOn with
  |next=>exact q m A e G J E Q I O λU z u V Y a F2=>post U z u V (x.trans Y) (t.trans a) F2|brk=>exact Eg.ret m post .brk J G O x t .brk|ret D=>exact Eg.ret m post _ J G O x t (.ret D)
inductive bG(B:Heap)(sc:Scope)(env:Env)(g:Gh)(s:Vb)(f:Nat->Loc->Hp->Rm (Fl×Loc×Hp))(r:Fl×Loc×Hp)(n:Nat)(Zd:Vb):Prop
 |mk{Mf:Gh}{loc:Loc}{hp:Hp}(R:Wb B sc env loc hp Mf Zd.heap)(X:Ext g Mf)(T:Tr s Zd)(h:f n loc hp=Fb (r,Hb)):bG B sc env g s f r n Zd
theorem PZ(eih:qd w B d a)(ih:Wm w B d rS)(I:Cc d A)
  (h:whileLoop (λL H=>ud a L (qf GT k j t) H) (λL H=>Kc rS (b.map (Se GT k j)) L H) n L H=Fb ((N,p,y),Hb))(R:Wb B j U L H g s.heap)(post:Eg B j U p y N g s Q):
  qi (Qb pw w) A (.whileLoop t b [] U) (λr z=>match r with|.ok f=>Q f z|.error e=>cameBackBy (Qb pw w) A U E e z) s:=by
 refine codeAny_whileLoop (bG B j U g s (whileLoop (λL H=>ud a L (qf GT k j t) H) (λL H=>Kc rS (b.map (Se GT k j)) L H)) (N,p,y)) ?_ n (.mk R (Ext.refl g) (Tr.refl s) h);clear h R;intro n Zd zz
 induction zz using bG.casesOn with|@mk Mf L H R X T h=>_
 rcases n with K|n
 ·exact nn h
 ·obtain⟨⟨bv,hb⟩,C,m⟩:=Rm.bind_some h
  clear h;refine Zp eih k t C A U Mf Zd _ _ I R λJ G O x V=>?_
  induction bv using Ld with
  |false=>exact pq (by decide) (mx (Eg.ret m post .next J G O (X.trans x) (T.trans V) .next))|true=>
   obtain⟨⟨f,l,hx⟩,D,o⟩:=Rm.bind_some m;clear C m;refine Js rfl ?_;refine Qr ih b D A U G J _ _ I O λfv Mh zh Y q u Vv=>?_;clear D
   induction Vv using Uq.casesOn with
   |next=>exact⟨n,Af n,.mk Y (X.trans (x.trans q)) (T.trans (V.trans u)) o⟩|brk=>exact Eg.ret o post .next Mh zh Y (X.trans (x.trans q)) (T.trans (V.trans u)) .next|ret hv=>exact Eg.ret o post _ Mh zh Y (X.trans (x.trans q)) (T.trans (V.trans u)) (.ret hv)
theorem LW(f:qd w B d r)(h:Cq F r rS (.expr (Zb GT k j e)) L a=Fb ((N,m,T),Hb))(y:mq e=Ib):Nk w B d (.Expr e p) j L a N m T:=by
 have h:=h;obtain⟨⟨x,b⟩,H,l⟩:=Rm.bind_some h;clear h
 induction x using PV.casesOn with
 |none=>
  have o:=zf f H;have O:Zb GT k j e≠.nc:=λq=>by rw[q,f.nc] at H;exact nn H
  clear H;intro A U g s E Q I R post;refine wpAny_Expr (o A U g s E _ I R λv J G V Y t u=>?_) (by unfold interactive;rw[R.er.kind];rfl) ?_
  ·rw[show v=_ from Tb.inv u]
   exact Eg.ret l post .next J G V Y t .next
  ·exact GB y O
 |_=>exact nn l
inductive ew:fo->PV->PV->PV->Prop
 |add{x y:Int}:ew .Add (.int x) (.int y) (.int (x+y))
 |sub{x y:Int}:ew .Sub (.int x) (.int y) (.int (x-y))
 |str{x y:ca}(h:x.length+y.length<=1000000):ew .Add (.str x) (.str y) (.str (x++y))
theorem zW(e:Kv op x y=Fb (z,Hb)):ew op x y z:=by
 induction op using uQ with
 |Add=>induction x using PV.casesOn with
  |int x=>induction y using PV.casesOn with
   |int y=>rw[show z=_ from Rm.Gd (show Rm.ret (PV.int (x+y))=_ from e)];exact .add|_=>exact nn e
  |str x=>induction y using PV.casesOn with
   |str y=>rw[<-(Ae e).1];exact .str (of_decide_eq_true (Ae e).2)|_=>exact nn e
  |_=>exact nn e
 |Sub=>induction x using PV.casesOn with
  |int x=>induction y using PV.casesOn with
   |int y=>rw[show z=_ from Rm.Gd (show Rm.ret (PV.int (x-y))=_ from e)];exact .sub|_=>exact nn e
  |_=>exact nn e
 |_=>exact nn e
theorem j6(R:Wb B l T L d g s.heap)(h:Tb g a x)(H:Tb g b y)(e:Kv op x y=Fb (z,Hb))(post:Xc B l T L d z g s Q):
  Pb (Qb pw w) A (inplaceOp op a b) Q E s:=by
 have c:=zW e;clear e
 induction c using ew.casesOn with
 |add=>obtain⟨J,rfl⟩:=Tb.inv h;refine yh H λJ=>?_;exact wpAny_iadd_int (post.here R (.int _ _) _)|sub=>refine yh h λJ=>?_;refine yh H λJ=>?_;exact PySem.P.isub_int (post.here R (.int _ _) _)|str o=>
  refine vStr h λp t N=>?_;refine vStr H λq u j=>?_;refine SBL.iadd (λU k J=>post.here R (.str ?_) k) (by rw[bl N,bl j];exact dc o (by decide));rw[<-N,<-j];exact uG
noncomputable def C_{α:Type}(f:PV->Rm α):Option (Option PV)->Rm α
 |some (Fb v)=>f v|_=>Gb
theorem o7{α:Type}{f:PV->Rm α}{r:α×Bool}(h:C_ f o=Fb r):∃v,o=Fb (Fb v)/\f v=Fb r:=by
 rcases o with J|J|v
 ·exact nn h
 ·exact nn h
 ·exact⟨v,rfl,h⟩
theorem f2(u:qd w B d a)(h:Cq F a rS (Se GT (k+1) j (.AugAssign (.Name x N) op e p)) l b=Fb ((f,L,T),Hb)):Nk w B d (.AugAssign (.Name x N) op e p) j l b f L T:=by
 refine Qc λG V=>?_;have h:Cq F a rS (match slotIn j.names x 0 with
   |some (i,.local)=>.aug i op (Zb GT k j e)|_=>.nc) l b=Fb ((f,L,T),Hb):=h
 cases H:slotIn j.names x 0 with
 |none=>rw[H] at h;exact nn h|some O=>
  rw[H] at h;obtain⟨i,U⟩:=O
  induction U using wp with
  |«local»=>
   have h:=h;obtain⟨old,C,h⟩:=o7 h;obtain⟨y,D,h⟩:=Rm.bind_some h;obtain⟨z,J,h⟩:=Rm.bind_some h;refine V ?_;intro A env g s E Q hA R post;refine Qc λG V=>?_;obtain⟨m,hm1,Y⟩:=R.er.own;obtain⟨hk,Y⟩:=Y x i H;obtain⟨ov,hov,hV⟩:=Y old C;refine V ?_;refine wpAny_AugAssign_Name (tG R.er.kind hk hm1 hov ?_);refine zf u D A env g s E _ hA R λv Zd Mf Rl o ig Tn=>j6 Rl (hV.ext o) Tn J λr I sd nf Vg mf Ui=>?_;exact Pp nf H (.inl rfl) Ui λq t Pm K=>Eg.ret h post .next {I with heap:=q,toks:=t} sd Pm (o.trans Vg) (ig.trans (mf.trans (Tr.heap I q t))) .next
  |_=>exact nn h
end
section
inductive Kk(k:Nat)(sc:Scope):jd->S->Prop
 |nc{st:jd}:Kk k sc st .nc
 |pass{p:Pos}:Kk k sc (.Pass p) .pass
 |brk{p:Pos}:Kk k sc (.Break p) .brk
 |expr{e:Expr}{p:Pos}(h:mq e=Ib):Kk k sc (.Expr e p) (.expr (Zb GT k sc e))
 |ret{e:Expr}{p:Pos}:Kk k sc (.Return (Fb e) p) (.ret (Zb GT k sc e))
 |asg{t e:Expr}{p:Pos}(h:Mr e=Hb):Kk k sc (.Assign [t] e p) (.asg (rd GT k sc t) (Zb GT k sc e))
 |aug{x:Str}{np p:Pos}{op:fo}{e:Expr}{m:S}(h:Se GT (k+1) sc (.AugAssign (.Name x np) op e p)=m):Kk k sc (.AugAssign (.Name x np) op e p) m
 |ifs{t:Expr}{b o:List jd}{p:Pos}:Kk k sc (.If t b o p) (.ifs (qf GT k sc t) (b.map (Se GT k sc)) (o.map (Se GT k sc)))
 |Ok{t:Expr}{b:List jd}{p:Pos}:Kk k sc (.While t b [] p) (.Ok (qf GT k sc t) (b.map (Se GT k sc)))
 |Uf{t i:Expr}{b:List jd}{p:Pos}:Kk k sc (.For t i b [] p) (.Uf (rd GT k sc t) (Zb GT k sc i) (b.map (Se GT k sc)))
 |del{o i:Expr}{q p:Pos}:Kk k sc (.Delete [.Subscript o i q] p) (.del (Zb GT k sc o) (Zb GT k sc i))
noncomputable def bS(b:Bool)(m:S):S:=match b with
 |true=>m|false=>.nc
noncomputable def nS(b:Bool)(m:S):S:=match b with
 |true=>.nc|false=>m
theorem v_{C:S->Prop}(H:C .nc)(h:b=Hb->C m):C (bS b m):=by
 induction b using Ld with
 |true=>exact h rfl|false=>exact H
theorem B'{C:S->Prop}(H:C .nc)(h:b=Ib->C m):C (nS b m):=by
 induction b using Ld with
 |true=>exact H|false=>exact h rfl
theorem k8(k:Nat)(st:jd):Kk k sc st (Se GT (k+1) sc st):=by
 induction st using Stmt.casesOn with
 |Pass=>exact .pass|Break=>exact .brk|Expr e p=>exact B' .nc .expr|Return e p=>exact e.casesOn .nc λJ=>.ret|Assign T e p=>exact T.casesOn .nc λt r=>r.casesOn (v_ .nc .asg) λJ J=>.nc|AugAssign t op e p=>induction t using pg with
  |Name=>exact .aug rfl|_=>exact .nc
 |If=>exact .ifs|While t b o p=>exact o.casesOn .Ok λJ J=>.nc|For t i b o p=>exact o.casesOn .Uf λJ J=>.nc|Delete T p=>induction T using xc with
  |nil=>exact .nc|cons t r=>induction r using xc with
   |nil=>induction t using pg with
    |Subscript=>exact .del|_=>exact .nc
   |cons=>induction t using pg<;>exact .nc
 |_=>exact .nc
section
theorem j0(m:qd w B d a)(o:Wm w B d rS)(U:Bs w B d F a)(h:(Rm.bind (Jf F a l (rd GT k j t) (Zb GT k j i) H) λs=>forLoop (λl H=>Kc rS (b.map (Se GT k j)) l H) (rd GT k j t) (zi s.1 s.2+1) s.1 l s.2)=Fb (r,Hb)):Nk w B d (.For t i b [] p) j l H r.1 r.2.1 r.2.2:=
 (Rm.bind_some h).elim λx z=>λA e g s E Q I R post=>wpAny_For (U _ _ _ _ _ _ _ _ x.1 x.2 z.1 A e g s E _ I R λC L D V N T q S=>
  b7 (λl H fl cf Ac h=>Qr o b h) I z.2 S λf Y G J u O y=>post f Y G J (T.trans u) (q.trans O) y) (uB (EB m z.1) e)
theorem v4(q:qd w B d a)(I:Wm w B d rS)(h:(Rm.bind (ud a l (qf GT k j t) u) λv=>match v.1 with
   |true=>Kc rS (b.map (Se GT k j)) l v.2|false=>Kc rS (o.map (Se GT k j)) l v.2)=Fb (r,Hb)):Nk w B d (.If t b o p) j l u r.1 r.2.1 r.2.2:=
 (Rm.bind_some h).elim λx z=>λA e g s E Q H R post=>by
  obtain⟨bv,V⟩:=x;refine wpAny_If (Zp q k t z.1 A e g s E _ H R λJ G L Y T=>?_);have m:=λf y C N D O U=>post f y C N (Y.trans D) (T.trans O) U
  induction bv using Ld with
  |true=>exact Qr I b z.2 A e G J E Q H L m|false=>exact Qr I o z.2 A e G J E Q H L m
theorem UY(f:qd w B d a)(h:(Rm.bind (a (Zb GT k j e) Hb l H) λx=>Rm.ret (.ret x.1,l,x.2))=Fb (r,Hb)):Nk w B d (.Return (Fb e) p) j l H r.1 r.2.1 r.2.2:=
 (Rm.bind_some h).elim λx z=>by
  rw[show r=_ from Rm.Gd z.2];exactλA U g s E Q I R post=>wpAny_Return_some (zf f z.1 A U g s E _ I R λv Y G J X T V=>post _ Y G J X T (.ret V))
theorem Y0(j:FE w B d F a)(A:Mr e=Hb)(h:(Rm.bind (a (Zb GT k s e) Hb l H) λx=>Rm.bind (vi F a 12 (rd GT k s t) x.1 l x.2) λy=>Rm.ret (.next,y.1,y.2))=Fb (r,Hb)):Nk w B d (.Assign [t] e p) s l H r.1 r.2.1 r.2.2:=
 (Rm.bind_some h).elim λx z=>(Rm.bind_some z.2).elim λy Y=>by
  rw[show r=_ from Rm.Gd Y.2];exact j.asg k s t e p l H x.1 x.2 y.1 y.2 A z.1 Y.1
theorem ZU(e:qd w B d a)(I:Wm w B d rS)(H:FE w B d F a){st:jd}(h:Cq F a rS (Se GT (k+1) j st) l b=Fb (r,Hb)):Nk w B d st j l b r.1 r.2.1 r.2.2:=by
 have c:=k8 (sc:=j) k st;generalize Se GT (k+1) j st=m at c h
 induction c using Kk.casesOn with
 |nc=>exact nn h|pass=>rw[show r=_ from Rm.Gd h];exactλA T g s E Q J R post=>wpAny_Pass (post .next s g R (Ext.refl g) (Tr.refl s) .next)|brk=>rw[show r=_ from Rm.Gd h];exactλA T g s E Q J R post=>wpAny_Break (post .brk s g R (Ext.refl g) (Tr.refl s) .brk)|expr f=>exact LW e h f|ret=>exact UY e h|asg C=>exact Y0 H C h|aug U=>rw[<-U] at h;exact f2 e h|ifs=>exact v4 e I h|Ok=>exactλA T g s E Q J R post=>wpAny_While (PZ e I J h R post)|Uf=>exact j0 e I H.Zv h|del=>exact H.del k j _ _ _ _ l b r.1 r.2.1 r.2.2 h
end
theorem zL(H:∀n,qd w B d (Yb P F n))(j:∀n,qd w B d (Yb P F n)->FE w B d F (Yb P F n)):∀n,Wm w B d (uc P F n)
 |0=>⟨λJ J=>rfl,by intro k s st l a f L T h;injection h⟩|n+1=>by
  have I:=zL H j n;have e:=H (n+1);refine⟨λJ J=>rfl,?_⟩;intro k s st l a f L T h
  induction k using jf with
  |zero=>exact nn h|succ k=>exact ZU e I (j (n+1) e) h
end
structure U2(w:xd)(B:Heap)(d:Nat)(F:Dc)(rE:Ke):Prop where
 zip:∀k sc Nb x p a b pos loc hp i u dd v Nd ef RF,GT.kc.lookup x=Fb (.oc .zip)->slotIn sc.names x 0=Fb (i,.globalImplicit)->(x==("__debug__":Str))=Ib->(∃es q r,Nb=eu es q r)->se [a,b]->
  rE (Zb GT k sc a) Ib loc hp=Fb ((u,dd),Hb)->rE (Zb GT k sc b) Ib loc dd=Fb ((v,Nd),Hb)->zs u=Fb (ef,Hb)->Yh v=Fb (RF,Hb)->
  Hk w B d (.Call (.Name x p) [a,b] [] pos) Nb sc loc hp (.zip ef RF) Nd
 Dv:∀k sc Nb x p a pos loc hp i u dd ef,GT.kc.lookup x=Fb (.oc .enum)->slotIn sc.names x 0=Fb (i,.globalImplicit)->(x==("__debug__":Str))=Ib->(∃es q r,Nb=eu es q r)->se [a]->
  rE (Zb GT k sc a) Ib loc hp=Fb ((u,dd),Hb)->Yh u=Fb (ef,Hb)->Hk w B d (.Call (.Name x p) [a] [] pos) Nb sc loc hp (.enum 0 ef) dd
 Nv:∀k sc Nb x p a b pos loc hp i u dd n Nd ef,GT.kc.lookup x=Fb (.oc .enum)->slotIn sc.names x 0=Fb (i,.globalImplicit)->(x==("__debug__":Str))=Ib->(∃es q r,Nb=eu es q r)->se [a,b]->
  rE (Zb GT k sc a) Ib loc hp=Fb ((u,dd),Hb)->rE (Zb GT k sc b) Ib loc dd=Fb ((.int n,Nd),Hb)->Yh u=Fb (ef,Hb)->(decide (0<=n)&&Ci n)=Hb->
  Hk w B d (.Call (.Name x p) [a,b] [] pos) Nb sc loc hp (.enum n ef) Nd
 gen:∀k sc Nb x p a pos loc hp i n v u dd xs,GT.kc.lookup x=Fb (.fn n v)->slotIn sc.names x 0=Fb (i,.globalImplicit)->(x==("__debug__":Str))=Ib->se [a]->
  rE (Zb GT k sc a) Ib loc hp=Fb ((u,dd),Hb)->F.gen n [u]=Fb xs->Hk w B d (.Call (.Name x p) [a] [] pos) Nb sc loc hp (.Lb xs) dd
section
theorem GV(I:qd w B d a)(h:(Rm.bind (a (Zb GT k j iter) Ib l H) λx=>Rm.bind (Bi x.1) λi=>Rm.ret (i,x.2))=Fb ((t,q),Hb)):Hk w B d iter Nb j l H t q:=by
 obtain⟨x,C,h⟩:=Rm.bind_some h;obtain⟨i,m,h⟩:=Rm.bind_some h;refine Oh h ?_;intro A e g s E Q J R post;exact zf I C A e g s E _ J R λv L G r Y T V=>C5 r V m λo b S=>post o b G L r Y T S
theorem OB(h:Gm (rd GT k s Nb)=Hb):∃E q r,Nb=eu E q r:=by
 refine Qc λG V=>?_
 cases e:rd GT k s Nb with
 |Sb t=>refine Md (AL e) λJ E q p z=>we z λJ H J=>?_;clear z;refine V ?_;exact⟨E,q,p,H⟩|_=>rw[e] at h;injection h
theorem dM{α β:Type}{f:α->β}{l:List α}{b c:β}(h:l.map f=[b,c]):∃a A,l=[a,A]/\f a=b/\f A=c:=by
 rcases l with J|⟨a,J|⟨A,J|⟨a2,r⟩⟩⟩
 ·injection h
 ·injection h with _ h;injection h
 ·injection h with H h;injection h with j h;exact⟨a,A,rfl,H,j⟩
 ·injection h with _ h;injection h with _ h;injection h
theorem Xs(I:qd w B d r){mt:Bool}(h:r (Zb GT k s a) mt l H=Fb (x,Hb)):∀y p,a≠.Starred y p:=by
 rintro y p rfl
 have:Zb GT k s (.Starred y p)=.nc:=by induction k using jf<;>rfl
 rw[this,I.nc] at h;injection h
inductive Jq(F:Dc)(rE:Ke)(loc:Loc)(Nb:M)(hp:Hp):Ic->Hp->M->Prop
 |zip{a b:M}{u v:PV}{h1 h2:Hp}{i j:Ic}(ht:Gm Nb=Hb)(e1:rE a Ib loc hp=Fb ((u,h1),Hb))(e2:rE b Ib loc h1=Fb ((v,h2),Hb))(e3:zs u=Fb (i,Hb))(e4:Yh v=Fb (j,Hb)):Jq F rE loc Nb hp (.zip i j) h2 (.oc .zip [a,b])
 |Dv{a:M}{u:PV}{h1:Hp}{i:Ic}(ht:Gm Nb=Hb)(e1:rE a Ib loc hp=Fb ((u,h1),Hb))(e3:Yh u=Fb (i,Hb)):Jq F rE loc Nb hp (.enum 0 i) h1 (.oc .enum [a])
 |Nv{a b:M}{u:PV}{n:Int}{h1 h2:Hp}{i:Ic}(ht:Gm Nb=Hb)(e1:rE a Ib loc hp=Fb ((u,h1),Hb))(e2:rE b Ib loc h1=Fb ((.int n,h2),Hb))(e3:Yh u=Fb (i,Hb))(e4:(decide (0<=n)&&Ci n)=Hb):Jq F rE loc Nb hp (.enum n i) h2 (.oc .enum [a,b])
 |gen{a:M}{n:Nat}{u:PV}{h1:Hp}{xs:List PV}(e1:rE a Ib loc hp=Fb ((u,h1),Hb))(e2:F.gen n [u]=Fb xs):Jq F rE loc Nb hp (.Lb xs) h1 (.fn n [a])
 |plain{m:M}{ef:Ic}{dd:Hp}(h:(Rm.bind (rE m Ib loc hp) λx=>Rm.bind (Bi x.1) λi=>Rm.ret (i,x.2))=Fb ((ef,dd),Hb)):Jq F rE loc Nb hp ef dd m
theorem TU(h:Jf F r l Nb L d=Fb ((I,s),Hb)):Jq F r l Nb d I s L:=by
 induction L using M.casesOn with
 |oc p A=>induction p using Rj.casesOn with
  |zip=>
   have h:(match(generalizing:=false) Gm Nb,A with
    |true,[a,b]=>Rm.bind (r a Ib l d) λx=>Rm.bind (r b Ib l x.2) λy=>Rm.bind (zs x.1) λi=>Rm.bind (Yh y.1) λj=>Rm.ret (.zip i j,y.2)|_,_=>Gb)=Fb ((I,s),Hb):=h
   cases H:Gm Nb with
   |false=>rw[H] at h;exact nn h|true=>
    rw[H] at h;rcases A with J|⟨a,J|⟨b,J|⟨c,A⟩⟩⟩
    ·exact nn h
    ·exact nn h
    ·obtain⟨u,e,h⟩:=Rm.bind_some h
     obtain⟨v,E,h⟩:=Rm.bind_some h;obtain⟨i,q,h⟩:=Rm.bind_some h;obtain⟨j,t,h⟩:=Rm.bind_some h;refine Oh h ?_;exact .zip H e E q t
    ·exact nn h
  |enum=>
   have h:(match(generalizing:=false) Gm Nb,A with
    |true,[a]=>Rm.bind (r a Ib l d) λx=>Rm.bind (Yh x.1) λi=>Rm.ret (.enum 0 i,x.2)|true,[a,b]=>Rm.bind (r a Ib l d) λx=>Rm.bind (r b Ib l x.2) λy=>match y.1 with
     |.int k=>Rm.bind (Yh x.1) λi=>Fb ((.enum k i,y.2),decide (0<=k)&&Ci k)|_=>Gb
    |_,_=>Gb)=Fb ((I,s),Hb):=h
   cases H:Gm Nb with
   |false=>rw[H] at h;exact nn h|true=>
    rw[H] at h;rcases A with J|⟨a,J|⟨b,J|⟨c,A⟩⟩⟩
    ·exact nn h
    ·obtain⟨u,e,h⟩:=Rm.bind_some h
     obtain⟨i,q,h⟩:=Rm.bind_some h;refine Oh h ?_;exact .Dv H e q
    ·obtain⟨u,e,h⟩:=Rm.bind_some h
     obtain⟨⟨v,m⟩,E,h⟩:=Rm.bind_some h
     induction v using PV.casesOn with
     |int n=>
      obtain⟨i,q,h⟩:=Rm.bind_some h;obtain⟨f,t⟩:=Ae h;refine prN f ?_;exact .Nv H e E q t
     |_=>exact nn h
    ·exact nn h
  |_=>exact .plain h
 |fn n A=>
  rcases A with J|⟨a,J|⟨b,A⟩⟩
  ·exact .plain h
  ·have h:(match decide (n=4) with
    |true=>Rm.bind (r a Ib l d) λx=>match F.gen n [x.1] with
     |some T=>Rm.ret (.Lb T,x.2)|none=>Gb
    |false=>Rm.bind (r (.fn n [a]) Ib l d) λx=>Rm.bind (Bi x.1) λi=>Rm.ret (i,x.2))=Fb ((I,s),Hb):=h
   cases z:decide (n=4) with
   |false=>rw[z] at h;exact .plain h|true=>
    rw[z] at h;obtain⟨u,e,h⟩:=Rm.bind_some h
    cases E:F.gen n [u.1] with
    |none=>rw[E] at h;exact nn h|some T=>
     rw[E] at h;refine Oh h ?_;exact .gen e E
  ·exact .plain h
 |_=>exact .plain h
theorem IJ(h:∀y p,a≠.Starred y p):se [a]:=λe H=>by rw[List.mem_singleton.mp H];exact h
theorem SK(h:∀y p,a≠.Starred y p)(j:∀y p,b≠.Starred y p):se [a,b]:=λe H=>by
 rcases List.mem_cons.mp H with q|H
 ·rw[q];exact h
 ·rw[List.mem_singleton.mp H];exact j
theorem w4(I:qd w B d g)(j:U2 w B d F g):Bs w B d F g:=by
 intro k G s L Nb iter l f t u h;have o:=TU h;generalize U:Zb GT k s iter=m at o
 induction o using Jq.casesOn with
 |zip D E p q r=>
  have c:=DD U
  induction c using Ts.casesOn with|mk C H y T V=>_
  obtain⟨a,b,rfl,rfl,rfl⟩:=dM V;exact j.zip _ s Nb _ _ a b _ l f _ _ _ _ _ _ _ H y T (OB D) (SK (Xs I E) (Xs I p)) E p q r
 |Dv D E q=>
  have c:=DD U
  induction c using Ts.casesOn with|mk C H y T V=>_
  obtain⟨a,rfl,rfl⟩:=By V;exact j.Dv _ s Nb _ _ a _ l f _ _ _ _ H y T (OB D) (IJ (Xs I E)) E q
 |Nv D E p q r=>
  have c:=DD U
  induction c using Ts.casesOn with|mk C H y T V=>_
  obtain⟨a,b,rfl,rfl,rfl⟩:=dM V;exact j.Nv _ s Nb _ _ a b _ l f _ _ _ _ _ _ H y T (OB D) (SK (Xs I E) (Xs I p)) E p q r
 |gen E p=>
  have c:=XO U
  induction c using Iw.casesOn with|mk C H y T V=>_
  obtain⟨a,rfl,rfl⟩:=By V;exact j.gen _ s Nb _ _ a _ l f _ _ _ _ _ _ H y T (IJ (Xs I E)) E p
 |@plain m t u e=>
  rw[<-U] at e;exact GV I e
end
section
theorem gU(O:Zb GT k j e≠.nc):∃b,jr e (Fb (.Name x p)) l T=pure b/\(b=Hb->(∃E g s q,e=.ListComp E g s q)/\T.kindOf x=Fb .local):=by
 cases H:mq e with
 |true=>exact nN (P:=λe=>∃b,jr e (Fb (.Name x p)) l T=pure b/\(b=Hb->(∃E g s q,e=.ListComp E g s q)/\T.kindOf x=Fb .local)) H λE g s q=>⟨_,rfl,λh=>⟨⟨_,_,_,_,rfl⟩,by simp only [Zc] at h;exact eq_of_beq h.1.1.2⟩⟩|false=>exact⟨Ib,GB H O,λh=>ff h⟩
theorem A0(I:qd w B d a)(Y:∀(k:Nat)(r:Expr)(G:List Comprehension)(u:Scope)(q p:Pos)(x:Str)(i:Nat)(l:Loc)(h:Hp)(f:PV)(H:Hp)(A:Dd)(U:Env)(g:Gh)(s:Vb)(E:ja)(z:Unit->Vb->Prop),
   slotIn j.names x 0=Fb (i,.local)->a (Zb GT k j (.ListComp r G u q)) Hb l h=Fb ((f,H),Hb)->Cc d A->Wb B j U l h g s.heap->wh B j U (l.set i (Fb f)) H g s z->
   Pb (Qb pw w) A (MG (.ListComp r G u q) U (qg (.Name x p) U)) z E s)
  (C:a (Zb GT k j e) Hb l h=Fb ((f,H),Hb))(m:rd GT k j (.Name x p)=.Jb i):
  Nk w B d (.Assign [.Name x p] e o) j l h .next (l.set i (Fb f)) H:=by
 refine xl (WK m) λkd D=>ql D λy L=>?_;clear D;intro A U g s E Q N R post;have hb:Zb GT k j e≠.nc:=λq=>by rw[q,I.nc] at C;injection C
 obtain⟨b,hs,hb2⟩:=gU hb;rw[KA];refine Ob (gj ?_);show Pb _ A (jr e (Fb (.Name x p)) o.line U>>=_) Q E s;rw[hs];refine Ob (vc ?_)
 induction b using Ld with
 |true=>
  refine Qc λGG kk=>?_;obtain⟨⟨r,G,u,q,rfl⟩,O⟩:=hb2 rfl;have e9:kd=.local:=by
   rcases L with rfl|rfl
   ·rfl
   ·rw[(R.er.aj x i y).1] at O;injection O
  subst e9;refine kk ?_;refine Bo rfl ?_;refine Ob (Y k r G u q p x i l h f H A U g s E _ y C N R λs' g' R' X T=>?_);exact vc (post .next s' g' R' X T .next)
 |false=>
  refine Jj (by decide) ?_;refine Ob (zf I C A U g s E _ N R λv J Mf Rl Ek ig Tn=>?_);show Pb _ A (pure Gb>>=λq=>NG U v q [qg (.Name x p) U]) Q E J;refine Ob (vc ?_);show Pb _ A (do assignAll v [qg (.Name x p) U];pure .next) Q E J;refine Ob (GA (Pp Rl y L Tn λV t nf K=>?_));exact vc (post .next {J with heap:=V,toks:=t} Mf nf Ek (ig.trans (Tr.heap J V t)) .next)
end
noncomputable def vf(h:Heap)(I a:Ub)(k:Nat)(T:Array Value):Bool->Prop
 |true=>h.IsTupleIter I a k/\h.IsTuple a T|false=>h.IsListIter I a k/\h.IsList a T
theorem vf.at(S:vf h I a k T t)(H:∀o,h.get? I=Fb o->V.get? I=Fb o)(B:∀o,h.get? a=Fb o->V.get? a=Fb o):vf V I a k T t:=by
 induction t using Ld with
 |true=>exact⟨S.1.elim λo q=>⟨o,H o q.1,q.2⟩,S.2.elim λo q=>⟨o,B o q.1,q.2⟩⟩|false=>exact⟨S.1.elim λo q=>⟨o,H o q.1,q.2⟩,S.2.elim λo q=>⟨o,B o q.1,q.2⟩⟩
noncomputable def Pl(t:Bool):String:=if t then "tuple_iterator" else "list_iterator"
theorem vf.obj(S:vf h I a k T t):∃o,h.get? I=Fb o/\o.cls=.type (Pl t)/\o.data=.fields #[.ref a,.int k 0]:=by
 induction t using Ld<;>exact S.1
section
theorem SM{α:Type}{Q:α->Vb->Prop}{f:Value->Sem α}(h:∀O o e,((s.heap.push O).push o).get? e=Fb o->o.cls=.type "StopIteration"->Pb (Qb pw w) A (f (.ref e)) Q E {s with heap:=(s.heap.push O).push o}):
  Pb (Qb pw w) A (newExc (.type "StopIteration") []>>=f) Q E s:=by
 refine Ob ?_;simp only [newExc,newTuple];refine Ob (ox ?_ (by size_fits));refine Ob (Hi (a:=sp) (by first|rfl|(simp only [firstArgMember];rfl)) ?_);refine ox ?_ (by size_fits);exact h _ _ _ (Heap.get?_push_size _ rfl) rfl
theorem FK{α:Type}{Q:α->Vb->Prop}(H:A.handled=Gb)(h:E (.ref a) s):Pb (Qb pw w) A (raiseNew (.ref a)) Q E s:=by
 simp only [raiseNew];refine Ob (wpAny_handled ?_);rw[H];exact Ob (vc (wpAny_throw h))
theorem iD{α:Type}{Q:α->Vb->Prop}(H:A.handled=Gb)(h:∀O o e,((s.heap.push O).push o).get? e=Fb o->o.cls=.type "StopIteration"->E (.ref e) {s with heap:=(s.heap.push O).push o}):
 Pb (Qb pw w) A (newExc (.type "StopIteration") []>>=λv=>raiseNew v) Q E s:=SM λO o e B j=>FK H (h O o e B j)
theorem next_tuple_item{T}(hit:s.heap.IsTupleIter I t i)(D:s.heap.IsTuple t T)(N:T[i]?=Fb x)
  (Y:∀V,V.IsTupleIter I t (i+1)->Heap.SameBut I s.heap V->Q x {s with heap:=V}):Pb (Qb pw w) A (im (.ref I)) Q E s:=by
 refine Qc λG k=>?_;refine xl (id hit) λo z=>we z λH d h=>?_;clear z;obtain⟨j,U,J,y,O⟩:=D;refine k ?_;unfold im;refine Ob (yp hit.typeIs OG (jm OG hit.typeIs faa ?_ (gaa _)));show Pb _ _ (Al (.ref I) 0>>=_) _ _ s;refine Ob (Rh H h (x:=.ref t) rfl ?_);show Pb _ _ (if(fm t==sp)=Hb then _ else _) _ _ s;rw[if_neg (show¬((fm t==sp)=Hb) from Of)];show Pb _ _ (Al (.ref I) 1>>=_) _ _ s;refine Ob (Rh H h (x:=.int i 0) rfl ?_);show Pb _ _ (seqItems? (.ref t)>>=_) _ _ s;refine Ob (Bl U O ?_);simp only [pr,N];refine Ob (PG H h (by simp) (vc ⟨x,rfl,vc (Y _ ?_ (Heap.SameBut.update ..))⟩));exact⟨_,Heap.get?_update_self _ H (MQ (QG h _)),(Obj.cls_mapFields ..).trans d,by rw[QG h];simp[Ef]⟩
theorem next_tuple_end{U}(p:A.handled=Gb)(hit:s.heap.IsTupleIter I t i)(D:s.heap.IsTuple t U)(N:U[i]?=Gb)
  (l:∀h e,Heap.ExtBut I s.heap h->(∃o,h.get? e=Fb o/\o.cls=.type "StopIteration")->E (.ref e) {s with heap:=h}):Pb (Qb pw w) A (im (.ref I)) Q E s:=by
 refine Qc λG k=>?_;refine xl (id hit) λo z=>we z λH d T=>?_;clear z;obtain⟨m,V,K,y,O⟩:=D;refine k ?_;unfold im;refine Ob (yp hit.typeIs OG (jm OG hit.typeIs faa ?_ (gaa _)));show Pb _ _ (Al (.ref I) 0>>=_) _ _ s;refine Ob (Rh H T (x:=.ref t) rfl ?_);show Pb _ _ (if(fm t==sp)=Hb then _ else _) _ _ s;rw[if_neg (show¬((fm t==sp)=Hb) from Of)];show Pb _ _ (Al (.ref I) 1>>=_) _ _ s;refine Ob (Rh H T (x:=.int i 0) rfl ?_);show Pb _ _ (seqItems? (.ref t)>>=_) _ _ s;refine Ob (Bl V O ?_);simp only [pr,N];refine Ob (so (Ob (PG H T (by simp) ?_)));exact iD p λY J e B j=>l _ _ (((Heap.SameBut.update ..).extBut.push _).push _) ⟨_,B,j⟩
theorem vf.item(S:vf s.heap I a k T t)(G:a≠I)(N:T[k]?=Fb x)
  (Y:∀h,vf h I a (k+1) T t->Heap.SameBut I s.heap h->Q x {s with heap:=h}):Pb (Qb pw w) A (im (.ref I)) Q E s:=by
 induction t using Ld with
 |true=>exact next_tuple_item S.1 S.2 N λh q H=>Y h ⟨q,S.2.extBut H.extBut G⟩ H|false=>exact wpAny_nextOf_list_item S.1 S.2 N λh q H=>Y h ⟨q,S.2.extBut H.extBut G⟩ H
theorem vf.done(H:A.handled=Gb)(S:vf s.heap I a k T t)(N:T[k]?=Gb)
  (l:∀h e,Heap.ExtBut I s.heap h->(∃o,h.get? e=Fb o/\o.cls=.type "StopIteration")->E (.ref e) {s with heap:=h}):Pb (Qb pw w) A (im (.ref I)) Q E s:=by
 induction t using Ld with
 |true=>exact next_tuple_end H S.1 S.2 N l|false=>exact NQ H S.1 S.2 N l
structure Apart(z TI TO i1 i2 l1 l2:Ub):Prop where
 TIz:TI≠z
 TOz:TO≠z
 i1z:i1≠z
 i2z:i2≠z
 TITO:TI≠TO
 TIi1:TI≠i1
 TIi2:TI≠i2
 TOi1:TO≠i1
 TOi2:TO≠i2
 i12:i1≠i2
 l1z:l1≠z
 l1TO:l1≠TO
 l1i1:l1≠i1
 l1i2:l1≠i2
 l2z:l2≠z
 l2TO:l2≠TO
 l2i1:l2≠i1
 l2i2:l2≠i2
theorem EX{Q:ja}(D:Apart z TI T i1 i2 l Y)
  (G:IsZip s.heap z TI T .none)(iA:uo s.heap TI (.ref i1) (.ref i2))(nA:uo s.heap T a b)(h1:vf s.heap i1 l k V t1)(h2:vf s.heap i2 Y j m t2)(hx:V[k]?=Fb x)(hy:m[j]?=Fb y)
  (hQ:∀H,IsZip H z TI T (Ef s.heap.objs.size)->uo H T x y->vf H i1 l (k+1) V t1->vf H i2 Y (j+1) m t2->uo H s.heap.objs.size x y->H.objs.size=s.heap.objs.size+1->
   (∀c o,c≠z->c≠T->c≠i1->c≠i2->s.heap.get? c=Fb o->H.get? c=Fb o)->Q (.ref s.heap.objs.size) {s with heap:=H}):
  Pb (Qb pw w) A (Builtin.«zip.__next__» ⟨[.ref z],[]⟩) (λfin s'=>∃v,fin=.done (.ret v)/\Q v s') E s:=by
 show Pb _ _ (Al (.ref z) 2>>=_) _ _ _;refine Ob (Rh G rfl (x:=.bool Ib) rfl ?_);show Pb _ _ (Al (.ref z) 3>>=_) _ _ _;refine Ob (Rh G rfl (x:=.ref TI) rfl ?_);refine Ob (Bl iA rfl ?_);show Pb _ _ (RG (.ref z)>>=_) _ _ _;refine Ob ?_;unfold RG;refine Ob (Rh G rfl (x:=.none) rfl (vc ?_));simp only [if_true];refine Ob (so ?_);refine Ob (Rh G rfl (x:=.ref T) rfl ?_);refine Ob (px G (by simp) λMz N bz=>?_);replace N:IsZip Mz z TI T .ellipsis:=N;refine Ob ?_;simp only [List.zipIdx_cons,List.zipIdx_nil,HA,IA];have B:=bz.extBut;refine Ob (Ob (LA ?_));show Pb _ _ (im (.ref i1)>>=_) _ _ _;refine Ob (vf.item (h1.at (λo q=>B _ _ D.i1z q) λo q=>B _ _ D.l1z q) D.l1i1 hx λUd EN jz=>vc ?_);have r:=jz.extBut;have Av:uo Ud T a b:=r _ _ D.TOi1 (B _ _ D.TOz nA);refine Ob (Bl Av rfl ?_);refine Ob (OQ Av λOO g uN=>?_);replace g:uo OO T x b:=g;have p:=uN.extBut;refine Ob (fu (vc ?_));refine Ob (Ob (LA ?_));show Pb _ _ (im (.ref i2)>>=_) _ _ _;refine Ob (vf.item (s:={s with heap:=OO}) (h2.at (λo q=>p _ _ D.TOi2.symm (r _ _ D.i12.symm (B _ _ D.i2z q))) λo q=>p _ _ D.l2TO (r _ _ D.l2i1 (B _ _ D.l2z q))) D.l2i2 hy λSO T8 Ev=>vc ?_);have t:=Ev.extBut;have fM:uo SO T x b:=t _ _ D.TOi2 g;refine Ob (Bl fM rfl ?_);refine Ob (OQ fM λh L Jv=>?_);replace L:uo h T x y:=L;have d:=Jv.extBut;refine Ob (fu (vc (vc ?_)));refine Ob (Bl L rfl ?_);refine Ob (wpAny_newTuple ?_);have oP:h.objs.size=s.heap.objs.size:=by rw[Jv.1,Ev.1,uN.1,jz.1,bz.1]
 have GN:=d _ _ D.TOz.symm (t _ _ D.i2z.symm (p _ _ D.TOz.symm (r _ _ D.i1z.symm N)));have G8:∀c o,c≠z->c≠T->c≠i1->c≠i2->s.heap.get? c=Fb o->h.get? c=Fb o:=λc o c1 c2 C I e=>d _ _ c2 (t _ _ I (p _ _ c2 (r _ _ C (B _ _ c1 e))));have f8:=EN.at (λo q=>d _ _ D.TOi1.symm (t _ _ D.i12 (p _ _ D.TOi1.symm q))) λo q=>d _ _ D.l1TO (t _ _ D.l1i2 (p _ _ D.l1TO q));have w7:=T8.at (λo q=>d _ _ D.TOi2.symm q) λo q=>d _ _ D.l2TO q;have gP:=Heap.lt_size GN;show Pb _ _ (haa (.ref z) (.ref h.objs.size)>>=_) _ _ _;refine Ob ?_;unfold haa;have w8:IsZip (h.push {cls:=.type "tuple",data:=.seq #[x,y]}) z TI T .ellipsis:=Heap.get?_push_of_some _ GN;refine Ob (px w8 (by simp) λU9 O J=>?_);replace O:IsZip U9 z TI T (Ef h.objs.size):=O;refine px O (by simp) λu f U=>?_;replace f:IsZip u z TI T (Ef h.objs.size):=f;have up:∀c o,c≠z->h.get? c=Fb o->u.get? c=Fb o:=λc o c1 e=>U.extBut _ _ c1 (J.extBut _ _ c1 (Heap.get?_push_of_some _ e));have kO:=U.extBut _ _ (ri gP) (J.extBut _ _ (ri gP) (Heap.get?_push_size _ rfl));have RP:u.objs.size=h.objs.size+1:=by rw[U.1,J.1,Heap.size_push]
 rw[oP] at f kO RP;refine vc ⟨_,rfl,?_⟩;show Q (.ref h.objs.size) _;rw[oP];exact hQ u f (up _ _ D.TOz L) (f8.at (λo q=>up _ o D.i1z q) λo q=>up _ o D.l1z q) (w7.at (λo q=>up _ o D.i2z q) λo q=>up _ o D.l2z q) kO RP λc o c1 c2 C I e=>up c o c1 (G8 c o c1 c2 C I e)
theorem E0(u:A.handled=Gb)(D:Apart z TI T i1 i2 l1 l2)
  (G:IsZip s.heap z TI T .none)(iA:uo s.heap TI (.ref i1) (.ref i2))(nA:uo s.heap T a b)(h1:vf s.heap i1 l1 k g t1)(h2:vf s.heap i2 l2 B J t2)(X_:g[k]?=Gb\/J[B]?=Gb)
  (l:∀Y e,(∀c o,c≠z->c≠T->c≠i1->c≠i2->s.heap.get? c=Fb o->Y.get? c=Fb o)->(∃o,Y.get? e=Fb o/\o.cls=.type "StopIteration")->E (.ref e) {s with heap:=Y}):
  Pb (Qb pw w) A (Builtin.«zip.__next__» ⟨[.ref z],[]⟩) Q E s:=by
 show Pb _ _ (Al (.ref z) 2>>=_) _ _ _;refine Ob (Rh G rfl (x:=.bool Ib) rfl ?_);show Pb _ _ (Al (.ref z) 3>>=_) _ _ _;refine Ob (Rh G rfl (x:=.ref TI) rfl ?_);refine Ob (Bl iA rfl ?_);show Pb _ _ (RG (.ref z)>>=_) _ _ _;refine Ob ?_;unfold RG;refine Ob (Rh G rfl (x:=.none) rfl (vc ?_));simp only [if_true];refine Ob (so ?_);refine Ob (Rh G rfl (x:=.ref T) rfl ?_);refine Ob (px G (by simp) λMz L bz=>?_);replace L:IsZip Mz z TI T .ellipsis:=L;refine Ob ?_;simp only [List.zipIdx_cons,List.zipIdx_nil,HA,IA];have y:=bz.extBut;refine Ob (Ob (LA ?_));show Pb _ _ (im (.ref i1)>>=_) _ _ _;have j:=h1.at (λo q=>y _ _ D.i1z q) λo q=>y _ _ D.l1z q
 cases N:g[k]? with
 |none=>
  refine Ob (vf.done u j N λUd e U d=>?_);obtain⟨O,H,I⟩:=d;have m:=U _ _ D.i1z.symm L;have f:e≠z:=λx=>by obtain rfl:=x.symm;rw[m] at H;obtain rfl:=jc H;simp at I
  refine px m (by simp) λt K V=>l t e (λc o c1 K C K x=>V.extBut _ _ c1 (U _ _ C (y _ _ c1 x))) ⟨O,V.extBut _ _ f H,I⟩
 |some x=>
  have hy:J[B]?=Gb:=by rcases X_ with h|h;rw[N] at h;injection h;exact h
  refine Ob (vf.item j D.l1i1 N λUd EN U=>vc ?_);have p:=U.extBut;have Av:=p _ _ D.TOi1 (y _ _ D.TOz nA);refine Ob (Bl Av rfl ?_);refine Ob (OQ Av λt zaa V=>?_);have r:=V.extBut;refine Ob (fu (vc ?_));refine Ob (Ob (LA ?_));show Pb _ _ (im (.ref i2)>>=_) _ _ _;refine Ob (vf.done (s:={s with heap:=t}) u (h2.at (λo q=>r _ _ D.TOi2.symm (p _ _ D.i12.symm (y _ _ D.i2z q))) λo q=>r _ _ D.l2TO (p _ _ D.l2i1 (y _ _ D.l2z q))) hy λSO e Ev d=>?_);obtain⟨O,H,I⟩:=d;have tN:=Ev _ _ D.i2z.symm (r _ _ D.TOz.symm (p _ _ D.i1z.symm L));have f:e≠z:=λx=>by obtain rfl:=x.symm;rw[tN] at H;obtain rfl:=jc H;simp at I
  refine px tN (by simp) λh_ K Jv=>l h_ e (λc o c1 c2 C c4 x=>Jv.extBut _ _ c1 (Ev _ _ c4 (r _ _ c2 (p _ _ C (y _ _ c1 x))))) ⟨O,Jv.extBut _ _ f H,I⟩
theorem PL(H:IsZip s.heap z TI t .none)
  (T:Pb (Qb pw w) A.in1 (Builtin.«zip.__next__» ⟨[.ref z],[]⟩) (λf Y=>∃v,f=.done (.ret v)/\Q (Fb v) Y) (λe Y=>(∃a,e=.ref a/\∃o,Y.heap.get? a=Fb o/\o.cls=.type "StopIteration")/\Q Gb Y) s):
  Pb (Qb pw w) A (fj (.ref z)) Q E s:=by
 have hT:s.TypeIs (.ref z) "zip":=⟨_,H,rfl⟩;unfold fj;refine Ob (wpAny_attempt (yp hT F.slot_zip_next
  (jm F.slot_zip_next hT F.entry_zip_next (Yd T (λf Y h=>?_) λe Y h=>?_) (F.args_zip_next_1 _))))
 ·refine xl h λv B=>ql B λrfl h=>?_;clear B
  exact⟨v,rfl,vc h⟩
 ·obtain⟨⟨a,rfl,o,C,d⟩,h⟩:=h
  refine Ob (PQ ⟨o,C,d⟩ isSubtype_stop ?_);exact vc h
end
theorem tc.step(H:tc h g d)
  (A:∀a,(G a=g a/\(g a≠.free->∀o,h.get? a=Fb o->V.get? a=Fb o))\/(yf g a/\∃o,(G a=.it o\/G a=.Mb o)/\V.get? a=Fb o)\/(yf g a/\G a=.free)):tc V G d/\Jd g G:=
 have X:Jd g G:=λa B j=>
  have no:yf g a->False:=λw=>w.elim B λq=>q.elim j
  (A a).elim (λq=>q.1) λq=>q.elim (λq=>(no q.1).elim) λq=>(no q.1).elim
 have low:∀{a t},G a=t->t≠.free->(∀o,t≠.it o)->(∀o,t≠.Mb o)->g a=t/\∀o,h.get? a=Fb o->V.get? a=Fb o:=λ{a t}e B j Q=>
  (A a).elim (λq=>have E:=q.1.symm.trans e;⟨E,q.2 (E.symm▸B)⟩) λq=>q.elim (λq=>q.2.elim λo q=>q.1.elim (λz=>absurd (e.symm.trans z) (j o)) λz=>absurd (e.symm.trans z) (Q o)) λq=>absurd (e.symm.trans q.2) B
 ⟨{Mb:=λa o e=>(A a).elim (λq=>have E:=q.1.symm.trans e;q.2 (E.symm▸fz) o (H.Mb a o E)) λq=>q.elim (λq=>q.2.elim λJ q=>q.1.elim (λz=>Tc.noConfusion (z.symm.trans e)) λz=>Tc.Mb.inj (z.symm.trans e)▸q.2) λq=>Tc.noConfusion (q.2.symm.trans e)
   out:=λa o e=>have l:=low e ou gQ (λJ h=>by injection h);l.2 o (H.out a o l.1)
   it:=λa o e=>(A a).elim (λq=>have E:=q.1.symm.trans e;q.2 (E.symm▸iz) o (H.it a o E)) λq=>q.elim (λq=>q.2.elim λJ q=>q.1.elim (λz=>Tc.it.inj (z.symm.trans e)▸q.2) λz=>Tc.noConfusion (z.symm.trans e)) λq=>Tc.noConfusion (q.2.symm.trans e)
   Hc:=λa e=>have l:=low e pz LP (λJ h=>by injection h);(H.Hc a l.1).elim λo q=>⟨o,l.2 o q⟩
   Xb:=λa i e=>have l:=low e li Pw (λJ h=>by injection h);Md (H.Xb a i l.1) λb c y n q=>⟨b,c,y,n,q.1,l.2 _ q.2.1,q.2.2.nh X⟩
   all:=λi C=>(H.all i C).elim λa e=>⟨a,X.Xb e⟩
   inj:=λa b i x p=>H.inj a b i (low x li Pw (λJ h=>by injection h)).1 (low p li Pw (λJ h=>by injection h)).1},X⟩
noncomputable def Vi(g:Gh):List (Ub×Tc)->Gh
 |[]=>g|p::L=>Jc (Vi g L) p.1 p.2
theorem dh:Vi g ((a,t)::L) a=t:=ze ..
theorem qe(h:a≠b)(e:Vi g L a=u):Vi g ((b,t)::L) a=u:=(pe _ _ h).trans e
theorem al{α:Type}{p:α->Prop}{a:α}{l:List α}(h:p a)(k:∀x∈l,p x):∀x∈a::l,p x:=List.forall_mem_cons.mpr ⟨h,k⟩
theorem Zi{α:Type}{p:α->Prop}:∀x∈([]:List α),p x:=λJ h=>(Xd h).elim
theorem CL{R:Prop}(L:List (Ub×Tc)):(∀t,(a,t)∈L->Vi g L a=t->R)->((∀p∈L,a≠p.1)->Vi g L a=g a->R)->R:=by
 induction L with
 |nil=>exactλJ h=>h Zi rfl|cons p L I=>
  intro H h
  by_cases q:a=p.1
  ·rw[q] at H;exact H p.2 Fd (ze ..)
  ·exact I (λt m e=>H t (Ee _ m) ((pe _ _ q).trans e)) λn e=>h (al q n) ((pe _ _ q).trans e)
theorem Xp(L:List (Ub×Tc))(n:∀p∈L,a≠p.1):Vi g L a=g a:=CL L (λt m J=>absurd rfl (n _ m)) λJ e=>e
def oE(h:Heap)(a:Ub)(t:Tc):Prop:=t.casesOn True (λo=>h.get? a=Fb o) (λJ=>False) (λo=>h.get? a=Fb o) (λJ=>False) False
theorem I6{g G:Gh}(w:yf g a)(e:G a=t)(q:oE h a t):(yf g a/\∃o,(G a=.it o\/G a=.Mb o)/\h.get? a=Fb o)\/(yf g a/\G a=.free):=by
 induction t using Tc.casesOn with
 |free=>exact .inr ⟨w,e⟩|Mb o=>exact .inl ⟨w,o,.inr e,q⟩|it o=>exact .inl ⟨w,o,.inl e,q⟩|_=>exact q.elim
theorem tc.uq(H:tc h g a)(L:List (Ub×Tc))(B:∀p∈L,yf g p.1/\oE V p.1 p.2)(C:∀c o,(∀p∈L,c≠p.1)->h.get? c=Fb o->V.get? c=Fb o):tc V (Vi g L) a/\Jd g (Vi g L):=
 H.step λJ=>CL L (λJ m e=>.inr (I6 (B _ m).1 e (B _ m).2)) λn e=>.inl ⟨e,λJ o=>C _ o n⟩
noncomputable def a9(t:Bool)(w:ia)(n:Nat):Obj:=if t then pf w n else Rc w n
inductive gg(I a:Ub)(t:Bool)(k:Nat)(i:Ic)(g:Gh):Prop
 |Xb{o:Obj}{j:Nat}(h1:g I=.it o)(h2:o.cls=.type (Pl t))(h3:o.data=.fields #[.ref a,.int k 0])(ht:t=Ib)(hi:i=.Xb j k)(e:g a=.Xb j):gg I a t k i g
 |Lb{o:Obj}{ws:ia}{n:Nat}{l:List PV}(h1:g I=.it o)(h2:o.cls=.type (Pl t))(h3:o.data=.fields #[.ref a,.int k 0])(hi:i=.Lb (l.drop k))(hk:k<=l.length)(e:g a=.Mb (a9 t ws n))(V:bc g ws l):gg I a t k i g
section
section
theorem gg.it(S:gg I a t k i g):∃o,g I=.it o:=S.casesOn (λh J J J J J=>⟨_,h⟩) λh J J J J J J=>⟨_,h⟩
theorem gg.ne(S:gg I a t k i g)(h:g b=.it o):a≠b:=λq=>S.casesOn (λJ J J J J e=>Tc.noConfusion ((q▸h).symm.trans e)) λJ J J J J e J=>Tc.noConfusion ((q▸h).symm.trans e)
theorem gg.ext(S:gg I a t k i g)(G:u I=g I)(X:Tf g u):gg I a t k i u:=
 S.casesOn (λh H Q D y e=>.Xb (G.trans h) H Q D y (X.Xb _ _ e)) λh H Q y C e V=>.Lb (G.trans h) H Q y C (X.Mb _ _ e) (V.xh X)
noncomputable def oA(b:Bool)(x:PV×Ic):Option (Option (PV×Ic)):=b.casesOn (Fb Gb) (Fb (Fb x))
noncomputable def nxL(k j:Nat)(x:Option (Bool×Cell)):Option (Option (PV×Ic)):=x.casesOn Gb λc=>oA (decide (k<c.2.len)) (c.2.getD k,.Xb j (k+1))
noncomputable def gG(l:List PV):Option (Option (PV×Ic)):=l.casesOn (Fb Gb) λv r=>Fb (Fb (v,.Lb r))
theorem fW:Cd (.Xb j k) h=nxL k j h[j]?:=by kernel_rfl
theorem sI:Cd (.Lb l) h=gG l:=by kernel_rfl
theorem S6(h:oA b x=Fb Gb):b=Ib:=by
 induction b using Ld with
 |false=>rfl|true=>injection h with h;injection h
theorem P5(h:oA b x=Fb (Fb y)):b=Hb/\x=y:=by
 induction b using Ld with
 |false=>injection h with h;injection h
 |true=>exact⟨rfl,jc (jc h)⟩
theorem i6(h:gG l=Fb Gb):l=[]:=by
 induction l using xc with
 |nil=>rfl|cons=>injection h with h;injection h
theorem n7(h:gG l=Fb (Fb y)):∃r,l=y.1::r/\y.2=.Lb r:=by
 induction l using xc with
 |nil=>injection h with h;injection h
 |cons v r=>rw[<-jc (jc h)];exact⟨r,rfl,rfl⟩
def dz(I a:Ub)(t:Bool)(k:Nat)(g:Gh)(w:ia)(p:PV)(s:Ic):Prop:=∃x,w.toArray[k]?=Fb x/\Tb g x p/\∀G o,Tf g G->G I=.it o->o.cls=.type (Pl t)->o.data=.fields #[.ref a,.int ((k+1:Nat):Int) 0]->gg I a t (k+1) s G
theorem gg.view(S:gg I a t k i g)(H:tc h g d):∃w:ia,vf h I a k w.toArray t/\a≠I/\(Cd i d=Fb Gb->w.toArray[k]?=Gb)/\∀p s,Cd i d=Fb (Fb (p,s))->dz I a t k g w p s:=by
 have G:a≠I:=S.it.elim λK h=>S.ne h
 induction S using gg.casesOn with
 |@Xb o j B m Q E C e=>
  refine Md (H.Xb _ _ e) λb c w n z=>?_;have N:w.length=c.len:=by rw[Cell.len_eq,z.2.2.length]
  have q:Cd i d=oA (decide (k<c.len)) (c.getD k,.Xb j (k+1)):=by rw[C,fW,z.1];rfl
  rw[q,E];exact⟨w,⟨⟨o,H.it _ _ B,m.trans (congrArg (λt=>mo (Pl t)) E),Q⟩,rf z.2.1⟩,G,λA=>List.getElem?_toArray.trans (qo (N▸oi (of_decide_eq_false (S6 A)))),λp s A=>
   have y:=P5 A
   (z.2.2.get (Cell.getD_eq (of_decide_eq_true y.1))).elim λx r=>⟨x,List.getElem?_toArray.trans r.1,(ye y.2).1▸r.2,λO T X f U u=>.Xb f U u rfl (ye y.2).2.symm (X.Xb _ _ e)⟩⟩
 |@Lb o w n l B m Q C hk e V=>
  have J:=H.Mb _ _ e;have Y:vf h I a k w.toArray t:=by
   clear C V
   induction t using Ld with
   |true=>exact⟨⟨o,H.it _ _ B,m,Q⟩,Yk J⟩|false=>exact⟨⟨o,H.it _ _ B,m,Q⟩,rf J⟩
  rw[C,sI];refine⟨w,Y,G,λA=>List.getElem?_toArray.trans (qo (V.length▸List.drop_eq_nil_iff.mp (i6 A))),λp s A=>?_⟩;refine(n7 A).elim λr y=>?_;have D:=EQ λq=>by rw[List.drop_eq_nil_iff.mpr q] at y;exact nomatch y.1
  have c:=ck (y.1.symm.trans (dn D));exact(V.get (De D)).elim λx L=>⟨x,List.getElem?_toArray.trans L.1,(show l[k]=p from c.1.symm)▸L.2,λO T X f U u=>.Lb f U u (y.2.trans (congrArg Ic.Lb c.2)) D (X.Mb _ _ e) (V.xh X)⟩
end
noncomputable def Sm(TI T:Ub)(f:Value):Obj:={cls:=.type "zip",data:=.fields #[f,.bool Ib,.bool Ib,.ref TI,.ref T]}
noncomputable def Tg(a b:Value):Obj:={cls:=.type "tuple",data:=.seq #[a,b]}
structure sM(z TI TO i1 i2:Ub):Prop where
 TIz:TI≠z
 TOz:TO≠z
 i1z:i1≠z
 i2z:i2≠z
 TITO:TI≠TO
 TIi1:TI≠i1
 TIi2:TI≠i2
 TOi1:TO≠i1
 TOi2:TO≠i2
 i12:i1≠i2
def ZF(z TI T i1 i2:Ub)(a:Ub):Prop:=a=z\/a=TI\/a=T\/a=i1\/a=i2
inductive Kq(z TI TO i1 i2 l1 l2:Ub)(t1 t2:Bool)(g:Gh):Ic->Prop
 |mk{i' pQ:Ic}{k1 k2:Nat}{a b:Value}(hz:g z=.it (Sm TI TO .none))(iA:g TI=.it (Tg (.ref i1) (.ref i2)))(nA:g TO=.it (Tg a b))(h1:gg i1 l1 t1 k1 i' g)(h2:gg i2 l2 t2 k2 pQ g):Kq z TI TO i1 i2 l1 l2 t1 t2 g (.zip i' pQ)
inductive Ht(hp:Hp)(a b:Ic):Option (PV×Ic)->Prop
 |JN(h:Cd a hp=Fb Gb):Ht hp a b Gb
 |lN(h:Cd b hp=Fb Gb):Ht hp a b Gb
 |item{x y:PV}{a' b':Ic}(h1:Cd a hp=Fb (Fb (x,a')))(h2:Cd b hp=Fb (Fb (y,b'))):Ht hp a b (Fb (.Sb [x,y],.zip a' b'))
noncomputable def aQ(x y:Option (Option (PV×Ic))):Option (Option (PV×Ic)):=x.casesOn Gb λx=>x.casesOn (Fb Gb) λp=>y.casesOn Gb λy=>y.casesOn (Fb Gb) λq=>Fb (Fb (.Sb [p.1,q.1],.zip p.2 q.2))
theorem bW:Cd (.zip a b) h=aQ (Cd a h) (Cd b h):=by kernel_rfl
theorem J4(e:Cd (.zip a b) H=Fb r):Ht H a b r:=by
 have k:∀{x y},Cd a H=x->Cd b H=y->aQ x y=Fb r->Ht H a b r:=λ{x y}=>x.casesOn (λJ J e=>nn e) λx=>x.casesOn (λh J e=>jc e▸.JN h) λp=>y.casesOn (λJ J e=>nn e) λy=>y.casesOn (λJ h e=>jc e▸.lN h) λq A j e=>jc e▸.item A j;exact k rfl rfl (bW.symm.trans e)
section
theorem hW(D:sM z TI T i1 i2)(E:g z=.it (Sm TI T .none))(j:g T=.it (Tg a b))(h:gg i1 l t k p g)(H:gg i2 L Y B d g):Apart z TI T i1 i2 l L:=
 h.it.elim λJ f=>H.it.elim λJ U=>⟨D.TIz,D.TOz,D.i1z,D.i2z,D.TITO,D.TIi1,D.TIi2,D.TOi1,D.TOi2,D.i12,h.ne E,h.ne j,h.ne f,h.ne U,H.ne E,H.ne j,H.ne f,H.ne U⟩
def cO(z TI T i1 i2:Ub)(h:Hp)(g:Gh)(s:Vb)(Y:Vb)(G:Gh):Prop:=tc Y.heap G h/\Jd g G/\(∀a,g a≠.free->¬ZF z TI T i1 i2 a->G a=g a)/\Tr s Y/\∀a o,g a≠.free->¬ZF z TI T i1 i2 a->s.heap.get? a=Fb o->Y.heap.get? a=Fb o
theorem VI{x:ia}{y:ia}(I:A.handled=Gb)(D:Apart z TI T i1 i2 l L)(H:tc s.heap g d)(h:g z=.it (Sm TI T .none))(k:g TI=.it (Tg (.ref i1) (.ref i2)))(j:g T=.it (Tg a b))(f:∃o,g i1=.it o)(U:∃o,g i2=.it o)(m:vf s.heap i1 l J x.toArray t)(B:vf s.heap i2 L G y.toArray O)
  (p:x.toArray[J]?=Gb\/y.toArray[G]?=Gb)(r:∀Y u,cO z TI T i1 i2 d g s Y u->Q Gb Y):Pb (Qb pw w) A (fj (.ref z)) Q E s:=
 PL (H.it _ _ h) (E0 I D (H.it _ _ h) (H.it _ _ k) (H.it _ _ j) m B p λV e C N=>⟨⟨e,rfl,N⟩,
  have st:=H.uq [(i2,.free),(i1,.free),(T,.free),(z,.free)] (al ⟨.inr U,⟨⟩⟩ (al ⟨.inr f,⟨⟩⟩ (al ⟨.inr ⟨_,j⟩,⟨⟩⟩ (al ⟨.inr ⟨_,h⟩,⟨⟩⟩ Zi)))) λc o n=>C c o (n _ (.tail _ (.tail _ (.tail _ (.head _))))) (n _ (.tail _ (.tail _ (.head _)))) (n _ (.tail _ (.head _))) (n _ (.head _))
  r {s with heap:=V} _ ⟨st.1,st.2,λc K n=>Xp _ (al (λq=>n (.inr (.inr (.inr (.inr q))))) (al (λq=>n (.inr (.inr (.inr (.inl q))))) (al (λq=>n (.inr (.inr (.inl q)))) (al (λq=>n (.inl q)) Zi)))),Tr.heap s V s.toks,
   λc o K n=>C c o (λq=>n (.inl q)) (λq=>n (.inr (.inr (.inl q)))) (λq=>n (.inr (.inr (.inr (.inl q))))) λq=>n (.inr (.inr (.inr (.inr q))))⟩⟩)
theorem C1{f:ja}(D:Apart z TI T i1 i2 l L)(H:tc s.heap g hp)(I:g z=.it (Sm TI T .none))(k:g TI=.it (Tg (.ref i1) (.ref i2)))(j:g T=.it (Tg a b))(U:∃o,g i1=.it o)(V:∃o,g i2=.it o)(s1:vf s.heap i1 l k1 xs.toArray m)(s2:vf s.heap i2 L k2 ys.toArray t2)
  (m1:dz i1 l m k1 g xs u p1')(m2:dz i2 L t2 k2 g ys v p2')(hQ:∀s' C val,cO z TI T i1 i2 hp g s s' C->Tb C val (.Sb [u,v])->Kq z TI T i1 i2 l L m t2 C (.zip p1' p2')->f val s'):
  Pb (Qb pw w) A (fj (.ref z)) (λr Zd=>match r with
   |none=>False|some val=>Pb (Qb pw w) A (cu (.Tuple es q rp) (.ref z) val) (λK jg=>f val jg) E Zd) E s:=by
 refine m1.elim λx J=>m2.elim λy p=>PL (H.it _ _ I) (Yd (EX D (H.it _ _ I) (H.it _ _ k) (H.it _ _ j) s1 s2 J.1 p.1 λh' a1 a2 a3 a4 a5 a6 hk=>wpAny_letOwnedTupleGo_zip a1 λN N_ rF=>?_) (λK K x=>x) λK K x=>x);refine a3.obj.elim λO Y=>a4.obj.elim λQ d=>?_;have up:∀c o,c≠z->h'.get? c=Fb o->N.get? c=Fb o:=λc o c1 B=>rF.extBut _ _ c1 B;have tf:=H.fresh (Ed _);have t:∀{c},(∃o,g c=.it o)->s.heap.objs.size≠c:=λe q=>e.elim λo e=>Tc.noConfusion (tf.symm.trans ((congrArg g q).trans e));have tz:=t ⟨_,I⟩;have tO:=t ⟨_,j⟩;have st:=H.uq [(s.heap.objs.size,.Mb (Tg x y)),(i2,.it Q),(i1,.it O),(T,.it (Tg x y)),(z,.it (Sm TI T .none))]
  (al ⟨.inl tf,up _ _ tz a5⟩ (al ⟨.inr V,up _ _ D.i2z d.1⟩ (al ⟨.inr U,up _ _ D.i1z Y.1⟩ (al ⟨.inr ⟨_,j⟩,up _ _ D.TOz a2⟩ (al ⟨.inr ⟨_,I⟩,N_⟩ Zi))))) λc o n=>λB=>up c o (n _ (.tail _ (.tail _ (.tail _ (.tail _ (.head _)))))) (hk c o (n _ (.tail _ (.tail _ (.tail _ (.tail _ (.head _)))))) (n _ (.tail _ (.tail _ (.tail _ (.head _))))) (n _ (.tail _ (.tail _ (.head _)))) (n _ (.tail _ (.head _))) B)
 generalize h:Vi g [(s.heap.objs.size,.Mb (Tg x y)),(i2,.it Q),(i1,.it O),(T,.it (Tg x y)),(z,.it (Sm TI T .none))]=G at st;have GT:=h▸dh;have G2:=h▸qe (t V).symm dh;have G1:=h▸qe (t U).symm (qe D.i12 dh);have GO:=h▸qe tO.symm (qe D.TOi2 (qe D.TOi1 dh));have Gz:=h▸qe tz.symm (qe D.i2z.symm (qe D.i1z.symm (qe D.TOz.symm dh)));have XV:=st.2.v;refine hQ {s with heap:=N} G (.ref s.heap.objs.size) ⟨st.1,st.2,λc hc n=>h▸Xp _ (al (λq=>hc (q▸tf)) (al (λq=>n (.inr (.inr (.inr (.inr q))))) (al (λq=>n (.inr (.inr (.inr (.inl q))))) (al (λq=>n (.inr (.inr (.inl q)))) (al (λq=>n (.inl q)) Zi))))),Tr.heap s N s.toks,
  λc o K n B=>up c o (λq=>n (.inl q)) (hk c o (λq=>n (.inl q)) (λq=>n (.inr (.inr (.inl q)))) (λq=>n (.inr (.inr (.inr (.inl q))))) (λq=>n (.inr (.inr (.inr (.inr q))))) B)⟩
  (.Sb GT (.cons (J.2.1.xh XV) (.cons (p.2.1.xh XV) .nil))) (.mk Gz ?_ GO (J.2.2 G O XV G1 Y.2.1 Y.2.2) (p.2.2 G Q XV G2 d.2.1 d.2.2))
 exact h▸qe (t ⟨_,k⟩).symm (qe D.TIi2 (qe D.TIi1 (qe D.TITO (qe D.TIz k))))
end
variable{w:xd}{A:Dd}{E:ja}{s:Vb}{hp:Hp}{Ac:Hp}{g:Gh}{g':Gh}{d:Nat}{F:Dc} in
theorem Jh.zip{z TI TO i1 i2 o a:Ub}{t T:Bool}{J:ka}{q:Nat}{r:Pos}(f:sM z TI TO i1 i2):kq w d (.ref z) (.Tuple J q r) (ZF z TI TO i1 i2) Tr (λi g K=>Kq z TI TO i1 i2 o a t T g i) where
 own i g s b c O:=by
  induction c using Kq.casesOn with
  |mk G m l B j=>exact O.elim (λq=>⟨_,q▸G⟩) λO=>O.elim (λq=>⟨_,q▸m⟩) λO=>O.elim (λq=>⟨_,q▸l⟩) λO=>O.elim (λq=>q▸B.it) λq=>q▸j.it
 ji i g s g' Y hp Ac c _ F X _ _:=by
  induction c using Kq.casesOn with
  |mk G m l B j=>exact .mk ((F _ (.inl rfl)).trans G) ((F _ (.inr (.inl rfl))).trans m) ((F _ (.inr (.inr (.inl rfl)))).trans l) (B.ext (F _ (.inr (.inr (.inr (.inl rfl))))) X) (j.ext (F _ (.inr (.inr (.inr (.inr rfl))))) X)
 self A E Q i g s hp _ c H p:=by
  induction c using Kq.casesOn with
  |mk G m l B j=>exact wpAny_pyIter_zip (TI:=TI) (TO:=TO) (f0:=.none) (H.it _ _ G) p
 next A E y C i g s hp r I c H e h:=by
  induction c using Kq.casesOn with
  |mk G m l B j=>
   have D:=hW f G l B j;refine(B.view H).elim λxs L=>(j.view H).elim λys N=>?_;have c:=J4 e;clear e
   induction c using Ht.casesOn with
   |JN q=>exact VI I.hand D H G m l B.it j.it L.1 N.1 (.inl (L.2.2.1 q)) λY g' k=>h Y g' k.1 k.2.1 k.2.2.1 k.2.2.2.1 k.2.2.2.2|lN q=>exact VI I.hand D H G m l B.it j.it L.1 N.1 (.inr (N.2.2.1 q)) λY g' k=>h Y g' k.1 k.2.1 k.2.2.1 k.2.2.2.1 k.2.2.2.2|item u U=>exact Yd (C1 D H G m l B.it j.it L.1 N.1 (L.2.2.2 _ _ u) (N.2.2.2 _ _ U) λY g' val k V S=>h Y g' k.1 k.2.1 k.2.2.1 k.2.2.2.1 k.2.2.2.2 val V S) (λr K h=>r.casesOn (λh=>h.elim) (λK h=>h) h) λK K x=>x
end
section
variable{w:xd}{A:Dd}{E:ja}{s Zd:Vb}{B:Heap}{sc scope:Scope}{env:Env}{loc cf:Loc}{hp Ac dd Nd:Hp}{g g' Mf:Gh}{pv:PV}{v:Value}{d:Nat}{rE:Ke}{P:Lm}{F:Dc}
theorem t7{n m k:Nat}:m<=m-k+k:=Nat.sub_le_iff_le_add.mp (Ed _)
theorem Draws.at{A:Dd}(p:A.handled=Gb)(m l:Ub)(G:l≠m)(I:Array Value)(n k:Nat):
  Draws pw w A m [m,l] (I.size+n-k) (λj v=>I[j+k-n]?=Fb v) (λj h=>n<=j+k/\h.IsListIter m l (j+k-n)/\h.IsList l I) where
 live:=λK K st=>st.2.1.elim λo h=>⟨o,h.1⟩
 frame:=λK K K st H=>⟨st.1,st.2.1.at λo e=>H m Fd o e,st.2.2.at λo e=>H l (Ee _ Fd) o e⟩
 item:=λi s Q E y st a=>by
  have L:i+k-n<I.size:=Nat.sub_lt_right_of_lt_add st.1 (Nat.add_lt_of_lt_sub y);have N:I[i+k-n]?=Fb I[i+k-n]:=Array.getElem?_eq_getElem L;have e:i+1+k-n=i+k-n+1:=(congrArg (·-n) (wG i 1 k)).trans (Nat.sub_add_comm st.1);exact wpAny_nextOf_list_item st.2.1 st.2.2 N λV J Y=>a _ V s.toks N ⟨dc st.1 (Bf (km i) k),e.symm▸J,st.2.2.extBut Y.extBut G⟩ Y
 done:=λs Q E st q=>NQ p st.2.1 st.2.2 (iaa (QQ (t7 (n:=n)))) q
theorem Draws.over{A:Dd}(p:A.handled=Gb)(I l:Ub)(T:Array Value)(k:Nat)(H:T[k]?=Gb):
  Draws pw w A I [I,l] 0 (λJ J=>False) (λj h=>h.IsListIter I l k/\h.IsList l T) where
 live:=λJ J st=>st.1.elim λo h=>⟨o,h.1⟩
 frame:=λJ J J st H=>⟨st.1.at λo e=>H I Fd o e,st.2.at λo e=>H l (Ee _ Fd) o e⟩
 item:=λi s Q E y J J=>absurd y (io i)
 done:=λs Q E st m=>NQ p st.1 st.2 H m
noncomputable def Si(I:Ub)(n:Int)(f old:Value):Obj:={cls:=.type "enumerate",data:=.fields #[f,.bool Ib,.ref I,Ef n,.none,old]}
inductive Qq(e it l:Ub)(g:Gh):Ic->Prop
 |mk{i':Ic}{k n:Nat}{old:Value}(he:g e=.it (Si it n .none old))(h:gg it l Ib k i' g):Qq e it l g (.enum (n:Int) i')
inductive Cw(hp:Hp)(n:Int)(a:Ic):Option (PV×Ic)->Prop
 |stop(h:Cd a hp=Fb Gb):Cw hp n a Gb
 |item{x:PV}{a':Ic}(h:Cd a hp=Fb (Fb (x,a'))):Cw hp n a (Fb (.Sb [.int n,x],.enum (n+1) a'))
noncomputable def HP(n:Int)(x:Option (Option (PV×Ic))):Option (Option (PV×Ic)):=x.casesOn Gb λx=>x.casesOn (Fb Gb) λp=>Fb (Fb (.Sb [.int n,p.1],.enum (n+1) p.2))
theorem jU{a:Ic}{n:Int}:Cd (.enum n a) hp=HP n (Cd a hp):=by kernel_rfl
theorem U0{a:Ic}{n:Int}{r:Option (PV×Ic)}(e:Cd (.enum n a) hp=Fb r):Cw hp n a r:=by
 have k:∀{x},Cd a hp=x->HP n x=Fb r->Cw hp n a r:=λ{x}=>x.casesOn (λJ e=>nn e) λx=>x.casesOn (λh e=>jc e▸.stop h) λp h e=>jc e▸.item h;exact k rfl (jU.symm.trans e)
section
variable{e it l:Ub}{es:ka}{q:Nat}{rp:Pos}{k n:Nat}{i':Ic}{old:Value}{xs:ia}
theorem xX{u:PV}{j:Ic}{Q:ja}(hA:A.handled=Gb)(Y:e≠it)(H:tc s.heap g hp)(V:g e=.it (Si it n .none old))(C:gg it l Ib k i' g)(p:vf s.heap it l k xs.toArray Ib)(J':l≠it)(m1:dz it l Ib k g xs u j)
  (hQ:∀b g' val,tc b.heap g' hp->Jd g g'->(∀a,g a≠.free->¬(a=e\/a=it)->g' a=g a)->Tr s b->(∀a o,g a≠.free->¬(a=e\/a=it)->s.heap.get? a=Fb o->b.heap.get? a=Fb o)->Tb g' val (.Sb [.int n,u])->Qq e it l g' (.enum ((n:Int)+1) j)->Q val b):
  Pb (Qb pw w) A (fj (.ref e)) (λr Zd=>match r with
   |none=>False|some val=>Pb (Qb pw w) A (cu (.Tuple es q rp) (.ref e) val) (λK jg=>Q val jg) E Zd) E s:=by
 have hee:=H.it _ _ V;refine m1.elim λx y=>?_;have hk:k<xs.toArray.size:=(Array.getElem?_eq_some_iff.mp y.1).1;have tf:g s.heap.objs.size=.free:=H.fresh (Ed _);have T:∀{c},(∃o,g c=.it o)->s.heap.objs.size≠c:=λe q=>e.elim λo e=>Tc.noConfusion (tf.symm.trans ((congrArg g q).trans e));have D:=T ⟨_,V⟩;have hef:e∉[it,l]:=λq=>(List.mem_cons.mp q).elim Y λq=>C.ne V (List.mem_singleton.mp q).symm;have hD:=Draws.at (w:=w) (A:=A.in1) hA it l J' xs.toArray n k;refine wpAny_pyNext_enum_itemD hD hee ⟨wl ..,(RQ n k).symm▸p.1,p.2⟩ (Nat.lt_sub_of_add_lt (Rk k n▸Nat.add_lt_add_right hk n)) Y hef λx' I t L h Xj hT hz J=>?_;have L:xs.toArray[n+k-n]?=Fb x':=L;rw[RQ,y.1] at L;refine wpAny_letOwnedTupleGo_enum h λz U rF=>?_;have On:I.IsListIter it l (k+1):=(show n+1+k-n=k+1 by rw[bm,RQ,Rk])▸Xj.2.1;rw[<-jc L] at U hT;refine On.elim λO f=>?_;have up:∀c o,c≠e->I.get? c=Fb o->z.get? c=Fb o:=λc o c1 q=>rF.extBut _ _ c1 q;have st:=H.uq [(s.heap.objs.size,.Mb (Tg (.int n t) x)),(it,.it O),(e,.it (Si it ((n:Int)+1) .none x))]
  (al ⟨.inl tf,up _ _ D hT⟩ (al ⟨.inr C.it,up _ _ Y.symm f.1⟩ (al ⟨.inr ⟨_,V⟩,U⟩ Zi))) λc o N=>λh=>up c o (N _ (.tail _ (.tail _ (.head _)))) (J c o (N _ (.tail _ (.tail _ (.head _)))) (N _ (.tail _ (.head _))) h)
 generalize m:Vi g [(s.heap.objs.size,.Mb (Tg (.int n t) x)),(it,.it O),(e,.it (Si it ((n:Int)+1) .none x))]=G at st;have GT:G s.heap.objs.size=.Mb (Tg (.int n t) x):=m▸dh;have G1:G it=.it O:=m▸qe (T C.it).symm dh;have Ge:G e=.it (Si it ((n:Int)+1) .none x):=m▸qe D.symm (qe Y dh);have XV:=st.2.v;exact hQ {s with heap:=z,toks:=t+1} G (.ref s.heap.objs.size) st.1 st.2 (λc hc n=>m▸Xp _ (al (λq=>hc (q▸tf)) (al (λq=>n (.inr q)) (al (λq=>n (.inl q)) Zi)))) (Tr.heap s z (t+1))
  (λc o K n h=>up c o (λq=>n (.inl q)) (J c o (λq=>n (.inl q)) (λq=>n (.inr q)) h)) (.Sb GT (.cons (.int _ _) (.cons (y.2.1.xh XV) .nil))) (.mk Ge (y.2.2 G O XV G1 f.2.1 f.2.2))
end
theorem Jh.enum{e I l:Ub}{N:ka}{q:Nat}{r:Pos}(t:e≠I):kq w d (.ref e) (.Tuple N q r) (λa=>a=e\/a=I) Tr (λi g K=>Qq e I l g i) where
 own i g s b c O:=by
  induction c using Qq.casesOn with
  |mk Y h=>exact O.elim (λq=>⟨_,q▸Y⟩) λq=>q▸h.it
 ji i g s g' f hp Ac c _ F X _ _:=by
  induction c using Qq.casesOn with
  |mk Y h=>exact .mk ((F _ (.inl rfl)).trans Y) (h.ext (F _ (.inr rfl)) X)
 self A E Q i g s hp _ c H u:=by
  induction c using Qq.casesOn with
  |@mk y k n old Y h=>exact SG (H.it _ _ Y) u
 next A E G U i g s hp r J c H m h:=by
  induction c using Qq.casesOn with
  |@mk y k n old Y C=>
   refine(C.view H).elim λT L=>?_;have c:=U0 m;clear m
   induction c using Cw.casesOn with
   |stop o=>
    have z:=Draws.over (w:=w) (A:=A.in1) J.hand I l T.toArray k (L.2.2.1 o);exact wpAny_pyNext_enum_endD z (H.it _ _ Y) L.1 λj p=>h {s with heap:=j} (Jc g I .free) (H.drop (.inr C.it) (λb x O K e=>p b x O e))
     (Jd.Jc _ (.inr C.it)) (λa ha D=>pe _ _ (λq=>D (.inr q))) (Tr.heap s j s.toks) (λb x K O e=>p b x (λq=>O (.inr q)) e)
   |item o=>exact Yd (xX J.hand t H Y C L.1 L.2.1 (L.2.2.2 _ _ o) λf g' val a b c d e V S=>h f g' a b c d e val V S) (λr K h=>r.casesOn (λh=>h.elim) (λK h=>h) h) λK K x=>x
theorem Iy{p:PV}{t:Ic}{h:Heap}(Q:Tb g v p)(H:tc h g hp)(e:Yh p=Fb (t,Hb)):∃l C n,v=.ref l/\h.get? l=Fb (Rc C n)/\∀I g',Tf g g'->g' I=.it {cls:=.type "list_iterator",data:=.fields #[.ref l,.int 0 0]}->gg I l Ib 0 t g':=by
 induction p using PV.casesOn with
 |Mb c=>exact Md Q.inv λa C n l z=>⟨a,C,n,z.1,H.Mb _ _ z.2.1,λI g' X q=>.Lb q rfl rfl ((Rm.Gd e).trans (congrArg Ic.Lb z.2.2.1)) (ah _) (X.Mb _ _ z.2.1) (z.2.2.2.xh X)⟩|id i=>exact Q.inv.elim λa z=>Md (H.Xb _ _ z.2) λb c C n y=>⟨a,C,n,z.1,y.2.1,λI g' X q=>.Xb q rfl rfl rfl (Rm.Gd e) (X.Xb _ _ z.2)⟩|_=>exact nn e
noncomputable def KE(h:Heap)(l:Ub)(y:Array Value):Bool->Prop
 |true=>h.IsTuple l y|false=>h.IsList l y
theorem C6{p:PV}{u:Ic}{h:Heap}(Q:Tb g v p)(H:tc h g hp)(e:zs p=Fb (u,Hb)):∃t l y,v=.ref l/\KE h l y t/\∀I g',Tf g g'->g' I=.it {cls:=.type (Pl t),data:=.fields #[.ref l,.int 0 0]}->gg I l t 0 u g':=by
 have k:Yh p=Fb (u,Hb)->∃t l y,v=.ref l/\KE h l y t/\∀I g',Tf g g'->g' I=.it {cls:=.type (Pl t),data:=.fields #[.ref l,.int 0 0]}->gg I l t 0 u g':=λe=>ge (Iy Q H e) λl y n z=>⟨Ib,l,_,z.1,rf z.2.1,z.2.2⟩
 induction p using PV.casesOn with
 |Sb V=>exact ge Q.inv λa y n z=>⟨Hb,a,_,z.1,Yk (H.Mb _ _ z.2.1),λI g' X q=>.Lb q rfl rfl (Rm.Gd e) (ah _) (X.Mb _ _ z.2.1) (z.2.2.xh X)⟩|_=>exact k e
set_option tactic.hygienic true in
theorem RW(l:Ub)(I:Array Value)(n:Nat)(x:Int)(t:Tok)(T:MA x=Hb):
  Meets (Builtin.«enumerate.__new__» ⟨[.type "enumerate",.ref l,.int x t],[]⟩) (λ_ R s=>s.heap.get? l=Fb {cls:=.type "list",dict:=Gb,data:=.seq I n,slots:=#[]}/\
   R (.ok (.ret (.ref (s.heap.push {cls:=.type "list_iterator",data:=.fields #[.ref l,.int 0 0]}).objs.size)))
    {s with heap:=(s.heap.push {cls:=.type "list_iterator",data:=.fields #[.ref l,.int 0 0]}).push {cls:=.type "enumerate",data:=.fields #[.none,.bool Ib,.ref s.heap.objs.size,Ef x,.none,.none]}}):=
 .of_wp λprog w A R s h=>by
  obtain⟨hp,g,d,D,os⟩:=s;obtain⟨H,h⟩:=h;have u:=sub_enumerate;have C:Heap.IsList (Shared.heap ⟨hp,g,d,D,os⟩) l I:=⟨_,H,rfl,n,rfl⟩;have L:(!MA x)=Ib:=by rw[T];rfl
  wp_walk using TG H
  refine wpAny_stack_any λst=>vc ?_
  split
  ·rename_i c _ _ _ _ _
   cases (c==mo "enumerate")
   ·wp_walk using TG H,au C
    exact⟨_,rfl,h⟩
   ·wp_walk using TG H,au C
    exact⟨_,rfl,h⟩
  ·wp_walk using TG H,au C
   exact⟨_,rfl,h⟩
end
theorem ER(a b:Value):checkTypeCall "enumerate" ⟨[a,b],[]⟩=pure ():=by kernel_rfl
theorem HR(a b:Value):checkBuiltinCall "enumerate.__new__" ⟨[.type "enumerate",a,b],[]⟩=pure ():=by kernel_rfl
section
theorem WT(T:MA x=Hb)(y:s.heap.get? l=Fb (Rc z n))
  (h:Q (.ref (s.heap.objs.size+1)) {s with heap:=(s.heap.push {cls:=.type "list_iterator",data:=.fields #[.ref l,.int 0 0]}).push (Si s.heap.objs.size x .none .none)}):
  Pb (Qb pw w) A (call (.type "enumerate") [.ref l,.int x t]) Q E s:=by
 refine UG F.called_enumerate (by decide) (ER _ _) (HR _ _) (λobj=>SQ obj _ _) F.entry_enumerate_new
  (RW l z.toArray n x t T) ⟨y,?_⟩
 have H:(s.heap.push {cls:=.type "list_iterator",data:=.fields #[.ref l,.int 0 0]}).objs.size=s.heap.objs.size+1:=Heap.size_push ..;show _/\_;rw[H];have:=Heap.get?_push_size (s.heap.push {cls:=.type "list_iterator",data:=.fields #[.ref l,.int 0 0]}) (o:=Si s.heap.objs.size x .none .none) rfl;rw[H] at this;exact⟨⟨_,this,rfl⟩,h⟩
theorem yU(x:s.heap.get? l=Fb (Rc y n))
  (h:Q (.ref (s.heap.objs.size+1)) {s with heap:=(s.heap.push {cls:=.type "list_iterator",data:=.fields #[.ref l,.int 0 0]}).push (Si s.heap.objs.size 0 .none .none)}):
  Pb (Qb pw w) A (call (.type "enumerate") [.ref l]) Q E s:=by
 refine UG F.called_enumerate (by decide) (F.typeCall_enumerate_1 _) (F.newCall_enumerate_1 _) (λobj=>F.args_object_init_2 obj _) F.entry_enumerate_new
  (meets_enumerate_new l y.toArray n) ⟨x,?_⟩
 have H:(s.heap.push {cls:=.type "list_iterator",data:=.fields #[.ref l,.int 0 0]}).objs.size=s.heap.objs.size+1:=Heap.size_push ..;show _/\_;rw[H];have:=Heap.get?_push_size (s.heap.push {cls:=.type "list_iterator",data:=.fields #[.ref l,.int 0 0]}) (o:=Si s.heap.objs.size 0 .none .none) rfl;rw[H] at this;exact⟨⟨_,this,rfl⟩,h⟩
theorem kK{h:Heap}:((h.push {cls:=.type "list_iterator",data:=.fields #[.ref l,.int 0 0]}).push (Si h.objs.size x .none .none)).get? (h.objs.size+1)=Fb (Si h.objs.size x .none .none)/\
  ((h.push {cls:=.type "list_iterator",data:=.fields #[.ref l,.int 0 0]}).push (Si h.objs.size x .none .none)).get? h.objs.size=Fb {cls:=.type "list_iterator",data:=.fields #[.ref l,.int 0 0]}/\
  ∀b o,h.get? b=Fb o->((h.push {cls:=.type "list_iterator",data:=.fields #[.ref l,.int 0 0]}).push (Si h.objs.size x .none .none)).get? b=Fb o:=by
 have H:(h.push {cls:=.type "list_iterator",data:=.fields #[.ref l,.int 0 0]}).objs.size=h.objs.size+1:=Heap.size_push ..;refine⟨?_,Heap.get?_push_of_some _ (Heap.get?_push_size _ rfl),λb o q=>Heap.get?_push_of_some _ (Heap.get?_push_of_some _ q)⟩;have:=Heap.get?_push_size (h.push {cls:=.type "list_iterator",data:=.fields #[.ref l,.int 0 0]}) (o:=Si h.objs.size x .none .none) rfl;rw[H] at this;exact this
theorem d6{n i j:Nat}(h:i≠j):n+i≠n+j:=λq=>h (Nat.add_left_cancel q)
noncomputable def PF(c:String)(l:Ub):Obj:={cls:=.type c,data:=.fields #[.ref l,.int 0 0]}
theorem Wb.WO{s:Vb}(R:Wb B j e l d g s.heap)(L:List (Ub×Tc))(h:∀p∈L,s.heap.objs.size<=p.1/\oE H p.1 p.2)(C:∀b o,s.heap.get? b=Fb o->H.get? b=Fb o):Wb B j e l d (Vi g L) H/\Ext g (Vi g L):=
 have st:=R.hr.uq L (λp m=>⟨.inl (R.hr.fresh (h p m).1),(h p m).2⟩) λc o J=>C c o;have X:Ext g (Vi g L):=λa t=>Xp L λp m q=>t (R.hr.fresh (q▸(h p m).1))
 ⟨⟨Wb.baseExt R.base X.n,st.1,R.er.keep X.n λb o J=>C b o⟩,X⟩
variable{w:xd}{A:Dd}{E:ja}{s:Vb}{Zd:Vb}{B:Heap}{sc:Scope}{scope:Scope}{env:Env}{loc:Loc}{cf:Loc}{hp:Hp}{Ac:Hp}{dd:Hp}{Nd:Hp}{g:Gh}{g':Gh}{Mf:Gh}{pv:PV}{v:Value}{d:Nat}{rE:Ke}{P:Lm}{F:Dc} in
theorem BK{t:Ic}{l:Ub}{x:Nat}{J:ka}{q:Nat}{r:Pos}{H:Heap}(R:Wb B sc env loc hp g s.heap)(L:∀I g',Tf g g'->g' I=.it {cls:=.type "list_iterator",data:=.fields #[.ref l,.int 0 0]}->gg I l Ib 0 t g')
  (V:H.get? (s.heap.objs.size+1)=Fb (Si s.heap.objs.size x .none .none))(z:H.get? s.heap.objs.size=Fb {cls:=.type "list_iterator",data:=.fields #[.ref l,.int 0 0]})(C:∀b o,s.heap.get? b=Fb o->H.get? b=Fb o):
  wj w B d sc env loc (.Tuple J q r) (.enum (x:Int) t) hp g s (.ref (s.heap.objs.size+1)) {s with heap:=H}:=by
 have G:s.heap.objs.size+1≠s.heap.objs.size:=VG _;have st:=R.WO [(s.heap.objs.size+1,.it (Si s.heap.objs.size x .none .none)),(s.heap.objs.size,.it (PF "list_iterator" l))] (al ⟨km _,V⟩ (al ⟨Ed _,z⟩ Zi)) C;exact⟨_,_,_,_,(Jh.enum G).up,⟨rfl,.mk dh (L _ _ st.2.i.v (qe G.symm dh))⟩,st.1,st.2,Tr.heap s H s.toks,
  λa u=>R.hr.fresh (u.elim (λq=>q▸km _) λq=>q▸Ed _),λx y h H=>h.trans H,λa o K e=>C a o e⟩
noncomputable abbrev gA(h:Heap)(c:String)(l:Ub):Heap:=h.push {cls:=.type c,data:=.fields #[.ref l,.int 0 0]}
noncomputable abbrev Qz(h:Heap)(c:String)(l L:Ub):Heap:=(gA h c l).push {cls:=.type "list_iterator",data:=.fields #[.ref L,.int 0 0]}
noncomputable abbrev mA(h:Heap)(c:String)(l L:Ub):Heap:=(Qz h c l L).push {cls:=.type "tuple",data:=.seq #[.ref h.objs.size,.ref (gA h c l).objs.size]}
noncomputable abbrev Ct(h:Heap)(c:String)(l L:Ub):Heap:=(mA h c l L).push {cls:=.type "tuple",data:=.seq #[.none,.none]}
noncomputable abbrev Jk(h:Heap)(c:String)(l L:Ub):Heap:=(Ct h c l L).push {cls:=.type "zip",data:=.fields #[.none,.bool Ib,.bool Ib,.ref (Qz h c l L).objs.size,.ref (mA h c l L).objs.size]}
theorem B0(l L:Ub)(x y:Array Value):
  Meets (Builtin.«zip.__new__» ⟨[.type "zip",.ref l,.ref L],[]⟩) (λJ R s=>s.heap.IsTuple l x/\s.heap.IsList L y/\
   R (.ok (.ret (.ref (Ct s.heap "tuple_iterator" l L).objs.size))) {s with heap:=Jk s.heap "tuple_iterator" l L}):=
 .of_wp λprog w A R s h=>by
  obtain⟨hp,g,d,t,os⟩:=s;obtain⟨H,z,h⟩:=h;have u:=sub_zip;have r:Heap.IsTuple (Shared.heap ⟨hp,g,d,t,os⟩) l x:=H;have V:Heap.IsList (Shared.heap ⟨hp.push {cls:=.type "tuple_iterator",data:=.fields #[.ref l,.int 0 0]},g,d,t,os⟩) L y:=Heap.IsList.push z _
  wp_walk using wpAny_pyIter_tuple r,au V
  exact⟨_,rfl,h⟩
theorem qY(l L:Ub)(x y:Array Value):
 Meets (Builtin.«zip.__new__» ⟨[.type "zip",.ref l,.ref L],[]⟩) (λJ R s=>s.heap.IsList l x/\s.heap.IsList L y/\
  R (.ok (.ret (.ref (Ct s.heap "list_iterator" l L).objs.size))) {s with heap:=Jk s.heap "list_iterator" l L}):=meets_zip_new l L x y
theorem zK(h:Heap)(c:String)(l L:Ub):(Ct h c l L).objs.size=h.objs.size+4/\(Jk h c l L).get? (h.objs.size+4)=Fb (Sm (h.objs.size+2) (h.objs.size+3) .none)/\(Jk h c l L).get? (h.objs.size+2)=Fb (Tg (.ref h.objs.size) (.ref (h.objs.size+1)))/\
  (Jk h c l L).get? (h.objs.size+3)=Fb (Tg .none .none)/\(Jk h c l L).get? h.objs.size=Fb {cls:=.type c,data:=.fields #[.ref l,.int 0 0]}/\(Jk h c l L).get? (h.objs.size+1)=Fb {cls:=.type "list_iterator",data:=.fields #[.ref L,.int 0 0]}/\
  ∀a o,h.get? a=Fb o->(Jk h c l L).get? a=Fb o:=by
 have z:(gA h c l).objs.size=h.objs.size+1:=Heap.size_push ..;have b:(Qz h c l L).objs.size=h.objs.size+2:=by rw[Heap.size_push,z]
 have r:(mA h c l L).objs.size=h.objs.size+3:=by rw[Heap.size_push,b]
 have p:(Ct h c l L).objs.size=h.objs.size+4:=by rw[Heap.size_push,r]
 have G:(Jk h c l L).get? (Ct h c l L).objs.size=Fb _:=Heap.get?_push_size _ rfl;have Y:(Jk h c l L).get? (mA h c l L).objs.size=Fb _:=Heap.get?_push_of_some _ (Heap.get?_push_size _ rfl);have C:(Jk h c l L).get? (Qz h c l L).objs.size=Fb _:=Heap.get?_push_of_some _ (Heap.get?_push_of_some _ (Heap.get?_push_size _ rfl));have j:(Jk h c l L).get? (gA h c l).objs.size=Fb _:=Heap.get?_push_of_some _ (Heap.get?_push_of_some _ (Heap.get?_push_of_some _ (Heap.get?_push_size _ rfl)));have e:(Jk h c l L).get? h.objs.size=Fb _:=Heap.get?_push_of_some _ (Heap.get?_push_of_some _ (Heap.get?_push_of_some _ (Heap.get?_push_of_some _ (Heap.get?_push_size _ rfl))));rw[b,r,p] at G;rw[z,b] at C;rw[r] at Y;rw[z] at j;exact⟨p,G,C,Y,e,j,λa o x=>Heap.get?_push_of_some _ (Heap.get?_push_of_some _ (Heap.get?_push_of_some _ (Heap.get?_push_of_some _ (Heap.get?_push_of_some _ x))))⟩
theorem HY(T:KE s.heap l x t)(I:s.heap.IsList L y)
  (h:∀H,H.get? (s.heap.objs.size+4)=Fb (Sm (s.heap.objs.size+2) (s.heap.objs.size+3) .none)->H.get? (s.heap.objs.size+2)=Fb (Tg (.ref s.heap.objs.size) (.ref (s.heap.objs.size+1)))->
   H.get? (s.heap.objs.size+3)=Fb (Tg .none .none)->H.get? s.heap.objs.size=Fb {cls:=.type (Pl t),data:=.fields #[.ref l,.int 0 0]}->H.get? (s.heap.objs.size+1)=Fb {cls:=.type "list_iterator",data:=.fields #[.ref L,.int 0 0]}->
   (∀c o,s.heap.get? c=Fb o->H.get? c=Fb o)->Q (.ref (s.heap.objs.size+4)) {s with heap:=H}):
  Pb (Qb pw w) A (call (.type "zip") [.ref l,.ref L]) Q E s:=by
 induction t using Ld with
 |true=>
  refine eQ (zK s.heap "tuple_iterator" l L) λz G j C V Y D=>?_;refine UG F.called_zip (by decide) (F.typeCall_zip_2 _ _) (F.newCall_zip_2 _ _) (λobj=>SQ obj _ _) F.entry_zip_new (B0 l L x y) ⟨T,I,?_⟩;show _/\_;rw[z];exact⟨⟨_,G,rfl⟩,h _ G j C V Y D⟩
 |false=>
  refine eQ (zK s.heap "list_iterator" l L) λz G j C V Y D=>?_;refine UG F.called_zip (by decide) (F.typeCall_zip_2 _ _) (F.newCall_zip_2 _ _) (λobj=>SQ obj _ _) F.entry_zip_new (qY l L x y) ⟨T,I,?_⟩;show _/\_;rw[z];exact⟨⟨_,G,rfl⟩,h _ G j C V Y D⟩
theorem F3(R:Wb B sc env loc hp g s.heap)
  (G:∀I g',Tf g g'->g' I=.it {cls:=.type (Pl T),data:=.fields #[.ref l,.int 0 0]}->gg I l T 0 u g')
  (k:∀I g',Tf g g'->g' I=.it {cls:=.type "list_iterator",data:=.fields #[.ref L,.int 0 0]}->gg I L Ib 0 J g')
  (f:H.get? (s.heap.objs.size+4)=Fb (Sm (s.heap.objs.size+2) (s.heap.objs.size+3) .none))(m:H.get? (s.heap.objs.size+2)=Fb (Tg (.ref s.heap.objs.size) (.ref (s.heap.objs.size+1))))
  (Q:H.get? (s.heap.objs.size+3)=Fb (Tg .none .none))(D:H.get? s.heap.objs.size=Fb {cls:=.type (Pl T),data:=.fields #[.ref l,.int 0 0]})(N:H.get? (s.heap.objs.size+1)=Fb {cls:=.type "list_iterator",data:=.fields #[.ref L,.int 0 0]})
  (C:∀b o,s.heap.get? b=Fb o->H.get? b=Fb o):
  wj w B d sc env loc (.Tuple O q r) (.zip u J) hp g s (.ref (s.heap.objs.size+4)) {s with heap:=H}:=by
 have ne:∀{i j:Nat},i≠j->s.heap.objs.size+i≠s.heap.objs.size+j:=d6;have le:∀i,s.heap.objs.size<=s.heap.objs.size+i:=wl _;have st:=R.WO [(s.heap.objs.size+4,.it (Sm (s.heap.objs.size+2) (s.heap.objs.size+3) .none)),(s.heap.objs.size+3,.it (Tg .none .none)),(s.heap.objs.size+2,.it (Tg (.ref s.heap.objs.size) (.ref (s.heap.objs.size+1)))),(s.heap.objs.size+1,.it (PF "list_iterator" L)),(s.heap.objs.size,.it (PF (Pl T) l))]
  (al ⟨le 4,f⟩ (al ⟨le 3,Q⟩ (al ⟨le 2,m⟩ (al ⟨le 1,N⟩ (al ⟨le 0,D⟩ Zi))))) C
 refine⟨_,_,_,_,(Jh.zip (z:=s.heap.objs.size+4) (TI:=s.heap.objs.size+2) (TO:=s.heap.objs.size+3) (i1:=s.heap.objs.size) (i2:=s.heap.objs.size+1) ⟨ne (by decide),ne (by decide),ne (i:=0) (by decide),ne (by decide),ne (by decide),ne (j:=0) (by decide),ne (by decide),ne (j:=0) (by decide),ne (by decide),ne (i:=0) (by decide)⟩).up,
  ⟨rfl,.mk dh (qe (ne (by decide)) (qe (ne (by decide)) dh)) (qe (ne (by decide)) dh) (G _ _ st.2.i.v (qe (ne (i:=0) (by decide)) (qe (ne (i:=0) (by decide)) (qe (ne (i:=0) (by decide)) (qe (ne (i:=0) (by decide)) dh))))) (k _ _ st.2.i.v (qe (ne (by decide)) (qe (ne (by decide)) (qe (ne (by decide)) dh))))⟩,st.1,st.2,Tr.heap s H s.toks,
  λa t=>R.hr.fresh ?_,λx y h H=>h.trans H,λa o K e=>C a o e⟩
 exact t.elim (λq=>q▸le 4) λt=>t.elim (λq=>q▸le 2) λt=>t.elim (λq=>q▸le 3) λt=>t.elim (λq=>q▸le 0) λq=>q▸le 1
theorem CO(h:rE (Zb GT k sc a) Ib loc hp=Fb ((u,dd),Hb)):Vd rE Ib loc ([a].map (Zb GT k sc)) hp=Fb (([u],dd),Hb):=by
 show Rm.bind (rE (Zb GT k sc a) Ib loc hp) (λv=>Rm.bind (Vd rE Ib loc [] v.2) λV=>Rm.ret (v.1::V.1,V.2))=_;rw[h];rfl
theorem FO(h:rE (Zb GT k sc a) Ib loc hp=Fb ((u,dd),Hb))(H:rE (Zb GT k sc b) Ib loc dd=Fb ((v,Nd),Hb)):Vd rE Ib loc ([a,b].map (Zb GT k sc)) hp=Fb (([u,v],Nd),Hb):=by
 show Rm.bind (rE (Zb GT k sc a) Ib loc hp) (λv=>Rm.bind (Vd rE Ib loc ([b].map (Zb GT k sc)) v.2) λV=>Rm.ret (v.1::V.1,V.2))=_;have:=CO H;rw[h];simp only [Rm.bind,this];rfl
theorem G3(I:qd w B d rE)(H:Ml B)(N:GT.kc.lookup x=Fb (.oc .zip))(y:slotIn sc.names x 0=Fb (i,.globalImplicit))(U:(x==("__debug__":Str))=Ib)
  (D:∃e q r,Nb=eu e q r)(h:se [a,b])(C:rE (Zb GT k sc a) Ib loc hp=Fb ((u,dd),Hb))(j:rE (Zb GT k sc b) Ib loc dd=Fb ((v,Nd),Hb))(z:zs u=Fb (t,Hb))(o:Yh v=Fb (J,Hb)):
  Hk w B d (.Call (.Name x p) [a,b] [] pos) Nb sc loc hp (.zip t J) Nd:=by
 obtain⟨e,q,r,rfl⟩:=D;intro A env g s E Q L R post;refine jn (uk H y U N R ?_);refine PySem.callWith_type (ik h) (gk (zm I [a,b] (FO C j)) h L R λvs f g' G X T V=>?_);refine Qc λGG l=>?_;obtain⟨K,K,rfl,m,V⟩:=bc.inv V;obtain⟨K,K,rfl,O,V⟩:=bc.inv V;obtain rfl:=bc.inv V;obtain⟨t1,l1,xs,rfl,q1,J1⟩:=C6 m G.hr z;obtain⟨l2,ys,n2,rfl,q2,J2⟩:=Iy O G.hr o;refine l ?_;refine HY q1 (rf q2) λh' Y g2 g3 g0 g1 hk=>?_;exact wpAny_pyIter_zip Y (post _ _ g' f G X T (F3 G J1 J2 Y g2 g3 g0 g1 hk))
theorem IW(I:qd w B d rE)(m:Ml B)(N:GT.kc.lookup x=Fb (.oc .enum))(H:slotIn sc.names x 0=Fb (i,.globalImplicit))(U:(x==("__debug__":Str))=Ib)
  (D:∃e q r,Nb=eu e q r)(y:se [a])(C:rE (Zb GT k sc a) Ib loc hp=Fb ((u,dd),Hb))(z:Yh u=Fb (t,Hb)):Hk w B d (.Call (.Name x p) [a] [] pos) Nb sc loc hp (.enum 0 t) dd:=by
 obtain⟨e,q,r,rfl⟩:=D;intro A env g s E Q J R post;refine jn (uk m H U N R ?_);refine PySem.callWith_type (ik y) (gk (zm I [a] (CO C)) y J R λvs Y g' G X T V=>?_);refine Qc λGG f=>?_;obtain⟨K,K,rfl,o,V⟩:=bc.inv V;obtain rfl:=bc.inv V;obtain⟨L,xs,n1,rfl,O,j⟩:=Iy o G.hr z;refine f ?_;refine yU O ?_;refine we (kK (h:=Y.heap) (l:=L) (x:=0)) λb H hk=>?_;exact SG b (post _ _ g' Y G X T (BK G j b H hk))
theorem NV(I:qd w B d rE)(m:Ml B)(N:GT.kc.lookup x=Fb (.oc .enum))(H:slotIn sc.names x 0=Fb (i,.globalImplicit))(U:(x==("__debug__":Str))=Ib)
  (D:∃J q r,Nb=eu J q r)(y:se [a,b])(C:rE (Zb GT k sc a) Ib loc hp=Fb ((u,dd),Hb))(j:rE (Zb GT k sc b) Ib loc dd=Fb ((.int n,Nd),Hb))(z:Yh u=Fb (L,Hb))(e:(decide (0<=n)&&Ci n)=Hb):
  Hk w B d (.Call (.Name x p) [a,b] [] pos) Nb sc loc hp (.enum n L) Nd:=by
 obtain⟨J,q,r,rfl⟩:=D;rw[Zc,decide_eq_true_eq] at e;obtain⟨n,rfl⟩:=jaa e.1;have Gaa:=oD e.2;have o:MA (n:Int)=Hb:=by
  unfold MA;simp only [Zc,decide_eq_true_eq]
  lia
 intro A env g s E Q O R post;refine jn (uk m H U N R ?_);refine PySem.callWith_type (ik y) (gk (zm I [a,b] (FO C j)) y O R λvs Y g' G X T V=>?_);refine Qc λGG kk=>?_
 cases V with|cons V1 V=>
 obtain⟨K,K,rfl,V2,V⟩:=bc.inv V;obtain rfl:=bc.inv V;obtain⟨t,rfl⟩:=Tb.inv V2;obtain⟨l1,xs,n1,rfl,q1,J1⟩:=Iy V1 G.hr z;refine kk ?_;refine WT o q1 ?_;refine we (kK (h:=Y.heap) (l:=l1) (x:=(n:Int))) λf H hk=>?_;exact SG f (post _ _ g' Y G X T (BK G J1 f H hk))
end
section
structure Gn(w:xd)(B:Heap)(d:Nat)(F:Dc):Prop where
 set:∀(A:Dd)(env:Env)(g:Gh)(s:Vb)(E:ja)(Qu:Unit->Vb->Prop)sc loc hp Ac j nm v ov iv vv,Cc d A->Wb B sc env loc hp g s.heap->Tb g ov (.rc j)->Tb g iv (.str nm)->Tb g vv v->
  de F 20 [.rc j,.str nm,v] Ib hp=Fb ((.none,Ac),Hb)->wh B sc env loc Ac g s Qu->Pb (Qb pw w) A (ln ov iv vv) Qu E s
 del:∀(A:Dd)(env:Env)(g:Gh)(s:Vb)(E:ja)(Qu:Unit->Vb->Prop)sc loc hp Ac j nm ov iv,Cc d A->Wb B sc env loc hp g s.heap->Tb g ov (.rc j)->Tb g iv (.str nm)->
  de F 21 [.rc j,.str nm] Ib hp=Fb ((.none,Ac),Hb)->wh B sc env loc Ac g s Qu->Pb (Qb pw w) A (delItem ov iv) Qu E s
theorem v0{k:Int}(h:s.heap.get? l=Fb (Rc y n))(q:0<=k)(I:k<2^63)(x:k<y.length)
  (Y:Q () {s with heap:=s.heap.update l (dk (·.setIfInBounds k.toNat v))}):Pb (Qb pw w) A (ln (.ref l) (.int k t) v) Q E s:=by
 have H:=rf h;unfold ln
 try with_reducible refine Zg ?_
 first|refine Ob (vc ?_)|skip
 refine Ob (wpAny_sequenceKey H.typeIs (by decide) ?_);refine Ob (yp H.typeIs WG
  (jm WG H.typeIs entry_list_setitem ?_ (args_list_setitem _ _ _)))
 show Pb _ _ (TQ (.int k t)>>=_) _ _ s;refine Ob (wpAny_listSubscript_int (fitsIndex_of q I) ?_);clear I;obtain⟨j,rfl⟩:=jaa q;have u:=by exact Int.ofNat_lt.mp ‹_›
 have G:y.toArray[j]?=Fb y[j]:=by rw[oo];exact De u
 show Pb _ _ ((seqItemAt l j>>=λr=>pure (r.map (j,·)))>>=_) _ _ s;refine Ob (Ob (wpAny_seqItemAt h rfl (vc ?_)));rw[G];show Pb _ _ (setSeqItemAt l j v>>=_) _ _ s;refine Ob (wpAny_setSeqItemAt h rfl ?_)
 first
  |exact Ob (vc (vc ⟨.none,rfl,vc Y⟩))
  |exact vc ⟨.none,rfl,vc Y⟩
theorem II(w V:ia):w.toArray.extract 0 (0:Int).toNat++V.toArray++w.toArray.extract (max 0 (w.toArray.size:Int)).toNat w.toArray.size=V.toArray:=by
 rw[UQ (qr _),pr,XG (Ed _),Array.append_empty];exact(congrArg (·++V.toArray) (XG (Ed 0))).trans Array.empty_append
theorem DX(z:s.heap.get? l=Fb (Rc y n))(C:s.heap.get? r=Fb (Rc V m))(G:l≠r)
  (H:s.heap.get? sl=Fb {cls:=.type "slice",data:=.fields #[.none,.none,.none]})(O:y.length+V.length<=2000000)
  (Y:∀f,f y.toArray=V.toArray->Q () {s with heap:=s.heap.update l (dk f)}):Pb (Qb pw w) A (ln (.ref l) (.ref sl) (.ref r)) Q E s:=by
 have B:=rf z;have o:s.TypeIs (.ref sl) "slice":=⟨_,H,rfl⟩;have I:s.TypeIs (.ref r) "list":=⟨_,C,rfl⟩;unfold ln
 try with_reducible refine Zg ?_
 first|refine Ob (vc ?_)|skip
 refine Ob (wpAny_sequenceKey B.typeIs (by decide) ?_);refine Ob (yp B.typeIs WG
  (jm WG B.typeIs entry_list_setitem ?_ (args_list_setitem _ _ _)))
 show Pb _ _ (TQ (.ref sl)>>=_) _ _ s;refine Ob ?_;unfold TQ;refine Ob (lx o slice_no_index ?_);refine Bo rfl (vc ?_);show Pb _ _ (typeOf (.ref sl)>>=_) _ _ s;refine Ob (wpAny_typeOf o ?_);refine Jj Of ?_;rw[listSliceParts_eq];refine Ob (Ob (Rh H rfl (x:=.none) rfl (Ob (wpAny_listPart .none ?_))));rw[if_neg (show¬((rawPart Gb==Ef 0)=Hb) from Of)];refine Ob (Rh H rfl (x:=.none) rfl (Ob (wpAny_listPart .none ?_)));refine Ob (Rh H rfl (x:=.none) rfl (Ob (wpAny_listPart .none (vc ?_))));have T:YG (.ref l) (.ref r)=Ib:=(beq_eq_false_iff_ne.mpr G:(l==r)=Ib);rw[T];refine Ob ?_;unfold Builtin.List.listAllItems;refine Ob (wpAny_typeOf I ?_);rw[if_pos (by decide)];unfold VQ;refine Ob (Bl C rfl (vc ?_));refine Ob (Ob (Bl z rfl (vc ?_)));refine Ob (Hi (sliceIndices_raw Gb Gb Gb y.toArray.size (by intro h;injection h)) ?_);have a:bo Gb Gb Gb y.toArray.size=(0,(y.toArray.size:Int),1):=rfl;rw[a];refine Bo rfl (Ob (so ?_));have b:¬(Builtin.List.listTooLong (y.toArray.size+V.toArray.size)=Hb):=λq=>absurd (of_decide_eq_true q) (Nat.not_lt.mpr (dc O (by decide)));rw[if_neg b];have D:y.toArray.size<=cm:=dc (dc (wl _ _) O) (by decide);have t:(y.toArray.extract 0 (0:Int).toNat++V.toArray++y.toArray.extract (max 0 (y.toArray.size:Int)).toNat y.toArray.size).size<=cm+1:=by
  rw[II];exact dc (dc (rr _ _) O) (by decide)
 show Pb _ _ (Ap l _>>=_) _ _ s;refine Ob (qx z rfl ?_ D t);refine Ob (fu ?_);exact vc ⟨.none,rfl,vc (Y _ (II y V))⟩
theorem DL(h:Pb (Qb pw w) A (eval o e) (λO J=>Pb (Qb pw w) A (eval i e) (λI H=>Pb (Qb pw w) A (ln O I v) Q E H) E J) E s):
  Pb (Qb pw w) A (qg (.Subscript o i T) e v) Q E s:=by
 rw[arm_assign_Subscript];refine Ob (Zg (Yd h (λO J z=>?_) λK K x=>x));refine Ob (Zg (Yd z (λI H y=>?_) λK K x=>x));refine Ob (gj ?_);exact Ob (Zg (Yd y (λK l p=>wpAny_release p) λK K x=>x))
theorem WB(I:qd w B d r)(h:Lg GT k j e=.none)(J:Cc d A)(R:Wb B j T l H g s.heap)
  (post:∀Y G,Wb B j T l H G Y.heap->Ext g G->Tr s Y->Q .none Y):Pb (Qb pw w) A (evalPart e T) Q E s:=by
 induction k using jf with
 |zero=>exact nn (congrArg mv h)|succ k=>
  induction e using Wd with
  |none=>exact vc (post s g R (Ext.refl g) (Tr.refl s))|some e=>
   obtain⟨K,K,rfl⟩:=o5 (show Zb GT k j e=.none from h);show Pb _ A (eval _ T) Q E s;exact wpAny_Constant_none (post s g R (Ext.refl g) (Tr.refl s))
theorem Kr{R:Prop}(h:vi F r n .nc v l H=Fb x):R:=by
 rcases n with J|n<;>exact nn h
theorem jB(O:∀mt l H,a .nc mt l H=Gb):∀{n:Nat}{E:ka}{V:List PV}{l:Loc}{H:Hp}{r:Loc×Hp},storeAll F a n (E.map (rd GT k s)) V l H=Fb (r,Hb)->se E/\E.length=V.length:=by
 intro n
 induction n with
 |zero=>exactλh=>nn h|succ n I=>
  intro E V l H x h
  induction E using xc with
  |nil=>induction V using xc with
   |nil=>exact⟨λJ Y=>(Xd Y).elim,rfl⟩|cons=>exact nn h
  |cons e r=>induction V using xc with
   |nil=>exact nn h|cons v V=>
    refine(Rm.bind_some h).elim λy q=>⟨λz G=>(List.mem_cons.mp G).elim (λe Q p m=>?_) ((I q.2).1 z),congrArg (·+1) (I q.2).2⟩;have A:=q.1;rw[<-e,m,kC] at A;exact Kr A
inductive Nt(F:Dc)(v:PV)(loc:Loc)(h2:Hp):PV->PV->Loc×Hp->Prop
 |item{j:Nat}{k:Int}{c:Cell}(h:h2[j]?=Fb (Ib,c))(p:0<=k)(q:k<c.len)(l:c.len<=1000000):Nt F v loc h2 (.id j) (.int k) (loc,h2.set j (Ib,c.setAt k.toNat v))
 |rc{j:Nat}{nm:ca}{h3:Hp}(h:de F 20 [.rc j,.str nm,v] Ib h2=Fb ((.none,h3),Hb)):Nt F v loc h2 (.rc j) (.str nm) (loc,h3)
noncomputable def pM(v:PV)(l:Loc)(h:Hp)(j:Nat)(k:Int)(c:Option (Bool×Cell)):Rm (Loc×Hp):=match c with
 |some (Ib,c)=>Fb ((l,h.set j (Ib,c.setAt k.toNat v)),decide (0<=k)&&decide (k<c.len)&&decide (c.len<=ic))|_=>Gb
noncomputable def Y6(l:Loc)(r:PV×Hp):Rm (Loc×Hp):=match r.1 with
 |.none=>Rm.ret (l,r.2)|_=>Gb
noncomputable def V7(F:Dc)(v:PV)(l:Loc)(h:Hp)(x y:PV):Rm (Loc×Hp):=match x,y with
 |.id j,.int k=>pM v l h j k h[j]?|.rc j,.str nm=>Rm.bind (de F 20 [.rc j,.str nm,v] Ib h) (Y6 l)|_,_=>Gb
theorem uU(A:H[j]?=o)(h:pM v l H j k o=Fb (r,Hb)):Nt F v l H (.id j) (.int k) r:=by
 induction o using Wd with
 |none=>exact nn h|some q=>
  obtain⟨b,c⟩:=q
  induction b using Ld with
  |true=>exact nn h|false=>exact Zk h λe=>have z:=(Zc _ _).mp e;.item A (vm z.1).1 (vm z.1).2 (of_decide_eq_true z.2)
theorem TW(h:V7 F v l H x y=Fb (r,Hb)):Nt F v l H x y r:=by
 induction x using PV.casesOn with
 |id j=>induction y using PV.casesOn with
  |int k=>exact uU rfl h|_=>exact nn h
 |rc j=>induction y using PV.casesOn with
  |str nm=>
   refine(Rm.bind_some h).elim λq e=>?_;obtain⟨q,h5⟩:=q;have E:=e.2
   induction q using PV.casesOn with
   |none=>rw[show r=_ from Rm.Gd E];exact .rc e.1|_=>exact nn E
  |_=>exact nn h
 |_=>exact nn h
inductive Ew(v:PV)(loc:Loc)(h2:Hp):PV->Loc×Hp->Prop
 |mk{j:Nat}{pF c:Cell}(h:h2[j]?=Fb (Ib,pF))(e:cellAt v h2=Fb c)(l:c.len<=1000000)(Eaa:pF.len<=1000000)(n:uw j v=Ib):Ew v loc h2 (.id j) (loc,h2.set j (Ib,c))
noncomputable def FM(v:PV)(l:Loc)(h:Hp)(j:Nat)(x:Option (Bool×Cell))(y:Option Cell):Rm (Loc×Hp):=match x,y with
 |some (Ib,C),Fb c=>Fb ((l,h.set j (Ib,c)),decide (c.len<=ic)&&decide (C.len<=ic)&&!uw j v)|_,_=>Gb
noncomputable def Z7(v:PV)(l:Loc)(h:Hp)(x:PV):Rm (Loc×Hp):=match x with
 |.id j=>FM v l h j h[j]? (cellAt v h)|_=>Gb
theorem tX(h:Z7 v l H x=Fb (r,Hb)):Ew v l H x r:=by
 induction x using PV.casesOn with
 |id j=>
  have k:∀{x y},H[j]?=x->cellAt v H=y->FM v l H j x y=Fb (r,Hb)->Ew v l H (.id j) r:=λ{x y}=>x.casesOn (λJ J h=>nn h) λq=>by
   obtain⟨b,C⟩:=q
   induction b using Ld with
   |true=>exactλJ J h=>nn h|false=>exact y.casesOn (λJ J h=>nn h) λc E o h=>Zk h λe=>have z:=(Zc _ _).mp e;.mk E o (vm z.1).1 (vm z.1).2 (bn _▸z.2)
  exact k rfl rfl h
 |_=>exact nn h
section
theorem FU(U:Gn w B d F)(J:Cc d A)(u:Tb g o x)(Y:Tb g I y)(V:Tb g val p)(R:Wb B k T L D g s.heap)
  (h:Nt F p L D x y r)(post:wh B k T r.1 r.2 g s Q):Pb (Qb pw w) A (ln o I val) Q E s:=by
 induction h using Nt.casesOn with
 |@item j f c G N q l=>
  refine Yn u λa H=>yh Y λt=>Mc (ls R H G) λC m z=>?_;have O:C.length=c.len:=by rw[Cell.len_eq,z.2.length]
  refine v0 z.1 N (Int.lt_of_lt_of_le q (Int.le_trans (Int.ofNat_le.mpr l) (by decide))) (O▸q) ?_;refine(Vr (ak:=C.set f.toNat val) (λx=>x.setIfInBounds f.toNat val) z.1 (by simp)).elim λn' Xq=>?_;exact post {s with heap:=_} g (R.upd H Xq (by rw[sS];exact z.2.set _ V) λb x hb e=>(Heap.get?_update_other _ _ (sh hb)).trans e) (Ext.refl g) (Tr.heap s _ s.toks)
 |rc h=>exact U.set A T g s E Q k _ _ _ _ _ p o I val J R u Y V h post
theorem YU(I:qd w B d f)(U:Gn w B d F)(H:Cc d A)(h:vi F f (n+1) (.sub (Zb GT k j l) (Zb GT k j C)) p L m=Fb (r,Hb))(V:Tb g val p)(R:Wb B j e L m g s.heap)
  (post:wh B j e r.1 r.2 g s Q):Pb (Qb pw w) A (qg (.Subscript l C q) e val) Q E s:=
 (Rm.bind_some h).elim λx z=>(Rm.bind_some z.2).elim λy a=>DL (zf I z.1 A e g s E _ H R λK J G N b t u=>zf I a.1 A e G J E _ H N λK K K O Y o D=>
  FU U H (u.ext Y) D ((V.ext b).ext Y) O (TW a.2) λs' g' R' X T=>post s' g' R' (b.trans (Y.trans X)) (t.trans (o.trans T)))
theorem oY(V:Tb g (.ref a) p)(h:g a=.Xb j)(H:cellAt p b=Fb c)(n:uw j p=Ib):False:=by
 induction p using PV.casesOn with
 |Mb=>exact Md V.inv λJ J J J z=>Tc.noConfusion ((cr z.1▸h).symm.trans z.2.1)|id i=>
  refine V.inv.elim λJ z=>?_;rw[cr z.1] at h;rw[Tc.Xb.inj (h.symm.trans z.2)] at n;exact absurd n (by simp only [uw,beq_self_eq_true];decide)
 |_=>exact nn H
theorem BU(t:Tb g o x)(V:Tb g val p)(R:Wb B k T L d g s.heap)(h:Ew p L d x r)
  (post:wh B k T r.1 r.2 g s y):Pb (Qb pw w) A (ln o (.ref s.heap.objs.size) val) y E {s with heap:=s.heap.push {cls:=.type "slice",data:=.fields #[.none,.none,.none]}}:=by
 induction h using Ew.casesOn with
 |@mk j pF c C Q l D J=>
  refine Yn t λa H=>?_;have G:∀{u},val=.ref u->a≠u:=λe q=>oY (q▸e▸V) H Q J;revert G;refine Oo R V Q λu N m' U I G=>Mc (ls R H C) λO m z=>?_;have Y:O.length+N.length<=2000000:=by rw[z.2.length,I.length,<-Cell.len_eq,<-Cell.len_eq];exact Qk D l
  refine DX (Heap.get?_push_of_some _ z.1) (Heap.get?_push_of_some _ U) (G rfl) (Heap.get?_push_size _ rfl) Y λf hf=>?_;refine(Vr f (Heap.get?_push_of_some {cls:=.type "slice",data:=.fields #[.none,.none,.none]} z.1) hf).elim λn' Xq=>?_;exact post {s with heap:=_} g ((R.push _).upd H Xq I λb x hb e=>(Heap.get?_update_other _ _ (sh hb)).trans e) (Ext.refl g) (Tr.heap s _ s.toks)
theorem GX(I:qd w B d a)(H:Cc d A)(h:vi F a (n+1) (.Oc (Zb GT k j b) .none .none .none) p l f=Fb (r,Hb))(m:Lg GT k j U=.none)(D:Lg GT k j o=.none)(t:Lg GT k j L=.none)(V:Tb g val p)(R:Wb B j e l f g s.heap)
  (post:wh B j e r.1 r.2 g s Q):Pb (Qb pw w) A (qg (.Subscript b (.Slice U o L q) q') e val) Q E s:=
 (Rm.bind_some h).elim λx z=>DL (zf I z.1 A e g s E _ H R λK K K G Y C u=>wpAny_Slice (WB I m H G λK K J y N=>WB I D H J λK K O oh Ve=>WB I t H O λyz K Vl TE Mm=>
  have X:=y.trans (oh.trans TE)
  BU (u.ext X) ((V.ext Y).ext X) Vl (tX z.2) λs' g' R' X' T=>post s' g' R' (Y.trans (X.trans X')) ((C.trans (N.trans (Ve.trans Mm))).trans T)))
end
def qA(w:xd)(B:Heap)(j:Scope)(e:Env)(r:Ke)(F:Dc)(A:Dd)(E:ja)(n:Nat):Prop:=∀{k:Nat}{Nb:Expr}{p:PV}{l L:Loc}{h H:Hp}{val:Value}{g:Gh}{s:Vb}{Q:Unit->Vb->Prop},vi F r n (rd GT k j Nb) p l h=Fb ((L,H),Hb)->Tb g val p->Wb B j e l h g s.heap->
 wh B j e L H g s Q->Pb (Qb pw w) A (qg Nb e val) Q E s
def fw(w:xd)(B:Heap)(j:Scope)(e:Env)(r:Ke)(F:Dc)(A:Dd)(E:ja)(n:Nat):Prop:=∀{k:Nat}{J:ka}{p:List PV}{l L:Loc}{h H:Hp}{Lb:ia}{g:Gh}{s:Vb}{Q:Unit->Vb->Prop},storeAll F r n (J.map (rd GT k j)) p l h=Fb ((L,H),Hb)->bc g Lb p->Wb B j e l h g s.heap->
 wh B j e L H g s Q->Pb (Qb pw w) A (FA ((lr J e).map (·.2)) Lb) Q E s
section
theorem ZW(I:qd w B d r)(J:Cc d A)(H:fw w B j U r F A E n)(h:vi F r (n+1) (.Sb (L.map (rd GT k j))) p l f=Fb ((t,Y),Hb))(V:Tb g val p)(R:Wb B j U l f g s.heap)
  (post:wh B j U t Y g s Q):Pb (Qb pw w) A (qg (.Tuple L q D) U val) Q E s:=by
 induction p using PV.casesOn with
 |Sb vs=>
  refine ge V.inv λa ws m z=>?_;have N:=jB I.nc h;have x:=sH (env:=U) N.1;rw[z.1];refine wpAny_assign_Tuple J.hand (Yk (R.hr.Mb _ _ z.2.1)) (by rw[x.1,N.2,Cf,z.2.2.length]) x.2 λu C=>?_;exact H h z.2.2 (R.heap λb o K e=>C b o (dm (Heap.lt_size e)) e) λy G O X T=>post y G O X ((Tr.heap s u s.toks).trans T)
 |_=>exact nn h
theorem S0(h:vi F a (n+1) (.Oc o l u t) p L H=Fb (r,Hb)):l=.none/\u=.none/\t=.none:=by
 induction l using M.casesOn with
 |none=>induction u using M.casesOn with
  |none=>induction t using M.casesOn with
   |none=>exact⟨rfl,rfl,rfl⟩|_=>exact nn h
  |_=>exact nn h
 |_=>exact nn h
theorem FT(I:qd w B d r)(U:Gn w B d F)(J:Cc d A)(H:fw w B j T r F A E n):qA w B j T r F A E (n+1):=by
 intro k Nb p L o a b val g s Q h V R post
 induction k using jf with
 |zero=>exact nn h|succ k=>
  have t:=Uy (sc:=j) k Nb;generalize rd GT (k+1) j Nb=m at t h
  induction t using Xl.casesOn with
  |nc=>exact nn h|name C l=>
   revert post;refine Oh h λpost=>?_;exact GA (Pp R C l V λY t G K=>post {s with heap:=Y,toks:=t} g G (Ext.refl g) (Tr.heap s Y t))
  |Sb=>exact ZW I J H h V R post|sub=>exact YU I U J h V R post|Oc=>
   refine we (S0 h) λe q u=>?_;rw[e,q,u] at h;exact GX I J h e q u V R post
theorem VR(I:qd w B d a)(H:qA w B j U a F A E n)(b:fw w B j U a F A E n):fw w B j U a F A E (n+1):=by
 intro k J C Y m f o Lb g s q h V R post
 induction J using xc with
 |nil=>induction C using xc with
  |nil=>
   revert post;refine Oh h λpost=>?_;rw[show Lb=[] from V.inv];exact HQ (post s g R (Ext.refl g) (Tr.refl s))
  |cons=>exact nn h
 |cons e r=>induction C using xc with
  |nil=>exact nn h|cons p C=>
   have N:=(jB I.nc h).1;refine(Rm.bind_some h).elim λx y=>Mc V.inv λu O z=>?_;rw[z.1,Ix (N e Fd)];exact IQ (H y.1 z.2.1 R λs' g' G X T=>b y.2 (z.2.2.ext X) G λD l Q L t=>post D l Q (X.trans L) (T.trans t))
theorem qU(I:qd w B d r)(H:Gn w B d F)(J:Cc d A)(n:Nat):qA w B s e r F A E n/\fw w B s e r F A E n:=
 n.rec ⟨λh=>nn h,λh=>nn h⟩ λK z=>⟨FT I H J z.2,VR I z.1 z.2⟩
theorem W0(I:qd w B d r)(h:Gn w B d F)(H:Cc d A)(n:Nat):qA w B s e r F A E n:=(qU I h H n).1
end
end
end
theorem zH{α β:Type}{f:α->Option β}:∀{l:List α},(l.filterMap f).length=l.length->l.map f=(l.filterMap f).map Fb
 |[],_=>rfl|a::r,h=>by
  rw[DG] at h⊢
  cases e:f a with
  |none=>
   rw[e] at h;have:=kaa f r;simp only [xj] at h
   lia
  |some b=>
   rw[e] at h;simp only [xj,Nat.add_right_cancel_iff] at h;simp only [rh,e,zH h]
noncomputable def zv(e:Env)(l:Nat)(x:Expr):Option Str:=swappedStores.match_8 (λJ=>Option Str) x (λid p=>if e.kindOf id==Fb .local&&p.line==l then Fb id else Gb) λJ=>Gb
theorem aT(h:zv E l e=Fb x):∃p,e=.Name x p/\E.kindOf x=Fb .local:=by
 induction e using pg with
 |Name y p=>
  by_cases q:(E.kindOf y==Fb .local&&p.line==l)=Hb
  ·have h:(if(E.kindOf y==Fb .local&&p.line==l)=Hb then Fb y else Gb)=Fb x:=h
   rw[if_pos q] at h;injection h with h;refine Kt h ?_;rw[Zc] at q;exact⟨p,rfl,eq_of_beq q.1⟩
  ·have h:(if(E.kindOf y==Fb .local&&p.line==l)=Hb then Fb y else Gb)=Fb x:=h
   rw[if_neg q] at h;exact nn h
 |_=>exact nn h
theorem KH{α:Type}[BEq α][LawfulBEq α]:∀(n:Nat)(l:List α),l.length<=n->l.eraseDups.length<=l.length
 |_,[],_=>Ed _|n+1,a::l,h=>by
  have f:=sx (λb=>!b==a) l;rw[List.eraseDups_cons];exact Ng (dc (KH n _ (dc f (Nat.le_of_succ_le_succ h))) f)
theorem MK{α:Type}[BEq α][LawfulBEq α]:∀{l:List α},l.eraseDups.length=l.length->l.Nodup
 |[],_=>List.nodup_nil|a::l,h=>by
  rw[List.eraseDups_cons] at h;have h:=an h;have f:=sx (λb=>!b==a) l;have g:=KH _ (l.filter λb=>!b==a) (Ed _);have e:=List.filter_eq_self.mpr (List.filter_eq_self.mp (List.filter_sublist.eq_of_length (xA f (h▸g))));rw[e] at h;refine List.nodup_cons.mpr ⟨λq=>?_,MK h⟩;have:=List.filter_eq_self.mp e a q;simp at this
section
inductive dp(env:Env):Expr->Expr->Sem (Option (List Str))->Prop
 |no{t e:Expr}:dp env t e (pure Gb)
 |Sb{ts:ka}{q:Nat}{ps:Pos}{vs:ka}{q':Nat}{ps':Pos}{names:List Str}{line:Nat}(h:ts.map (zv env line)=names.map Fb)(h':names.eraseDups.length=names.length):dp env (.Tuple ts q ps) (.Tuple vs q' ps') (pure (Fb names))
theorem dp.ite(h:b=Ib->dp E t e m):dp E t e (if b=Hb then pure Gb else m):=by
 induction b using Ld with
 |true=>exact .no|false=>exact h rfl
theorem pY(H:V.all (constantsAlone 8)=Ib):dp e (.Tuple t q p) (.Tuple V Q u) (swappedStores [.Tuple t q p] (.Tuple V Q u) e):=by
 refine .ite λA=>.ite λJ=>.ite λh=>.ite λJ=>?_;rw[H];have h:=h;rw[Bool.or_eq_false_iff] at h;exact .Sb (zH (bne_eq_false_iff_eq.mp h.1)) (bne_eq_false_iff_eq.mp h.2)
theorem tS(h:Mr e=Hb)(H:∀T p,t≠.List T p):dp env t e (swappedStores [t] e env):=by
 induction t using pg with
 |Tuple T q x=>induction e using pg with
  |Tuple V Q u=>exact pY ((bn _).mp h)|_=>exact .no
 |List T p=>exact(H _ _ rfl).elim|_=>exact .no
inductive Jy(sc:Scope)(x:Str)(pv:PV)(loc:Loc)(hp:Hp):M->Loc×Hp->Prop
 |mk{i:Nat}{kd:gf}(hi:slotIn sc.names x 0=Fb (i,kd))(hk:kd=.local\/kd=.cell):Jy sc x pv loc hp (.Jb i) (loc.set i (Fb pv),hp)
theorem yH(h:vi F b (n+1) (rd GT k s (.Name x p)) f l a=Fb (r,Hb)):Jy s x f l a (rd GT k s (.Name x p)) r:=by
 rcases k with J|k
 ·exact Kr h
 ·have t:=Uy (sc:=s) k (.Name x p)
  generalize rd GT (k+1) s (.Name x p)=m at t h⊢;generalize H:Expr.Name x p=e at t
  induction t using Xl.casesOn with
  |nc=>exact Kr h|name y C=>rw[show r=_ from Rm.Gd h];rw[<-(Expr.Name.inj H).1] at y;exact .mk y C|_=>nomatch H
theorem ZT{s:Vb}(R:Wb B j e l a g s.heap)(H:slotIn j.names x 0=Fb (i,k))(C:k=.local\/k=.cell)(h:e.kindOf x=Fb .local):slotIn j.names x 0=Fb (i,.local):=by
 rcases C with rfl|rfl
 ·exact H
 ·replace h:=((R.er.aj x i H).1).symm.trans h;cases h
theorem nX(H:Zb GT k s e≠.nc)(D:∀x p,t≠.Name x p):jr e (Fb t) l E=pure Ib:=by
 cases h:mq e with
 |true=>exact nN (P:=λe=>jr e (Fb t) l E=pure Ib) h λr g u q=>by induction t using pg<;>first|rfl|exact(D _ _ rfl).elim
 |false=>exact GB h H
noncomputable def Km:Loc->ca->List PV->Loc
 |loc,i::I,p::x=>Km (loc.set i (Fb p)) I x|loc,_,_=>loc
theorem kJ:∀{I:ca}{x:List PV}{l:Loc}{i:Nat}{p:PV},i∉I->Km (l.set i (Fb p)) I x=(Km l I x).set i (Fb p)
 |[],[],_,_,_,_=>rfl|[],_::_,_,_,_,_=>rfl|_::_,[],_,_,_,_=>rfl|j::I,q::x,l,i,p,h=>by
  have h:=not_or.mp (mt List.mem_cons.mpr h);show Km ((l.set i (Fb p)).set j (Fb q)) I x=_;rw[List.set_comm _ _ h.1,kJ h.2];rfl
theorem ZI:∀{I:ca}{ps:List PV}{l:Loc}{i:Nat}{p:PV},I.length=ps.length->Km l (I++[i]) (ps++[p])=(Km l I ps).set i (Fb p)
 |[],[],_,_,_,_=>rfl|[],_::_,_,_,_,h=>nomatch h
 |_::_,[],_,_,_,h=>nomatch h
 |_::I,_::ps,_,_,_,h=>ZI (ps:=ps) (an h)
theorem NI:∀{I:ca}{x:List PV}{l:Loc},I.length=x.length->I.Nodup->Km l I.reverse x.reverse=Km l I x
 |[],[],_,_,_=>rfl|[],_::_,_,h,_=>nomatch h
 |_::_,[],_,h,_=>nomatch h
 |i::I,p::x,l,h,H=>by
  have H:=List.nodup_cons.mp H;rw[ux,ux,ZI (by refine List.length_reverse.trans ?_;rw[List.length_reverse,an h]),NI (an h) H.2];exact(kJ H.1).symm
theorem bc.rev(h:bc g V p):bc g V.reverse p.reverse:=
 h.ind (P:=λV p=>bc g V.reverse p.reverse) .nil λa J e=>by rw[ux,ux];exact e.append (.cons a .nil)
inductive Oi(sc:Scope):List Str->ca->Prop
 |nil:Oi sc [] []
 |cons{x:Str}{i:Nat}{l:List Str}{m:ca}(h:slotIn sc.names x 0=Fb (i,.local))(r:Oi sc l m):Oi sc (x::l) (i::m)
section
theorem Oi.app(h:Oi s N I)(k:Oi s l m):Oi s (N++l) (I++m):=h.rec k λh J=>.cons h
theorem Oi.rev(h:Oi s N I):Oi s N.reverse I.reverse:=
 h.rec .nil λh J e=>by rw[ux,ux];exact e.app (.cons h .nil)
theorem Oi.mem(h:Oi s N I):i∈I->∃x,x∈N/\slotIn s.names x 0=Fb (i,.local):=
 h.rec (λq=>(Xd q).elim) λh J e q=>(List.mem_cons.mp q).elim (λr=>⟨_,Fd,r▸h⟩) λr=>(e r).elim λx z=>⟨x,Ee _ z.1,z.2⟩
theorem Oi.nodup(h:Oi s N I):N.Nodup->I.Nodup:=
 h.rec (λJ=>List.nodup_nil) λh r e q=>List.nodup_cons.mpr ⟨λz=>(r.mem z).elim λJ y=>(List.nodup_cons.mp q).1 (Mp h y.2▸y.1),e (List.nodup_cons.mp q).2⟩
theorem HS(h:Oi j N I):∀{Lb:ia}{x:List PV}{l:Loc}{s:Vb},bc g Lb x->x.length=I.length->Wb B j e l a g s.heap->wh B j e (Km l I x) a g s Q->
  Pb (Qb pw w) A (FA (N.map λn=>bindName e n) Lb) Q E s:=by
 induction h with
 |nil=>
  intro Lb x l s V H R post;obtain rfl:=WQ H;rw[show Lb=[] from V.inv];exact HQ (post s g R (Ext.refl g) (Tr.refl s))
 |cons C _ d=>
  intro Lb x l s V H R post
  induction x using xc with
  |nil=>exact nomatch H
  |cons p x=>
   refine Mc V.inv λv D z=>?_;rw[z.1];refine IQ (bindName_ (Pp R C (.inl rfl) z.2.1 λY t r J=>?_));exact d z.2.2 (an H) r λb G U X T=>post b G U X ((Tr.heap s Y t).trans T)
end
theorem FR{s:Vb}(R:Wb B j e L f g s.heap):∀{n:Nat}{T:ka}{N:List Str}{A:List PV}{l:Loc}{r:Loc×Hp},T.map (zv e Q)=N.map Fb->storeAll F b n (T.map (rd GT k j)) A l a=Fb (r,Hb)->
  ∃I,Oi j N I/\A.length=I.length/\r=(Km l I A,a):=by
 intro n
 induction n using Nat.rec with
 |zero=>exactλJ h=>by exact nn h
 |succ n d=>
  intro T N A l r H h
  induction T using xc with
  |nil=>
   induction N using xc with
   |nil=>
    induction A using xc with
    |nil=>exact⟨[],.nil,rfl,Rm.Gd h⟩|cons=>exact nn h
   |cons=>exact nomatch H
  |cons t T=>
   induction N using xc with
   |nil=>exact nomatch H
   |cons x N=>
    induction A using xc with
    |nil=>exact nn h|cons p A=>
     refine Qc λG V=>?_;refine(aT (ck H).1).elim λq z=>(Rm.bind_some h).elim λy Y=>Y.elim λC o=>?_;rw[z.1] at C
     induction n using jf with
     |zero=>exact nn C|succ m=>
      have c:=yH C;generalize rd GT k j (.Name x q)=w at c
      induction c using Jy.casesOn with|@mk i O E u=>_
      exact(d (ck H).2 o).elim λI D=>V ⟨i::I,.cons (ZT R E u z.2) D.1,congrArg Nat.succ D.2.1,D.2.2⟩
theorem JS{N:List Str}{t:ka}(m:t.map (zv e Y)=N.map Fb)(T:N.eraseDups.length=N.length)
  (h:storeAll F r n (t.map (rd GT k j)) p L a=Fb ((o,U),Hb))(V:bc g Lb p)(R:Wb B j e L a g s.heap)(post:wh B j e o U g s q):
  Pb (Qb pw w) A (FA (N.reverse.map λn=>bindName e n) Lb.reverse) q E s:=
 (FR R m h).elim λI z=>we z λH l Q=>HS H.rev V.rev (by refine List.length_reverse.trans ?_;rw[List.length_reverse,l]) R (by
  rw[NI l.symm (H.nodup (MK T))];rw[(ye Q).1,(ye Q).2] at post;exact post)
theorem o6(I:qd w B d r)(H:Gn w B d F)(L:Cc d A)(h:vi F r 12 (rd GT k j t) x l u=Fb ((m,T),Hb))(V:Tb G v x)(N:Wb B j e l u G J.heap){Q:Flow->Vb->Prop}
  (post:∀s g,Wb B j e m T g s.heap->Ext G g->Tr J s->Q .next s):Pb (Qb pw w) A (do assignAll v ((lr [t] e).map (·.2));pure .next) Q E J:=by
 have z:(lr [t] e).map (·.2)=[qg t e]:=by
  rw[Ix (λy p q=>?_)];rfl;rw[q,kC] at h;exact Kr h
 rw[z];refine Ob (W0 I H L 12 h V N λs g O Y U=>?_);exact vc (post s g O Y U)
theorem TY{N:List Str}(I:qd w B d f)(L:Cc d A)(h:vi F f 12 (rd GT k j (.Tuple t q ps)) x l u=Fb ((m,V),Hb))(y:Tb G v x)(r:Wb B j T l u G J.heap)
  (H:t.map (zv T line)=N.map Fb)(Y:N.eraseDups.length=N.length){Q:Flow->Vb->Prop}(post:∀s g,Wb B j T m V g s.heap->Ext G g->Tr J s->Q .next s):
  Pb (Qb pw w) A (do rule "assign.swapped-stores";let p<-unpackItems v N.length Gb;FA (N.reverse.map λn=>bindName T n) p.reverse;pure .next) Q E J:=by
 rcases k with K|k
 ·exact Kr h
 ·refine Qc λGG C=>?_
  induction x using PV.casesOn with
  |Sb vs=>
   have h:=h;obtain⟨a,D,n,rfl,z,U⟩:=Tb.inv y;have O:N.length=D.toArray.size:=by
    have:=congrArg mn H;rw[Uc,Uc] at this;rw[Cf,U.length,<-(jB I.nc h).2,this]
   refine C ?_;refine Ob (so ?_);rw[O];refine Ob (wpAny_unpackItems_tuple L.hand (Yk (r.hr.Mb _ _ z)) λh' hk=>?_);have hk':=λb o e=>hk b o (dm (Heap.lt_size e)) e;refine Ob (JS H Y h U (r.heap λb o K e=>hk' b o e) λs g nf Vg mf=>?_);exact vc (post s g nf Vg ((Tr.heap J h' J.toks).trans mf))
  |_=>exact nn h
def H7(w:xd)(B:Heap)(d:Nat)(j:Scope)(r:Ke):Prop:=∀(k:Nat)(p:Expr)(G:List Comprehension)(t:Scope)(q m:Pos)(x:Str)(i:Nat)(l:Loc)(h:Hp)(f:PV)(H:Hp)(A:Dd)(e:Env)(g:Gh)(s:Vb)(E:ja)(Q:Unit->Vb->Prop),
 slotIn j.names x 0=Fb (i,.local)->r (Zb GT k j (.ListComp p G t q)) Hb l h=Fb ((f,H),Hb)->Cc d A->Wb B j e l h g s.heap->wh B j e (l.set i (Fb f)) H g s Q->
 Pb (Qb pw w) A (MG (.ListComp p G t q) e (qg (.Name x m) e)) Q E s
theorem k6(I:qd w B d a)(hS:Gn w B d F)(hU:H7 w B d j a)(b:Mr e=Hb)(h:a (Zb GT k j e) Hb l hp=Fb ((x,dd),Hb))(H:vi F a 12 (rd GT k j t) x l dd=Fb ((o,V),Hb)):
  Nk w B d (.Assign [t] e pos) j l hp .next o V:=by
 by_cases z:∃y p,t=.Name y p
 ·obtain⟨y,p,rfl⟩:=z
  have c:=yH H;generalize hg:rd GT k j (.Name y p)=m at c;generalize hr:(o,V)=r at c
  induction c using Jy.casesOn with|mk e1 e2=>_
  refine N' hr ?_;exact A0 I hU h hg
 ·intro A T g s E Q J R post
  rw[KA];refine Ob (gj ?_);show Pb _ A (jr e (Fb t) pos.line T>>=_) Q E s;rw[nX (λq=>by rw[q,I.nc] at h;exact nn h) λy p q=>z ⟨y,p,q⟩];refine Ob (vc ?_);refine Jj (by decide) ?_;refine Ob (zf I h A T g s E _ J R λv Zd Mf O f C u=>?_);have D:=tS (env:=T) b (t:=t) λts p q=>by
   rw[q,show rd GT k j (.List ts p)=.nc by rcases k with K|k<;>rfl] at H;exact Kr H
  generalize swappedStores [t] e T=m at D⊢;clear z h b
  induction D using dp.casesOn with
  |no=>exact Ob (vc (o6 I hS J H u O λL G N Y U=>post .next L G N (f.trans Y) (C.trans U) .next))|Sb hts y9=>exact Ob (vc (TY I J H u O hts y9 λL G N Y U=>post .next L G N (f.trans Y) (C.trans U) .next))
end
section
set_option backward.match.sparseCases false
section
inductive ME(F:Dc)(loc:Loc):PV->PV->Hp->Fl×Loc×Hp->Prop
 |mk{j:Nat}{nm:ca}{hp hr:Hp}(h:de F 21 [.rc j,.str nm] Ib hp=Fb ((.none,hr),Hb)):ME F loc (.rc j) (.str nm) hp (.next,loc,hr)
noncomputable def J_(l:Loc)(r:PV×Hp):Rm (Fl×Loc×Hp):=match r.1 with
 |.none=>Rm.ret (.next,l,r.2)|_=>Gb
noncomputable def MO(F:Dc)(l:Loc)(h:Hp)(x y:PV):Rm (Fl×Loc×Hp):=match x,y with
 |.rc j,.str nm=>Rm.bind (de F 21 [.rc j,.str nm] Ib h) (J_ l)|_,_=>Gb
theorem Q3(h:MO F l H x y=Fb (r,Hb)):ME F l x y H r:=by
 induction x using PV.casesOn with
 |rc j=>induction y using PV.casesOn with
  |str nm=>
   refine(Rm.bind_some h).elim λq z=>?_;obtain⟨q,C⟩:=q;have a:=z.2
   induction q using PV.casesOn with
   |none=>rw[show r=_ from Rm.Gd a];exact .mk z.1|_=>exact nn a
  |_=>exact nn h
 |_=>exact nn h
theorem c6(m:qd w B d a)(u:Gn w B d F)(h:Cq F a (λK K K=>Gb) (.del (Zb GT k j o) (Zb GT k j i)) l b=Fb ((f,L,H),Hb)):
  Nk w B d (.Delete [.Subscript o i BO] pos) j l b f L H:=by
 have h:(Rm.bind (a (Zb GT k j o) Ib l b) λx=>Rm.bind (a (Zb GT k j i) Ib l x.2) λy=>MO F l y.2 x.1 y.1)=Fb ((f,L,H),Hb):=h;refine(Rm.bind_some h).elim λx z=>(Rm.bind_some z.2).elim λy Y=>?_;intro A e g s E Q I R post;refine wpAny_Delete (wpAny_deleteEach_cons (wpAny_delete_Subscript (zf m z.1 A e g s E _ I R λO J C N D ig V=>zf m Y.1 A e C J E _ I N λiv jg sd G p mf t=>?_)));have c:=Q3 Y.2;clear z Y h;generalize y.1=y1 at c t;generalize y.2=y2 at c G;generalize x.1=x1 at c V;generalize hr:(f,L,H)=r at c
 induction c using ME.casesOn with
 |mk h5=>
  have q:=ye hr;have U:=ye q.2;rw[q.1,U.1,U.2] at post;exact u.del A e sd jg E _ j _ _ _ _ _ O iv I G (V.ext p) t h5 λs' g' R' X T=>wpAny_deleteEach_nil (post .next s' g' R' (D.trans (p.trans X)) (ig.trans (mf.trans T)) .next)
theorem bc.imp{C:PV->Prop}(I:∀{v:Value}{p:PV},C p->Tb g v p->Tb G v p)(V:bc g w x):(∀p∈x,C p)->bc G w x:=
 V.ind (P:=λw x=>(∀p∈x,C p)->bc G w x) (λJ=>.nil) λa J e h=>.cons (I (h _ Fd) a) (e λp q=>h p (Ee _ q))
theorem zY{l:da}(V:bc g w (l.map .int)):bc G w (l.map .int):=
 V.imp (C:=λp=>∃i,PV.int i=p) (λh V=>h.elim λi q=>by rw[<-q] at V⊢;exact V.inv.elim λt z=>z▸.int i t) λJ h=>(List.mem_map.mp h).elim λi z=>⟨i,z.2⟩
theorem JZ{l:ba}(V:bc g w (l.map .str)):bc G w (l.map .str):=
 V.imp (C:=λp=>∃i,PV.str i=p) (λh V=>h.elim λi q=>by rw[<-q] at V⊢;exact Mc V.inv λx t z=>z.1▸.str z.2) λJ h=>(List.mem_map.mp h).elim λi z=>⟨i,z.2⟩
theorem qL(I:∀{v:Value}{p:PV},Fg n p=Hb->Tb g v p->Tb G v p)(h:x.all (Fg n)=Hb)(V:bc g w x):bc G w x:=V.imp I (List.all_eq_true.mp h)
theorem uK(I:∀{v:Value}{p:PV},Fg n p=Hb->Tb g v p->Tb G v p)(h:Fg (n+1) (.Mb c)=Hb)(V:bc g w c.toList):bc G w c.toList:=by
 induction c using Cell.casesOn with
 |«ints» l=>exact zY V|«strs» l=>exact JZ V|Lb l=>exact qL I h V
theorem my(X:∀a o,g a=.Mb o->G a=.Mb o)(n:Nat):∀{v:Value}{p:PV},Fg n p=Hb->Tb g v p->Tb G v p:=by
 induction n with
 |zero=>exactλh=>by injection h
 |succ n I=>
  exactλh V=>Tb.casesOn V (λJ=>.none) (λb J=>.bool b) (λi t J=>.int i t) (λq J=>.str q) (λq H h=>.Sb (X _ _ q) (qL I h H))
   (λq x H h=>.Mb (X _ _ q) x (x▸uK I h (x▸H))) (λJ h=>by injection h) (λJ J J J h=>by injection h) (λq J=>.ag (X _ _ q)) (λv J=>.kc v) h
theorem Jr(X:∀a o,g a=.Mb o->G a=.Mb o)(h:Be c=Hb)(V:bc g w c.toList):bc G w c.toList:=uK (my X 8) h V
noncomputable def Jo(o:Option Obj):Tc:=o.casesOn .free .out
noncomputable def cP(o:Option Obj)(I:ca)(t:Tc):Tc:=t.casesOn .free .Mb (λJ=>Jo o) (λJ=>Jo o) (λi=>if i∈I then .Xb (I.idxOf i) else Jo o) (Jo o)
noncomputable def fe(g:Gh)(h:Heap)(is:ca):Gh:=λa=>cP (h.get? a) is (g a)
section
theorem bq(e:g a=t):fe g h I a=cP (h.get? a) I t:=congrArg _ e
theorem tm:∀a o,g a=.Mb o->fe g h I a=.Mb o:=λJ J=>bq
theorem tT(e:g a=.free):fe g h I a=.free:=bq e
theorem Pu(e:g a=.Xb i)(H:i∈I):fe g h I a=.Xb (I.idxOf i):=(bq e).trans (if_pos H)
theorem LX(e:g a=.Xb i)(H:¬i∈I)(z:h.get? a=Fb o):fe g h I a=.out o:=(bq e).trans ((if_neg H).trans (congrArg Jo z))
theorem vy(e:g a=.out x)(H:h.get? a=Fb o):fe g h I a=.out o:=(bq e).trans (congrArg Jo H)
theorem X3(e:g a=.it x)(H:h.get? a=Fb o):fe g h I a=.out o:=(bq e).trans (congrArg Jo H)
theorem pD(e:g a=.Hc)(H:h.get? a=Fb o):fe g h I a=.out o:=(bq e).trans (congrArg Jo H)
inductive am(g:Gh)(h:Heap)(is:ca)(a:Ub):Tc->Prop
 |free(e:g a=.free):am g h is a .free
 |Mb{o:Obj}(e:g a=.Mb o):am g h is a (.Mb o)
 |Xb{i:Nat}(e:g a=.Xb i)(hi:i∈is):am g h is a (.Xb (is.idxOf i))
 |out{o:Obj}(h1:g a≠.free)(h2:∀o,g a≠.Mb o)(h3:∀i,g a=.Xb i->¬i∈is)(ho:h.get? a=Fb o):am g h is a (.out o)
theorem gD(H:tc h g b)(a:Ub):am g h is a (fe g h is a):=by
 cases e:g a with
 |free=>exact tT e▸.free e|Mb o=>exact tm _ _ e▸.Mb e|Xb i=>
  by_cases y:i∈is
  ·exact Pu e y▸.Xb e y
  ·exact Md (H.Xb a i e) λJ J J J z=>LX e y z.2.1▸.out (λh=>by rw[e] at h;injection h) (λo h=>by rw[e] at h;injection h) (λj h=>by rw[e] at h;exact Tc.Xb.inj h▸y) z.2.1
 |out o=>exact vy e (H.out a o e)▸.out (λh=>by rw[e] at h;injection h) (λo h=>by rw[e] at h;injection h) (λj h=>by rw[e] at h;injection h) (H.out a o e)|it o=>exact X3 e (H.it a o e)▸.out (λh=>by rw[e] at h;injection h) (λo h=>by rw[e] at h;injection h) (λj h=>by rw[e] at h;injection h) (H.it a o e)|Hc=>exact(H.Hc a e).elim λo A=>pD e A▸.out (λh=>by rw[e] at h;injection h) (λo h=>by rw[e] at h;injection h) (λj h=>by rw[e] at h;injection h) A
def GcI(g:Gh)(h:Heap)(I:ca)(a:Ub)(t:Tc):Prop:=
 t.casesOn (g a=.free) (λo=>g a=.Mb o) (λo=>h.get? a=Fb o) (λJ=>False) (λj=>∃i,g a=.Xb i/\I[j]?=Fb i) False
theorem T6{I:ca}(h:i∈I):I[I.idxOf i]?=Fb i:=(De (XQ h)).trans (congrArg Fb (List.getElem_idxOf _))
theorem Up(H:tc h g b)(e:fe g h I a=t):GcI g h I a t:=by
 rw[<-e];have c:=gD (is:=I) H a;generalize fe g h I a=t at c
 induction c using am.casesOn with
 |free e=>exact e|Mb e=>exact e|Xb e y=>exact⟨_,e,T6 y⟩|out _ _ _ z=>exact z
noncomputable def C7(x:Option (Bool×Cell))(y:Option Hp):Option Hp:=match x,y with
 |some c,Fb l=>Fb (c::l)|_,_=>Gb
theorem nu:∀{I:ca}{C:Hp},kj H I=Fb C->C.length=I.length/\∀(j i:Nat),I[j]?=Fb i->C[j]?=H[i]?:=by
 intro I
 induction I with
 |nil=>exactλh=>jc h▸⟨rfl,λJ J e=>by injection e⟩|cons i r d=>
  intro C h;have k:∀{x y},H[i]?=x->kj H r=y->C7 x y=Fb C->C.length=(i::r).length/\∀(j s:Nat),(i::r)[j]?=Fb s->C[j]?=H[s]?:=λ{x y}=>x.casesOn (λJ J e=>nn e) λc=>y.casesOn (λJ J e=>nn e) λl A m e=>by
   rw[<-jc e];exact⟨congrArg (·+1) (d m).1,λj=>j.casesOn (λs q=>jc q▸A.symm) (d m).2⟩
  exact k rfl rfl h
theorem BB:∀{I:ca},Gj I=Hb->∀(j i:Nat),I[j]?=Fb i->I.idxOf i=j:=by
 intro I
 induction I with
 |nil=>exactλJ J J e=>by injection e
 |cons x r d=>
  intro h j i e;have h:=h;refine List.idxOf_cons.trans ?_
  induction j using jf with
  |zero=>rw[jc e,beq_self_eq_true];rfl|succ j=>
   have H:(x==i)=Ib:=beq_eq_false_iff_ne.mpr λq=>by
    have:=(Zc _ _).mp h;rw[q,List.contains_iff_mem.mpr (bh (show r[j]?=Fb i from e))] at this;exact nomatch this.1
   rw[H];exact congrArg (·+1) (d ((Zc _ _).mp h).2 j i e)
noncomputable def Az{α β γ:Type}(x:Option (α×β))(f:α->β->γ):Option γ:=match x with
 |some (a,b)=>Fb (f a b)|none=>Gb
theorem LB{α β γ:Type}{x:Option (α×β)}{f:α->β->γ}{c:γ}(h:Az x f=Fb c):∃a b,x=Fb (a,b)/\f a b=c:=by
 induction x using Wd with
 |none=>exact nn h|some p=>exact⟨p.1,p.2,rfl,jc h⟩
inductive Fq(r:List PV)(j:Nat):PV->List PV×ca->Prop
 |id{i:Nat}{as:List PV}{is:ca}(e:ug r (j+1)=Fb (as,is)):Fq r j (.id i) (.id j::as,i::is)
 |rc{i:Nat}{as:List PV}{is:ca}(e:ug r (j+1)=Fb (as,is)):Fq r j (.rc i) (.rc j::as,i::is)
 |own{v:PV}{as:List PV}{is:ca}(hn:Fg 9 v=Hb)(e:ug r j=Fb (as,is)):Fq r j v (v::as,is)
noncomputable def gF(v:PV)(x:Option (List PV×ca))(b:Bool):Option (List PV×ca):=match b with
 |true=>Az x λa I=>(v::a,I)|false=>Gb
theorem A3(h:gF v (ug r j) (Fg 9 v)=Fb c):Fq r j v c:=by
 have k:∀{b:Bool},Fg 9 v=b->gF v (ug r j) b=Fb c->Fq r j v c:=λ{b}=>b.casesOn (λJ e=>nn e) λH e=>Mc (LB e) λa I z=>z.2▸.own H z.1;exact k rfl h
noncomputable def isObj(v:PV):Bool:=v.casesOn Ib (λJ=>Ib) (λJ=>Ib) (λJ=>Ib) (λJ=>Ib) (λJ=>Ib) (λJ=>Hb) (λJ=>Hb) (λJ J J=>Ib) λJ=>Ib
theorem FW:ug (.id i::r) j=Az (ug r (j+1)) λa I=>(PV.id j::a,i::I):=by kernel_rfl
theorem uT:ug (.rc i::r) j=Az (ug r (j+1)) λa I=>(PV.rc j::a,i::I):=by kernel_rfl
theorem pT(h:isObj v=Ib):ug (v::r) j=gF v (ug r j) (Fg 9 v):=by
 induction v using PV.casesOn with
 |id=>injection h|rc=>injection h|_=>kernel_rfl
theorem g4(h:ug (v::r) j=Fb c):Fq r j v c:=by
 by_cases q:isObj v=Hb
 ·induction v using PV.casesOn with
  |id i=>exact Mc (LB (FW.symm.trans h)) λa I z=>z.2▸.id z.1|rc i=>exact Mc (LB (uT.symm.trans h)) λa I z=>z.2▸.rc z.1|_=>injection q
 ·exact A3 ((pT (Bool.eq_false_iff.mpr q)).symm.trans h)
theorem lT(C:Gj B=Hb):∀{D A:List PV}{I:ca}{j:Nat}{w:ia},ug D j=Fb (A,I)->(∀m i,I[m]?=Fb i->B[j+m]?=Fb i)->bc g w D->bc (fe g h B) w A:=by
 intro D
 induction D with
 |nil=>
  intro A I j w e K V;rw[<-(ye (jc e)).1,show w=[] from V.inv];exact .nil
 |cons v r d=>
  intro A I j w e G V;refine Mc V.inv λu U z=>?_;rw[z.1];have c:=g4 e;generalize H:(A,I)=q at c;have l:=z.2.1;have t:=z.2.2;have N:∀{i T},I=i::T->∀m s,T[m]?=Fb s->B[j+1+m]?=Fb s:=λH m s E=>by
   rw[bm,Rk 1 m];exact G (m+1) s (H▸E)
  have b:∀{a i T},I=i::T->g a=.Xb i->fe g h B a=.Xb j:=λH E=>
   have x:=G 0 _ (show I[0]?=_ from H▸rfl)
   (Pu E (bh x)).trans (congrArg Tc.Xb (BB C _ _ x))
  clear e z V
  induction c using Fq.casesOn with
  |id e=>
   have q:=ye H;rw[q.1];exact .cons (l.inv.elim λa y=>y.1▸.id (b q.2 y.2)) (d e (N q.2) t)
  |rc e=>
   have q:=ye H;rw[q.1];exact .cons (Md l.inv λa J L o y=>y.1▸.rc (tm _ _ y.2.1) (tm _ _ y.2.2.1) y.2.2.2.1 (b q.2 y.2.2.2.2)) (d e (N q.2) t)
  |own Q e=>
   have q:=ye H;rw[q.1];exact .cons (my tm 9 Q l) (d e (q.2▸G) t)
variable{hp:Hp}{g:Gh}{h:Heap}{is:ca}{a:Ub}{i:Nat}{o:Obj} in
theorem tc.fe{C:Hp}(H:tc h g hp)(x:Gj is=Hb)(d:kj hp is=Fb C)(t:(C.all λc=>Be c.2)=Hb):tc h (Mine.fe g h is) C where
 Mb a o e:=H.Mb a o (Up H e)
 out a o e:=Up H e
 it a o e:=(Up H e).elim
 Hc a e:=(Up H e).elim
 Xb a j e:=(Up H e).elim λi z=>Md (H.Xb a i z.1) λb c w n y=>
  have E:=((nu d).2 _ _ z.2).trans y.1
  ⟨b,c,w,n,E,y.2.1,Jr tm (List.all_eq_true.mp t _ (bh E)) y.2.2⟩
 all j s:=
  have Q:is[j]?=Fb (is[j]'((nu d).1▸s)):=De _
  (H.all _ (List.getElem?_eq_some_iff.mp (((nu d).2 _ _ Q).symm.trans (De s))).1).elim λa e=>⟨a,(Pu e (bh Q)).trans (congrArg Tc.Xb (BB x _ _ Q))⟩
 inj a b j A p:=(Up H A).elim λi z=>(Up H p).elim λI Y=>H.inj a b i z.1 (jc (Y.2.symm.trans z.2)▸Y.1)
theorem Ux{B:Heap}(H:tc h g hp)(O:∀a o,B.get? a=Fb o->g a=.out o\/g a=.Mb o):∀a o,B.get? a=Fb o->fe g h is a=.out o\/fe g h is a=.Mb o:=λa o e=>
 (O a o e).elim (λq=>.inl (vy q (H.out a o q))) λq=>.inr (tm _ _ q)
end
end
noncomputable def A7(o:Option Obj):Tc:=o.casesOn .free .Mb
noncomputable def jw(b:Bool)(o:Option Obj)(t:Tc):Tc:=t.casesOn .free .Mb (λJ=>.free) (λJ=>.free) (λJ=>b.casesOn (A7 o) .free) .free
noncomputable def XD(n t:Tc):Tc:=t.casesOn n .Mb .out .it .Xb .Hc
noncomputable def Wf(g G:Gh)(h:Heap)(s:Option Ub):Gh:=λa=>XD (jw (decide (s=Fb a)) (h.get? a) (G a)) (g a)
section
variable{g sd:Gh}{Ud:Heap}{sk:Option Ub}{a:Ub}{o x:Obj}{i:Nat}{b:Bool}{y:Option Obj}{t u:Tc}
theorem aq(e:g a≠.free):Wf g sd Ud sk a=g a:=by
 show XD _ (g a)=g a;generalize g a=t at e
 induction t using Tc.casesOn with
 |free=>exact absurd rfl e|_=>rfl
theorem Mu(e:g a=.free):Wf g sd Ud sk a=jw (decide (sk=Fb a)) (Ud.get? a) (sd a):=congrArg (XD _) e
theorem KC(e:g a=.free)(E:sd a=.Xb i)(h:sk≠Fb a)(H:Ud.get? a=Fb o):Wf g sd Ud sk a=.Mb o:=by refine(Mu e).trans ?_;rw[E,H,decide_eq_false h];rfl
theorem CJ(e:g a=.free)(E:sd a=.Xb i):Wf g sd Ud (Fb a) a=.free:=by refine(Mu e).trans ?_;rw[E,decide_eq_true rfl];rfl
theorem yY(e:jw b y t=.Mb x):t=.Mb x\/y=Fb x:=by
 induction t using Tc.casesOn with
 |Mb=>exact .inl e|Xb=>induction b using Ld with
  |false=>induction y using Wd with
   |none=>injection e|some o=>exact .inr (congrArg Fb (Tc.Mb.inj e))
  |true=>injection e
 |_=>injection e
theorem U4(e:jw b y t=u):u=.free\/∃o,u=.Mb o:=by
 rw[<-e]
 induction t using Tc.casesOn with
 |Mb o=>exact .inr ⟨o,rfl⟩|Xb=>induction b using Ld with
  |false=>induction y using Wd with
   |none=>exact .inl rfl|some o=>exact .inr ⟨o,rfl⟩
  |true=>exact .inl rfl
 |_=>exact .inl rfl
theorem Sr(e:Wf g sd Ud sk a=t)(h:t≠.free)(H:∀o,t≠.Mb o):g a=t:=
 xp (λq:g a=.free=>(U4 ((Mu q).symm.trans e)).elim (λz=>absurd z h) λz=>z.elim λo z=>absurd z (H o)) λq=>(aq q).symm.trans e
end
theorem Ext.Wf(g G:Gh)(h:Heap)(s:Option Ub):Ext g (Wf g G h s):=λJ e=>aq e
theorem ZS(I:ca):∀C h:Hp,(Ej I C h).length=h.length:=by
 induction I with
 |nil=>exactλC h=>C.casesOn rfl λJ J=>rfl|cons i r d=>exactλC h=>C.casesOn rfl λc C=>(d C _).trans tQ
theorem TH{i:Nat}(I:ca):∀{C H:Hp},¬i∈I->(Ej I C H)[i]?=H[i]?:=by
 induction I with
 |nil=>exactλ{C H}J=>C.casesOn rfl λJ J=>rfl|cons j r d=>exactλ{C H}h=>C.casesOn rfl λc C=>(d λq=>h (Ee _ q)).trans (sG λq:j=i=>h (q▸Fd))
theorem CU{i:Nat}{x:Bool×Cell}(I:ca):∀{C a:Hp},Gj I=Hb->i∈I->C[I.idxOf i]?=Fb x->i<a.length->(Ej I C a)[i]?=Fb x:=by
 induction I with
 |nil=>exactλJ h=>(Xd h).elim|cons j r d=>
  intro C a H A h y
  induction C using xc with
  |nil=>injection h|cons c C=>
   have H:=H;have H:=(Zc _ _).mp H;rw[List.idxOf_cons] at h;show(Ej r C (a.set j c))[i]?=_
   by_cases q:j=i
   ·rw[q,beq_self_eq_true] at h
    rw[q] at H⊢;have B:¬i∈r:=λz=>by have:=H.1;rw[List.contains_iff_mem.mpr z] at this;injection this
    exact(TH r B).trans ((sQ y).trans h)
   ·rw[beq_eq_false_iff_ne.mpr q] at h
    exact d H.2 ((List.mem_cons.mp A).resolve_left λz=>q z.symm) h (by rw[tQ];exact y)
structure Back(g sd:Gh)(h Ud:Heap)(hp hc:Hp)(is:ca):Prop where
 H:tc h g hp
 Sl:tc Ud sd hc
 X:Ext (fe g h is) sd
 nd:Gj is=Hb
 lt:∀(j i:Nat),is[j]?=Fb i->i<hp.length
 no:((hc.take is.length).all λc=>Be c.2)=Hb
section
variable{w:xd}{A:Dd}{E:ja}{s Zd:Vb}{B:Heap}{sc scope:Scope}{env:Env}{loc cf:Loc}{hp Ac dd Nd hc cs:Hp}{g g' Mf sd:Gh}{pv:PV}{v:Value}{d:Nat}{h Ud:Heap}{is:ca}{sk:Option Ub}
theorem Back.gc(K:Back g sd h Ud hp hc is)(a:Ub):∃t,am g h is a t/\(t≠.free->sd a=t):=⟨_,gD K.H a,K.X a⟩
theorem Back.Mb(K:Back g sd h Ud hp hc is):∀a o,sd a=.Mb o->Wf g sd Ud sk a=.Mb o:=λa o e=>(K.gc a).elim λt z=>by
 refine z.elim λc k=>?_
 induction c using am.casesOn with
 |free q=>exact(Mu q).trans (congrArg (jw _ _) e)|Mb q=>exact(aq (q▸fz)).trans (q.trans ((k fz).symm.trans e))|Xb=>exact Tc.noConfusion ((k li).symm.trans e)|out=>exact Tc.noConfusion ((k ou).symm.trans e)
theorem Back.new(K:Back g sd h Ud hp hc is){a:Ub}{j:Nat}(e:sd a=.Xb j)(u:is.length<=j):g a=.free:=(K.gc a).elim λt z=>by
 refine z.elim λc k=>?_
 induction c using am.casesOn with
 |free q=>exact q|Mb=>exact Tc.noConfusion ((k fz).symm.trans e)|Xb _ y=>exact absurd (Tc.Xb.inj ((k li).symm.trans e)▸XQ y) (Nat.not_lt.mpr u)|out=>exact Tc.noConfusion ((k ou).symm.trans e)
theorem Back.old(K:Back g sd h Ud hp hc is){a:Ub}{j i:Nat}(e:sd a=.Xb j)(t:is[j]?=Fb i):g a=.Xb i:=
 (K.H.all i (K.lt j i t)).elim λb O=>K.Sl.inj a b j e (BB K.nd _ _ t▸K.X.at (Pu O (bh t)) li)▸O
theorem Back.outs(K:Back g sd h Ud hp hc is){a:Ub}{o:Obj}{t:Tc}(e:g a=t)(C:t≠.free)(j:∀o,t≠.Mb o)(Q:∀i,t=.Xb i->¬i∈is)(D:h.get? a=Fb o):Ud.get? a=Fb o:=(K.gc a).elim λu z=>by
 refine z.elim λc k=>?_
 induction c using am.casesOn with
 |free q=>exact absurd (e.symm.trans q) C|Mb q=>exact absurd (e.symm.trans q) (j _)|Xb q y=>exact absurd y (Q _ (e.symm.trans q))|out _ _ _ f=>exact jc (f.symm.trans D)▸K.Sl.out a _ (k ou)
theorem Back.Gq(K:Back g sd h Ud hp hc is):tc Ud (Wf g sd Ud sk) (Ej is hc hp) where
 Mb a o e:=xp (λq:g a=.free=>(yY ((Mu q).symm.trans e)).elim (K.Sl.Mb a o) id) λq=>K.Sl.Mb a o (K.X.at (tm a o ((aq q).symm.trans e)) fz)
 out a o e:=have e:=Sr e ou λJ h=>by injection h
  K.outs e ou (λJ h=>by injection h) (λJ h=>by injection h) (K.H.out a o e)
 it a o e:=have e:=Sr e iz λJ h=>by injection h
  K.outs e iz (λJ h=>by injection h) (λJ h=>by injection h) (K.H.it a o e)
 Hc a e:=have e:=Sr e pz λJ h=>by injection h
  (K.H.Hc a e).elim λo q=>⟨o,K.outs e pz (λJ h=>by injection h) (λJ h=>by injection h) q⟩
 Xb a i e:=have e:=Sr e li λJ h=>by injection h
  Md (K.H.Xb a i e) λb c D n z=>xp (λC:i∈is=>
   have r:=K.X.at (Pu e C) li
   Md (K.Sl.Xb a _ r) λf k p N y=>
    have O:=(List.all_eq_true.mp K.no) (f,k) (bh ((List.getElem?_take_of_lt (XQ C)).trans y.1))
    ⟨f,k,p,N,CU is K.nd C y.1 (List.getElem?_eq_some_iff.mp z.1).1,y.2.1,Jr K.Mb O y.2.2⟩)
   λC=>⟨b,c,D,n,(TH is C).trans z.1,K.outs e li (λJ h=>by injection h) (λj q=>Tc.Xb.inj q▸C) z.2.1,z.2.2.ext (Ext.Wf _ _ _ _)⟩
 all i C:=(K.H.all i (ZS is hc hp▸C)).elim λa e=>⟨a,(aq (e▸li)).trans e⟩
 inj a b i x t:=K.H.inj a b i (Sr x li λJ h=>by injection h) (Sr t li λJ h=>by injection h)
noncomputable def y8(x:Option PV)(y:Option (List PV)):Option (List PV):=match x,y with
 |some V,Fb r=>Fb (V::r)|_,_=>Gb
theorem CT{f:PV->Option PV}(I:∀{v:Value}{p G:PV},f p=Fb G->Tb sd v p->Tb g' v G){z u:List PV}{C:ia}(e:Fo f z=Fb u)(V:bc sd C z):bc g' C u:=
 V.ind (P:=λC z=>∀{u},Fo f z=Fb u->bc g' C u) (λe=>jc e▸.nil) (λ{v p D z}V J r{_}e=>by
  have k:∀{x y q},f p=x->Fo f z=y->y8 x y=Fb q->bc g' (v::D) q:=λ{x y q}=>x.casesOn (λJ J e=>nn e) λJ=>y.casesOn (λJ J e=>nn e) λJ H j e=>jc e▸.cons (I H V) (r j);exact k rfl rfl e) e
inductive Tq(hp:Hp)(lo n:Nat):PV->PV->Prop
 |Lb{i:Nat}{b:Bool}{l l':List PV}(h:lo<=i)(e:hp[i]?=Fb (b,.Lb l))(q:Fo (Dj hp lo n) l=Fb l'):Tq hp lo n (.id i) (.Mb (.Lb l'))
 |cell{i:Nat}{b:Bool}{c:Cell}(h:lo<=i)(e:hp[i]?=Fb (b,c))(q:Be c=Hb):Tq hp lo n (.id i) (.Mb c)
 |own{v:PV}(q:Fg 9 v=Hb):Tq hp lo n v v
noncomputable def dQ(f:PV->Option PV)(b:Bool)(x:Option (Bool×Cell)):Option PV:=
 b.casesOn Gb (x.casesOn Gb λp=>p.2.casesOn (λl=>Fb (.Mb (.ints l))) (λl=>Fb (.Mb (.strs l))) λl=>(Fo f l).casesOn Gb λL=>Fb (.Mb (.Lb L)))
noncomputable def YO(v:PV)(b:Bool):Option PV:=b.casesOn Gb (Fb v)
theorem fU{n lo i:Nat}:Dj hp lo (n+1) (.id i)=dQ (Dj hp lo n) (decide (lo<=i)) hp[i]?:=by kernel_rfl
theorem IS{n lo:Nat}{v:PV}(h:∀i,v≠.id i):Dj hp lo (n+1) v=YO v (Fg 9 v):=by
 induction v using PV.casesOn with
 |id i=>exact absurd rfl (h i)|_=>kernel_rfl
theorem vV{v p:PV}{b:Bool}(e:YO v b=Fb p):b=Hb/\v=p:=by
 induction b using Ld with
 |false=>exact nn e|true=>exact⟨rfl,jc e⟩
theorem O0{n lo:Nat}{v p:PV}(e:Dj hp lo (n+1) v=Fb p):Tq hp lo n v p:=by
 by_cases q:∀i,v≠.id i
 ·have z:=vV ((IS q).symm.trans e)
  exact z.2▸.own z.1
 ·refine(Classical.not_forall.mp q).elim λi q=>?_
  rw[Classical.not_not.mp q] at e⊢;have k:∀{b x},decide (lo<=i)=b->hp[i]?=x->dQ (Dj hp lo n) b x=Fb p->Tq hp lo n (.id i) p:=λ{b x}=>b.casesOn (λJ J e=>nn e) (x.casesOn (λJ J e=>nn e) λy=>by
   obtain⟨m,c⟩:=y;intro H j e
   induction c using Cell.casesOn with
   |«ints» l=>exact jc e▸.cell (of_decide_eq_true H) j rfl|«strs» l=>exact jc e▸.cell (of_decide_eq_true H) j rfl|Lb l=>
    have k:∀{z:Option (List PV)},Fo (Dj hp lo n) l=z->(z.casesOn Gb λL=>Fb (.Mb (.Lb L)):Option PV)=Fb p->Tq hp lo n (.id i) p:=λ{z}=>z.casesOn (λJ e=>nn e) λJ Q e=>jc e▸.Lb (of_decide_eq_true H) j Q;exact k rfl e)
  exact k rfl rfl (fU.symm.trans e)
theorem Back.deep(K:Back g sd h Ud hp hc is)(n:Nat):∀{v:Value}{p G:PV},Dj hc is.length n p=Fb G->Tb sd v p->Tb (Wf g sd Ud Gb) v G:=by
 induction n with
 |zero=>exactλe=>nn e|succ n I=>
  intro v p G e V;have c:=O0 e;clear e
  induction c using Tq.casesOn with
  |Lb C e q=>exact V.inv.elim λa y=>Md (K.Sl.Xb a _ y.2) λb c D m z=>y.1▸.Mb (KC (K.new y.2 C) y.2 (λh=>by injection h) z.2.1) rfl (CT I q (by have y:=(ye (jc (z.1.symm.trans e))).2;rw[y] at z;exact z.2.2))|cell C e q=>exact V.inv.elim λa y=>Md (K.Sl.Xb a _ y.2) λb c D m z=>y.1▸.Mb (KC (K.new y.2 C) y.2 (λh=>by injection h) z.2.1) rfl (Jr K.Mb q (congrArg Cell.toList (ye (jc (z.1.symm.trans e))).2▸z.2.2))|own q=>exact my K.Mb 9 q V
inductive Wn(is:ca)(hc:Hp)(mt:Bool)(hp:Hp):PV->PV×Hp->Prop
 |XN{j i:Nat}(hi:is[j]?=Fb i):Wn is hc mt hp (.id j) (.id i,hp)
 |lO{j:Nat}{b:Bool}{c:Cell}(hi:is[j]?=Gb)(h:hc[j]?=Fb (b,c))(q:Be c=Hb):Wn is hc mt hp (.id j) (td mt c hp)
 |DM{j:Nat}{v:PV}(q:Dj hc is.length 9 (.id j)=Fb v):Wn is hc mt hp (.id j) (v,hp)
 |tM{j i:Nat}(hi:is[j]?=Fb i):Wn is hc mt hp (.rc j) (.rc i,hp)
 |cN{j:Nat}{b:Bool}{c:Cell}(hi:is[j]?=Gb)(h:hc[j]?=Fb (b,c))(q:Be c=Hb):Wn is hc mt hp (.rc j) (.rc hp.length,hp++[(Ib,c)])
 |own{r:PV}(q:Fg 9 r=Hb):Wn is hc mt hp r (r,hp)
noncomputable def Fw(o n:Nat->PV×Hp)(m:Cell->PV×Hp)(d:Option PV)(hp:Hp)(x:Option Nat)(y:Option (Bool×Cell)):Rm (PV×Hp):=
 x.casesOn (y.casesOn Gb λp=>(Be p.2).casesOn (d.casesOn Gb λv=>Rm.ret (v,hp)) (Rm.ret (m p.2))) λi=>Rm.ret (o i)
theorem JL{o n:Nat->PV×Hp}{m:Cell->PV×Hp}{d:Option PV}{x:Option Nat}{y:Option (Bool×Cell)}{r:PV×Hp}{R:Prop}(e:Fw o n m d hp x y=Fb (r,Hb))(C:∀i,x=Fb i->o i=r->R)(j:∀b c,x=Gb->y=Fb (b,c)->Be c=Hb->m c=r->R)(H:∀v,d=Fb v->(v,hp)=r->R):R:=by
 induction x using Wd with
 |some i=>exact C i rfl (Rm.Gd e).symm|none=>induction y using Wd with
  |none=>exact nn e|some p=>
   have k:∀{b:Bool},Be p.2=b->(b.casesOn (d.casesOn Gb λv=>Rm.ret (v,hp)) (Rm.ret (m p.2)):Rm (PV×Hp))=Fb (r,Hb)->R:=λ{b}=>b.casesOn (λJ=>d.casesOn (λJ e=>nn e) (λv H e=>H v rfl (Rm.Gd e).symm) H) λq e=>j p.1 p.2 rfl rfl q (Rm.Gd e).symm;exact k rfl e
theorem bX{r:PV}{mt:Bool}{j:Nat}:jk (.id j) is hc mt hp=Fw (λi=>(.id i,hp)) (λi=>(.id i,hp)) (λc=>td mt c hp) (Dj hc is.length 9 (.id j)) hp is[j]? hc[j]?:=by kernel_rfl
theorem jT{r:PV}{mt:Bool}{j:Nat}:jk (.rc j) is hc mt hp=Fw (λi=>(.rc i,hp)) (λi=>(.id i,hp)) (λc=>(.rc hp.length,hp++[(Ib,c)])) Gb hp is[j]? hc[j]?:=by kernel_rfl
noncomputable def NO(v:PV)(hp:Hp)(b:Bool):Rm (PV×Hp):=b.casesOn Gb (Rm.ret (v,hp))
theorem MT{r:PV}{mt:Bool}(h:isObj r=Ib):jk r is hc mt hp=NO r hp (Fg 9 r):=by
 induction r using PV.casesOn with
 |id=>injection h|rc=>injection h|_=>kernel_rfl
theorem VU{v:PV}{b:Bool}{r:PV×Hp}(e:NO v hp b=Fb (r,Hb)):b=Hb/\(v,hp)=r:=by
 induction b using Ld with
 |false=>exact nn e|true=>exact⟨rfl,(Rm.Gd e).symm⟩
theorem wU{r:PV}{mt:Bool}{c:PV×Hp}(e:jk r is hc mt hp=Fb (c,Hb)):Wn is hc mt hp r c:=by
 by_cases q:isObj r=Hb
 ·induction r using PV.casesOn with
  |id j=>exact JL ((bX (r:=.none)).symm.trans e) (λi h z=>z▸.XN h) (λb c h H q z=>z▸.lO h H q) λv q z=>z▸.DM q|rc j=>exact JL ((jT (r:=.none)).symm.trans e) (λi h z=>z▸.tM h) (λb c h H q z=>z▸.cN h H q) λv q=>nn q|_=>injection q
 ·have z:=VU ((MT (Bool.eq_false_iff.mpr q)).symm.trans e)
  exact z.2▸.own z.1
theorem Back.past{j:Nat}(e:is[j]?=Gb):is.length<=j:=List.getElem?_eq_none_iff.mp e
theorem Back.export(K:Back g sd h Ud hp hc is){r:PV}{mt:Bool}(V:Tb sd v r)(e:jk r is hc mt (Ej is hc hp)=Fb ((pv,Ac),Hb)):∃g',tc Ud g' Ac/\Ext g g'/\Tb g' v pv:=by
 have c:=wU e;clear e;have k:∀{q:PV×Hp},Wn is hc mt (Ej is hc hp) r q->∃g',tc Ud g' q.2/\Ext g g'/\Tb g' v q.1:=λ{q}c=>by
  induction c using Wn.casesOn with
  |XN C=>exact V.inv.elim λa z=>⟨Wf g sd Ud Gb,K.Gq,Ext.Wf _ _ _ _,z.1▸.id ((aq (K.old z.2 C▸li)).trans (K.old z.2 C))⟩|lO C h q=>
   refine V.inv.elim λa z=>Md (K.Sl.Xb a _ z.2) λb c G m y=>?_;have T:=K.new z.2 (Back.past C);have u:=Jr (K.Mb (sk:=Gb)) q ((ye (jc (y.1.symm.trans h))).2▸y.2.2);have f:=Jr (K.Mb (sk:=Fb a)) q ((ye (jc (y.1.symm.trans h))).2▸y.2.2);rw[z.1]
   induction mt using Ld with
   |false=>exact⟨Wf g sd Ud Gb,K.Gq,Ext.Wf _ _ _ _,.Mb (KC T z.2 (λh=>by injection h) y.2.1) rfl u⟩|true=>
    have D:Wf g sd Ud (Fb a) a=.free:=CJ T z.2;exact⟨Jc (Wf g sd Ud (Fb a)) a (.Xb (Ej is hc hp).length),K.Gq.oq (.inl D) y.2.1 f (λb x J J e=>e),(Ext.Wf _ _ _ _).trans (Ext.Jc _ D),.id (ze ..)⟩
  |DM q=>exact⟨Wf g sd Ud Gb,K.Gq,Ext.Wf _ _ _ _,K.deep 9 q V⟩|tM C=>exact Md V.inv λa I l o z=>⟨Wf g sd Ud Gb,K.Gq,Ext.Wf _ _ _ _,z.1▸.rc (K.Mb _ _ z.2.1) (K.Mb _ _ z.2.2.1) z.2.2.2.1 ((aq (K.old z.2.2.2.2 C▸li)).trans (K.old z.2.2.2.2 C))⟩|cN C h q=>
   refine Md V.inv λa I l o z=>Md (K.Sl.Xb l _ z.2.2.2.2) λb c G m y=>?_;have f:=Jr (K.Mb (sk:=Fb l)) q ((ye (jc (y.1.symm.trans h))).2▸y.2.2);have D:Wf g sd Ud (Fb l) l=.free:=CJ (K.new z.2.2.2.2 (Back.past C)) z.2.2.2.2;have X:=Ext.Jc (.Xb (Ej is hc hp).length) D;exact⟨_,K.Gq.oq (.inl D) y.2.1 f (λb x J J e=>e),(Ext.Wf _ _ _ _).trans X,z.1▸.rc (X.at (K.Mb _ _ z.2.1) fz) (X.at (K.Mb _ _ z.2.2.1) fz) z.2.2.2.1 (ze ..)⟩
  |own q=>exact⟨Wf g sd Ud Gb,K.Gq,Ext.Wf _ _ _ _,my K.Mb 9 q V⟩
 exact k c
end
end
def uj(w:xd)(B:Heap)(d:Nat)(F:Dc)(k:Nat)(a:Ub)(mk:ia->Args):Prop:=
 ∀(A:Dd)(R:Result->Vb->Prop)(g:Gh)(s:Vb)(y:ia)(x:List PV)(C:Hp)(r:PV)(e:Hp),Cc d A->(∀b o,B.get? b=Fb o->g b=.out o\/g b=.Mb o)->tc s.heap g C->bc g y x->F.fn k x C=Fb ((r,e),Hb)->
  (∀v Y G,tc Y.heap G e->Ext g G->Tr s Y->Tb G v r->R (.ok (.ret v)) Y)->qi (Qb pw w) A (.call (.ref a) (mk y)) R s
noncomputable def Bd(w:ia):Args:=⟨w,[]⟩
section
inductive Ro(F:Dc)(k:Nat)(mt:Bool)(hp:Hp)(Hg:List PV)(c:PV×Hp):Prop
 |mk{as:List PV}{is:ca}{cs:Hp}{r:PV×Hp}(ha:ug Hg 0=Fb (as,is))(hn:Gj is=Hb)(hcs:kj hp is=Fb cs)(IP:(cs.all λc=>Be c.2)=Hb)(h:F.fn k as cs=Fb (r,Hb))
  (kP:((r.2.take is.length).all λc=>Be c.2)=Hb) (e:jk r.1 is r.2 mt (Ej is r.2 hp)=Fb (c,Hb)):Ro F k mt hp Hg c
noncomputable def iO(I:ca)(mt:Bool)(h:Hp)(r:PV×Hp)(b:Bool):Rm (PV×Hp):=b.casesOn Gb (jk r.1 I r.2 mt (Ej I r.2 h))
noncomputable def jO(F:Dc)(k:Nat)(mt:Bool)(h:Hp)(a:List PV)(I:ca)(C:Hp)(b:Bool):Rm (PV×Hp):=b.casesOn Gb (Rm.bind (F.fn k a C) λr=>iO I mt h r ((r.2.take I.length).all λc=>Be c.2))
noncomputable def callC(F:Dc)(k:Nat)(mt:Bool)(h:Hp)(a:List PV)(I:ca)(x:Option Hp):Rm (PV×Hp):=x.casesOn Gb λC=>jO F k mt h a I C (C.all λc=>Be c.2)
noncomputable def aO(F:Dc)(k:Nat)(mt:Bool)(h:Hp)(a:List PV)(I:ca)(b:Bool):Rm (PV×Hp):=b.casesOn Gb (callC F k mt h a I (kj h I))
noncomputable def YN(F:Dc)(k:Nat)(mt:Bool)(h:Hp)(x:Option (List PV×ca)):Rm (PV×Hp):=x.casesOn Gb λp=>aO F k mt h p.1 p.2 (Gj p.2)
theorem lX{mt:Bool}:de F k p mt h=YN F k mt h (ug p 0):=by kernel_rfl
theorem tY{mt:Bool}(e:de F k Y mt h=Fb (c,Hb)):Ro F k mt h Y c:=by
 have J:∀{a I C r b},ug Y 0=Fb (a,I)->Gj I=Hb->kj h I=Fb C->(C.all λc=>Be c.2)=Hb->F.fn k a C=Fb (r,Hb)->((r.2.take I.length).all λc=>Be c.2)=b->iO I mt h r b=Fb (c,Hb)->Ro F k mt h Y c:=
  λ{a I C r b}=>b.casesOn (λK K K K K K e=>nn e) λH j Q d h5 T=>.mk H j Q d h5 T
 have B:∀{a I C b},ug Y 0=Fb (a,I)->Gj I=Hb->kj h I=Fb C->(C.all λc=>Be c.2)=b->jO F k mt h a I C b=Fb (c,Hb)->Ro F k mt h Y c:=
  λ{a I C b}=>b.casesOn (λK K K K e=>nn e) λH j Q d e=>(Rm.bind_some e).elim λr z=>J H j Q d z.1 rfl z.2
 have f:∀{a I b},ug Y 0=Fb (a,I)->Gj I=b->aO F k mt h a I b=Fb (c,Hb)->Ro F k mt h Y c:=
  λ{a I b}=>b.casesOn (λK K e=>nn e) λH j=>by
   have g:∀{x},kj h I=x->callC F k mt h a I x=Fb (c,Hb)->Ro F k mt h Y c:=λ{x}=>x.casesOn (λK e=>nn e) λC Q e=>B H j Q rfl e;exact g rfl
 have L:∀{x},ug Y 0=x->YN F k mt h x=Fb (c,Hb)->Ro F k mt h Y c:=λ{x}=>x.casesOn (λK e=>nn e) λp H e=>f H rfl e;exact L rfl (lX.symm.trans e)
theorem Back.e_(K:Back g G h y a d I)(O:g b=.Hc\/∃x,g b=.out x)(q:h.get? b=Fb o):y.get? b=Fb o:=
 O.elim (λz=>K.outs z pz (λJ h=>by injection h) (λJ h=>by injection h) q) λz=>z.elim λJ z=>K.outs z ou (λJ h=>by injection h) (λJ h=>by injection h) q
theorem ru{E:ja}{mt:Bool}(L:uj w B d F k a mk)(J:Cc d A)(R:Wb B l U p f g s.heap)(V:bc g y t)(e:de F k t mt f=Fb ((u,x),Hb))
  (post:Xc B l U p x u g s Q):qi (Qb pw w) A (.call (.ref a) (mk y)) (λr Y=>match r with|.ok (.ret v)=>Q v Y|.ok _=>False|.error e=>E e Y) s:=by
 have c:=tY e;clear e
 induction c using Ro.casesOn with
 |@mk C I N r D h H O G kP e=>
  refine L A _ (fe g s.heap I) s y C N r.1 r.2 J (Ux R.hr R.base) (R.hr.fe h H O) (lT h D (λm i q=>by rw[Ii];exact q) V) G λv Y sd Sl X T Ui=>?_;have K:Back g sd s.heap Y.heap f r.2 I:=⟨R.hr,Sl,X,h,λj i q=>
   have hj:=(nu H).1▸(List.getElem?_eq_some_iff.mp q).1
   (List.getElem?_eq_some_iff.mp (((nu H).2 j i q).symm.trans (De hj))).1,kP⟩
  exact(K.export Ui e).elim λg' z=>post v Y g' ⟨Wb.baseExt R.base z.2.1.n,z.1,R.er.keep z.2.1.n λb o hb q=>K.e_ hb q⟩ z.2.1 T z.2.2
open Classical in
noncomputable def Lj(g:Gh)(L:Ub)(C:List (Str×Ub)):Gh:=λa=>if a=L\/∃n,C.lookup n=Fb a then .Hc else g a
theorem uI{K:Str->Option gf}:∀(l:List (Str×Value))(m:Str->Option Value),(∀y∈l,y.1≠x)->bindL K l m x=m x
 |[],_,_=>rfl|(n,v)::l,m,h=>by
  have H:n≠x:=h (n,v) Fd;show bindL K l _ x=m x;refine(uI l _ λy a=>h y (Ee _ a)).trans ?_
  split
  ·exact if_neg (λq=>H q.symm)
  ·rfl
theorem oI{K:Str->Option gf}:∀(l:List (Str×Value))(m:Str->Option Value),(∀y∈l,y.1≠x)->bindC K l m x=m x
 |[],_,_=>rfl|(n,v)::l,m,h=>by
  have H:n≠x:=h (n,v) Fd;show bindC K l _ x=m x;refine(oI l _ λy a=>h y (Ee _ a)).trans ?_
  split
  ·rfl
  ·exact if_neg (λq=>H q.symm)
theorem xZ{K:Str->Option gf}(Y:K x=Fb .local):∀{z:List Str}{V:ia}{i:Nat}{m:Str->Option Value},gh z=Hb->z[i]?=Fb x->V[i]?=Fb v->bindL K (z.zip V) m x=Fb v:=by
 intro z
 induction z with
 |nil=>exactλJ h=>by injection h
 |cons p z I=>
  intro V i m H A j
  induction V using xc with
  |nil=>injection j|cons u V=>
   induction i using jf with
   |zero=>
    rw[jc A] at H;rw[jc A,jc j];show bindL K (z.zip V) _ x=Fb v;refine(uI _ _ λy a(q:y.1=x)=>(Hl H).1 (q▸(vx a).1)).trans ?_;rw[if_pos Y];exact if_pos rfl
   |succ i=>exact I (Hl H).2 A j
theorem M1{K:Str->Option gf}(Y:K x≠Fb .local):∀{z:List Str}{V:ia}{i:Nat}{m:Str->Option Value},gh z=Hb->z[i]?=Fb x->V[i]?=Fb v->bindC K (z.zip V) m x=Fb v:=by
 intro z
 induction z with
 |nil=>exactλJ h=>by injection h
 |cons p z I=>
  intro V i m H A j
  induction V using xc with
  |nil=>injection j|cons u V=>
   induction i using jf with
   |zero=>
    rw[jc A] at H;rw[jc A,jc j];show bindC K (z.zip V) _ x=Fb v;refine(oI _ _ λy a(q:y.1=x)=>(Hl H).1 (q▸(vx a).1)).trans ?_;rw[if_neg Y];exact if_pos rfl
   |succ i=>exact I (Hl H).2 A j
structure Params(sc:Scope)(ps:List Str):Prop where
 kind:sc.kind=.function
 nodup:gh (sc.names.map (·.1))=Hb
 head:(sc.names.take ps.length).map (·.1)=ps
 kinds:∀x∈sc.names,x.2=.local\/x.2=.cell\/x.2=.globalImplicit
 own:∀x∈sc.names.take ps.length,x.2=.local\/x.2=.cell
theorem fX{N:List (Str×gf)}(H:gh (N.map (·.1))=Hb)(h:x∈N):N.lookup x.1=Fb x.2:=by
 induction N with
 |nil=>cases h
 |cons y r I=>
  refine(Hl H).elim λA j=>?_;obtain⟨Y,g⟩:=y;rcases List.mem_cons.mp h with rfl|h
  ·exact Uw
  ·refine List.lookup_cons.trans ?_
   have:(x.1==Y)=Ib:=by
    by_cases e:x.1=Y
    ·exact(A (by rw[<-e];exact KG (f:=(·.1)) h)).elim
    ·simpa using e
   rw[this];exact I j h
theorem RH:∀{l:List Str}(n:Nat),gh l=Hb->gh (l.take n)=Hb
 |[],n,_=>by simp;rfl
 |x::r,0,_=>rfl|x::r,n+1,h=>by
  refine(Hl h).elim λH j=>?_;show(!(r.take n).contains x&&gh (r.take n))=Hb;rw[RH n j,ur,bn]
  cases q:(r.take n).contains x with
  |false=>rfl|true=>exact(H (ZG (List.contains_iff_mem.mp q))).elim
theorem mS(H:gh (N.map (·.1))=Hb)(h:(x,k)∈N):∃i,slotIn N x 0=Fb (i,k):=by
 have key:∀(N:List (Str×gf))(j:Nat),gh (N.map (·.1))=Hb->(x,k)∈N->∃i,slotIn N x j=Fb (i,k):=by
  intro N
  induction N with
  |nil=>intro j J h;cases h
  |cons y r I=>
   intro j H h;obtain⟨Y,g⟩:=y;obtain⟨A,l⟩:=Hl H;show∃i,(if x==Y then Fb (j,g) else slotIn r x (j+1))=Fb (i,k)
   by_cases e:x=Y
   ·subst e
    rw[if_pos (by simp)];rcases List.mem_cons.mp h with q|q
    ·cases q;exact⟨j,rfl⟩
    ·exact(A (KG (f:=(·.1)) q)).elim
   ·rw[if_neg (by simpa using e)]
    refine(List.mem_cons.mp h).elim (λq=>?_) λq=>?_
    ·obtain⟨rfl,rfl⟩:=ye q;exact(e rfl).elim
    ·exact I (j+1) l q
 exact key N 0 H h
noncomputable def Cg(s:Scope)(p:List PV):Loc:=p.map Fb++Sk (s.names.length-p.length) Gb
theorem UR{i:Nat}(h:(Cg s p)[i]?=Fb (Fb e)):p[i]?=Fb e:=by
 unfold Cg at h
 by_cases q:i<p.length
 ·replace h:=(qG (by simpa using q)).symm.trans h;replace h:=(bg).symm.trans h
  obtain⟨x,H,j⟩:=Option.map_eq_some_iff.mp h;refine lg j ?_;exact H
 ·rw[YQ (by simpa using oi q)] at h
  have:=bh h;rw[List.mem_replicate] at this;injection this.2
theorem PB{code:Value}(N:Params l p)(hb:∀b o,B.get? b=Fb o->g b=.out o\/g b=.Mb o)(H:tc s.heap g J)(V:bc g D d)(hl:d.length=p.length)
  (M5:O=th (s.heap.objs.size+1) l.names [])(Y:E=newEnv l L pi O qual func code Gb qh)
  (I:InCallC s E.locals (bindL E.kindOf (p.zip D) λK=>Gb) E.cells (bindC E.kindOf (p.zip D) λK=>Gb) w):
  Wb B l E (Cg l d) J (Lj g E.locals E.cells) w.heap/\Ext g (Lj g E.locals E.cells)/\Tr s w:=by
 have keep:=I.toInCall.keep;have fresh:=I.toInCall.fresh;have G:∀{x:Str}{k:gf},l.names.lookup x=Fb k->E.kindOf x=Fb k:=λh=>by rw[Y];exact h
 have ec:E.cells=O:=by rw[Y];rfl
 have up:∀a,(a=E.locals\/∃n,E.cells.lookup n=Fb a)->s.heap.objs.size<=a:=λa h=>by
  rcases h with rfl|⟨n,hn⟩
  ·exact fresh
  ·exact Df (Nf fresh (I.above n a (mem_of_lookup hn)))
 have X:Ext g (Lj g E.locals E.cells):=λa t=>by
  unfold Lj;rw[if_neg];intro q;exact t (H.fresh (up a q))
 have gL:Lj g E.locals E.cells E.locals=.Hc:=by unfold Lj;exact(if_pos (.inl rfl))
 have gC:∀n a,E.cells.lookup n=Fb a->Lj g E.locals E.cells a=.Hc:=λn a h=>by
  unfold Lj;exact(if_pos (.inr ⟨n,h⟩))
 have H':tc w.heap (Lj g E.locals E.cells) J:=by
  refine H.grow keep (λa t=>X a t) λa t=>?_
  by_cases q:a=E.locals\/∃n,E.cells.lookup n=Fb a
  ·refine .inr (.inl ⟨by unfold Lj;rw[if_pos q],?_⟩)
   rcases q with rfl|⟨n',Y'⟩
   ·refine ge I.toInCall.ns λo es ep C=>ql C λe K=>?_;clear C
    exact⟨o,e⟩
   ·refine(I.cell n' a Y').elim λo m=>?_
    have e:=m.1;exact⟨o,e⟩
  ·left
   unfold Lj;exact(if_neg q).trans t
 have U:∀{x:Str}{i:Nat}{k:gf}{f:PV},slotIn l.names x 0=Fb (i,k)->(Cg l d)[i]?=Fb (Fb f)->p[i]?=Fb x/\∃v,D[i]?=Fb v/\Tb g v f:=λ{x i k f}z Q=>by
  have A:=UR Q;have UP:=(List.getElem?_eq_some_iff.mp A).1;have hg:=slot_get z;rw[LG] at hg;refine⟨?_,V.get A⟩;have:((l.names.take p.length).map (·.1))[i]?=Fb x:=by
   refine(bg).trans ?_;rw[List.getElem?_take,if_pos (by exact dc ‹_› (yl ‹_›)),hg];rfl
  rw[N.head] at this;exact this
 have Uz:gh p=Hb:=by
  rw[<-N.head,bu];exact RH _ N.nodup
 refine⟨⟨Wb.baseExt hb X.n,H',?_⟩,X,?_⟩
 ·refine{kind:=by rw[Y];exact N.kind,ph:=by rw[Y];rfl,blt:=by rw[Y];rfl,len:=?_,Ug:=gL,own:=⟨_,I.toInCall.ns,λx i z=>⟨G (Kp z),λf Q=>?_⟩⟩,aj:=λx i z=>?_,Pk:=λx i z=>?_,apart:=λx y a i j z hj A r=>?_,Yi:=λx i z=>G (Kp z)}
  ·unfold Cg
   have:p.length<=l.names.length:=by
    have:=congrArg mn N.head;rw[Uc,vr] at this
    lia
   simp;exact ao (hl▸this)
  ·obtain⟨A,v,r,T⟩:=U z Q
   exact⟨v,xZ (G (Kp z)) Uz A r,T.ext X⟩
  ·have hk:=G (Kp z)
   refine(iB (n:=s.heap.objs.size+1) (acc:=[]) z N.nodup).elim λa m=>?_;have A:=m.1;have r:=m.2;have u:E.cells.lookup x=Fb a:=by rw[ec,M5];exact A
   refine⟨hk,a,_,u,gC _ _ u,ri (I.above _ _ (mem_of_lookup u)),I.cell x a u,λf Q=>?_⟩;refine(U z Q).elim λT m=>m.elim λv VP=>?_;have h4:=VP.1;have h5:=VP.2;exact⟨v,M1 (by rw[hk];intro h;cases h) Uz T h4,h5.ext X⟩
  ·rcases N.kinds _ (Yp z) with q|q|q<;>injection q
  ·exact name_of_addr I.apart (mem_of_lookup A) (mem_of_lookup r)
 ·refine Mc I.done λh' tk C=>ql C λe K=>?_;clear C
  rw[e];exact Tr.heap s h' tk
end
structure Bk(B:Heap)(a:Ub)(fd:FuncData)(sc:Scope)(body:List jd):Prop where
 obj:∃o,B.get? a=Fb o/\o.data=.func fd
 scope:fd.scope=sc
 body:fd.body=.stmts body
 kc:fd.globals=pi
 yw:fd.closure=[]
 blt:fd.builtins=qh
 code:B.CodeRec fd.code fd.qualname
 co:sc.isCoroutine=Ib
 lim:B.NoLimit
def ie(B:Heap)(l:FuncData)(p:List Str)(mk:ia->Args)(d:List PV->List PV)(O:Nat->Prop):Prop:=
 ∀(g:Gh)(w:ia)(a:List PV),O a.length->bc g w a->∃f,bc g f (d a)/\f.length=p.length/\
  ∀(M:Model)(A:Dd)(E:ja)(Q:List (Str×Value)->Vb->Prop)(s:Vb),(∀b o,B.get? b=Fb o->s.heap.get? b=Fb o)->Q (p.zip f) s->Pb M A (vo l (mk w)) Q E s
section
theorem Cc.deeper(h:Cc (d+1) A):Cc d (A.deeper e):=⟨h.hand,Z8 h.units,G7 h.depth⟩
theorem UM(h:Params s p)(x:Str×Value)(O:x∈p.zip f):s.names.lookup x.1=Fb .local\/(s.names.lookup x.1=Fb .cell/\((th n s.names []).lookup x.1).isSome=Hb):=by
 have A:x.1∈p:=(vx O).1;rw[<-h.head] at A;refine(List.mem_map.mp A).elim λy H=>?_;have N:=ZG H.1;have z:=fX h.nodup N;rw[<-H.2,z];refine(h.own y H.1).imp (congrArg Fb) λq=>⟨congrArg Fb q,(mS h.nodup N).elim λi B=>?_⟩;obtain⟨c,d,J⟩:=iB (q▸B) h.nodup;rw[d];rfl
theorem eZ{B:Heap}{s:Vb}(h:∀b o,B.get? b=Fb o->g b=.out o\/g b=.Mb o)(H:tc s.heap g C)(b:Ub)(o:Obj)(q:B.get? b=Fb o):s.heap.get? b=Fb o:=(h b o q).elim (H.out b o) (H.Mb b o)
theorem gy(x:Bk B a m j body)(D:j.isGenerator=Ib)(L:Params j p)(r:ie B m p mk t u)(Q:u as.length)(N:Cc (d+1) A)(O:∀b o,B.get? b=Fb o->g b=.out o\/g b=.Mb o)(H:tc s.heap g T)(V:bc g y as)
  (h:∀(E:Env)(J:Vb),Wb B j E (Cg j (t as)) T (Lj g E.locals E.cells) J.heap->Ext g (Lj g E.locals E.cells)->Tr s J->E.frame=Fb E.locals->g E.locals=.free->Cc d (A.deeper E)->
   Pb (Qb pw w) (A.deeper E) (kf body E) (λf Y=>R (.ok (.ret (match f with|.ret v=>v|_=>.none))) Y) (λe Y=>Pb (Qb pw w) (A.deeper E) (leaving E e) (λK k=>R (.error e) k) (λG k=>R (.error G) k) Y) J):
  qi (Qb pw w) A (.call (.ref a) (mk y)) R s:=by
 have stays:=eZ O H;refine x.obj.elim λo C=>?_;refine(r g y as Q V).elim λU z=>codeAny_call_function (eO N.depth) (stays _ _ C.1) C.2 (by rw[x.scope];exact x.co) (by rw[x.scope];exact D) x.body (x.code.keeps stays) (z.2.2 _ _ _ _ _ stays ?_);rw[x.scope,x.kc,x.yw,x.blt];refine ZQ L.kind (UM L) λE l J I=>?_;have q:=PB L O H z.1 (z.1.length.symm.trans z.2.1) rfl l I;exact⟨(x.lim.keeps stays).keeps I.toInCall.keep,codeAny_func (h E J q.1 q.2.1 q.2.2 (by rw[l];rfl) (H.fresh I.toInCall.fresh) N.deeper)⟩
theorem nT(y:Bk B a o j body)(D:j.isGenerator=Ib)(N:Params j p)(t:ie B o p mk u O)
  (h:∀x C r b,F.fn k x C=Fb ((r,b),Hb)->O x.length/\∃L l,Rz w B d body j (Cg j (u x)) C L l b/\(L=.ret r\/L=.next/\r=.none)):
  uj w B (d+1) F k a mk:=by
 intro A R g s ws x C r b I Q H V e post;refine gy y D N t (h x C r b e).1 I Q H V λE J G Y T K K U=>?_;refine(h x C r b e).2.elim λL z=>z.elim λl z=>z.1 (A.deeper E) E _ J _ _ U G λf jg sd nf Vg mf m=>post _ jg sd nf.hr (Y.trans Vg) (T.trans mf) ?_;refine z.2.elim (λq=>?_) λq=>?_
 ·subst q
  cases m with|ret hv=>exact hv
 ·rw[q.2]
  have q:=q.1;subst q
  cases m
  exact .none
theorem si(h:∀D:ia,D.length=p.length->vo f ⟨D,[]⟩=pure (p.zip D)):ie B f p Bd id (·=p.length):=by
 intro g w a T V;have H:=by exact V.length.trans T
 refine⟨w,V,H,λM A E Q s J q=>?_⟩;show Pb M A (vo f ⟨w,[]⟩) Q E s;rw[h w H];exact vc q
end
structure Fk(K:Ad):Prop where
 cls:∃cd,clsIn K 259=Fb cd/\cd.hasDict=Hb
 own:ij K (.ref 259) oa=Fb Gb
 ga:ij K (.ref 259) "__getattribute__"=Fb (Fb (.builtin "object.__getattribute__"))
 TP:ij K (.ref 259) "__getattr__"=Fb Gb
 conv:ij K (.ref 259) na=Fb (Fb (.ref 158))
 set:ij K (.ref 259) qa=Fb (Fb (.ref 172))
 del:ij K (.ref 259) ra=Fb (Fb (.ref 177))
 get:ij K (.ref 259) sa=Fb (Fb (.ref 206))
 keys:ij K (.ref 259) ta=Fb (Fb (.ref 211))
 items:ij K (.ref 259) ua=Fb (Fb (.ref 223))
 init:ij K (.ref 259) va=Fb (Fb (.ref 151))
 fns:∀f,f∈[151,158,172,177,206,211,223]->typeIn K (.ref f)=Fb (.type "function")
 seq:noSeq K 259=Hb
 makes:makesIn K 259=Hb
 over:plainOver K 259=Hb
 q9:ij K (.ref 259) "__setattr__"=Fb (Fb (.builtin "object.__setattr__"))
section
theorem fC(h:Dn o l):lookIn oa o=Fb (Fb (.ref l))/\∀n:Str,n≠oa->lookIn n o=Fb Gb:=by
 obtain⟨p,t,n,rfl⟩:=h;constructor
 ·unfold lookIn
  simp[Value.isStr]
 ·intro m H
  unfold lookIn;have:¬(oa=m):=λe=>H e.symm;simp[Value.isStr,this,DictEntry.refKey]
theorem oy{s:Vb}(R:tc s.heap g e)(h:Tb g v (.rc k)):∃a d l o,v=.ref a/\InstAt s.heap a (gt d) 259 (Fb o)/\Dn o l/\g l=.Xb k:=by
 refine Qc λG V=>?_;obtain⟨J,J,J,J,rfl,H,j,Q,b⟩:=Tb.inv h;refine V ?_;exact⟨_,_,_,_,rfl,⟨R.Mb _ _ H,rfl,rfl,R.Mb _ _ j⟩,Q,b⟩
theorem wZ{K:Ad}(H:Fk K)(X:K.In s.heap)(R:tc s.heap g b)(T:Tb g v (.rc k))(h:∀l,g l=.Xb k->Q (.ref l) {s with toks:=s.toks+1}):Pb (Qb pw w) A (getAttr v oa expr) Q E s:=by
 refine Qc λG V=>?_;obtain⟨a,D,l,o,rfl,I,U,x⟩:=oy R T;obtain⟨C,d,j⟩:=H.cls;refine V ?_;refine get_value X I H.ga ?_ rfl (h l x);unfold findObj W.ownOf;rw[d,H.own];simp only [Option.bind_some,j,if_true,(fC U).1]
theorem T3{K:Ad}(h:Fk K)(H:K.In B)(O:Hh o=Hb)(z:Yc w B d o j l b (.rc i) T):Yc w B d (.Attribute o oa p) j l b (.id i) T:=by
 intro A U g s E Q I R post;rw[arm_eval_Attribute,wo O];refine Ob (z A U g s E _ I R λC J G r x t V=>Ob (gj (Ob (Zg ?_))));refine wZ h (λa o e=>r.stays _ _ (H a o e)) r.hr V λL y=>?_;refine Ob (GQ (vc ?_));exact post _ _ G r x (t.trans (Tr.heap J J.heap _)) (.id y)
theorem dI{K:Ad}(H:Fk K)(X:K.In s.heap)(R:tc s.heap g b)(Q:Tb g v (.rc k))(x:name≠oa)
  (T:ij K (.ref 259) name=Fb (Fb (.ref f)))(D:typeIn K (.ref f)=Fb (.type "function"))(h:q (.ref f,[v]) s):Pb (Qb pw w) A (getMethod v name p) q E s:=by
 refine Qc λG V=>?_;obtain⟨a,d,l,o,rfl,I,U,y⟩:=oy R Q;refine V ?_;refine method_fn X I H.ga H.TP T D ?_ h;show(lookIn name o).map (·.isSome)=Fb Ib;rw[(fC U).2 name x];rfl
theorem jC{K:Ad}(Y:Fk K)(N:K.In B){mt:Bool}(b:m≠oa)(t:ij K (.ref 259) m=Fb (Fb (.ref f)))(D:typeIn K (.ref f)=Fb (.type "function"))
  (H:∃o l,B.get? f=Fb o/\o.data=.func l)(O:uj w B d F k f Bd)
  (u:Hh o=Hb)(I:(L.endLine==p.line)=Hb)(hlen:y.length<20)(J:Yc w B d o j U hp (.rc i) dd)(has:Tj w B d y j U dd Hg Nd)(z:se y)
  (e:de F k (.rc i::Hg) mt Nd=Fb ((pv,Ac),Hb)):Yc w B d (.Call (.Attribute o m L) y [] p) j U hp pv Ac:=by
 intro A T g s E Q h R post;rw[arm_eval_Call,wo u];refine Ob (J A T g s E _ h R λov Zd Mf r Ek ig V=>Ob (gj ?_));have Iv:wx (y.length+([]:List Keyword).length) (Tk p (yj y T)) (Uk p (Vk [] T))=Hb:=by
  unfold wx;rw[qu z,kr,show(Uk p (Vk [] T)).all (λx=>x.1.isSome)=Hb from rfl,kr];exact decide_eq_true (by simp only [gm,DQ,if_true];exact dc ‹_› (by decide))
 have Uv:xx Hb o T L p=pure p:=by unfold xx;simp[I]
 unfold methodCall;rw[Iv];refine Ob (Zg (dI Y (λa o e=>r.stays _ _ (N a o e)) r.hr V b t D ?_));refine Ob (Hi Uv ?_);refine Mc H λob l C=>ql C λh1 h2=>?_;clear C H;refine Calls.callWith_function (gk has z h r λvs s' g' G q T' V'=>⟨⟨G.stays _ _ h1,h2⟩,?_⟩);exact pn (ru O h G (.cons (V.ext q) V') e (post.step (Ek.trans q) (ig.trans T')))
noncomputable def Lq(w:ia):Args:=⟨w.take 2,[(ma,w.getD 2 .none)]⟩
theorem vU{K:Ad}(hK:Fk K)(hX:K.In B){mt:Bool}(hm:m≠oa)(hf:ij K (.ref 259) m=Fb (Fb (.ref f)))(ht:typeIn K (.ref f)=Fb (.type "function"))
  (u:∃o l,B.get? f=Fb o/\o.data=.func l)(hF:uj w B d F k f Lq)
  (hb:Hh o=Hb)(hl:(N.endLine==p.line)=Hb)(hlen:z.length=1)(ho:Yc w B d o j L hp (.rc i) dd)(has:Tj w B d z j L dd b Nd)(C:se z)(zP:b.length=z.length)(hv:Yc w B d Y j L Nd y Gv)
  (e:de F k (.rc i::b++[y]) mt Gv=Fb ((pv,Ac),Hb)):Yc w B d (.Call (.Attribute o m N) z [⟨Fb ma,Y,kp⟩] p) j L hp pv Ac:=by
 refine(List.length_eq_one_iff.mp hlen).elim λa1 zz1=>?_;obtain rfl:=zz1;intro A T g s E Q h R post;rw[arm_eval_Call,wo hb];refine Ob (ho A T g s E _ h R λO Zd Mf r Ek ig G=>Ob (gj ?_));have Iv:wx ([a1].length+[(⟨Fb ma,Y,kp⟩:Keyword)].length) (Tk p (yj [a1] T)) (Uk p (Vk [⟨Fb ma,Y,kp⟩] T))=Hb:=by
  unfold wx;rw[qu C,kr,show(Uk p (Vk [⟨Fb ma,Y,kp⟩] T)).all (λx=>x.1.isSome)=Hb from rfl,kr]
  rfl
 have Uv:xx Hb o T N p=pure p:=by unfold xx;simp[hl]
 unfold methodCall;rw[Iv];refine Ob (Zg (dI hK (λa o e=>r.stays _ _ (hX a o e)) r.hr G hm hf ht ?_));refine Ob (Hi Uv ?_);refine Mc u λI l J=>ql J λh1 h2=>?_;clear J u;have q:=has A T Mf Zd E (λD s'=>Pb (Qb pw w) A (evalAll ((Uk p (Vk [⟨Fb ma,Y,kp⟩] T)).map (·.2))) (λU H=>(H.heap.get? f=Fb I/\I.data=.func l)/\
   Pb (Qb pw w) A (call (.ref f) ([O]++(⟨D,((Uk p (Vk [⟨Fb ma,Y,kp⟩] T)).filterMap (·.1)).zip U⟩:Args).pos) (⟨D,((Uk p (Vk [⟨Fb ma,Y,kp⟩] T)).filterMap (·.1)).zip U⟩:Args).kw) Q E H) E s') p h r λD H sd nf Vg mf Ui=>?_
 ·rw[qm (C a1 Fd)] at q⊢
  exact callWith_function_kw (evalArgs_kw rfl q)
 ·refine wpAny_evalAll_cons (Ob (hv A T sd H E _ h nf λMP Mh zh Pm t Ve ml=>Ob (gj (vc (wpAny_evalAll_nil ?_)))))
  refine⟨⟨Pm.stays _ _ h1,h2⟩,?_⟩;have hvl:=List.length_eq_one_iff.mp (Ui.length.trans zP);obtain⟨v1,rfl⟩:=hvl;have V:bc zh [O,v1,MP] (.rc i::b++[y]):=by
   have:=(bc.cons (G.ext (Vg.trans t)) (Ui.ext t)).append (.cons ml .nil);exact this
  exact pn (ru hF h Pm V e (post.step (Ek.trans (Vg.trans t)) (ig.trans (mf.trans Ve))))
theorem W3{K:Ad}(h:Fk K)(N:K.In B)(L:uj w B d F 20 172 Bd){nm:ca}(J:Cc d A)(R:Wb B k T l b g s.heap)(H:Tb g O (.rc j))(m:Tb g G (.str nm))(Q:Tb g V v)
  (e:de F 20 [.rc j,.str nm,v] Ib b=Fb ((.none,U),Hb))(post:wh B k T l U g s x):Pb (Qb pw w) A (ln O G V) x E s:=by
 have X:K.In s.heap:=λa o q=>R.stays _ _ (N a o q);have call:=ru (E:=E) L J R (.cons H (.cons m (.cons Q .nil))) e λv Y u r f t Z=>post Y u r f t;obtain⟨a,D,p,y,rfl,I,C,hl⟩:=oy R.hr H;unfold ln aH;refine Zg (Ob (Ob (I.type.here ?_)));refine Ob ((anyM_none X h.seq).here ?_);refine Po (by exact(if_pos (show(!Ib)=Hb from rfl))) ?_;exact vc (Ob (special_fn X I h.set (h.fns 172 (by decide)) (Yd (pn call) (λZ Z z=>vc z) λZ Z z=>z)))
theorem l3{K:Ad}(h:Fk K)(N:K.In B)(L:uj w B d F 21 177 Bd){nm:ca}(J:Cc d A)(R:Wb B k T l b g s.heap)(H:Tb g O (.rc j))(m:Tb g G (.str nm))
  (e:de F 21 [.rc j,.str nm] Ib b=Fb ((.none,U),Hb))(post:wh B k T l U g s Q):Pb (Qb pw w) A (delItem O G) Q E s:=by
 have X:K.In s.heap:=λa o q=>R.stays _ _ (N a o q);have call:=ru (E:=E) L J R (.cons H (.cons m .nil)) e λv Y u r x t Z=>post Y u r x t;obtain⟨a,D,f,p,rfl,I,V,y⟩:=oy R.hr H;unfold delItem aH;refine Zg (Ob (Ob (I.type.here ?_)));refine Ob ((anyM_none X h.seq).here ?_);refine Po (by exact(if_pos (show(!Ib)=Hb from rfl))) ?_;exact vc (Ob (special_fn X I h.del (h.fns 177 (by decide)) (Yd (pn call) (λZ Z z=>vc z) λZ Z z=>z)))
end
section
theorem Y3{K:Ad}(Y:Fk K)(X:K.In s.heap)(I:InstAt s.heap x (gt d) 259 (Fb Wk))
  (h:∀f o t,(s.heap.update d f).get? d=Fb o->Dn o l->Q () {s with heap:=s.heap.update d f,toks:=t}):Pb (Qb pw w) A (setAttr (.ref x) oa (.ref l)) Q E s:=by
 refine Y.cls.elim λC z=>z.elim λg j=>?_;refine set_plain X I Y.q9 (osa_open X I Y.over (by unfold takerIn;rw[Y.own];rfl) λb=>?_);obtain⟨N,k,y,H⟩:=I;have H:s.heap.get? d=Fb Wk:=H;have N:=N;refine Ob (vc (Ob (Ob (wpAny_loadPart N (Ob (Looks.here (looks_clsIn X g) ?_))))));refine Po (by rw[j]) ?_;refine vc (Ob (vc (Ob ?_)));unfold nsSet;refine Ob (Ob (wpAny_askSetting (vc (Ob (wpAny_mkText (Ob (wpAny_loadPart H ?_)))))));dsimp only;have c:((!(#[]:Array DictEntry).any (·.key.isStr oa))&&(#[]:Array DictEntry).any (·.refKey))=Ib:=by simp
 rw[aRefKeyMayBeTheName_at,c];refine wpAny_updatePart H ?_;have D:=λhash T=>by
  have e:Obj.putName oa hash (.str oa T) (.ref l) Wk={cls:=.type "dict",data:=.dict #[⟨hash,.str oa T,.ref l⟩] 1}:=by
   rw[Obj.putName_eq];simp[Obj.putNameByArray,Wk]
  refine(Heap.get?_update_self _ H ?_).trans (congrArg Fb e);rw[e];rfl
 refine Ob (wpAny_lookBehind (D _ _) (pastItsLine_dict (by show(1:Nat)<=_;rw[yx];exact uA _)) ?_);exact vc (h _ _ _ (D _ _) ⟨_,_,_,rfl⟩)
noncomputable def iS(i:Nat):jd:=sA (wd "__init__").2.1 i
noncomputable def iC:Expr:=sE (iS 1) 0
noncomputable def iK:Expr:=eE iC 0
noncomputable abbrev i1:jd:=.If (.Compare (.Call (.Name (Kb "type") (eP (eE iK 0))) [.Name wa (eP (eE iK 1))] [] (eP iK)) [.IsNot] [.Name (Kb "list") (eP (eE iC 1))] (eP iC)) [sB (iS 1) 0 0] [] (sP (iS 1))
noncomputable abbrev i2:jd:=.Assign [.Attribute (.Name xa (eP (eE (sE (iS 2) 1) 0))) oa (eP (sE (iS 2) 1))] (.Name wa (eP (sE (iS 2) 0))) (sP (iS 2))
theorem z3:(wd "__init__").2.1=[iS 0,i1,i2,iS 3]:=by kernel_rfl
noncomputable def rg:Scope:=(wd "__init__").2.2
theorem Px:slotIn rg.names wa 0=Fb (1,.local)/\slotIn rg.names xa 0=Fb (0,.local)/\(∃i,slotIn rg.names (Kb "type") 0=Fb (i,.globalImplicit))/\(∃i,slotIn rg.names (Kb "list") 0=Fb (i,.globalImplicit))/\rg.names.length=8:=by
 refine⟨by decide+kernel,by decide+kernel,⟨4,by decide+kernel⟩,⟨5,by decide+kernel⟩,by decide+kernel⟩
theorem AI:GT.kc.lookup (Kb "type")=Fb (.oc .type)/\GT.kc.lookup (Kb "list")=Fb (.oc .list):=⟨by rfl,by rfl⟩
noncomputable def iL(x:Ub):Loc:=(Cg rg [.kc (.ref x),.none]).set 1 (Fb (.id 0))
theorem J3(x:Ub):uc P F 60 (Se GT 60 rg (iS 0)) (Cg rg [.kc (.ref x),.none]) []=Fb ((.next,iL x,[(Ib,.Lb [])]),Hb):=by kernel_rfl
theorem B4(x:Ub):uc P F 60 (Se GT 60 rg (iS 3)) (iL x) [(Ib,.Lb [])]=Fb ((.next,iL x,[(Ib,.Lb [])]),Hb):=by kernel_rfl
theorem jN(x:Ub)(p:Pos):Yc w B d (.Name wa p) rg (iL x) [(Ib,.Lb [])] (.id 0) [(Ib,.Lb [])]:=Gl Px.1 (by decide+kernel) (by kernel_rfl)
theorem o8(x:Ub)(p:Pos):Yc w B d (.Name xa p) rg (iL x) [(Ib,.Lb [])] (.kc (.ref x)) [(Ib,.Lb [])]:=Gl Px.2.1 (by decide+kernel) (by kernel_rfl)
theorem OL(p:Pos):se [.Name wa p]:=λe H y q h=>by rw[List.mem_singleton.mp H] at h;injection h
theorem T2(H:Ml B)(h:Cc d A)(r:Wb B rg e (iL x) [(Ib,.Lb [])] g s.heap)(post:∀Y y,Wb B rg e (iL x) [(Ib,.Lb [])] y Y.heap->Ext g y->Tr s Y->q .next Y):Pb (Qb pw w) A (exec i1 e) q E s:=by
 refine qp Px λj k z t K=>z.elim λi2 f=>t.elim λm U=>?_;refine wpAny_If (BQ (jn (uk H f (by decide+kernel) AI.1 r ?_)) rfl);refine PySem.callWith_type (ik (OL (eP (eE iK 1)))) (gk (Hg:=[.id 0]) (Ac:=[(Ib,.Lb [])]) ?_ (OL _) h r λo I C G a T V=>?_)
 ·intro A e g s E Q pos h R post
  exact vp (jN x _ A e g s E _ h R λv J l r b D L=>ir (post [v] J l r b D (.cons L .nil))) rfl
 refine el V λu N=>?_;refine Yn N λla' p=>?_;refine Md (G.hr.Xb _ _ p) λb' c' ak n' O=>?_;refine call_type_of ⟨_,O.2.1,rfl⟩ (by decide+kernel) ?_;exact uk H U (by decide+kernel) AI.2 G (wpAny_isNot_plain rfl (zQ (pq Of (mx (post I C G a T)))))
theorem rY{K:Ad}(j:Fk K)(N:K.In B)(I:Cc d A)(J:Wb B rg T (iL x) [(Ib,.Lb [])] g s.heap)(Q:g x=.it (Bp 259 D))(u:g D=.it Wk)
  (post:∀Y G O l,Wb B rg T (iL x) [(Ib,.Lb [])] (Jc G D (.it O)) Y.heap->Ext g G->Tr s Y->G l=.Xb 0->l≠D->Dn O l->V .next Y):Pb (Qb pw w) A (exec i2 T) V E s:=by
 rw[KA];refine Ob (gj (Ob (vc (Jj Of (Ob (jN x _ A T g s _ _ I J λk m z C L Ve ml=>Ob (vc ?_)))))));refine Ob (?_:Pb _ A (qg (.Attribute (.Name xa _) oa _) T k) _ _ _);rw[arm_assign_Attribute];refine Ob (Zg (o8 x _ A T z m _ _ I C λsv h Hz r U Mm Tv=>Ob (gj (Ob (Zg ?_)))));rw[show sv=_ from Tb.inv Tv];have X:=L.trans U;have H:=X.at u iz;refine Yn (ml.ext U) λl p=>?_;refine Y3 j (λa o e=>r.stays _ _ (N a o e)) ⟨r.hr.it _ _ (X.at Q iz),rfl,rfl,r.hr.it _ _ H⟩ λf O t hod Hw=>wpAny_release (vc ?_);exact post {h with heap:=h.heap.update D f,toks:=t} Hz O l (r.RN H hod λb y hb e=>(Heap.get?_update_other _ _ (sh hb)).trans e) X ((Ve.trans Mm).trans (Tr.heap h _ t)) p (λq=>by rw[q,H] at p;injection p) Hw
theorem P1{K:Ad}(k:Fk K)(N:K.In B)(m:Ml B)(hE:qd w B d (Yb P F 60))(H:Wm w B d (uc P F 60))(h:Cc d A)(R:Wb B rg e (Cg rg [.kc (.ref x),.none]) [] g s.heap)
  (O:g x=.it (Bp 259 D))(p:g D=.it Wk)(I:x≠D)
  (post:∀Y G o l,tc Y.heap G [(Ib,.Lb [])]->(∀a,g a≠.free->a≠D->G a=g a)->Tr s Y->G D=.it o->Dn o l->G l=.Xb 0->Q .next Y):
  Pb (Qb pw w) A (kf (wd "__init__").2.1 e) Q E s:=by
 rw[z3];refine zj (H.ok _ _ _ _ _ _ _ _ (J3 x) A e g s _ _ h R λf Zd Mf r b C y=>?_)
 cases y
 refine zj (T2 m h r λjg sd J j U=>zj (rY k N h J ((b.trans j).at O iz) ((b.trans j).at p iz) λq z o l V u L Dw I Hw=>?_));refine zj (H.ok 60 rg (iS 3) _ _ .next (iL x) [(Ib,.Lb [])] (B4 x) A e _ q _ _ h V λf6 K9 t_ o9 T j9 Y9=>?_)
 cases Y9
 have X14:=b.trans (j.trans u);refine mx (post K9 t_ o l o9.hr (λa t hd=>?_) (C.trans (U.trans (L.trans j9))) (T.at (ze ..) iz) Hw (T.at ((pe _ _ I).trans Dw) li));have h5:Jc z D (.it o) a=g a:=(pe _ _ hd).trans (X14 a t);exact(T a (by rw[h5];exact t)).trans h5
end
section
theorem NY(H:tc h g a)(N:g x=.it O)(T:g d=.it e)(G:x≠d):tc h (Jc (Jc g x (.Mb O)) d (.Mb e)) a:=
 (tc.step H λc=>by
  by_cases c1:c=d
  ·subst c1;exact .inr (.inl ⟨.inr ⟨_,T⟩,e,.inr (ze ..),H.it _ _ T⟩)
  by_cases c0:c=x
  ·subst c0;exact .inr (.inl ⟨.inr ⟨_,N⟩,O,.inr (by refine(pe _ _ c1).trans ?_;exact ze ..),H.it _ _ N⟩)
  exact .inl ⟨by rw[pe _ _ c1,pe _ _ c0],λJ o q=>q⟩).1
theorem Z3{K:Ad}(f:Fk K)(hX:K.In B)(hG:Ml B)(hE:qd w B d (Yb P V_ 60))(hS:Wm w B d (uc P V_ 60))(y:Bk B 151 fd rg (wd "__init__").2.1)(hg:rg.isGenerator=Ib)
  (hB:ie B fd [xa,wa] Bd (λC=>C++[.none]) (·=1))(hP:Params rg [xa,wa])
  (hF:∀C J r k,F.fn 22 C J=Fb ((r,k),Hb)->C=[]/\J=[]/\r=.rc 0/\k=[(Ib,.Lb [])]):uj w B (d+1) F 22 259 Bd:=by
 intro A R g s ws C J r k L hb H V e post;obtain⟨rfl,rfl,rfl,rfl⟩:=hF C J r k e;refine Zs V ?_;obtain⟨p,gs,dr,t,os⟩:=s;have stays:∀b o,B.get? b=Fb o->p.get? b=Fb o:=λb o q=>by
  rcases hb b o q with z|z
  ·exact H.out b o z
  ·exact H.Mb b o z
 have X:K.In p:=λa o q=>stays _ _ (hX a o q);refine make_core (makes_of X f.makes) (looks_findIn X f.init) (λself=>bind_fn X self (f.fns 151 (by decide))) (.inl rfl) ?_;have U:=H.fresh (Ed _);have T:=H.fresh (km _);have G:p.objs.size+1≠p.objs.size:=VG _;have H1:tc (p.push Wk) (Jc g p.objs.size (.it Wk)) []:=H.Qo (.inl U) (Heap.get?_push_size _ rfl) λb x Z Z q=>Heap.get?_push_of_some _ q;have z1:(p.push Wk).objs.size=p.objs.size+1:=Heap.size_push ..;have ix:((p.push Wk).push (Bp 259 p.objs.size)).get? (p.objs.size+1)=Fb (Bp 259 p.objs.size):=by rw[<-z1];exact Heap.get?_push_size _ rfl
 have l:=
  H1.Qo (.inl (by exact(pe _ _ G).trans T)) ix λb x Z Z q=>Heap.get?_push_of_some _ q
 have k2:∀b o,p.get? b=Fb o->((p.push Wk).push (Bp 259 p.objs.size)).get? b=Fb o:=λb o q=>Heap.get?_push_of_some _ (Heap.get?_push_of_some _ q);generalize m:Jc (Jc g p.objs.size (.it Wk)) (p.objs.size+1) (.it (Bp 259 p.objs.size))=N at l;generalize hH2:(p.push Wk).push (Bp 259 p.objs.size)=Ud at l k2 ix;have Pz:Ext g N:=λa u=>by
  have D:a≠p.objs.size+1:=by rintro rfl;exact u T
  have O:a≠p.objs.size:=by rintro rfl;exact u U
  rw[<-m,pe _ _ D,pe _ _ O]
 have gx:N (p.objs.size+1)=.it (Bp 259 p.objs.size):=by rw[<-m];exact ze ..
 have gd:N p.objs.size=.it Wk:=by rw[<-m,pe _ _ G.symm];exact ze ..
 have w1:(Code.builtin "type.__call__" ⟨.ref 259::[],[]⟩).weight<=1:=by decide+kernel
 have w2:(Code.builtin "type.__call__" ⟨.ref 259::[],[]⟩).cUnits<=4:=by decide+kernel
 have XF:∃j,A.under (.builtin "type.__call__" ⟨.ref 259::[],[]⟩)=j/\j.handled=Gb/\j.depth<=A.depth+1/\j.units<=A.units+4:=⟨_,rfl,L.hand,bk w1 _,bk w2 _⟩;refine Qc λGG kk=>?_;refine xl XF λj E=>Yj E λXF Q_ Daa Faa=>?_;clear E;refine kk ?_;rw[XF];refine Qc λGG kk=>?_;refine xl (hB N [.ref (p.objs.size+1)] [.kc (.ref (p.objs.size+1))] rfl (.cons (.kc _) .nil)) λt9 E=>we E λV' hlen Mv=>?_;clear E;have r7:=Wb.baseExt hb Pz.n;have Q:=λb o q=>k2 b o (stays b o q);obtain⟨o,ho,hd⟩:=y.obj;have Ov:j.depth<bH:=by
  have:=L.depth;show j.depth<1000
  lia
 refine kk ?_;refine codeAny_call_function Ov (Q _ _ ho) hd (by rw[y.scope];exact y.co) (by rw[y.scope];exact hg) y.body (y.code.keeps Q) ?_;refine Mv _ _ _ _ _ Q ?_;rw[y.scope,y.kc,y.yw,y.blt];have O5:∀x∈[xa,wa].zip t9,rg.names.lookup x.1=Fb .local\/(rg.names.lookup x.1=Fb .cell/\((th (Ud.objs.size+1) rg.names []).lookup x.1).isSome=Hb):=λx hx=>by
  have D:=(vx hx).1;refine we Px λsl1 sl0 Z=>?_;rcases List.mem_cons.mp D with q|q
  ·left;rw[q];exact Kp sl0
  ·left;rw[List.mem_singleton.mp q];exact Kp sl1
 refine ZQ hP.kind O5 λenv he Zd I=>?_;refine we (PB hP r7 l V' rfl rfl he I) λRl Y ig=>?_;refine⟨(y.lim.keeps Q).keeps I.toInCall.keep,codeAny_func ?_⟩;have mG:Cc d (j.deeper env):=⟨Q_,by
  have:=L.units;show j.units+3+10*d+100<9900
  lia,by
  have:=L.depth;show j.depth+1+2*d+5<1000
  lia⟩
 refine P1 f hX hG hE hS mG Rl (Y.at gx (by intro h;injection h)) (Y.at gd (by intro h;injection h)) G λjg zh od la x_ oh Ve SF Hw Dw=>?_;refine⟨rfl,?_⟩;have dE:zh (p.objs.size+1)=.it (Bp 259 p.objs.size):=by
  exact(oh _ (by rw[Y.at gx (by intro h;cases h)];intro h;cases h) G).trans (Y.at gx (by intro h;cases h))
 have Hf:=NY x_ dE SF G;have B_:la≠p.objs.size:=by rintro rfl;rw[Dw] at SF;injection SF
 have y_:la≠p.objs.size+1:=by rintro rfl;rw[Dw] at dE;injection dE
 refine post _ jg _ Hf (λa u=>?_) ⟨Ve.os.trans ig.os,λi x q=>Ve.gens i x (ig.gens i x q),λq=>Ve.bare (ig.bare q)⟩ (.rc (by refine(pe _ _ G).trans ?_;exact ze ..) (ze ..) Hw (by refine(pe _ _ B_).trans ?_;refine(pe _ _ y_).trans ?_;exact Dw));have D:a≠p.objs.size+1:=by rintro rfl;exact u T
 have O:a≠p.objs.size:=by rintro rfl;exact u U
 have e2:=Pz a u;have e3:=Y a (by rw[e2];exact u);refine(pe _ _ O).trans ?_;refine(pe _ _ D).trans ?_;refine(oh a (by rw[e3,e2];exact u) O).trans ?_;exact e3.trans e2
end
noncomputable def stN:Nat->Ag->Ag
 |0,m=>m|n+1,m=>stN n m.step
theorem RU{m:Ag}(h:m.outcome.isSome=Hb):m.step=m:=by unfold xr;exact(if_pos h)
theorem Ou(h:m.outcome.isSome=Hb):∀n,stN n m=m
 |0=>rfl|n+1=>by show stN n m.step=m;rw[RU h,Ou h n]
theorem Su:∀(a b:Nat)(m:Ag),stN (a+b) m=stN b (stN a m)
 |0,b,m=>by rw[Ii];rfl
 |a+1,b,m=>by rw[wG];exact Su a b m.step
theorem HJ:∀(n:Nat)(m:Ag),m.runFor n=stN n m
 |0,m=>rfl|n+1,m=>by
  show(if m.outcome.isSome then m else m.step.runFor n)=stN (n+1) m
  by_cases h:m.outcome.isSome=Hb
  ·rw[if_pos h,Ou h]
  ·rw[if_neg h,HJ n];rfl
section
theorem SJ{M:Model}:∀(T k:Nat)(m:Ag),k<4*T->(stN k m).outcome.isSome=Hb->Q (stN k m) s->Pb M A (aR T m) Q E s
 |0,k,m,h,_,_=>by exact absurd ‹_› (io _)
 |T+1,k,m,h,H,Y=>by
  show Pb M A (let m:=m.runFor Builtin.Re.reTurnSteps;if m.outcome.isSome then pure m else do rule "sre.turn";aR T m) Q E s;rw[HJ];show Pb M A (if(stN 4 m).outcome.isSome=Hb then pure (stN 4 m) else do rule "sre.turn";aR T (stN 4 m)) Q E s
  by_cases b:(stN 4 m).outcome.isSome=Hb
  ·refine Bo b ?_
   have:stN k m=stN 4 m:=by
    by_cases q:k<=4
    ·have e:stN 4 m=stN (4-k) (stN k m):=by rw[<-Su,ao q]
     rw[e,Ou H]
    ·have e:stN k m=stN (k-4) (stN 4 m):=by rw[<-Su,ao (Nat.le_of_not_le q)]
     rw[e,Ou b]
   rw[this] at Y;exact vc Y
  ·refine Jj b ?_
   have C:4<k:=by
    apply fx;intro q;have e:stN 4 m=stN (4-k) (stN k m):=by rw[<-Su,ao (oi q)]
    rw[e,Ou H] at b;exact b H
   have e:stN k m=stN (k-4) (stN 4 m):=by rw[<-Su,ao (Df C)]
   rw[e] at H Y;exact Ob (so (SJ T (k-4) (stN 4 m) (by omega) H Y))
theorem XC{M:Model}(H:∀i u,f i u=pure (.yield ⟨⟩)\/∃t,f i u=(do rule t;pure (.yield ⟨⟩))){Q:PUnit->Vb->Prop}(h:Q ⟨⟩ s):∀l:ca,Pb M A (forIn l ⟨⟩ f) Q E s
 |[]=>by rw[IA];exact vc h
 |i::r=>by
  rw[HA];rcases H i ⟨⟩ with e|⟨t,e⟩
  ·rw[e];exact Ob (vc (XC H h r))
  ·rw[e];exact Ob (Ob (so (vc (XC H h r))))
theorem Ky{M:Model}(C:k<2^60)(h:(∃x,stN k m=x/\x.outcome=Fb .matched/\Q (Fb x) s)\/((stN k m).outcome=Fb .failed/\Q Gb s)):Pb M A (bR m) Q E s:=by
 unfold bR;have H:(stN k m).outcome.isSome=Hb:=by
  rcases h with⟨x,e,h,J⟩|⟨h,J⟩
  ·rw[e,h];rfl
  ·rw[h];rfl
 refine Ob (SJ (2^64) k m (by exact dc ‹_› (by decide)) H ?_);refine Ob (XC (λi u=>?_) ?_ _)
 ·cases (stN k m).seen.has i with
  |true=>exact .inr ⟨_,rfl⟩|false=>exact .inl rfl
 ·rcases h with⟨x,rfl,h,q⟩|⟨h,q⟩
  ·rw[h];exact vc q
  ·rw[h];exact vc q
end
noncomputable def yn:fa:=#[14,10,4,1,1,22,0,31,16,127,0,13,7,22,0,31,16,127,0,1]
noncomputable def Tp:fa:=#[14,14,4,1,1,9,4294966783,0,0,2147483648,0,0,0,0,0,13,11,9,4294966783,0,0,2147483648,0,0,0,0,0,1]
noncomputable def vh:fa:=#[14,4,0,1,1,6,1,16,46,1]
noncomputable def jj:fa:=#[14,9,4,1,2,16,10,16,13,0,7,7,16,13,16,10,15,18,5,16,10,15,13,11,16,13,5,5,0,16,10,1,15,2,0,1]
noncomputable def Vs(c:Nat):Bool:=decide (32<=c)&&decide (c<127)
noncomputable def Hn(c:Nat):Bool:=c==9||Vs c
theorem tU(h:Vs c=Hb)(s:Ji):∃r,Cp yn c 20 5 Hb s=.ok (Ib,r):=by
 have e:Cp yn c 20 5 Hb s=if(decide (0<=c)&&decide (c<=31))=Hb then .ok (Hb,s.add 22) else if(c==127)=Hb then .ok (Hb,(s.add 22).add 16) else .ok (Ib,((s.add 22).add 16).add 0):=rfl
 have h:=(Zc _ _).mp h;rw[e,decide_eq_false (show¬c<=31 from Nat.not_le.mpr (of_decide_eq_true h.1)),Zt,if_neg Of,if_neg (λq=>Ut 127 (by rw[eq_of_beq q] at h;exact of_decide_eq_true h.2))];exact⟨_,rfl⟩
theorem WS(h:Hn c=Hb)(s:Ji):∃r,Cp Tp c 28 5 Hb s=.ok (Ib,r):=by
 have H:c<127:=by
  rcases(NA _ _).mp h with h|h
  ·rw[eq_of_beq h];decide
  ·exact of_decide_eq_true ((Zc _ _).mp h).2
 have key:∀c,c<127->Hn c=Hb->(Tp.getD (5+(1+c/32)) 0).testBit (c%32)=Ib:=by decide+kernel
 have e:Cp Tp c 28 5 Hb s=if(decide (c<256)&&(Tp.getD (5+(1+c/32)) 0).testBit (c%32))=Hb then .ok (Hb,s.add 9) else .ok (Ib,(s.add 9).add 0):=rfl
 rw[e,key c H h,Zt,if_neg Of];exact⟨_,rfl⟩
theorem fK(h:∀i,i<m.lim->∀j,∃r,Cp m.code (m.text.getD i 0) m.code.size 5 Hb j=.ok (Ib,r)):∀(f s:Nat)(j:Ji),∃r,dR m f s j=.ok (Gb,r)
 |0,s,j=>⟨j,rfl⟩|f+1,s,j=>by
  refine ct (P:=λz=>∃r,z=cH (Gb,r)) (λJ=>⟨j,rfl⟩) λq=>(h s (EQ q) j).elim λr e=>?_;rw[e];exact fK h f (s+1) r
theorem VB{m:Ag}(h:m.outcome=Gb)(H:m.frames=[]):(stN 1 (m.say Ib)).outcome=Fb .failed:=by
 show(xr (m.say Ib)).outcome=_;unfold xr Sre.M.say;simp[h,H]
theorem HH{code text:fa}(H:Og[code.getD 0 0]?=Fb .INFO)(b:code.getD 2 0=4)
  (h:∀i,i<text.size->∀j,∃s,Cp code (text.getD i 0) code.size 5 Hb j=.ok (Ib,s)):(stN 1 (Dp code text 0 p text.size Ib)).outcome=Fb .failed:=by
 have key:∀m:Ag,m.code=code->m.text=text->m.lim=text.size->m.outcome=Gb->m.frames=[]->(stN 1 (m.attemptFrom p Hb)).outcome=Fb .failed:=by
  intro m E o q r d;unfold OA;have T:m.hasFirstSet=Hb:=by
   unfold Sre.M.hasFirstSet;rw[E,H,b];rfl
  rw[T];refine Qc λG k=>?_;subst E o;rw[<-q] at h;obtain⟨s,e⟩:=fK h (m.lim+1-p) p m.seen;refine k ?_;rw[e];exact VB r d
 unfold Dp;dsimp only
 split
 ·exact VB rfl rfl
 ·exact key _ rfl rfl rfl rfl rfl
theorem tn{m:Ag}(h:m.outcome=Gb)(H:m.answer=Gb)(Q:m.pc<m.code.size):m.step=m.exec:=by
 unfold xr;refine(if_neg (by rw[h];decide)).trans ?_;rw[H];simp only [Q,if_true]
theorem xu{m:Ag}(h:m.outcome=Gb)(H:m.answer=Fb y)(Q:m.frames=f::r):
  m.step=Sre.M.resume {m with answer:=Gb,frames:=r,weight:=m.weight-(1+f.kept.marks.size),pc:=f.pc,pos:=f.pos,outermost:=f.outermost} f y:=by
 unfold xr;refine(if_neg (by rw[h];decide)).trans ?_;rw[H,Q]
theorem PJ{m:Ag}(h:m.outcome=Gb)(H:m.answer=Fb y)(Q:m.frames=[]):m.step={m with outcome:=Fb (if y then .matched else .failed)}:=by
 unfold xr;refine(if_neg (by rw[h];decide)).trans ?_;rw[H,Q]
noncomputable def FN(m:Ag)(o:Option Sre.Op):{x:Ag//o=Og[m.word 0]?->m.exec=x}:=by
 refine⟨?x,λh=>?h⟩
 case h=>unfold Sre.M.exec;rw[<-h]
theorem iq(h:Og[m.word 0]?=Fb op):m.exec=(FN m (Fb op)).1:=(FN m (Fb op)).2 h.symm
theorem NM{m:Ag}(h:Og[m.word 0]?=Fb .AT)(H:Sre.M.isAt {m with seen:=m.seen.add (m.word 0)} (m.word 1)=.ok b):
  m.exec=cond b {m with seen:=(m.seen.add (m.word 0)).add (43+m.word 1),pc:=m.pc+2} (Sre.M.say {m with seen:=(m.seen.add (m.word 0)).add (43+m.word 1)} Ib):=by
 refine(iq h).trans ?_;show(match Sre.M.isAt {m with seen:=m.seen.add (m.word 0)} (m.word 1) with|.error w=>_|.ok y=>_)=_;rw[H]
 induction b using Ld<;>rfl
theorem JM{m:Ag}(h:m.code.getD a 0≠0)(hw:¬m.weight+1+kept.marks.size>16777216):
  m.alternative a kept={m with frames:={m.frame .nextBranch with pc:=a,kept}::m.frames,weight:=m.weight+1+kept.marks.size,pc:=a+1,pos:=m.pos,handed:=m.pos,outermost:=m.outermost}:=
 (if_neg λq=>h (eq_of_beq q)).trans (if_neg hw)
noncomputable def A1(code:fa)(p C:Nat)(s:Ji)(o:Option Sre.Op):{x:Except String (Bool×Ji)//o=Og[code.getD p 0]?->PA code p C s=x}:=by
 refine⟨?x,λh=>?h⟩
 case h=>unfold PA;rw[<-h]
theorem yL{code:fa}(h:Og[code.getD p 0]?=Fb .LITERAL):PA code p C s=.ok (C==code.getD (p+1) 0,s):=(A1 code p C s (Fb .LITERAL)).2 h.symm
theorem l5{code:fa}(h:Og[code.getD p 0]?=Fb .LITERAL):eR code p=2:=by unfold eR;rw[h]
theorem uL{m:Ag}(h:Og[m.word 0]?=Fb .LITERAL)(H:¬m.pos>=m.lim)(O:PA m.code m.pc (m.text.getD m.pos 0) (m.seen.add (m.word 0))=.ok (b,s)):
  m.exec=cond b {m with seen:=s,pc:=m.pc+eR m.code m.pc,pos:=m.pos+1} (Sre.M.say {m with seen:=s} Ib):=by
 refine(iq h).trans ((if_neg H).trans ?_);show(match PA m.code m.pc (m.text.getD m.pos 0) (m.seen.add (m.word 0)) with|.error w=>_|.ok (Ib,seen)=>_|.ok (Hb,seen)=>_)=_;rw[O]
 induction b using Ld<;>rfl
noncomputable def mk(code text:fa)(lim start l p T Fc:Nat)(o:Bool)(f:List Sre.Frame)(w:Nat)(a:Option Bool)(s:Ji):Ag:=
 {code:=code,text:=text,lim:=lim,start:=start,lastStart:=l,pc:=p,pos:=T,handed:=Fc,outermost:=o,marks:=#[],frames:=f,weight:=w,answer:=a,seen:=s}
section
theorem NW{code:fa}{start:Nat}{Fc:Nat}(h:Og[code.getD p 0]?=Fb .LITERAL)(H:p<code.size)(x:T<lim)(d:text.getD T 0=code.getD (p+1) 0):
  ∃s,(mk code text lim start l p T Fc o f w Gb j).step=mk code text lim start l (p+2) (T+1) Fc o f w Gb s:=
 ⟨_,(tn rfl rfl H).trans ((uL (m:=mk code text lim start l p T Fc o f w Gb j) h (Nat.not_le.mpr x) ((yL h).trans (congrArg (λb=>cH (b,_)) (beq_iff_eq.mpr d)))).trans
  (congrArg (λk=>mk code text lim start l (p+k) (T+1) Fc o f w Gb _) (l5 h)))⟩
theorem wX{code:fa}{start:Nat}{Fc:Nat}(H:Og[code.getD p 0]?=Fb .LITERAL)(a:p<code.size)(d:lim<=T\/text.getD T 0≠code.getD (p+1) 0):
  ∃s,(mk code text lim start l p T Fc o f w Gb j).step=mk code text lim start l p T Fc o f w (Fb Ib) s:=
 xp (λh:T>=lim=>⟨_,(tn rfl rfl a).trans ((iq (m:=mk code text lim start l p T Fc o f w Gb j) H).trans (if_pos h))⟩) λh=>
  ⟨_,(tn rfl rfl a).trans (uL (b:=Ib) H h ((yL H).trans (congrArg (λb=>cH (b,_)) (beq_eq_false_iff_ne.mpr (d.resolve_left h)))))⟩
theorem cU{code:fa}{start:Nat}{Fc:Nat}(h:Og[code.getD p 0]?=Fb .SUCCESS)(H:p<code.size):
  ∃s,(mk code text lim start l p T Fc o f w Gb j).step=mk code text lim start l p T T o f w (Fb Hb) s:=
 ⟨_,(tn rfl rfl H).trans ((iq (m:=mk code text lim start l p T Fc o f w Gb j) h).trans (if_neg (c:=(o&&Ib)=Hb) (by rw[Zt];exact Of)))⟩
theorem y5{code:fa}{start:Nat}{Fc:Nat}(h:Og[code.getD p 0]?=Fb .JUMP)(H:p<code.size):
  ∃s,(mk code text lim start l p T Fc o f w Gb j).step=mk code text lim start l (p+1+code.getD (p+1) 0) T Fc o f w Gb s:=
 ⟨_,(tn rfl rfl H).trans ((iq (m:=mk code text lim start l p T Fc o f w Gb j) h).trans rfl)⟩
theorem fO{code:fa}{start:Nat}{Fc:Nat}(hw:code.getD (p+1) 0=1)(h:(T==0||text.getD (T-1) 0==10)=b):Sre.M.isAt {mk code text lim start l p T Fc o f w Gb s with seen:=s.add (code.getD p 0)} (code.getD (p+1) 0)=.ok b:=by
 rw[hw];exact congrArg cH h
theorem L1{code:fa}{start:Nat}{Fc:Nat}(H:Og[code.getD p 0]?=Fb .AT)(hw:code.getD (p+1) 0=1)(a:p<code.size)(h:T=0\/text.getD (T-1) 0=10):
  ∃s,(mk code text lim start l p T Fc o f w Gb j).step=mk code text lim start l (p+2) T Fc o f w Gb s:=
 ⟨_,(tn rfl rfl a).trans (NM (m:=mk code text lim start l p T Fc o f w Gb j) H (fO hw ((NA _ _).mpr (h.imp beq_iff_eq.mpr beq_iff_eq.mpr))))⟩
theorem p0{code:fa}{start:Nat}{Fc:Nat}(H:Og[code.getD p 0]?=Fb .AT)(hw:code.getD (p+1) 0=1)(a:p<code.size)(h:T≠0)(V:text.getD (T-1) 0≠10):
  ∃s,(mk code text lim start l p T Fc o f w Gb j).step=mk code text lim start l p T Fc o f w (Fb Ib) s:=
 ⟨_,(tn rfl rfl a).trans (NM (m:=mk code text lim start l p T Fc o f w Gb j) H (fO hw (Bool.or_eq_false_iff.mpr ⟨beq_eq_false_iff_ne.mpr h,beq_eq_false_iff_ne.mpr V⟩)))⟩
noncomputable def fr(w:Sre.Wait)(p T:Nat)(o:Bool)(k:Sre.Kept):Sre.Frame:={wait:=w,pc:=p,pos:=T,outermost:=o,kept:=k}
noncomputable def kp:Sre.Kept:={lastmark:=-1,lastindex:=-1,whole:=Ib,marks:=#[]}
theorem dX{code:fa}{start:Nat}{Fc:Nat}(h:Og[code.getD p 0]?=Fb .BRANCH)(H:p<code.size)(O:code.getD (p+1) 0≠0)(hw:w<1000):
  ∃s,(mk code text lim start l p T Fc o f w Gb j).step=mk code text lim start l (p+2) T T o (fr .nextBranch (p+1) T o kp::f) (w+1) Gb s:=
 ⟨_,(tn rfl rfl H).trans ((iq (m:=mk code text lim start l p T Fc o f w Gb j) h).trans (JM (kept:=kp) O (Nat.not_lt.mpr (dc hw (by decide)))))⟩
theorem s6{code:fa}{start:Nat}{Fc:Nat}(H:Og[code.getD p 0]?=Fb .ASSERT_NOT)(a:p<code.size)(h:code.getD (p+2) 0=0)(hw:w<1000):
  ∃s,(mk code text lim start l p T Fc o f w Gb j).step=mk code text lim start l (p+3) T T Ib (fr .lookNot p T o kp::f) (w+1) Gb s:=
 ⟨_,(tn rfl rfl a).trans ((iq (m:=mk code text lim start l p T Fc o f w Gb j) H).trans ((if_neg (c:=T<code.getD (p+2) 0) (by rw[h];exact io _)).trans
  ((if_neg (Nat.not_lt.mpr (dc hw (by decide)))).trans (congrArg (λk=>mk code text lim start l (p+3) (T-k) (T-k) Ib (fr .lookNot p T o kp::f) (w+1) Gb _) h))))⟩
theorem LR{code:fa}{start:Nat}{Fc:Nat}:∃s,(mk code text lim start l m T Fc O (fr .nextBranch p q o kp::f) w (Fb Hb) j).step=mk code text lim start l p q Fc o f (w-1) (Fb Hb) s:=by
 rw[xu rfl rfl rfl];exact⟨j,rfl⟩
theorem oS{code:fa}{start:Nat}{Fc:Nat}(h:code.getD (p+code.getD p 0) 0≠0)(hw:w<1000):
  ∃r,(mk code text lim start l t T Fc O (fr .nextBranch p q o kp::f) w (Fb Ib) s).step=mk code text lim start l (p+code.getD p 0+1) q q o (fr .nextBranch (p+code.getD p 0) q o kp::f) (w-1+1) Gb r:=
 ⟨s,(xu rfl rfl rfl).trans (JM (m:=mk code text lim start l p q Fc o f (w-1) Gb s) h (Nat.not_lt.mpr (dc (Ng (Xk _ _)) (dc hw (by decide)))))⟩
theorem qS{code:fa}{start:Nat}{Fc:Nat}:∃s,(mk code text lim start l m T Fc O (fr .nextStart p q o {}::f) w (Fb Hb) j).step=mk code text lim start l p q Fc o f (w-1) (Fb Hb) s:=by
 rw[xu rfl rfl rfl];exact⟨j,rfl⟩
theorem CX{code:fa}{start:Nat}{Fc:Nat}:∃s,(mk code text lim start l m T Fc O (fr .lookNot p q o kp::f) w (Fb Ib) j).step=mk code text lim start l (p+1+code.getD (p+1) 0) q Fc o f (w-1) Gb s:=
 ⟨j,(xu rfl rfl rfl).trans rfl⟩
def Ends(P:Ag->Prop)(n:Nat)(m:Ag):Prop:=∃k x,k<n/\stN k m=x/\P x
theorem Ends.step(e:m.step=g)(h:Ends P n g):Ends P (n+1) m:=by
 refine Mc h λk x z=>we z λA H Q=>?_;clear z h;refine⟨k+1,x,by exact zx ‹_›,?_,Q⟩;show stN k m.step=x;rw[e];exact H
theorem Qy{code:fa}{start:Nat}{Fc:Nat}(H:2<=n)(h:∀x:Ag,x.outcome=Fb .matched->x.start=start->x.handed=Fc->P x):Ends P n (mk code text lim start l p T Fc o [] w (Fb Hb) s):=by
 refine⟨1,_,by assumption,rfl,?_⟩;show P (xr (mk code text lim start l p T Fc o [] w (Fb Hb) s));rw[PJ rfl rfl rfl];exact h _ rfl rfl rfl
theorem f4{code:fa}{start:Nat}{Fc:Nat}(H:2<=n)(h:∀x:Ag,x.outcome=Fb .failed->P x):Ends P n (mk code text lim start l p T Fc o [] w (Fb Ib) s):=by
 refine⟨1,_,by assumption,rfl,?_⟩;show P (xr (mk code text lim start l p T Fc o [] w (Fb Ib) s));rw[PJ rfl rfl rfl];exact h _ rfl
theorem Cu{code:fa}{start:Nat}{Fc:Nat}(H:Og[code.getD p 0]?=Fb .LITERAL)(a:p<code.size)(x:T<lim)(d:text.getD T 0=code.getD (p+1) 0)(h:∀s,Ends P n (mk code text lim start l (p+2) (T+1) Fc o f w Gb s)):Ends P (n+1) (mk code text lim start l p T Fc o f w Gb s):=
 (NW H a x d).elim λY e=>.step e (h Y)
theorem Du{code:fa}{start:Nat}{Fc:Nat}(H:Og[code.getD p 0]?=Fb .LITERAL)(a:p<code.size)(d:lim<=T\/text.getD T 0≠code.getD (p+1) 0)(h:∀s,Ends P n (mk code text lim start l p T Fc o f w (Fb Ib) s)):Ends P (n+1) (mk code text lim start l p T Fc o f w Gb s):=
 (wX H a d).elim λY e=>.step e (h Y)
theorem Rx{code:fa}{start:Nat}{Fc:Nat}(H:Og[code.getD p 0]?=Fb .SUCCESS)(a:p<code.size)(h:∀s,Ends P n (mk code text lim start l p T T o f w (Fb Hb) s)):Ends P (n+1) (mk code text lim start l p T Fc o f w Gb s):=
 (cU H a).elim λY e=>.step e (h Y)
theorem lD{code:fa}{start:Nat}{Fc:Nat}(H:Og[code.getD p 0]?=Fb .JUMP)(a:p<code.size)(h:∀s,Ends P n (mk code text lim start l (p+1+code.getD (p+1) 0) T Fc o f w Gb s)):Ends P (n+1) (mk code text lim start l p T Fc o f w Gb s):=
 (y5 H a).elim λY e=>.step e (h Y)
theorem ZZ{code:fa}{start:Nat}{Fc:Nat}(H:Og[code.getD p 0]?=Fb .AT)(hw:code.getD (p+1) 0=1)(a:p<code.size)(q:T=0\/text.getD (T-1) 0=10)(h:∀s,Ends P n (mk code text lim start l (p+2) T Fc o f w Gb s)):Ends P (n+1) (mk code text lim start l p T Fc o f w Gb s):=
 (L1 H hw a q).elim λY e=>.step e (h Y)
theorem HZ{code:fa}{start:Nat}{Fc:Nat}(H:Og[code.getD p 0]?=Fb .AT)(hw:code.getD (p+1) 0=1)(a:p<code.size)(q:T≠0)(A:text.getD (T-1) 0≠10)(h:∀s,Ends P n (mk code text lim start l p T Fc o f w (Fb Ib) s)):Ends P (n+1) (mk code text lim start l p T Fc o f w Gb s):=
 (p0 H hw a q A).elim λY e=>.step e (h Y)
theorem YV{code:fa}{start:Nat}{Fc:Nat}(H:Og[code.getD p 0]?=Fb .BRANCH)(a:p<code.size)(O:code.getD (p+1) 0≠0)(hw:w<1000)(h:∀s,Ends P n (mk code text lim start l (p+2) T T o (fr .nextBranch (p+1) T o kp::f) (w+1) Gb s)):Ends P (n+1) (mk code text lim start l p T Fc o f w Gb s):=
 (dX H a O hw).elim λY e=>.step e (h Y)
theorem u6{code:fa}{start:Nat}{Fc:Nat}(H:Og[code.getD p 0]?=Fb .ASSERT_NOT)(a:p<code.size)(d:code.getD (p+2) 0=0)(hw:w<1000)(h:∀s,Ends P n (mk code text lim start l (p+3) T T Ib (fr .lookNot p T o kp::f) (w+1) Gb s)):Ends P (n+1) (mk code text lim start l p T Fc o f w Gb s):=
 (s6 H a d hw).elim λY e=>.step e (h Y)
theorem lB{code:fa}{start:Nat}{Fc:Nat}(h:∀s,Ends P n (mk code text lim start l p q Fc o f (w-1) (Fb Hb) s)):Ends P (n+1) (mk code text lim start l m T Fc O (fr .nextBranch p q o kp::f) w (Fb Hb) s):=
 LR.elim λY e=>.step e (h Y)
theorem pB{code:fa}{start:Nat}{Fc:Nat}(H:code.getD (p+code.getD p 0) 0≠0)(hw:w<1000)(h:∀s,Ends P n (mk code text lim start l (p+code.getD p 0+1) q q o (fr .nextBranch (p+code.getD p 0) q o kp::f) (w-1+1) Gb s)):Ends P (n+1) (mk code text lim start l m T Fc O (fr .nextBranch p q o kp::f) w (Fb Ib) s):=
 (oS H hw).elim λY e=>.step e (h Y)
theorem Kx{code:fa}{start:Nat}{Fc:Nat}(h:∀s,Ends P n (mk code text lim start l p q Fc o f (w-1) (Fb Hb) s)):Ends P (n+1) (mk code text lim start l m T Fc O (fr .nextStart p q o {}::f) w (Fb Hb) s):=
 qS.elim λY e=>.step e (h Y)
theorem eX{code:fa}{start:Nat}{Fc:Nat}(h:∀s,Ends P n (mk code text lim start l (p+1+code.getD (p+1) 0) q Fc o f (w-1) Gb s)):Ends P (n+1) (mk code text lim start l m T Fc O (fr .lookNot p q o kp::f) w (Fb Ib) s):=
 CX.elim λY e=>.step e (h Y)
end
noncomputable def Io(c:Nat):Bool:=c==10||c==13
theorem yT(c:Nat)(s:Ji):∃r,Cp jj c 36 5 Hb s=.ok (Io c,r):=by
 have e:Cp jj c 36 5 Hb s=if(c==10)=Hb then .ok (Hb,s.add 16) else if(c==13)=Hb then .ok (Hb,(s.add 16).add 16) else .ok (Ib,((s.add 16).add 16).add 0):=rfl
 rw[e];unfold Io
 cases c==10 with
 |true=>exact⟨_,rfl⟩|false=>cases c==13 with
  |true=>exact⟨_,rfl⟩|false=>exact⟨_,rfl⟩
noncomputable def Em(text:fa)(p:Nat):Nat:=if text.getD p 0=13/\p+1<text.size/\text.getD (p+1) 0=10 then 2 else 1
theorem RY(a:p<text.size)(V:Io (text.getD p 0)=Hb)(h:∀x:Ag,x.outcome=Fb .matched->x.start=p->x.handed=p+Em text p->P x):
  Ends P 30 (mk jj text text.size p l 10 p p Hb [fr .nextStart 10 p Hb {}] 1 Gb s):=by
 refine YV rfl (by decide) (by decide) (by simp) λJ=>?_
 by_cases H:text.getD p 0=13
 ·refine Cu rfl (by decide) a H λJ=>?_
  by_cases L:p+1<text.size/\text.getD (p+1) 0=10
  ·refine Cu rfl (by decide) L.1 L.2 λJ=>?_
   refine lD rfl (by decide) λJ=>?_;refine Rx rfl (by decide) λJ=>?_;refine lB λJ=>?_;refine Kx λJ=>?_;refine Qy (by exact rr _ _) λx A j Q=>h x A j ?_;refine Q.trans ?_;unfold Em;rw[if_pos ⟨H,L⟩]
  ·have N:text.size<=p+1\/text.getD (p+1) 0≠10:=by
    by_cases q:p+1<text.size
    ·exact .inr λz=>L ⟨q,z⟩
    ·exact .inl (by exact oi ‹_›)
   refine Du rfl (by decide) N λJ=>?_;refine pB (by decide) (by lia) λJ=>?_;refine Du rfl (by decide) (.inr (by rw[H];decide)) λJ=>?_;refine pB (by decide) (by simp) λJ=>?_;refine Cu rfl (by decide) a H λJ=>?_;refine u6 rfl (by decide) rfl (by simp) λJ=>?_;refine Du rfl (by decide) N λJ=>?_;refine eX λJ=>?_;refine lD rfl (by decide) λJ=>?_;refine Rx rfl (by decide) λJ=>?_;refine lB λJ=>?_;refine Kx λJ=>?_;refine Qy (by simp) λx A j Q=>h x A j ?_;refine Q.trans ?_;unfold Em;rw[if_neg (λz=>L z.2)]
 ·have L:text.getD p 0=10:=by
   unfold Io at V;simp only [NA,beq_iff_eq] at V;exact V.resolve_right H
  refine Du rfl (by decide) (.inr H) λJ=>?_;refine pB (by decide) (by lia) λJ=>?_;refine Cu rfl (by decide) a L λJ=>?_;refine lD rfl (by decide) λJ=>?_;refine Rx rfl (by decide) λJ=>?_;refine lB λJ=>?_;refine Kx λJ=>?_;refine Qy (by simp) λx A j Q=>h x A j ?_;refine Q.trans ?_;unfold Em;rw[if_neg (λz=>H z.1)]
inductive gi(ki:Nat->Bool)(lim:Nat):Nat->Option Nat->Prop
 |stop{s:Nat}(h:lim<=s):gi ki lim s Gb
 |hit{s:Nat}(h:s<lim)(t:ki s=Hb):gi ki lim s (Fb s)
 |next{s:Nat}{o:Option Nat}(h:s<lim)(t:ki s=Ib)(r:gi ki lim (s+1) o):gi ki lim s o
theorem gi.none_of(f:gi t lim s o)(q:¬s<lim):o=Gb:=by
 induction f using gi.casesOn with
 |stop=>rfl|hit h=>exact absurd h q|next h=>exact absurd h q
theorem gi.hits(f:gi T lim s o):∀p,o=Fb p->s<=p/\p<lim/\T p=Hb:=by
 induction f using gi.rec with
 |stop=>exact nofun|hit h t=>intro p e;rw[<-jc e];exact⟨Ed _,h,t⟩|next h t r I=>exactλp e=>⟨Df (I p e).1,(I p e).2⟩
theorem Z6(G:∀i j,∃u,Cp m.code (m.text.getD i 0) m.code.size 5 Hb j=.ok (T i,u))(h:gi T m.lim s o):∀f j,m.lim<s+f->∃u,dR m f s j=.ok (o,u):=by
 induction h using gi.rec with
 |stop h=>
  intro f j J
  induction f using jf with
  |zero=>exact⟨j,rfl⟩|succ f=>exact⟨j,if_pos h⟩
 |@hit s h t=>
  intro f j H
  induction f using jf with
  |zero=>exact absurd h (nr H)|succ f=>
   refine(G s j).elim λu e=>⟨u,(if_neg (Nat.not_le.mpr h)).trans ?_⟩;rw[e,t]
 |@next s o h t r I=>
  intro f j H
  induction f using jf with
  |zero=>exact absurd h (nr H)|succ f=>
   refine(G s j).elim λu e=>(I f u (by rw[dH];exact H)).elim λA E=>⟨A,(if_neg (Nat.not_le.mpr h)).trans ?_⟩;rw[e,t];exact E
inductive Ls(len:Nat->Nat)(x:Ag):Option Nat->Prop
 |no(h:x.outcome=Fb .failed):Ls len x Gb
 |yes{p:Nat}(h:x.outcome=Fb .matched)(hs:x.start=p)(hh:x.handed=p+len p):Ls len x (Fb p)
structure wt(code text:fa)(ki:Nat->Bool)(len:Nat->Nat):Prop where
 run:∀{s:Nat}{o:Option Nat},gi ki text.size s o->Ends (λx=>Ls len x o) (2^60) (Dp code text 0 s text.size Ib)
 fits:∀p,p<text.size->ki p=Hb->0<len p/\p+len p<=text.size
theorem Ends.le(h:Ends P n m)(q:n<=N):Ends P N m:=h.elim λk h=>h.elim λx h=>⟨k,x,zl h.1 q,h.2⟩
theorem Ends.no{m:Ag}(h:o=Gb)(H:m.outcome=Gb)(j:m.frames=[]):Ends (λx=>Ls len x o) (2^60) (m.say Ib):=
 h▸⟨1,_,by decide,rfl,.no (VB H j)⟩
theorem kM(q:¬s<n):(decide (s>n)||decide (n-s<1))=Hb:=by
 rw[decide_eq_true (show n-s<1 from zx (yl (Nat.sub_eq_zero_of_le (oi q)))),Bool.or_true]
theorem sL(q:s<n):¬(decide (s>n)||decide (n-s<1))=Hb:=by
 rw[decide_eq_false (nr q:¬s>n),decide_eq_false (Nat.not_lt.mpr (Nat.sub_pos_of_lt q):¬n-s<1)];exact Of
theorem sW(text:fa):wt jj text (λp=>Io (text.getD p 0)) (Em text) where
 run {s o} h:=by
  have e:Dp jj text 0 s text.size Ib=(if(decide (s>text.size)||decide (text.size-s<1))=Hb then(mk jj text text.size s 0 10 s s Hb [] 0 gu (({}:Ji).add 14)).say Ib else OA (mk jj text text.size s text.size 10 s s Hb [] 0 gu (({}:Ji).add 14)) s Hb):=rfl;rw[e]
  by_cases q:s<text.size
  ·rw[if_neg (sL q)]
   refine(Z6 (m:=mk jj text text.size s text.size 10 s s Hb [] 0 gu (({}:Ji).add 14)) (λi j=>yT (text.getD i 0) j) h (text.size+1-s) (({}:Ji).add 14) (V5 (Df q))).elim λr e=>?_;unfold OA;rw[show(mk jj text text.size s text.size 10 s s Hb [] 0 gu (({}:Ji).add 14)).hasFirstSet=Hb from rfl];have E:dR (mk jj text text.size s text.size 10 s s Hb [] 0 gu (({}:Ji).add 14)) ((mk jj text text.size s text.size 10 s s Hb [] 0 gu (({}:Ji).add 14)).lim+1-s) s (mk jj text text.size s text.size 10 s s Hb [] 0 gu (({}:Ji).add 14)).seen=.ok (o,r):=e;rw[E];clear e E;have H:=h.hits;clear h
   induction o using Wd with
   |none=>exact .no rfl rfl rfl|some p=>exact Ends.le (RY (H p rfl).2.1 (H p rfl).2.2 λx a b c=>.yes a b c) (by decide)
  ·rw[if_pos (kM q)]
   exact .no (h.none_of q) rfl rfl
 fits p d D:=by
  have e:Em text p=if text.getD p 0=13/\p+1<text.size/\text.getD (p+1) 0=10 then 2 else 1:=rfl
  rw[e]
  by_cases c:text.getD p 0=13/\p+1<text.size/\text.getD (p+1) 0=10
  ·rw[if_pos c];exact⟨by decide,c.2.1⟩
  ·rw[if_neg c];exact⟨by decide,d⟩
noncomputable def Mo(text:fa)(p:Nat):Bool:=(p==0||text.getD (p-1) 0==10)&&text.getD p 0==46
section
theorem nI{Fc:Nat}{start:Nat}:(mk vh text text.size start l m T Fc O (fr .nextStart p q o {}::f) w (Fb Ib) s).step=if q<l then OA (mk vh text text.size start l p q Fc o f (w-1) Gb s) (q+1) Ib else mk vh text text.size start l p q Fc o f (w-1) (Fb Ib) s:=
 (xu rfl rfl rfl).trans rfl
theorem KR{Fc:Nat}{start:Nat}(H:q<l)(hw:w<1000)(h:∀s,Ends P n (mk vh text text.size (q+1) l p (q+1) (q+1) Ib (fr .nextStart p (q+1) Ib {}::f) (w-1+1) Gb s)):Ends P (n+1) (mk vh text text.size start l m T Fc O (fr .nextStart p q o {}::f) w (Fb Ib) s):=
 Ends.step (nI.trans ((if_pos H).trans ((if_neg (Nat.not_lt.mpr (dc (Ng (Xk _ _)) (dc hw (by decide)))):OA (mk vh text text.size start l p q Fc o f (w-1) Gb s) (q+1) Ib=mk vh text text.size (q+1) l p (q+1) (q+1) Ib (fr .nextStart p (q+1) Ib {}::f) (w-1+1) Gb s)))) (h s)
theorem NR{Fc:Nat}{start:Nat}(H:¬q<l)(h:∀s,Ends P n (mk vh text text.size start l p q Fc o f (w-1) (Fb Ib) s)):Ends P (n+1) (mk vh text text.size start l m T Fc O (fr .nextStart p q o {}::f) w (Fb Ib) s):=
 Ends.step (nI.trans (if_neg H)) (h s)
theorem DC(a:s<text.size->Mo text s=Hb->∀j,Ends P n (mk vh text text.size s l 9 (s+1) s o f w Gb j))(x:(s<text.size->Mo text s=Ib)->∀p T Fc j,Ends P n (mk vh text text.size s l p T Fc o f w (Fb Ib) j)):Ends P (n+1+1) (mk vh text text.size s l 5 s s o f w Gb j):=by
 by_cases h:s=0\/text.getD (s-1) 0=10
 ·refine ZZ rfl rfl (by decide) h λJ=>?_
  have O:=(NA _ _).mpr (h.imp beq_iff_eq.mpr beq_iff_eq.mpr)
  by_cases H:s<text.size/\text.getD s 0=46
  ·exact Cu rfl (by decide) H.1 H.2 (a H.1 (by unfold Mo;rw[O,H.2];rfl))
  ·refine Du rfl (by decide) (xp (λq=>.inr λz=>H ⟨q,z⟩) λq=>.inl (oi q)) λJ=>x (λq=>?_) _ _ _ _
   unfold Mo;rw[beq_eq_false_iff_ne.mpr λz=>H ⟨q,z⟩,Zt]
 ·refine HZ rfl rfl (by decide) (λz=>h (.inl z)) (λz=>h (.inr z)) λJ=>Ends.le (x (λJ=>?_) _ _ _ _) (km n)
  unfold Mo;rw[beq_eq_false_iff_ne.mpr λz=>h (.inl z),beq_eq_false_iff_ne.mpr λz=>h (.inr z)];rfl
theorem iZ(h:gi (Mo text) text.size s r):∀(f:Nat)(o:Bool)(j:Ji),text.size=s+f->Ends (λx=>Ls (λJ=>1) x r) (5*f+15) (mk vh text text.size s text.size 5 s s o [fr .nextStart 5 s o {}] 1 Gb j):=by
 induction h using gi.rec with
 |stop h=>exactλf o j e=>DC (λq=>absurd q (Nat.not_lt.mpr h)) λJ J J J J=>NR (Nat.not_lt.mpr h) λJ=>f4 (rr 2 _) λJ H=>.no H|hit h t=>exactλf o j e=>DC (λJ J J=>Rx rfl (by decide) λJ=>Kx λJ=>Qy (rr 2 _) λJ a b c=>.yes a b c) λq=>Zq ((q h).symm.trans t)|next h t r I=>
  intro f o j e;refine DC (λJ q=>Zq (t.symm.trans q)) λJ J J J J=>KR h (by decide) λj=>?_
  induction f using jf with
  |zero=>exact absurd e (ri h)|succ f=>exact Ends.le (I f Ib j (e.trans (laa _ _).symm)) (bk (show 15<=5+12 by decide) (5*f))
end
theorem wV(text:fa)(H:text.size<=2000000):wt vh text (Mo text) (λJ=>1) where
 run {s o} h:=by
  have e:Dp vh text 0 s text.size Ib=(if(decide (s>text.size)||decide (text.size-s<1))=Hb then(mk vh text text.size s 0 5 s s Hb [] 0 Gb (({}:Ji).add 14)).say Ib else mk vh text text.size s text.size 5 s s Hb [fr .nextStart 5 s Hb {}] 1 Gb (({}:Ji).add 14)):=rfl;rw[e]
  by_cases q:s<text.size
  ·rw[if_neg (sL q)]
   exact Ends.le (iZ h (text.size-s) Hb _ (ao (Df q)).symm) (dc (Bf (Yq 5 (dc (Xk _ _) H)) 15) (by decide))
  ·rw[if_pos (kM q)]
   exact .no (h.none_of q) rfl rfl
 fits _ a _:=⟨by decide,a⟩
theorem eB:PlainAttrs "re.Pattern":=
 ⟨⟨"object.__getattribute__",by rw[Ax,Bx];kernel_rfl,by decide+kernel⟩,by rw[Ax,Bx];kernel_rfl⟩
theorem Jx:Slot "re.Pattern" (Kb "search") "re.Pattern.search":=
 .of (owner:="re.Pattern") (n:="search") (by rw[Ax,Bx];kernel_rfl) (by decide+kernel) (by decide+kernel) (by decide+kernel)
  (by first|exact .inl (by decide+kernel)|exact .inr (by decide+kernel)) (by rw[QA];kernel_rfl)
theorem tB:Slot "re.Pattern" (Kb "sub") "re.Pattern.sub":=
 .of (owner:="re.Pattern") (n:="sub") (by rw[Ax,Bx];kernel_rfl) (by decide+kernel) (by decide+kernel) (by decide+kernel)
  (by first|exact .inl (by decide+kernel)|exact .inr (by decide+kernel)) (by rw[QA];kernel_rfl)
theorem uH:typeOf (.builtin "re.Pattern.search")=pure (.type "method_descriptor"):=by show builtinType _=_;rw[builtinType_eq_fast];kernel_rfl
theorem XR:typeOf (.builtin "re.Pattern.sub")=pure (.type "method_descriptor"):=by show builtinType _=_;rw[builtinType_eq_fast];kernel_rfl
theorem tH:entryFor table "re.Pattern.search"=Fb Builtin.«re.Pattern.search»:=fR (by kernel_rfl)
theorem PR:entryFor table "re.Pattern.sub"=Fb Builtin.«re.Pattern.sub»:=fR (by kernel_rfl)
theorem GR:entryFor table "re.Pattern.sub.loop"=Fb Builtin.«re.Pattern.sub.loop»:=fR (by kernel_rfl)
theorem vH(a b:Value):argsOk "re.Pattern.search" ⟨[a,b],[]⟩:=by
 unfold argsOk;kernel_rfl
theorem WR(a b c:Value):argsOk "re.Pattern.sub" ⟨[a,b,c],[]⟩:=by
 unfold argsOk;kernel_rfl
def kh(h:Heap)(a:Ub)(code:fa):Prop:=∃f c n,h.get? a=Fb {cls:=.type "re.Pattern",data:=.fields f}/\f.getD 5 .none=.ref c/\f.getD 6 .none=Ef 0/\f.getD 2 .none=Ef 0/\h.get? c=Fb (pf (code.toList.map λ(k:Nat)=>Ef k) n)
theorem kh.keeps{code:fa}(x:kh h a code)(k:∀b o,h.get? b=Fb o->h'.get? b=Fb o):kh h' a code:=
 ge x λf c n z=>⟨f,c,n,k _ _ z.1,z.2.1,z.2.2.1,z.2.2.2.1,k _ _ z.2.2.2.2⟩
section
theorem QB{code:fa}(h:s.heap.get? c=Fb (pf (code.toList.map λ(k:Nat)=>Ef k) n))(H:Q (code.map λ(k:Nat)=>(k:Int)) s):Pb (Qb pw w) A (maa (.ref c)) Q E s:=by
 unfold maa;refine Ob (Bl h rfl (vc ?_));have:((code.toList.map λ(k:Nat)=>Ef k).toArray).map hR=code.map λ(k:Nat)=>(k:Int):=by
  apply Array.ext';simp[hR,Ef,Function.comp_def]
 show Q (((Fb (code.toList.map λ(k:Nat)=>Ef k).toArray).getD #[]).map hR) s;rw[Option.getD_some,this];exact H
theorem UB{code:fa}:(code.map λ(k:Nat)=>(k:Int)).map (·.toNat)=code:=by
 apply Array.ext';simp[Function.comp_def]
theorem YT{code:fa}(h:kh s.heap a code)(r:x.cps.size<=2000000)(T:(stN 1 (Dp code x.cps 0 0 x.cps.size Ib)).outcome=Fb .failed)(Y:Q .none s):
  Pb (Qb pw w) A (call (.builtin "re.Pattern.search") [.ref a,.str x t]) Q E s:=by
 refine Qc λG V=>?_;refine ge h λf c n z=>qp z λH j U b h5=>?_;clear z h;refine V ?_;refine jm Jx ⟨_,H,rfl⟩ tH ?_ (vH _ _);unfold Builtin.«re.Pattern.search»;refine Ob ?_;unfold naa;refine Ob (Hi (a:=[Fb (.str x t),Gb,Gb]) (by first|rfl|kernel_rfl) ?_);refine Ob (vc (Ob (vc (Ob ?_))));refine wpAny_fieldsOf H rfl ?_;refine Ob (Hi rfl ?_);dsimp only;rw[j,U,b];refine Jj (by decide) ?_;refine Ob (Hi rfl ?_);refine Ob (QB h5 ?_);refine vc ?_;have e:(code.map λ(k:Nat)=>(k:Int)).map (λx=>x.toNat)=code:=UB;have o:min ((2:Int)^63-1).toNat x.cps.size=x.cps.size:=by
  apply iR;have:((2:Int)^63-1).toNat=9223372036854775807:=by decide
  exact dc ‹_› (by decide)
 dsimp only;rw[e,o];unfold oaa;refine Ob (Ky (by decide) (.inr ⟨T,?_⟩));exact vc ⟨_,rfl,Y⟩
end
inductive Ph(text:fa)(ki:Nat->Bool)(len:Nat->Nat)(xz:ca):Nat->ca->Prop
 |fin{s:Nat}(h:gi ki text.size s Gb):Ph text ki len xz s (text.extract s text.size).toList
 |found{s p:Nat}{r:ca}(h:gi ki text.size s (Fb p))(k:Ph text ki len xz (p+len p) r):Ph text ki len xz s ((text.extract s p).toList++(xz++r))
section
theorem MH{code:fa}(h:kh s.heap a code)(H:Q {pattern:=.ref a,string:=.str x t,code:=code,text:=x.cps,kind:=0,groups:=0,pos:=0,lim:=x.cps.size} s):
  Pb (Qb pw w) A (jR (.ref a) (.str x t)) Q E s:=by
 refine Qc λG V=>?_;refine ge h λf c n z=>qp z λB j T b h5=>?_;clear z h;refine V ?_;unfold jR;refine Ob (wpAny_fieldsOf B rfl ?_);refine Ob (Hi rfl ?_);dsimp only;rw[j,T,b];rw[if_neg (by decide)];refine Ob (Hi rfl ?_);refine Ob (QB h5 ?_);refine vc ?_;have e:(code.map λ(k:Nat)=>(k:Int)).map (λx=>x.toNat)=code:=UB;rw[e];exact H
noncomputable def Bh(l:List (Str×Tok)):ca:=(l.map λp=>p.1.cps.toList).flatten
theorem ry(H:s.heap.get? L=Fb (Rc (Fh l) n))(y:l.length<=1000000)
  (Y:∀h N,h.get? L=Fb (Rc (Fh (l++[(z,t)])) N)->(∀b o,b≠L->s.heap.get? b=Fb o->h.get? b=Fb o)->Q () {s with heap:=h}):Pb (Qb pw w) A (Ap L λx=>x.push (.str z t)) Q E s:=by
 have G:(Fh l).length=l.length:=by unfold Fh;simp
 refine qx H rfl ?_ (by rw[Cf,G,show cm=16777216 from rfl];lia) (by rw[Array.size_push,Cf,G,show cm=16777216 from rfl];exact Nf ‹_› (by decide));obtain⟨N,h⟩:=Vr (ak:=Fh (l++[(z,t)])) (λx=>x.push (.str z t)) H (by simp[Fh]);exact Y _ N h λb o O e=>(Heap.get?_update_other _ _ (sh O)).trans e
theorem RC(h:text.size<=1000000)(H:Q (.str ⟨text.extract b e⟩ s.toks) {s with toks:=s.toks+1}):Pb (Qb pw w) A (RA text 0 b e) Q E s:=by
 unfold RA;rw[if_pos (by rfl)];refine wpAny_mkStr H ?_;show(text.extract b e).size<=cm;rw[Array.size_extract,show cm=16777216 from rfl];exact dc (Xk _ _) (dc (Cx _ _) (dc h (by decide)))
theorem FI:∀l:ba,Qi [] l=l.flatten
 |[]=>rfl|[y]=>(ng y).symm|y::z::r=>by rw[show Qi [] (y::z::r)=y++[]++Qi [] (z::r) from rfl,FI (z::r),ng];rfl
theorem Fu(l k:List (Str×Tok)):Bh (l++k)=Bh l++Bh k:=by unfold Bh;rw[ej,Dx]
theorem Gu(z:Str)(t:Tok):Bh [(z,t)]=z.cps.toList:=ng _
theorem kL{text:fa}(h:p<=text.size):(text.extract s p).toList.length=p-s:=by rw[eH,Array.size_extract,cx h]
def mw(w:xd)(A:Dd)(R:Result->Vb->Prop)(D:Fin)(s:Vb):Prop:=match D with
 |.done f=>R (.ok f) s|.again C=>C.quiet=Hb/\qi (Qb pw w) A C R s
noncomputable def zy(cnt:Int)(x:Str)(L:Ub):Sem Fin:=do
 let j<-RA x.cps 0 0 0
 let __do_lift<-seqItems? (fm L)
 if(__do_lift.getD #[]).isEmpty=Hb then do
   let text<-pure j
   if Ib=Hb then do
     let __do_lift<-holding [text] do
      let __do_lift<-mkInt cnt
      newTuple [text,__do_lift]
     ret __do_lift
    else ret text
  else do
   let text<-call (Value.builtin (if(0==0)=Hb then "str.join" else "bytes.join")) [j,fm L]
   if Ib=Hb then do
     let __do_lift<-holding [text] do
      let __do_lift<-mkInt cnt
      newTuple [text,__do_lift]
     ret __do_lift
    else ret text
theorem tL{cnt:Int}(u:x.cps.size<=100000)(h:s.heap.get? L=Fb (Rc (Fh l) n))(y:(Bh l).length<=400000)(U:l.length<=300001)(H:∀t T z,z.cps.toList=Bh l->R (.ok (.ret (.str z T))) {s with toks:=t}):
  Pb (Qb pw w) a (zy cnt x L) (mw w A R) (λe Y=>R (.error e) Y) s:=by
 unfold zy;refine Ob (RC (by exact dc ‹_› (by decide)) (Ob (Bl h rfl ?_)))
 induction l using xc with
 |nil=>
  rw[if_pos (by rfl)];refine Ob (vc ?_);rw[if_neg (by decide)];exact vc (H _ _ _ (by rw[kR];rfl))
 |cons p r=>
  rw[if_neg (show¬(((Fb (Fh (p::r)).toArray).getD #[]).isEmpty=Hb) from Of),if_pos (by rfl)];refine Ob (SC.join (rf h) rfl (joinOk_of ?_) λt k=>?_)
  ·have E:(List.map (λx:Str=>x.length) ((p::r).map (·.1))).sum=(Bh (p::r)).length:=by
    unfold Bh;rw[Yg,SA,Yg];rfl
   have o:(⟨x.cps.extract 0 0⟩:Str).length=0:=by rw[kR];rfl
   rw[E,o];exact dc ‹_› (by decide)
  ·rw[if_neg (by decide)]
   refine vc (H _ _ _ ?_);rw[zC,show(⟨x.cps.extract 0 0⟩:Str).cps.toList=[] by rw[kR],FI];unfold Bh;rw[Yg];rfl
theorem HI{code:fa}(H:kh h a code)(B:h.get? L=Fb (Rc l n))(C:∀b o,b≠L->h.get? b=Fb o->V.get? b=Fb o):kh V a code:=by
 refine ge H λf c k z=>qp z λp Y m u E=>?_;clear z H;have N:a≠L:=by rintro rfl;rw[B] at p;injection p with p;have p:=congrArg Obj.cls p;injection p with p;exact absurd p (by decide)
 have w:c≠L:=by rintro rfl;rw[B] at E;injection E with E;have E:=congrArg Obj.cls E;injection E with E;exact absurd E (by decide)
 exact⟨f,c,k,C _ _ N p,Y,m,u,C _ _ w E⟩
noncomputable def Qv(a L:Ub)(x y:Str)(t u:Tok)(cnt:Int)(start:Nat):Code:=.builtin "re.Pattern.sub.loop" ⟨[.ref a,.str x t,.str y u,Ef 0,Ef 0,.int cnt 0,.int start 0,.int start 0,.bool Ib,.ref L,.bool Ib],[]⟩
def Go(R:Result->Vb->Prop)(L:Ub)(s:Vb)(l:ca):Prop:=∀h t T z,(∀b o,b≠L->s.heap.get? b=Fb o->h.get? b=Fb o)->z.cps.toList=l->R (.ok (.ret (.str z T))) {s with heap:=h,toks:=t}
theorem Go.after(h:Go R L s l)(C:∀b o,b≠L->s.heap.get? b=Fb o->V.get? b=Fb o):Go R L {s with heap:=V,toks:=U} l:=
 λu t T z q Q=>h u t T z (λb o H e=>q b o H (C b o H e)) Q
def bP(w:xd)(A:Dd)(R:Result->Vb->Prop)(a L:Ub)(code:fa)(x y:Str)(t u:Tok)(start:Nat)(r:ca):Prop:=∀(s:Vb)(l:List (Str×Tok))(n:Nat)(cnt:Int),kh s.heap a code->s.heap.get? L=Fb (Rc (Fh l) n)->
 l.length+2*(x.cps.size-start)<=300000->(Bh l).length+3*(x.cps.size-start)<=400000->Go R L s (Bh l++r)->qi (Qb pw w) A (Qv a L x y t u cnt start) R s
noncomputable def aP(cnt:Int)(x:Str)(L:Ub)(start:Nat):Sem Fin:=if start<x.cps.size then(do let z<-RA x.cps 0 start x.cps.size;Ap L λq=>q.push z;zy cnt x L) else zy cnt x L
noncomputable def Xv(C:Code)(x y:Str)(u:Tok)(L:Ub)(start p:Nat):Sem Fin:=if start<p then(do let q<-RA x.cps 0 start p;Ap L (λz=>z.push q);Ap L (λz=>z.push (.str y u));pure (Fin.again C)) else(do Ap L (λz=>z.push (.str y u));pure (Fin.again C))
theorem b0{cnt:Int}{start:Nat}(h:x.cps.size<=100000)(C:s.heap.get? L=Fb (Rc (Fh l) n))
  (B:l.length+2*(x.cps.size-start)<=300000)(y:(Bh l).length+3*(x.cps.size-start)<=400000)(j:Go R L s (Bh l++(x.cps.extract start x.cps.size).toList)):
  Pb (Qb pw w) a (aP cnt x L start) (mw w A R) (λe Y=>R (.error e) Y) s:=by
 by_cases q:start<x.cps.size
 ·refine Bo q (Ob (RC (dc h (by decide)) (Ob (ry C (dc (Ex B) (by decide)) λV N g G=>?_))))
  refine tL (s:={s with heap:=V,toks:=s.toks+1}) h g (by rw[Fu,Gu,Pd,kL (Ed _)];exact dc (bk (Nat.le_mul_of_pos_left _ (uA 2)) _) y) (by rw[Pd,Dl];exact Ng (Ex B)) λt T z H=>j V t T z G ?_;rw[H,Fu,Gu]
 ·refine Jj q (tL h C (Ex y) (Xm (Ex B)) λt T z H=>j s.heap t T z (λb o J e=>e) ?_)
  rw[H,paa (oi q)];exact(ng _).symm
theorem d9(g:L<=l+2)(h:X<Y)(b:l+2*Y<=N):L+2*X<=N:=
 dc (dc (Bf g _) (by rw[bm,Rk 2,<-Nat.mul_succ];exact bk (Yq 2 h) l)) b
theorem K_(g:y<=2)(h:d+X<Y)(b:c+3*Y<=N):c+d+y+3*X<=N:=by lia
theorem mV{code:fa}{len:Nat->Nat}(d:y.cps.size<=2){start p:Nat}{cnt:Int}(b:start<=p)(h:p<p+len p)(H:p+len p<=x.cps.size)(I:bP w A R a L code x y t u (p+len p) r)(G:s.heap.get? L=Fb (Rc (Fh z) N))(j:kh s.heap a code)(B:z.length<=l.length+2)(g:Bh z=Bh l++(x.cps.extract start p).toList++y.cps.toList)
  (J:l.length+2*(x.cps.size-start)<=300000)(C:(Bh l).length+3*(x.cps.size-start)<=400000)(k:Go R L s (Bh l++((x.cps.extract start p).toList++(y.cps.toList++r)))):qi (Qb pw w) A (Qv a L x y t u (cnt+1) (p+len p)) R s:=by
 refine I s z N (cnt+1) j G (d9 B (Nat.sub_lt_sub_left (Nf b (zl h H)) (Nf b h)) J) (by rw[g,Pd,Pd,kL (dc (wl p (len p)) H)];exact K_ (eH▸d) (KQ (Nat.add_lt_add_left (Nat.sub_lt_sub_left (zl h H) h) _) ((Rk _ _).trans (Nat.sub_add_sub_cancel (Df (zl h H)) b))) C) ?_;rwa[g,Sh,Sh]
theorem D1{code:fa}{start p:Nat}(r:x.cps.size<=100000)(J:start<=p)(d:kh s.heap a code)(h:s.heap.get? L=Fb (Rc (Fh l) n))(B:l.length<=300000)(f:j.quiet=Hb)(k:Go R L s z)
  (D:∀Y C E,Y.heap.get? L=Fb (Rc (Fh C) E)->kh Y.heap a code->C.length<=l.length+2->Bh C=Bh l++(x.cps.extract start p).toList++y.cps.toList->Go R L Y z->qi (Qb pw w) A j R Y):
  Pb (Qb pw w) Q (Xv j x y u L start p) (mw w A R) (λe Y=>R (.error e) Y) s:=by
 by_cases q:start<p
 ·refine Bo q (Ob (RC (dc r (by decide)) (Ob (ry h (dc B (by decide)) λV E m t=>Ob (ry (s:={s with heap:=V,toks:=s.toks+1}) m (by rw[Pd,Dl];exact dc (Ng B) (by decide)) λH N G g=>vc ⟨f,?_⟩)))))
  have I:∀b o,b≠L->s.heap.get? b=Fb o->H.get? b=Fb o:=λb o O e=>g b o O (t b o O e);exact D {s with heap:=H,toks:=s.toks+1} _ N G (HI d h I) (by rw[Pd,Pd,Dl,Dl];exact Ed _) (by rw[Fu,Fu,Gu,Gu]) (k.after I)
 ·refine Jj q (Ob (ry h (dc B (by decide)) λH N G g=>vc ⟨f,?_⟩))
  exact D {s with heap:=H} _ N G (HI d h g) (by rw[Pd,Dl];exact km _) (by rw[Fu,Gu,XG (oi q)];exact congrArg (·++_) (ng _).symm) (k.after g)
noncomputable def vN(a L:Ub)(x y:Str)(t u:Tok)(cnt:Int)(start:Nat):{f:qaa->Sem Fin//Builtin.«re.Pattern.sub.loop» ⟨[.ref a,.str x t,.str y u,Ef 0,Ef 0,.int cnt 0,.int start 0,.int start 0,.bool Ib,.ref L,.bool Ib],[]⟩=jR (.ref a) (.str x t)>>=f}:=⟨_,rfl⟩
noncomputable def Nb(a:Ub)(x:Str)(t:Tok)(code:fa):qaa:={pattern:=.ref a,string:=.str x t,code:=code,text:=x.cps,kind:=0,groups:=0,pos:=0,lim:=x.cps.size}
noncomputable def IN(a L:Ub)(x y:Str)(t u:Tok)(cnt:Int)(start:Nat)(code:fa):{f:Option Ag->Sem Fin//(vN a L x y t u cnt start).1 (Nb a x t code)=(Builtin.Re.reLiteralCannotBeTurned (.str y u)>>=λJ=>Builtin.Re.reNextFound (Nb a x t code) start Ib>>=f)}:=⟨_,rfl⟩
theorem iU{code:fa}{cnt:Int}{start:Nat}(h:e.start=p)(H:e.handed=q)(Q:(q==p)=Ib):(IN a L x y t u cnt start code).1 (Fb e)=Xv (Qv a L x y t u (cnt+1) q) x y u L start p:=by
 subst h H;exact(show _=Xv (.builtin "re.Pattern.sub.loop" ⟨[.ref a,.str x t,.str y u,Ef 0,Ef 0,.int (cnt+1) 0,.int e.handed 0,.int e.handed 0,.bool (e.handed==e.start),.ref L,.bool Ib],[]⟩) x y u L start e.start from rfl).trans (congrArg (λb=>Xv (.builtin "re.Pattern.sub.loop" ⟨[.ref a,.str x t,.str y u,Ef 0,Ef 0,.int (cnt+1) 0,.int e.handed 0,.int e.handed 0,.bool b,.ref L,.bool Ib],[]⟩) x y u L start e.start) Q)
theorem UJ{code:fa}{start:Nat}{cnt:Int}(B:wt code x.cps T len)(b:kh s.heap a code)(f:gi T x.cps.size start o)(C:o=Gb->∀O,Pb (Qb pw w) O (aP cnt x L start) (mw w A R) (λe Y=>R (.error e) Y) s)
  (H:∀p,o=Fb p->0<len p/\∀O,Pb (Qb pw w) O (Xv (Qv a L x y t u (cnt+1) (p+len p)) x y u L start p) (mw w A R) (λe Y=>R (.error e) Y) s):qi (Qb pw w) A (Qv a L x y t u cnt start) R s:=by
 refine lR GR (Po (vN a L x y t u cnt start).2 (Ob (MH b (Po (IN a L x y t u cnt start code).2 (Ob (Hi rfl (Ob ?_)))))));show Pb _ _ (bR (Dp code x.cps 0 start x.cps.size Ib)) _ _ _;refine Qc λG V=>(B.run f).elim λk z=>z.elim λg z=>V ?_;clear V G f B
 induction z.2.2 using Ls.casesOn with
 |no h=>exact Ky z.1 (.inr ⟨z.2.1▸h,C rfl _⟩)|@yes p h D j=>exact Ky z.1 (.inl ⟨g,z.2.1,h,Po (iU D j (beq_eq_false_iff_ne.mpr (ri (fH (H p rfl).1)))) ((H p rfl).2 _)⟩)
theorem uY{code:fa}(z:wt code x.cps O len)(D:x.cps.size<=100000)(d:y.cps.size<=2){start:Nat}(h:Ph x.cps O len y.cps.toList start r):bP w A R a L code x y t u start r:=by
 induction h using Ph.rec with
 |fin f=>exactλs l n cnt H B b C j=>UJ z H f (λK K=>b0 D B b C j) nofun|@found start p r f k I=>
  have h:=f.hits p rfl;have T:=z.fits p h.2.1 h.2.2;have N:=fH (n:=p) T.1;refineλs l n cnt H B b C j=>UJ z H f nofun λJ e=>?_;rw[<-jc e];exact⟨T.1,λK=>D1 D h.1 H B (Ex b) (Code.quiet_builtin _ (by decide+kernel)) j λo Q U g G E Y m=>mV d h.1 N T.2 I g G E Y b C m⟩
theorem d4{code:fa}(H:kh s.heap a code)(B:wt code x.cps O len)(D:x.cps.size<=100000)(d:y.cps.size<=2)(f:y.cps.contains 92=Ib)
  (G:Ph x.cps O len y.cps.toList 0 r)(g:∀h T Y z,(∀b o,s.heap.get? b=Fb o->h.get? b=Fb o)->z.cps.toList=r->Q (.str z Y) {s with heap:=h,toks:=T}):
  Pb (Qb pw w) A (call (.builtin "re.Pattern.sub") [.ref a,.str y u,.str x t]) Q E s:=by
 have hT:s.TypeIs (.ref a) "re.Pattern":=ge H λj c n z=>⟨_,z.1,rfl⟩;refine pn (codeAny_call_builtin tB.plain PR (tB.check _ _ _ _ _ _ _ _ hT (WR _ _ _) ?_));unfold Builtin.«re.Pattern.sub» Builtin.Re.reSubstitute;dsimp only;refine Ob (Hi (a:=[Fb (.str y u),Fb (.str x t),Gb]) (by first|rfl|kernel_rfl) ?_);refine Ob (vc ?_);refine Ob (Hi (by first|rfl|kernel_rfl) ?_);dsimp only [Option.isSome_none];rw[if_neg (by decide)];refine Ob (Hi rfl ?_);refine Ob (vc ?_);rw[f,if_neg (by decide),if_pos (by rfl)];refine Ob (vc ?_);refine Ob (Zg (MH H ?_));dsimp only;rw[if_neg (by decide)];refine Ob (ox ?_);refine vc ⟨Code.quiet_builtin _ (by decide+kernel),?_⟩;have C:∀b o,s.heap.get? b=Fb o->(s.heap.push (Rc [] 0)).get? b=Fb o:=λb o e=>Heap.get?_push_of_some _ e;refine uY B D d G {s with heap:=s.heap.push (Rc [] 0)} [] 0 0 (H.keeps C) (Heap.get?_push_size _ rfl) (by simp only [gm];lia) (by show 0+_<=_;lia) λh T Y z q U=>?_;exact g h T Y z (λb o e=>q b o (dm (Heap.lt_size e)) (C b o e)) (by rw[U];rfl)
end
noncomputable def zq:Bool->ca->ca
 |_,[]=>[]|b,c::r=>if c=10 then(match b with
  |true=>zq Ib r|false=>13::10::zq Ib r) else if c=13 then 13::10::zq Hb r else c::zq Ib r
noncomputable def Ie:ca->ca:=zq Ib
noncomputable def bi:Bool->ca->ca
 |_,[]=>[]|b,c::r=>if b&&c==46 then 46::46::bi Ib r else c::bi (c==10) r
theorem iI(r:ca):Ie (13::10::r)=13::10::Ie r:=rfl
theorem lK(r:ca):Ie (10::r)=13::10::Ie r:=rfl
theorem RK(h:∀y,r≠10::y):Ie (13::r)=13::10::Ie r:=by
 show 13::10::zq Hb r=13::10::zq Ib r
 induction r using xc with
 |nil=>rfl|cons c r=>
  have:c≠10:=λe=>h r (e▸rfl);exact congrArg (λl=>13::10::l) ((if_neg this).trans (if_neg this).symm)
theorem XH(h:c≠13)(H:c≠10):Ie (c::r)=c::Ie r:=(if_neg H).trans (if_neg h)
theorem Wu{text:fa}(h:s<text.size):text.toList.drop s=text.getD s 0::text.toList.drop (s+1):=by
 refine(dn (by simpa using h)).trans ?_;simp[Array.getD,h]
theorem Hu{text:fa}(h:¬s<text.size):text.toList.drop s=[]:=List.drop_eq_nil_iff.mpr (oi h)
theorem Ph.stop(h:¬s<text.size):Ph text t len r s []:=by
 have e:(text.extract s text.size).toList=[]:=congrArg vQ (paa (oi h));rw[<-e];exact .fin (.stop (oi h))
theorem Ph.take(h:s<text.size)(t:T s=Hb)(k:Ph text T len b (s+len s) r):Ph text T len b s (b++r):=
 (congrArg (λx:fa=>x.toList++(b++r)) (XG (Ed s))).trans (iu _)▸Ph.found (.hit h t) k
theorem jM{text:fa}(h:s<text.size)(H:s<p):(text.extract s p).toList=text.getD s 0::(text.extract (s+1) p).toList:=by
 refine Array.toList_extract.trans ?_;rw[Array.toList_extract,yQ,yQ,Wu h,rM H,List.take_succ_cons]
theorem Ph.skip(h:s<text.size)(t:T s=Ib)(k:Ph text T len b q r):q=s+1->Ph text T len b s (text.getD s 0::r):=by
 induction k using Ph.casesOn with
 |fin f=>rintro rfl;rw[<-jM h h];exact .fin (.next h t f)|found f k=>rintro rfl;rw[<-TA,<-jM h (f.hits _ rfl).1];exact .found (.next h t f) k
theorem yu:∀(f s:Nat),text.size<s+f->Ph text (λp=>Io (text.getD p 0)) (Em text) [13,10] s (Ie (text.toList.drop s))
 |0,s,h=>by rw[Hu (s:=s) (nr h)];exact .stop (nr h)
 |f+1,s,h=>by
  have B:text.size<s+1+f:=by rw[dH];exact h
  have j:=zl B (Bf (km _) f)
  by_cases A:s<text.size
  ·rw[Wu A]
   by_cases k:text.getD s 0=13
   ·have V:Io (text.getD s 0)=Hb:=by rw[k];rfl
    by_cases H:s+1<text.size/\text.getD (s+1) 0=10
    ·rw[k,Wu H.1,H.2,iI]
     exact .take A V ((show Em text s=2 from if_pos ⟨k,H⟩)▸yu f (s+2) j)
    ·rw[k,RK]
     ·exact .take A V ((show Em text s=1 from if_neg λz=>H z.2)▸yu f (s+1) B)
     ·intro r e
      by_cases q:s+1<text.size
      ·rw[Wu q] at e
       exact H ⟨q,(ck e).1⟩
      ·rw[Hu q] at e;injection e
   ·by_cases H:text.getD s 0=10
    ·rw[H,lK]
     exact .take A (congrArg Io H) ((show Em text s=1 from if_neg λz=>k z.1)▸yu f (s+1) B)
    ·rw[XH k H]
     exact .skip A (Bool.or_eq_false_iff.mpr ⟨beq_eq_false_iff_ne.mpr H,beq_eq_false_iff_ne.mpr k⟩) (yu f (s+1) B) rfl
  ·rw[Hu A];exact .stop A
theorem bJ:∀(f s:Nat),text.size<s+f->Ph text (Mo text) (λJ=>1) [46,46] s (bi (s==0||text.getD (s-1) 0==10) (text.toList.drop s))
 |0,s,h=>by rw[Hu (s:=s) (nr h)];exact .stop (nr h)
 |f+1,s,h=>by
  by_cases H:s<text.size
  ·rw[Wu H]
   have I:=bJ f (s+1) (by rw[dH];exact h);rw[beq_eq_false_iff_ne.mpr (gH s),Bool.false_or,Nat.add_sub_cancel] at I;have e:∀b c r,bi b (c::r)=if(b&&c==46)=Hb then 46::46::bi Ib r else c::bi (c==10) r:=λJ J J=>rfl
   rw[e]
   by_cases O:((s==0||text.getD (s-1) 0==10)&&text.getD s 0==46)=Hb
   ·rw[if_pos O]
    rw[eq_of_beq ((Zc _ _).mp O).2] at I;exact .take H O I
   ·rw[if_neg O]
    exact .skip H (Bool.not_eq_true _▸O) I rfl
  ·rw[Hu H];exact .stop H
noncomputable def P0:Lm where
 sub a t x:=if a=112/\t=[13,10] then Fb (Ie x,decide (x.length<=100000)) else if a=107/\t=[46,46] then Fb (bi Hb x,decide (x.length<=100000)) else Gb
 search a x:=if a=131 then Fb (Ib,x.all Vs&&decide (x.length<=100000)) else if a=136 then Fb (Ib,x.all Hn&&decide (x.length<=100000)) else Gb
structure Hq(B:Heap):Prop where
 P_:kh B 107 vh
 w9:kh B 112 jj
 name:kh B 131 yn
 value:kh B 136 Tp
section
theorem MN(h:(a&&b)=Hb):a=Hb:=((Zc a b).mp h).1
theorem WN(h:(a&&b)=Hb):b=Hb:=((Zc a b).mp h).2
theorem AM(h:a=Hb)(H:b=Hb):(a&&b)=Hb:=(Zc a b).mpr ⟨h,H⟩
def pN(m:Str)(k:Pe):Prop:=(k=.sub->m=Kb "sub")/\(k=.search->m=Kb "search")
theorem rV:AllP pN GT.qc:=by
 have o:∀{m k},k≠.sub->k≠.search->pN m k:=λa b=>⟨λh=>(a h).elim,λh=>(b h).elim⟩;refine⟨o nofun nofun,o nofun nofun,o nofun nofun,o nofun nofun,o nofun nofun,o nofun nofun,o nofun nofun,o nofun nofun,o nofun nofun,⟨λJ=>rfl,nofun⟩,⟨nofun,λJ=>rfl⟩,o nofun nofun,o nofun nofun,o nofun nofun,o nofun nofun,trivial⟩
theorem yK{l:ca}(h:l.all f=Hb)(H:i<l.length):f (l.toArray.getD i 0)=Hb:=by
 have:=List.all_eq_true.mp h l[i] (UA H)
 simpa [Array.getD,H] using this
inductive TD(B:Heap)(a:Ub)(t y r:ca):Prop
 |mk{code:fa}{ki:Nat->Bool}{len:Nat->Nat}(h:kh B a code)(sc:wt code y.toArray ki len)(e:Ph y.toArray ki len t 0 r)(hy:y.toArray.size<=100000)(ht:t.toArray.size<=2)(hb:t.toArray.contains 92=Ib)
theorem cY(h:Hq B)(e:P0.sub a t y=Fb (r,Hb)):TD B a t y r:=by
 have e:(if a=112/\t=[13,10] then Fb (Ie y,decide (y.length<=100000)) else if a=107/\t=[46,46] then Fb (bi Hb y,decide (y.length<=100000)) else Gb)=Fb (r,Hb):=e
 by_cases q:a=112/\t=[13,10]
 ·replace e:=(if_pos q).symm.trans e
  obtain⟨x,E⟩:=Ae e;obtain⟨rfl,rfl⟩:=q;exact .mk h.w9 (sW y.toArray) (x▸yu (y.toArray.size+1) 0 (Ii _▸Af _)) (of_decide_eq_true E) (by decide) (by simp)
 ·rw[if_neg q] at e
  by_cases q:a=107/\t=[46,46]
  ·rw[if_pos q] at e
   obtain⟨x,E⟩:=Ae e;obtain⟨rfl,rfl⟩:=q;have E:=of_decide_eq_true E;exact .mk h.P_ (wV y.toArray (dc E (by decide))) (x▸bJ (y.toArray.size+1) 0 (Ii _▸Af _)) E (by decide) (by simp)
  ·rw[if_neg q] at e;exact nn e
inductive FD(B:Heap)(a:Ub)(y:ca):Bool->Prop
 |mk{code:fa}(h:kh B a code)(e:(stN 1 (Dp code y.toArray 0 0 y.toArray.size Ib)).outcome=Fb .failed)(hy:y.toArray.size<=100000):FD B a y Ib
theorem AS(H:Hq B)(e:P0.search a y=Fb (r,Hb)):FD B a y r:=by
 have e:(if a=131 then Fb (Ib,y.all Vs&&decide (y.length<=100000)) else if a=136 then Fb (Ib,y.all Hn&&decide (y.length<=100000)) else Gb)=Fb (r,Hb):=e
 by_cases q:a=131
 ·replace e:=(if_pos q).symm.trans e
  obtain⟨x,E⟩:=Ae e;rw[q,<-x];exact .mk H.name (HH rfl rfl λi h s=>tU (yK (MN E) h) s) (of_decide_eq_true (WN E))
 ·rw[if_neg q] at e
  by_cases q:a=136
  ·rw[if_pos q] at e
   obtain⟨x,E⟩:=Ae e;rw[q,<-x];exact .mk H.value (HH rfl rfl λi h s=>WS (yK (MN E) h) s) (of_decide_eq_true (WN E))
  ·rw[if_neg q] at e;exact nn e
inductive uF(B:Heap)(hp:Hp):PV->List PV->PV->Hp->Prop
 |mk{a:Ub}{t y r:ca}(h:TD B a t y r):uF B hp (.kc (.ref a)) [.str t,.str y] (.str r) hp
theorem yX(H:Hq B){mt:Bool}(e:Te P0 F .sub x Y mt h=Fb ((f,T),Hb)):uF B h x Y f T:=by
 induction x using PV.casesOn with
 |kc v=>induction v using tp with
  |ref a=>
   rcases Y with J|⟨p,Y⟩
   ·exact nn e
   ·induction p using PV.casesOn with
    |str t=>
     rcases Y with J|⟨p,Y⟩
     ·exact nn e
     ·induction p using PV.casesOn with
      |str y=>
       rcases Y with J|⟨p,Y⟩
       ·have e:Rm.bind (P0.sub a t y) (λr=>Rm.ret (PV.str r,h))=_:=e
        obtain⟨r,E,e⟩:=Rm.bind_some e;refine Oh e ?_;exact .mk (cY H E)
       ·exact nn e
      |_=>exact nn e
    |_=>exact nn e
  |_=>exact nn e
 |_=>exact nn e
inductive eD(B:Heap)(hp:Hp):PV->List PV->PV->Hp->Prop
 |mk{a:Ub}{y:ca}(h:FD B a y Ib):eD B hp (.kc (.ref a)) [.str y] .none hp
theorem ZR(H:Hq B){mt:Bool}(e:Te P0 F .search x Y mt b=Fb ((f,T),Hb)):eD B b x Y f T:=by
 induction x using PV.casesOn with
 |kc v=>induction v using tp with
  |ref a=>
   rcases Y with J|⟨p,Y⟩
   ·exact nn e
   ·induction p using PV.casesOn with
    |str y=>
     rcases Y with J|⟨p,Y⟩
     ·have e:=e
      obtain⟨r,E,e⟩:=Rm.bind_some e;have h:=AS H E
      cases r with
      |false=>
       refine Oh e ?_;exact .mk h
      |true=>exact nn e
     ·exact nn e
    |_=>exact nn e
  |_=>exact nn e
 |_=>exact nn e
theorem TK(h:se a)(hlen:a.length<20):((Tk p (yj a e)).all (λx=>!x.1)&&(Uk p (Vk [] e)).all (λx=>x.1.isSome)&&decide (a.length+([]:List Keyword).length+(if([]:List Keyword).isEmpty then 0 else 1)<30))=Hb:=
 AM (AM (qu h) rfl) (decide_eq_true (zl hlen (by decide)))
theorem k7(O:Hq B){mt:Bool}(hm:GT.qc.lookup m=Fb k)(D:k=.sub\/k=.search)(hb:Hh o=Hb)(hl:(Dk.endLine==pos.line)=Hb)(hlen:y.length<20)
  (ho:Yc w B d o sc loc hp x dd)(has:Tj w B d y sc loc dd Hg Nd)(h:se y)(e:Te P0 F k x Hg mt Nd=Fb ((pv,Ac),Hb)):Yc w B d (.Call (.Attribute o m Dk) y [] pos) sc loc hp pv Ac:=by
 intro A env g s E Q I R post;have np:=xC rV hm;rcases D with rfl|rfl
 ·obtain rfl:=np.1 rfl
  have c:=yX O e
  induction c using uF.casesOn with|mk c=>_
  induction c using TD.casesOn with|mk H Sc er hy ht hbs=>_
  refine HG (wo hb) (TK h hlen) hl eB tB XR (ho A env g s E _ I R λov Zd Mf r f T t=>?_);have t:=Tb.inv t;obtain rfl:=t;refine Qc λl a=>?_;refine ge (id (H.keeps λb o q=>r.stays b o q)) λfs c n C=>?_;refine a ?_;clear a l;refine⟨⟨_,C.1,rfl⟩,λb q=>by rw[<-cr q];exact⟨_,C.1,rfl⟩,?_⟩;refine DA (ik h) (gk has h I r λvs J L G j U V=>?_);refine Ys V λK K v1 V=>?_;refine Ys V λK K N V=>?_;refine Zs V ?_;refine vStr v1 λy1 t1 fQ=>?_;refine vStr N λp t2 u=>?_;have Y:p.cps=_:=congrArg VA u;have et:y1.cps=_:=congrArg VA fQ;refine d4 (H.keeps λb o q=>G.stays b o q) (Y▸Sc) (Y▸hy) (et▸ht) (et▸hbs) (by rw[Y,fQ];exact er) λh' t' tok z D hz=>?_;exact post _ {J with heap:=h',toks:=t'} L (G.heap λb o K q=>D b o q) (f.trans j) ((T.trans U).trans (Tr.heap J h' t')) (.str hz)
 ·obtain rfl:=np.2 rfl
  have c:=ZR O e
  induction c using eD.casesOn with|mk c=>_
  cases c with|mk H hf hy=>_
  refine HG (wo hb) (TK h hlen) hl eB Jx uH (ho A env g s E _ I R λov Zd Mf r f T t=>?_);have t:=Tb.inv t;obtain rfl:=t;refine Qc λl a=>?_;refine ge (id (H.keeps λb o q=>r.stays b o q)) λfs c n C=>?_;refine a ?_;clear a l;refine⟨⟨_,C.1,rfl⟩,λb q=>by rw[<-cr q];exact⟨_,C.1,rfl⟩,?_⟩;refine DA (ik h) (gk has h I r λvs J L G j U V=>?_);refine Ys V λK K N V=>?_;refine Zs V ?_;refine vStr N λp t2 u=>?_;have Y:p.cps=_:=congrArg VA u;refine YT (H.keeps λb o q=>G.stays b o q) (by rw[Y];exact dc ‹_› (by decide)) (by rw[Y];exact hf) ?_;exact post _ J L G (f.trans j) (T.trans U) .none
end
noncomputable def Eo:List (Nat×Nat):=[(0,47),(1,56),(2,65),(3,74),(5,88),(6,95),(7,102),(8,119),(9,126),(10,270),(11,277),(12,284),(13,289),(14,294),(15,301),(22,259)]
noncomputable def cD:List (Nat×Nat):=[(23,206),(24,223),(25,211)]
theorem mem_lookup{α:Type}{l:List (Str×α)}{v:α}(h:l.lookup x=Fb v):(x,v)∈l:=by
 induction l with
 |nil=>exact nn h|cons y r I=>
  obtain⟨Y,f⟩:=y;rw[FG] at h
  split at h
  ·rename_i e
   refine lg h ?_;rw[eq_of_beq e];exact Fd
  ·exact Ee _ (I h)
theorem KZ:(GT.kc.all λp=>match p.2 with
 |.fn k v=>match v with
  |.ref a=>k==4||Eo.contains (k,a)|_=>Ib
 |_=>Hb)=Hb:=by decide+kernel
theorem S4(h:GT.kc.lookup x=Fb (.fn k v)):k=4\/∃a,v=.ref a/\(k,a)∈Eo:=by
 have:=List.all_eq_true.mp KZ _ (mem_lookup h);have this:(match(generalizing:=false) v with
  |.ref a=>k==4||Eo.contains (k,a)|_=>Ib)=Hb:=this
 clear h
 induction v using tp with
 |ref a=>exact((NA _ _).mp this).imp eq_of_beq λq=>⟨a,rfl,List.contains_iff_mem.mp q⟩|_=>exact absurd this Of
noncomputable def sC:List (Nat×Str×Nat):=[(23,sa,206),(24,ua,223),(25,ta,211),(26,na,158)]
theorem T0:(GT.qc.all λp=>match p.2 with
 |.fn k=>sC.any λq=>q.1==k&&q.2.1==p.1|_=>Hb)=Hb:=by decide+kernel
theorem Z4(h:GT.qc.lookup m=Fb (.fn k)):∃a,(k,m,a)∈sC:=by
 have:=List.all_eq_true.mp T0 _ (mem_lookup h);dsimp only at this;obtain⟨⟨Q,T,q⟩,H,e⟩:=List.any_eq_true.mp this;simp only [Zc,beq_iff_eq] at e;obtain⟨rfl,rfl⟩:=e;exact⟨q,H⟩
structure ae(w:xd)(B:Heap)(K:Ad):Prop where
 hK:Fk K
 hX:K.In B
 kc:Ml B
 pat:Hq B
 sorted:Ku w
 int:Hv w
 keep:∀a,(∃k,(k,a)∈Eo)->Ep K (.ref a)=Hb
 obj:∀f,f∈[151,158,172,177,206,211,223]->∃o fd,B.get? f=Fb o/\o.data=.func fd
structure Zy(w:xd)(B:Heap)(d:Nat)(F:Dc):Prop where
 list:∀x p x' p' a pos Nz k v sc loc hp y dd i i' xs mt pv Ac,GT.kc.lookup x=Fb (.oc .list)->slotIn sc.names x 0=Fb (i,.globalImplicit)->(x==("__debug__":Str))=Ib->
  GT.kc.lookup x'=Fb (.fn k v)->slotIn sc.names x' 0=Fb (i',.globalImplicit)->(x'==("__debug__":Str))=Ib->Yc w B d a sc loc hp y dd->se [a]->F.gen k [y]=Fb xs->
  xs.length<=ic->td mt (Rg xs) dd=(pv,Ac)->Yc w B d (.Call (.Name x p) [.Call (.Name x' p') [a] [] Nz] [] pos) sc loc hp pv Ac
 src:∀sc Nb x p a pos loc hp i n v u dd xs,GT.kc.lookup x=Fb (.fn n v)->slotIn sc.names x 0=Fb (i,.globalImplicit)->(x==("__debug__":Str))=Ib->se [a]->
  Yc w B d a sc loc hp u dd->F.gen n [u]=Fb xs->Hk w B d (.Call (.Name x p) [a] [] pos) Nb sc loc hp (.Lb xs) dd
structure Sg(w:xd)(B:Heap)(d:Nat)(F:Dc):Prop where
 ph:∀k a,(k,a)∈Eo->uj w B d F k a Bd
 met:∀k a,(k,a)∈cD->uj w B d F k a Bd
 conv:uj w B d F 26 158 Lq
 set:uj w B d F 20 172 Bd
 del:uj w B d F 21 177 Bd
 four:∀as cs,F.fn 4 as cs=Gb
 gen:Zy w B d F
section
theorem BW{K:Ad}(N:K.In B)(C:Ep K (.ref a)=Hb)(L:uj w B d F k a Bd):zM w B d F k (.ref a):=by
 intro A E Q U p J l Y f t m mt u x g s h R j H hlen e post;refine callWith_of (by rw[ik H];rfl) (keeps_K C) ?_;exact gk j H h R λD y G r X T V=>⟨λb o q=>r.stays _ _ (N b o q),pn (ru L h r V e (post.step X T))⟩
theorem TS{mt:Bool}(h:∀a C,F.fn k a C=Gb)(e:de F k a mt H=Fb (r,Hb)):False:=by
 unfold de at e
 split at e
 ·exact nn e
 ·split at e
  ·exact nn e
  ·split at e
   ·exact nn e
   ·split at e
    ·rw[h] at e;injection e
    ·exact nn e
theorem rD{K:Ad}(H:ae w B K)(I:Sg w B d F)(N:qd w B d (Yb P0 F n)):Bs w B d F (Yb P0 F n)/\Rest w B d P0 F (Yb P0 F n):=by
 have Zv:=w4 N {
  zip:=λk l Nb x p a b V L t i u G v Nd ef RF C j T f h5 U D z J=>by
   refine ge f λes q r rfl=>?_;clear f;exact G3 N H.kc C j T ⟨es,q,r,rfl⟩ h5 U D z J
  Dv:=λk l Nb x p a V L t i u G ef C j T f h5 U D=>IW N H.kc C j T f h5 U D
  Nv:=λk l Nb x p a b V L t i u G n Nd ef C j T f h5 U D z J=>NV N H.kc C j T f h5 U D z J
  gen:=λk l Nb x p a V L t i n v u G xs C j T f h5 U=>I.gen.src l Nb x p a V L t i n v u G xs C j T f (N.ok _ _ _ _ _ _ _ _ h5) U}
 refine⟨Zv,?_⟩;exact{
  kc:=H.kc
  sorted:=H.sorted
  int:=H.int
  fn:=λx k v h=>by
   rcases S4 h with rfl|⟨a,rfl,O⟩
   ·intro A E Q env V es l L t G Hg mt pv Y g s X X X X X e X
    exact(TS I.four e).elim
   ·exact BW H.hX (H.keep a ⟨k,O⟩) (I.ph k a O)
  qc:=λm k o as Dk V l L t x G Hg Nd mt pv Y C j T f h5 U D z=>by
   refine Qc λGG kk=>?_
   induction x using PV.casesOn with
   |rc i=>
    have z:(match decide (k=26) with
     |true=>Gb|false=>_)=_:=z
    by_cases hk:k=26
    ·rw[decide_eq_true hk] at z
     exact nn z
    ·rw[decide_eq_false hk] at z
     obtain⟨a,O⟩:=Z4 C;unfold sC at O;simp only [og,Xd,or_false,Wt] at O;rcases O with⟨rfl,rfl,rfl⟩|⟨rfl,rfl,rfl⟩|⟨rfl,rfl,rfl⟩|⟨rfl,X,X⟩
     ·refine kk ?_
      exact jC H.hK H.hX (by decide+kernel) H.hK.get (H.hK.fns 206 (by decide)) (H.obj 206 (by decide)) (I.met 23 206 (by decide)) j T f h5 U D z
     ·refine kk ?_
      exact jC H.hK H.hX (by decide+kernel) H.hK.items (H.hK.fns 223 (by decide)) (H.obj 223 (by decide)) (I.met 24 223 (by decide)) j T f h5 U D z
     ·refine kk ?_
      exact jC H.hK H.hX (by decide+kernel) H.hK.keys (H.hK.fns 211 (by decide)) (H.obj 211 (by decide)) (I.met 25 211 (by decide)) j T f h5 U D z
     ·exact(hk rfl).elim
   |_=>exact nn z
  Zh:=λm k o as kw kp v Dk V l L t i G Hg Nd y Gv mt pv Y C j T f h5 U D z J O' h11=>by
   unfold kwFits at h5;simp only [Zc,beq_iff_eq,decide_eq_true_eq] at h5;obtain⟨⟨rfl,hl⟩,rfl⟩:=h5;have hk:k=26:=by
    have:GT.qc.lookup na=Fb (.fn 26):=by rfl
    replace C:=this.symm.trans C;cases C;rfl
   subst hk;exact vU H.hK H.hX (by decide+kernel) H.hK.conv (H.hK.fns 158 (by decide)) (H.obj 158 (by decide)) I.conv j T hl D z J U O' h11
  pat:=λm k o as Dk V l L t x G Hg Nd mt pv Y C j T f h5 U D z J=>k7 H.pat C j T f h5 U D z J
  attr:=λo V l L t i Y C j=>T3 H.hK H.hX C j
  comp:=λk Sd Nb iter ifs scope V l mt L t pv Y h=>NU N Zv h
  gen:=I.gen.list}
variable{w:xd}{B:Heap}{K:Ad}{d:Nat}{F:Dc} in
theorem GJ(h:ae w B K)(I:Sg w B d F):Gn w B d F where
 set:=λA e g s E q l L a U j nm v o G V H k Q b h5 T C=>W3 h.hK h.hX I.set H k Q b h5 T C
 del:=λA e g s E q l L a U j nm o G H k Q b h5 T=>l3 h.hK h.hX I.del H k Q b h5 T
theorem ol{K:Ad}(h:ae w B K)(H:Sg w B d F):∀n,qd w B d (Yb P0 F n):=oL λJ I=>(rD h H I).2
theorem Q6{K:Ad}(U:ae w B K)(I:Sg w B d F):∀(n:Nat)(j:Scope)(k:Nat)(p:Expr)(G:List Comprehension)(t:Scope)(q m:Pos)(x:Str)(i:Nat)(l:Loc)(H:Hp)(f:PV)(T:Hp)(A:Dd)(e:Env)(g:Gh)(s:Vb)(E:ja)(Q:Unit->Vb->Prop),
   slotIn j.names x 0=Fb (i,.local)->Yb P0 F n (Zb GT k j (.ListComp p G t q)) Hb l H=Fb ((f,T),Hb)->Cc d A->Wb B j e l H g s.heap->wh B j e (l.set i (Fb f)) T g s Q->
   Pb (Qb pw w) A (MG (.ListComp p G t q) e (qg (.Name x m) e)) Q E s:=by
 intro n j k p G t q m x i l H f T A e g s E Q y h u R post
 induction n using jf with
 |zero=>exact nn h|succ n=>
  induction k using jf with
  |zero=>exact nn h|succ k=>
   have h:=h;have o:=ol U I n
   induction G using xc with
   |nil=>exact nn h|cons c r=>
    obtain⟨Nb,iter,N,a⟩:=c
    induction r using xc with
    |cons=>induction a using IG with
     |negSucc n=>exact nn h|ofNat n=>induction n using jf<;>exact nn h
    |nil=>induction a using IG with
     |negSucc n=>exact nn h|ofNat n=>induction n using jf with
      |succ n=>exact nn h|zero=>exact DZ o (rD U I o).1 y h u R post
theorem It{K:Ad}(H:ae w B K)(I:Sg w B d F):∀n,Wm w B d (uc P0 F n):=zL (ol H I) λn f=>
 {Zv:=(rD H I f).1
  asg:=λk s t e p l a x q L T A j Q=>k6 f (GJ H I) (Q6 H I n s) A j Q
  del:=λk s o i g p l a N L T h=>c6 f (GJ H I) h}
end
section
noncomputable def Un:ja:=λJ J=>False
theorem Ru{E:ja}:∀e s,Un e s->E e s:=λJ J h=>h.elim
theorem ON{K:Flow->Sem Fin}
  (h:Pb (Qb pw w) (A.over c f) (isTrue t e (eval t e)) (λb a=>if b=Hb then Seg (Qb pw w) A R Y n Q c ((kf body e).wrap K H g l) f a
   else Seg (Qb pw w) A R Y n Q c ((kf orelse e).wrap K H g l) f a) Un s):
  Seg (Qb pw w) A R Y n Q c ((exec (.If t body orelse p) e).wrap K H g l) f s:=by
 rw[exec_If];show Seg _ A R Y n Q c (.at p λJ=>(isTrue t e (eval t e)>>=λb=>if b=Hb then kf body e else kf orelse e).wrap K H g l) f s;refine seg_at (Fp (Yd h (λb a O=>?_) Ru))
 induction b using Ld with
 |true=>exact O|false=>exact O
theorem wD{K:Flow->Sem Fin}{st:jd}(h:Pb (Qb pw w) (A.over c e) (exec st E) (λf a=>f=.next/\Seg (Qb pw w) A R Y n Q c ((kf r E).wrap K H g l) e a) Un s):
  Seg (Qb pw w) A R Y n Q c ((kf (st::r) E).wrap K H g l) e s:=by
 refine yr (seg_wrap (Yd h (λf a O=>?_) Ru));obtain⟨rfl,O⟩:=O;exact O
noncomputable def sF(E:Env):Value->Sem Fin:=λe=>(do noteFrame e E;JQ e:Sem Unit).wrap (λJ=>.raise e) .raise id id
noncomputable def RO(Nb:Expr)(I:Value)(body:List jd)(e:Env):Flow->Sem Fin:=λf=>match f with
 |.next|.cont=>.pure (.again (.forLoop Nb I body [] e))|.brk=>.pure (.done .next)|.ret v=>.pure (.done (.ret v))
theorem jI{Nb:Expr}
  (h:Pb (Qb pw w) (A.over (.forLoop Nb I body [] E) g) (fj I) (λr J=>match r with
   |none=>Seg (Qb pw w) A R Y n Q (.block [] E) (.pure (.done .next)) g J|some v=>Pb (Qb pw w) (A.over (.forLoop Nb I body [] E) g) (cu Nb I v) (λK H=>Pb (Qb pw w) (A.over (.forLoop Nb I body [] E) g) (qg Nb E v) (λK l=>
     Seg (Qb pw w) A R Y n Q (.forLoop Nb I body [] E) ((kf body E).wrap (RO Nb I body E) (sF E) id id) g l) Un H) Un J) Un s):
  Seg (Qb pw w) A R Y n Q (.forLoop Nb I body [] E) ((Qb pw w).den (.forLoop Nb I body [] E)) g s:=by
 show Seg _ A R Y n Q _ ((forTurn Nb I body [] E).onRaise (λx=>do noteFrame x E;JQ x)) g s;unfold forTurn;rw[Sem.onRaise_eq_wrap];refine Fp (gj ?_);refine Fp (LA (Yd h (λr J z=>?_) λK K e=>e.elim))
 induction r using Wd with
 |none=>
  refine seg_again rfl ?_;exact z
 |some v=>
  refine Fp (Yd z (λK H y=>?_) λK K e=>e.elim);refine Fp (Yd y (λK l o=>?_) λK K e=>e.elim);rw[Sem.bind_eq_wrap',Sem.wrap_wrap];rw[Sem.wrap_congr (kf body E) _ _ (K':=RO Nb I body E) (H':=sF E)
    (λf=>by induction f using Flow.casesOn<;>rfl)
    (λe=>by unfold sF;rw[<-Sem.bind_eq_wrap];rfl)]
  exact o
theorem w6{K:Flow->Sem Fin}{Nb iter:Expr}(B:∀x,LQ iter e x=pure x)
  (h:Pb (Qb pw w) (A.over c g) (eval iter e) (λx J=>Pb (Qb pw w) (A.over c g) (cn x) (λI L=>∀p k,(∀f,k (.ok f)=K f)->
   Seg (Qb pw w) A R Y n Q (.forLoop Nb I body [] e) ((Qb pw w).den (.forLoop Nb I body [] e)) (.ret k Gb (G Ib) (l []) c p []::g) L) Un J) Un s):
  Seg (Qb pw w) A R Y n Q c ((exec (.For Nb iter body [] T) e).wrap K H G l) g s:=by
 rw[exec_For];show Seg _ A R Y n Q c (.at T λO=>(eval iter e>>=λv=>LQ iter e v>>=λx=>standAt iter.pos>>=λO=>holding [x] (cn x)>>=λI=>runOwn (.forLoop Nb I body [] e) e).wrap K H G l) g s;refine seg_at (Fp (Yd h (λx J z=>?_) Ru));refine Fp (Hi (B x) (Fp (gj ?_)));refine Fp (Zg (Yd z (λI L y=>?_) Ru));refine seg_call λp=>?_;exact y p _ λf=>rfl
theorem v6{kp:ia}(f:Flow)(H:Seg (Qb pw w) A R Y n Q C (k (.ok f)) e s):
 Seg (Qb pw w) A R Y n Q c (.pure (.done f)) (.ret k h g l C p kp::e) s:=seg_leaf (.ok f) H
end
noncomputable def ip:Dc:=⟨λJ J J=>Gb,λJ J=>Gb⟩
theorem fE(w:xd)(B:Heap)(d:Nat):Sg w B d ip where
 ph:=λk a J A R g s z C H r b J J J J e J=>by cases e
 met:=λk a J A R g s z C H r b J J J J e J=>by cases e
 conv:=λA R g s z C H r b J J J J e J=>by injection e
 set:=λA R g s z C H r b J J J J e J=>by injection e
 del:=λA R g s z C H r b J J J J e J=>by injection e
 four:=λJ J=>rfl
 gen:=⟨λx p m E a T o k v j l f y q i I U mt t V J J J J J J J J h=>nn h,λj Nb x p a T l f i n v u q U J J J J J h=>nn h⟩
noncomputable def Nm:PV->Bool
 |.int _=>Hb|.str _=>Hb|.bool _=>Hb|.none=>Hb|_=>Ib
theorem yC(h:Nm p=Hb)(V:Tb g v p):Tb G v p:=by
 cases V with
 |none=>exact .none|bool b=>exact .bool b|int i t=>exact .int i t|str H=>exact .str H|_=>injection h
open Classical in
noncomputable def wg(C:Ub)(T:Option Ub)(h:Heap):Gh:=λa=>if a=C then .Hc else match h.get? a with
 |some o=>if T=Fb a then .Mb o else .out o|none=>.free
theorem pL:wg C T h C=.Hc:=if_pos rfl
theorem xn(C:Ub)(T:Option Ub)(h:Heap)(a:Ub):(a=C/\wg C T h a=.Hc)\/(a≠C/\∃o,h.get? a=Fb o/\(T≠Fb a/\wg C T h a=.out o\/T=Fb a/\wg C T h a=.Mb o))\/(a≠C/\h.get? a=Gb/\wg C T h a=.free):=by
 by_cases q:a=C
 ·exact .inl ⟨q,by rw[q];exact pL⟩
 ·cases Q:h.get? a with
  |none=>exact .inr (.inr ⟨q,rfl,by unfold wg;refine(if_neg q).trans ?_;rw[Q]⟩)|some o=>
   refine .inr (.inl ⟨q,o,rfl,?_⟩)
   by_cases t:T=Fb a
   ·exact .inr ⟨t,by unfold wg;refine(if_neg q).trans ?_;rw[Q];exact if_pos t⟩
   ·exact .inl ⟨t,by unfold wg;refine(if_neg q).trans ?_;rw[Q];exact if_neg t⟩
theorem UN(H:a≠C)(e:h.get? a=Fb o):wg C T h a=.out o\/wg C T h a=.Mb o:=by
 rcases xn C T h a with⟨q,J⟩|⟨J,O,E,q⟩|⟨J,E,J⟩
 ·exact(H q).elim
 ·rw[e] at E;refine bQ E ?_
  exact q.imp (·.2) (·.2)
 ·rw[e] at E;injection E
theorem t4{C:Ub}{T:Option Ub}{h:Heap}(H:∃o,h.get? C=Fb o):tc h (wg C T h) [] where
 Mb a o e:=by
  rcases xn C T h a with⟨q,Q⟩|⟨J,O,E,⟨J,q⟩|⟨J,q⟩⟩|⟨J,E,q⟩<;>first|(rw[Q] at e;injection e)|(replace e:=q.symm.trans e;cases e;try exact E)
 out a o e:=by
  rcases xn C T h a with⟨q,Q⟩|⟨J,O,E,⟨J,q⟩|⟨J,q⟩⟩|⟨J,E,q⟩<;>first|(rw[Q] at e;injection e)|(replace e:=q.symm.trans e;cases e;try exact E)
 it a o e:=by
  rcases xn C T h a with⟨q,Q⟩|⟨J,O,E,⟨J,q⟩|⟨J,q⟩⟩|⟨J,E,q⟩<;>first|(rw[Q] at e;injection e)|(rw[q] at e;injection e)
 Hc a e:=by
  refine Qc λG k=>?_;rcases xn C T h a with⟨q,Q⟩|⟨J,O,E,⟨J,q⟩|⟨J,q⟩⟩|⟨J,E,q⟩
  ·subst q;refine k ?_;exact H
  ·refine k ?_
   exact⟨O,E⟩
  ·refine k ?_
   exact⟨O,E⟩
  ·rw[q] at e;injection e
 Xb a i e:=by
  rcases xn C T h a with⟨q,Q⟩|⟨J,O,E,⟨J,q⟩|⟨J,q⟩⟩|⟨J,E,q⟩<;>first|(rw[Q] at e;injection e)|(replace e:=q.symm.trans e;injection e)
 all i y:=by cases y
 inj a b i e:=by
  rcases xn C T h a with⟨q,Q⟩|⟨J,O,E,⟨J,q⟩|⟨J,q⟩⟩|⟨J,E,q⟩<;>first|(rw[Q] at e;injection e)|(replace e:=q.symm.trans e;injection e)
structure zN(sc:Scope)(env:Env):Prop where
 kind:env.scope.kind=.function
 ph:env.globals=pi
 blt:env.builtins=qh
 loc:∀x i,slotIn sc.names x 0=Fb (i,.local)->env.kindOf x=Fb .local
 Yi:∀x i,slotIn sc.names x 0=Fb (i,.globalImplicit)->env.kindOf x=Fb .globalImplicit
 oG:∀x∈sc.names,x.2≠.cell/\x.2≠.free
 co:env.scope.isCoroutine=Ib
 inter:interactive env=Ib
structure re(B:Heap)(sc:Scope)(env:Env)(h:Heap)(loc:Loc):Prop where
 fix:zN sc env
 base:∀a o,B.get? a=Fb o->h.get? a=Fb o
 out:B.get? env.locals=Gb
 len:loc.length=sc.names.length
 Bt:∀(i:Nat)(pv:PV),loc[i]?=Fb (Fb pv)->Nm pv=Hb
 ns:∃m,h.Ns env.locals m/\∀(x:Str)(i:Nat),slotIn sc.names x 0=Fb (i,.local)->∀pv,loc[i]?=Fb (Fb pv)->∃v,m x=Fb v/\Tb (λJ=>.free) v pv
section
variable{B:Heap}{sc:Scope}{env:Env}{loc:Loc}{pv:PV}{v:Value}{h:Heap} in
theorem re.rel(G:re B sc env h loc)(T:Option Ub):Wb B sc env loc [] (wg env.locals T h) h where
 base a o e:=UN (λq=>by subst q;rw[G.out] at e;injection e) (G.base a o e)
 hr:=t4 (by obtain⟨m,⟨o,E,I,e,r⟩,J⟩:=G.ns;exact⟨o,e⟩)
 er:={
  kind:=G.fix.kind
  ph:=G.fix.ph
  blt:=G.fix.blt
  len:=G.len
  Ug:=pL
  own:=by
   obtain⟨m,A,k⟩:=G.ns;exact⟨m,A,λx i H=>⟨G.fix.loc x i H,λpv Q=>by
    obtain⟨v,U,b⟩:=k x i H pv Q;exact⟨v,U,yC (G.Bt i pv Q) b⟩⟩⟩
  aj:=λx i H=>((G.fix.oG _ (Yp H)).1 rfl).elim
  Pk:=λx i H=>((G.fix.oG _ (Yp H)).2 rfl).elim
  apart:=λx y a i j H=>((G.fix.oG _ (Yp H)).1 rfl).elim
  Yi:=G.fix.Yi}
variable{B:Heap}{sc:Scope}{env:Env}{loc:Loc}{cf:Loc}{g:Gh}{pv:PV}{v:Value}{h:Heap}{h':Heap} in
theorem re.of(G:re B sc env h loc)(R:Wb B sc env cf [] g h')(H:∀(i:Nat)(pv:PV),cf[i]?=Fb (Fb pv)->Nm pv=Hb):re B sc env h' cf where
 fix:=G.fix
 base:=R.stays
 out:=G.out
 len:=R.er.len
 Bt:=H
 ns:=by
  obtain⟨m,A,j⟩:=R.er.own;refine⟨m,A,λx i y pv Q=>?_⟩;obtain⟨v,T,b⟩:=(j x i y).2 pv Q;exact⟨v,T,yC (H i pv Q) b⟩
def fi(C:Ub)(s Y:Vb):Prop:=(∀b o,b≠C->s.heap.get? b=Fb o->Y.heap.get? b=Fb o)/\Tr s Y
theorem fi.of(X:Ext (wg C T s.heap) g)(H:tc J.heap g [])(t:Tr s J):fi C s J:=by
 refine⟨λb o O e=>?_,t⟩;rcases UN O e with q|q
 ·exact H.out b o (X.at q (by intro h;injection h))
 ·exact H.Mb b o (X.at q (by intro h;injection h))
theorem w5{K:Ad}{st:jd}(H:ae w B K)(G:re B sc env s.heap loc)(I:Cc 0 A)(h:uc P0 ip n (Se GT k sc st) loc []=Fb ((.next,cf,[]),Hb))
  (C:∀(i:Nat)(pv:PV),cf[i]?=Fb (Fb pv)->Nm pv=Hb)(a:∀Y,re B sc env Y.heap cf->fi env.locals s Y->Q .next Y):Pb (Qb pw w) A (exec st env) Q E s:=by
 refine(It H (fE w B 0) n).ok _ _ _ _ _ _ _ _ h A env _ s E Q I (G.rel Gb) λf Y u R X T F=>?_
 cases F
 exact a Y (G.of R C) (fi.of X R.hr T)
theorem IL{K:Ad}(H:ae w B K)(G:re B sc env s.heap loc)(I:Cc 0 A)(h:ud (Yb P0 ip n) loc (qf GT k sc e) []=Fb ((b,[]),Hb))
  (a:∀Y,re B sc env Y.heap loc->fi env.locals s Y->Q b Y):Pb (Qb pw w) A (isTrue e env (eval e env)) Q E s:=
 Zp (ol H (fE w B 0) n) k e h A env _ s E Q I (G.rel Gb) λY u R X T=>a Y (G.of R G.Bt) (fi.of X R.hr T)
set_option tactic.hygienic true in
theorem j4{K:Ad}(b:ae w B K)(G:re B sc env s.heap loc)(I:Cc 0 A)(h:Yb P0 ip n (Zb GT k sc e) Ib loc []=Fb ((.Sb [.int i,.str c],[]),Hb))
  (d:∀a m t u x Y,s.heap.get? a=Gb->Y.heap.get? a=Fb (pf [.int i t,.str x u] m)->x.cps.toList=c->re B sc env Y.heap loc->fi env.locals s Y->Q (.ref a) Y):Pb (Qb pw w) A (eval e env) Q E s:=
 (ol b (fE w B 0) n).ok _ _ _ _ _ _ _ _ h A env _ s E Q I (G.rel Gb) λv Y y R X T V=>by
  refine Qc λo f=>?_;obtain⟨_,_,_,rfl,H,U⟩:=Tb.inv V
  rename_i a z m
  cases U with|cons L U=>
  cases U with|cons N U=>
  obtain rfl:=bc.inv U;obtain⟨t,rfl⟩:=Tb.inv L;obtain⟨_,_,rfl,O⟩:=Tb.inv N;refine f ?_;refine d a m t _ _ Y ?_ (R.hr.Mb _ _ H) O (G.of R G.Bt) (fi.of X R.hr T);rcases xn env.locals Gb s.heap a with⟨_,j⟩|⟨_,C,l,⟨_,q⟩|⟨q,_⟩⟩|⟨_,l,_⟩
  ·rw[X.at j (by intro h;injection h)] at H;injection H
  ·rw[X.at q (by intro h;injection h)] at H;injection H
  ·exact nn q
  ·exact l
end
noncomputable def Gc:ca->Nat->Bool->List PV
 |[],p,e=>if e then[.Sb [.int (p-1:Nat),.str [92]]] else[]|c::r,p,Hb=>.Sb [.int p,.str [92,c]]::Gc r (p+1) Ib|c::r,p,Ib=>if c=92 then Gc r (p+1) Hb else .Sb [.int p,.str [c]]::Gc r (p+1) Ib
noncomputable def yd:Scope:=(yc "_iter_escaped_chars").2.2
noncomputable def Fj:List jd:=(yc "_iter_escaped_chars").2.1
theorem XB:slotIn yd.names ya 0=Fb (0,.local)/\slotIn yd.names (Kb "pos") 0=Fb (1,.local)/\slotIn yd.names (Kb "escape") 0=Fb (2,.local):=⟨by decide+kernel,by decide+kernel,by decide+kernel⟩
theorem TB:slotIn yd.names (Kb "enumerate") 0=Fb (4,.globalImplicit)/\yd.names.length=5/\GT.kc.lookup (Kb "enumerate")=Fb (.oc .enum):=⟨by decide+kernel,by decide+kernel,by rfl⟩
structure Th where
 k1:Nat
 k2:Nat
 q1:Pos
 q2:Pos
 q3:Pos
 q4:Pos
 q5:Pos
 q6:Pos
 q7:Pos
 es:ka
 q:Nat
 r:Pos
 t1:Expr
 y1:Expr
 b1:jd
 t2:Expr
 b2:jd
 y2:Expr
 t3:Expr
 y3:Expr
 p1:Pos
 p2:Pos
 p3:Pos
 p4:Pos
 p5:Pos
 p6:Pos
 p7:Pos
 p8:Pos
 p9:Pos
 xP:Pos
 nQ:Pos
 kQ:Pos
noncomputable def Th.turn(G:Th):List jd:=[.If G.t1 [.Expr (.Yield (Fb G.y1) G.p3) G.p4,G.b1] [.If G.t2 [G.b2] [.Expr (.Yield (Fb G.y2) G.p5) G.p6] G.p7] G.p8]
noncomputable def Th.last(G:Th):List jd:=[.If G.t3 [.Expr (.Yield (Fb G.y3) G.xP) G.nQ] [] G.kQ]
noncomputable def Th.a1(G:Th):jd:=.Assign [.Name (Kb "pos") G.q1] (.Constant (.int 0) G.k1 G.q2) G.q3
noncomputable def Th.a2(G:Th):jd:=.Assign [.Name (Kb "escape") G.q4] (.Constant (.bool Ib) G.k2 G.q5) G.q6
noncomputable def Th.ad(G:Th):Expr:=.Name ya G.q7
noncomputable def Th.iter(G:Th):Expr:=.Call (.Name (Kb "enumerate") G.p1) [G.ad] [] G.p2
structure Bq(G:Th):Prop where
 body:Fj=G.a1::G.a2::.For (.Tuple G.es G.q G.r) G.iter G.turn [] G.p9::G.last
 tg:rd GT 60 yd (.Tuple G.es G.q G.r)=.Sb [.Jb 1,.Jb 3]
 t1:qf GT 60 yd G.t1=.fc (.Jb 2)
 y1:Zb GT 60 yd G.y1=.Sb [.Jb 1,.cc .Add (.str [92]) (.Jb 3)]
 b1:Se GT 60 yd G.b1=.asg (.Jb 2) (.bool Ib)
 t2:qf GT 60 yd G.t2=.fc (.mc .Eq (.Jb 3) (.str [92]))
 b2:Se GT 60 yd G.b2=.asg (.Jb 2) (.bool Hb)
 y2:Zb GT 60 yd G.y2=.Sb [.Jb 1,.Jb 3]
 t3:qf GT 60 yd G.t3=.fc (.Jb 2)
 y3:Zb GT 60 yd G.y3=.Sb [.Jb 1,.str [92]]
noncomputable def gS(i:Nat):jd:=sA Fj i
noncomputable def gI:jd:=sB (gS 2) 0 0
noncomputable def gL:jd:=gS 3
noncomputable def G0:Th where
 q1:=eP (sE (gS 0) 1)
 k1:=eN (sE (gS 0) 0)
 q2:=eP (sE (gS 0) 0)
 q3:=sP (gS 0)
 q4:=eP (sE (gS 1) 1)
 k2:=eN (sE (gS 1) 0)
 q5:=eP (sE (gS 1) 0)
 q6:=sP (gS 1)
 es:=(eK (sE (gS 2) 0)).1
 q:=eN (sE (gS 2) 0)
 r:=eP (sE (gS 2) 0)
 p1:=eP (eE (sE (gS 2) 1) 0)
 q7:=eP (eE (sE (gS 2) 1) 1)
 p2:=eP (sE (gS 2) 1)
 t1:=sE gI 0
 y1:=eE (sE (sB gI 0 0) 0) 0
 p3:=eP (sE (sB gI 0 0) 0)
 p4:=sP (sB gI 0 0)
 b1:=sB gI 0 1
 t2:=sE (sB gI 1 0) 0
 b2:=sB (sB gI 1 0) 0 0
 y2:=eE (sE (sB (sB gI 1 0) 1 0) 0) 0
 p5:=eP (sE (sB (sB gI 1 0) 1 0) 0)
 p6:=sP (sB (sB gI 1 0) 1 0)
 p7:=sP (sB gI 1 0)
 p8:=sP gI
 p9:=sP (gS 2)
 t3:=sE gL 0
 y3:=eE (sE (sB gL 0 0) 0) 0
 xP:=eP (sE (sB gL 0 0) 0)
 nQ:=sP (sB gL 0 0)
 kQ:=sP gL
theorem i7:Bq G0 where
 body:=by kernel_rfl
 tg:=by kernel_rfl
 t1:=by kernel_rfl
 y1:=by kernel_rfl
 b1:=by kernel_rfl
 t2:=by kernel_rfl
 b2:=by kernel_rfl
 y2:=by kernel_rfl
 t3:=by kernel_rfl
 y3:=by kernel_rfl
theorem iV:∃G,Bq G:=⟨G0,i7⟩
theorem qW(H:A.handled=Gb)(I:Ub)(x:Str)(t:Tok):
  Draws pw w A I [I] x.cps.size (λi v=>∃c u,x.cps[i]?=Fb c/\v=.str ⟨#[c]⟩ u) (λi h=>h.IsStrIter I (zr x) x t i):=by
 unfold zr
 split
 ·exact Draws.strAscii H I x t
 ·exact Draws.strWide H I x t
def yi(C e I:Ub)(Q s:Vb):Prop:=(∀b o,b≠C->b≠e->b≠I->Q.heap.get? b=Fb o->s.heap.get? b=Fb o)/\Tr Q s
theorem yi.Lo(h:yi C e I Q s)(k:fi C s Y):yi C e I Q Y:=
 ⟨λb o H j T q=>k.1 b o H (h.1 b o H j T q),h.2.trans k.2⟩
theorem yi.refl(C e I:Ub)(s:Vb):yi C e I s s:=⟨λJ J J J J q=>q,Tr.refl s⟩
theorem fi.trans(h:fi C s Y)(k:fi C Y a):fi C s a:=⟨λb o H q=>k.1 b o H (h.1 b o H q),h.2.trans k.2⟩
noncomputable def gY(B:Heap)(C e I:Ub)(all:List PV):Protocol:=λm Q v s k=>
 (∃a n t u i x,v=.ref a/\Q.heap.get? a=Gb/\(a≠C/\a≠e/\a≠I)/\s.heap.get? a=Fb (pf [.int i t,.str x u] n)/\all[all.length-1-m]?=Fb (.Sb [.int i,.str x.cps.toList]))/\
 yi C e I Q s/\(∃o,s.heap.get? C=Fb o)/\(∃o,s.heap.get? e=Fb o)/\(∃o,s.heap.get? I=Fb o)/\
 ∀Y:Vb,(∀b o,(b=C\/b=e\/b=I\/∃y,B.get? b=Fb y)->s.heap.get? b=Fb o->Y.heap.get? b=Fb o)->k (.send .none) Y
noncomputable def gR(C e I:Ub):Nat->Vb->Vb->Prop:=λn Q s=>n=0/\yi C e I Q s
noncomputable abbrev gE(C e I:Ub):GenEnd:=λn Q r s=>r=.ok (.ret .none)/\gR C e I n Q s
noncomputable def Xi(x:ca)(i:Nat)(b:Bool)(C:Option PV):Loc:=[Fb (.str x),Fb (.int ((i-1:Nat):Int)),Fb (.bool b),C,Gb]
def E_(C:Option PV):Prop:=C=Gb\/∃c,C=Fb (.str c)
noncomputable def scO:Option PV->Bool
 |some p=>Nm p|none=>Hb
theorem dD{l:Loc}(h:l.all scO=Hb){i:Nat}(e:l[i]?=Fb (Fb p)):Nm p=Hb:=List.all_eq_true.mp h _ (bh e)
theorem MB(h:E_ C)(j:Nat)(p:PV)(e:(Xi x i b C)[j]?=Fb (Fb p)):Nm p=Hb:=
 dD (h.elim (λh=>h▸rfl) λh=>h.elim λc h=>h▸rfl) e
section
variable{B:Heap}{env:Env}{loc:Loc}{h:Heap}{h':Heap}{m:Nat} in
theorem re.kept{s:Scope}(G:re B s env h loc)(H:∀b o,(b=env.locals\/∃y,B.get? b=Fb y)->h.get? b=Fb o->h'.get? b=Fb o):re B s env h' loc where
 fix:=G.fix
 base:=λa o q=>H a o (.inr ⟨o,q⟩) (G.base a o q)
 out:=G.out
 len:=G.len
 Bt:=G.Bt
 ns:=G.ns.elim λm h=>⟨m,Heap.Ns.Wh h.1 λo q=>H _ o (.inl rfl) q,h.2⟩
theorem NJ{K:Ad}{KK:Flow->Sem Fin}(hd:ae w B K)(G:re B yd env s.heap loc)(hA:Cc 0 (A.over c f))(G_:Yb P0 ip 60 (Zb GT 60 yd y) Ib loc []=Fb ((.Sb [.int i,.str l],[]),Hb))
  (hfs:splitAtGen f=Gb)(W':gd Ib=Ib)(hfg:f.any mR=Ib)(U:yi C e I V s)(D:env.locals=C)(hec:e≠C)(hic:I≠C)(d:∃o,s.heap.get? e=Fb o)(E:∃o,s.heap.get? I=Fb o)
  (nF:all[all.length-1-m]?=Fb (.Sb [.int i,.str l]))
  (next:∀Y J,fi C s J->re B yd env Y.heap loc->(∀b o,(b=C\/b=e\/b=I)->J.heap.get? b=Fb o->Y.heap.get? b=Fb o)->Seg (Qb pw w) A (gE C e I) (gY B C e I all) m Y c (KK .next) f Y):
  Seg (Qb pw w) A (gE C e I) (gY B C e I all) (m+1) V c ((exec (.Expr (.Yield (Fb y) p) p') env).wrap KK H gd lv) f s:=by
 refine seg_Expr_Yield hfs W' hfg (j4 hd G hA G_ λa k t u x s' z Bw hx g r kap Q9=>?_) G.fix.co G.fix.inter;have Zo:=U.Lo (D▸r);refine Qc λGG kk=>?_;obtain⟨mm,⟨oC,es,ep,eC,X⟩,X⟩:=g.ns;have N:a≠C:=λq1=>by
  obtain⟨m0,⟨O,X,X,e0,X⟩,X⟩:=G.ns;rw[q1,<-D,e0] at z;injection z
 have L:a≠e:=λQ=>by
  obtain⟨O,e0⟩:=d;rw[Q,e0] at z;injection z
 have j:a≠I:=λQ=>by
  obtain⟨O,e0⟩:=E;rw[Q,e0] at z;injection z
 refine kk ?_;refine⟨⟨a,k,t,u,i,x,rfl,?_,⟨N,L,j⟩,Bw,by rw[hx];exact nF⟩,Zo,⟨oC,D▸eC⟩,?_,?_,λY hk=>?_⟩
 ·cases q:V.heap.get? a with
  |none=>rfl|some o=>rw[U.1 a o N L j q] at z;injection z
 ·obtain⟨O,e0⟩:=d
  exact⟨O,r.1 _ _ (D▸hec) e0⟩
 ·obtain⟨O,e0⟩:=E
  exact⟨O,r.1 _ _ (D▸hic) e0⟩
 ·refine Q9 .none Y (next Y s' (D▸r) (g.kept λb o T q=>hk b o ?_ q) λb o T q=>hk b o ?_ q)
  ·rcases T with q|q
   ·exact .inl (q.trans D)
   ·exact .inr (.inr (.inr q))
  ·rcases T with q|q|q
   ·exact .inl q
   ·exact .inr (.inl q)
   ·exact .inr (.inr (.inl q))
structure gp(h:Heap)(e it:Ub)(x:Str)(t:Tok)(i:Nat):Prop where
 en:∃old,IsEnum h e it (i:Int) old
 sr:h.IsStrIter it (zr x) x t i
theorem gp.kept(g:gp h e I x t i)(H:∀b o,(b=e\/b=I)->h.get? b=Fb o->h'.get? b=Fb o):gp h' e I x t i:=
 ⟨g.en.elim λold q=>⟨old,H e _ (.inl rfl) q⟩,g.sr.elim λo h=>⟨o,H I o (.inr rfl) h.1,h.2⟩⟩
theorem gp.OF(g:gp h e I x t i):∃o,h.get? e=Fb o:=g.en.elim λJ q=>⟨_,q⟩
theorem gp.Fw(g:gp h e I x t i):∃o,h.get? I=Fb o:=g.sr.elim λo h=>⟨o,h.1⟩
theorem MY{K:Ad}{KK:Flow->Sem Fin}(q:Bq G){x:Str}(T:ae w B K)(F:re B yd env s.heap (Xi x.cps.toList i b L))(J:Cc 0 (A.over c []))
  (U:yi C e I Q s)(D:env.locals=C)(V:e≠C)(r:I≠C)(d:∃o,s.heap.get? e=Fb o)(y:∃o,s.heap.get? I=Fb o)(f:g Ib=Ib)(a:KK .next=leafOf (.ok (.ret .none)))
  (j:∃pre,all=pre++Gc [] i b):Seg (Qb pw w) A (gE C e I) (gY B C e I all) (Gc [] i b).length Q c ((kf G.last env).wrap KK H g l) [] s:=by
 unfold Th.last;refine yr (ON (IL (n:=60) T F J (by rw[q.t3];rfl) λk t p=>?_))
 induction b using Ld with
 |false=>
  refine pq (by decide) ?_;refine hH ?_;show Seg _ A _ _ _ Q c ((kf [] env).wrap KK H g l) [] k;refine hH ?_;rw[a];exact seg_end _ ⟨rfl,rfl,U.Lo (D▸p)⟩
 |true=>
  refine Js rfl ?_;refine yr ?_;refine NJ (m:=0) T t J (by rw[q.y3];rfl) rfl f rfl (U.Lo (D▸p)) D V r ?_ ?_ ?_ λY N u z X=>?_
  ·obtain⟨O,e0⟩:=d
   exact⟨O,p.1 _ _ (D▸V) e0⟩
  ·obtain⟨O,e0⟩:=y
   exact⟨O,p.1 _ _ (D▸r) e0⟩
  ·obtain⟨pre,rfl⟩:=j
   simp[Gc]
  ·show Seg _ A _ _ 0 Y c ((kf [] env).wrap _ H g l) [] Y
   refine hH ?_;show Seg _ A _ _ 0 Y c ((kf [] env).wrap KK H g l) [] Y;refine hH ?_;rw[a];exact seg_end _ ⟨rfl,rfl,yi.refl C e I Y⟩
end
theorem uM(h:all=pre++v::r)(H:r.length=m):all[all.length-1-m]?=Fb v:=by
 subst h H;have:(pre++v::r).length-1-r.length=pre.length:=by rw[Pd,xj];exact Nat.add_sub_cancel pre.length r.length
 rw[this,YQ (Ed _),Nat.sub_self];rfl
theorem NC(h:all=pre++v::r):∃p,all=p++r:=⟨pre++[v],by refine h.trans ?_;simp⟩
section
theorem t5(p:A.handled=Gb)(hit:s.heap.IsStrIter I (zr x) x t i)(N:x.cps[i]?=Gb)
  (l:∀V e,Heap.ExtBut I s.heap V->(∃o,V.get? I=Fb o)->(∃o,V.get? e=Fb o/\o.cls=.type "StopIteration")->E (.ref e) {s with heap:=V}):Pb (Qb pw w) A (im (.ref I)) Q E s:=by
 unfold zr at hit;unfold im
 split at hit
 ·obtain⟨o,h,d,H⟩:=id hit
  refine Ob (yp hit.typeIs raa (jm raa hit.typeIs F.entry_str_ascii_iterator_next ?_ (F.args_str_ascii_iterator_next_1 _)));show Pb _ _ (Al (.ref I) 0>>=_) _ _ s;refine Ob (Rh h H (x:=.str x t) rfl ?_);show Pb _ _ (Al (.ref I) 1>>=_) _ _ s;refine Ob (Rh h H (x:=.int i 0) rfl ?_);simp only [pr,N];refine Ob (so (Ob (PG h H (by simp) (Ob (fu ?_)))));exact iD p λO J e B j=>l _ _ (((Heap.SameBut.update ..).extBut.push _).push _) ⟨_,Heap.get?_push_of_some _ (Heap.get?_push_of_some _ (Heap.get?_update_self _ h (MQ (QG H _))))⟩ ⟨_,B,j⟩
 ·obtain⟨o,h,d,H⟩:=id hit
  refine Ob (yp hit.typeIs F.slot_str_iterator_next (jm F.slot_str_iterator_next hit.typeIs F.entry_str_iterator_next ?_ (F.args_str_iterator_next_1 _)));show Pb _ _ (Al (.ref I) 0>>=_) _ _ s;refine Ob (Rh h H (x:=.str x t) rfl ?_);show Pb _ _ (Al (.ref I) 1>>=_) _ _ s;refine Ob (Rh h H (x:=.int i 0) rfl ?_);simp only [pr,N];refine Ob (so (Ob (PG h H (by simp) (Ob (fu ?_)))));exact iD p λO J e B j=>l _ _ (((Heap.SameBut.update ..).extBut.push _).push _) ⟨_,Heap.get?_push_of_some _ (Heap.get?_push_of_some _ (Heap.get?_update_self _ h (MQ (QG H _))))⟩ ⟨_,B,j⟩
theorem M0(p:A.handled=Gb)(H:IsEnum s.heap e I k old)(hit:s.heap.IsStrIter I (zr x) x t i)(N:x.cps[i]?=Gb)
  (Y:∀h,Heap.ExtBut I s.heap h->(∃o,h.get? I=Fb o)->Q Gb {s with heap:=h}):Pb (Qb pw w) A (fj (.ref e)) Q E s:=by
 have hT:s.TypeIs (.ref e) "enumerate":=⟨_,H,rfl⟩;unfold fj;refine Ob (wpAny_attempt (yp hT F.slot_enumerate_next (jm F.slot_enumerate_next hT F.entry_enumerate_next ?_ (F.args_enumerate_next_1 _))));show Pb _ _ (Al (.ref e) 2>>=_) _ _ _;refine Ob (Rh H rfl (x:=.ref I) rfl (Ob (t5 p hit N λh x G O J=>?_)));obtain⟨o,z,d⟩:=J;exact Ob (PQ ⟨o,z,d⟩ isSubtype_stop (vc (Y _ G O)))
end
section
theorem sU(H:Bq G){x:Str}{nn:Nat}(F:re B yd e s.heap (Xi x.cps.toList i b C))(I:A.handled=Gb)
  (h:s.heap.get? a=Fb (pf [.int i t,.str ⟨#[c]⟩ u] nn))(g:a≠e.locals)(d:∀Y,re B yd e Y.heap (Xi x.cps.toList (i+1) b (Fb (.str [c])))->fi e.locals s Y->Q () Y):
  Pb (Qb pw w) A (qg (.Tuple G.es G.q G.r) e (.ref a)) Q E s:=by
 have O:He 6 (rd GT 60 yd (.Tuple G.es G.q G.r)) (.Sb [.int i,.str [c]]) (Xi x.cps.toList i b C)=Fb (Xi x.cps.toList (i+1) b (Fb (.str [c]))):=by rw[H.tg];rfl
 have D:wg e.locals (Fb a) s.heap a=.Mb (pf [.int i t,.str ⟨#[c]⟩ u] nn):=by
  refine Qc λl V=>?_;rcases xn e.locals (Fb a) s.heap a with⟨q,J⟩|⟨J,o,k,⟨q,J⟩|⟨J,q⟩⟩|⟨J,k,J⟩
  ·exact(g q).elim
  ·exact(q rfl).elim
  ·rw[h] at k;obtain rfl:=jc k;refine V ?_;exact q
  ·rw[h] at k;injection k
 refine sy 6 O (.Sb D (.cons (.int _ _) (.cons (.str rfl) .nil))) I (F.rel (Fb a)) λY y R X T=>?_;exact d Y (F.of R (MB (.inr ⟨_,rfl⟩))) (fi.of X R.hr T)
inductive Dh(B:Heap)(C e it:Ub)(env:Env)(x:Str)(t:Tok)(i j:Nat)(b:Bool)(ch:Option PV)(sb s:Vb):Prop
 |mk(F:re B yd env s.heap (Xi x.cps.toList i b ch))(I:gp s.heap e it x t j)(S:yi C e it sb s)
section
theorem Dh.Lo(h:e≠E.locals)(H:k≠E.locals)(g:Dh B E.locals e k E x t i j b J U s)(F:re B yd E Y.heap (Xi x.cps.toList u f C))(S:fi E.locals s Y):Dh B E.locals e k E x t u j f C U Y:=
 g.casesOn λK I O=>⟨F,I.kept λa o Q q=>S.1 a o (Q.elim (λz=>z.symm▸h) λz=>z.symm▸H) q,O.Lo S⟩
def QN(w:xd)(A:Dd)(B:Heap)(C e I:Ub)(E:Env)(all:List PV)(x:Str)(t:Tok)(i u:Nat)(r:ca)(c:Code)(S:Sem Fin)(f:List Frame):Prop:=
 ∀b U s,(∃pre,all=pre++Gc r (i+1) b)->Dh B C e I E x t (i+1) (i+1) b (Fb (.str [u])) U s->Seg (Qb pw w) A (gE C e I) (gY B C e I all) (Gc r (i+1) b).length U c S f s
theorem nL{K:Ad}{KK:Flow->Sem Fin}(T:ae w B K)(g:Dh B E.locals e m E x t i j b C V s)(J:Cc 0 (A.over c f))(D:Yb P0 ip 60 (Zb GT 60 yd y) Ib (Xi x.cps.toList i b C) []=Fb ((.Sb [.int k,.str z],[]),Hb))
  (u:splitAtGen f=Gb)(Y:G Ib=Ib)(L:f.any mR=Ib)(U:e≠E.locals)(r:m≠E.locals)(d:∃pre,all=pre++.Sb [.int k,.str z]::l)
  (next:∀s,Dh B E.locals e m E x t i j b C s s->Seg (Qb pw w) A (gE E.locals e m) (gY B E.locals e m all) l.length s c (KK .next) f s):
  Seg (Qb pw w) A (gE E.locals e m) (gY B E.locals e m all) (l.length+1) V c ((exec (.Expr (.Yield (Fb y) p) p') E).wrap KK H G lv) f s:=
 g.casesOn λF I S=>NJ T F J D u Y L S rfl U r I.OF I.Fw (d.elim λX N=>uM N rfl) λO X Q P' hk5=>
  next O ⟨P',(I.kept λa o h q=>Q.1 a o (h.elim (λz=>z.symm▸U) λz=>z.symm▸r) q).kept λX X h q=>hk5 _ _ (.inr h) q,yi.refl ..⟩
theorem VH{K:Ad}{KK:Flow->Sem Fin}{st:jd}(h:ae w B K)(g:Dh B E.locals e k E x t i j b C U s)(J:Cc 0 (A.over c f))(y:uc P0 ip 60 (Se GT 60 yd st) (Xi x.cps.toList i b C) []=Fb ((.next,Xi x.cps.toList z l (Fb (.str [u])),[]),Hb))
  (V:e≠E.locals)(o:k≠E.locals)(next:∀s,Dh B E.locals e k E x t z j l (Fb (.str [u])) U s->Seg (Qb pw w) A (gE E.locals e k) (gY B E.locals e k all) n U c ((kf r E).wrap KK H G L) f s):
  Seg (Qb pw w) A (gE E.locals e k) (gY B E.locals e k all) n U c ((kf (st::r) E).wrap KK H G L) f s:=
 g.casesOn λF I S=>wD (w5 h F J y (MB (.inr ⟨_,rfl⟩)) λO a p=>⟨rfl,next _ (Dh.Lo V o ⟨F,I,S⟩ a p)⟩)
theorem lM{K:Ad}{KK:Flow->Sem Fin}(h:ae w B K)(g:Dh B E.locals e k E x t i j b C U s)(J:Cc 0 (A.over c f))(y:ud (Yb P0 ip 60) (Xi x.cps.toList i b C) (qf GT 60 yd T) []=Fb ((v,[]),Hb))
  (V:e≠E.locals)(o:k≠E.locals)(next:∀s,Dh B E.locals e k E x t i j b C U s->Seg (Qb pw w) A (gE E.locals e k) (gY B E.locals e k all) n U c ((kf (cond v body orelse) E).wrap KK H G l) f s):
  Seg (Qb pw w) A (gE E.locals e k) (gY B E.locals e k all) n U c ((exec (.If T body orelse Y) E).wrap KK H G l) f s:=
 g.casesOn λF I S=>ON (IL h F J y λO a p=>by
  have q:=next _ (Dh.Lo V o ⟨F,I,S⟩ a p)
  induction v using Ld with
  |true=>exact q|false=>exact q)
theorem nY{K:Ad}{KK:Flow->Sem Fin}(l:Bq G)(T:ae w B K)(I:Cc 0 (A.over c f))(k:splitAtGen f=Gb)(V:m Ib=Ib)(J:f.any mR=Ib)(U:e≠E.locals)(o:j≠E.locals)
  (g:Dh B E.locals e j E x t (i+1) (i+1) b (Fb (.str [u])) Y s)(back:QN w A B E.locals e j E all x t i u r c (KK .next) f)(h:∃pre,all=pre++Gc (u::r) i b):
  Seg (Qb pw w) A (gE E.locals e j) (gY B E.locals e j all) (Gc (u::r) i b).length Y c ((kf G.turn E).wrap KK H m L) f s:=by
 unfold Th.turn;refine yr (lM T g I (by rw[l.t1];rfl) U o λs g=>?_)
 induction b using Ld with
 |true=>
  refine yr (nL T g I (by rw[l.y1];rfl) k V J U o h λs g=>?_);refine VH T g I (by rw[l.b1];rfl) U o λs g=>?_;exact back Ib _ s (h.elim λO=>NC) g
 |false=>
  refine yr (lM T g I (by rw[l.t2];rfl) U o λs g=>?_)
  by_cases q:u=92
  ·have y:Gc (u::r) i Ib=Gc r (i+1) Hb:=if_pos q
   rw[y] at h⊢;rw[q];refine VH T g I (by rw[l.b2];rfl) U o λs g=>?_;exact back Hb _ s h g
  ·have y:Gc (u::r) i Ib=.Sb [.int i,.str [u]]::Gc r (i+1) Ib:=if_neg q
   rw[y] at h⊢;rw[decide_eq_false λz=>q (ck z).1];refine yr (nL T g I (by rw[l.y2];rfl) k V J U o h λs g=>?_);exact back Ib _ s (h.elim λO=>NC) g
theorem re.LN(F:re B yd E h l)(U:e≠E.locals)(p:I≠E.locals)(C:B.get? e=Gb)(a:B.get? I=Gb)(D:∀b o,b≠e->b≠I->h.get? b=Fb o->V.get? b=Fb o):re B yd E V l:=
 F.kept λb o O q=>D b o (λz=>O.elim (λy=>U (z.symm.trans y)) λ⟨y,H⟩=>by rw[z,C] at H;injection H) (λz=>O.elim (λy=>p (z.symm.trans y)) λ⟨y,H⟩=>by rw[z,a] at H;injection H) q
noncomputable def il(G:Th)(e:Ub)(E:Env):Code:=.forLoop (.Tuple G.es G.q G.r) (.ref e) G.turn [] E
theorem K4(J:Cc 0 (A.over (il G e E) [.ret k Gb Ib l c p []]))(a:e≠E.locals)(r:j≠E.locals)(d:e≠j)(D:B.get? e=Gb)(f:B.get? j=Gb)
  (m:∀s b C,re B yd E s.heap (Xi x.cps.toList i b C)->yi E.locals e j U s->(∃o,s.heap.get? e=Fb o)->(∃o,s.heap.get? j=Fb o)->(∃pre,all=pre++Gc [] i b)->
   Seg (Qb pw w) A (gE E.locals e j) (gY B E.locals e j all) (Gc [] i b).length U c (k (.ok .next)) [] s)
  (y:i=x.cps.size)(u:∃pre,all=pre++Gc [] i b)(g:Dh B E.locals e j E x t i i b C U s):
  Seg (Qb pw w) A (gE E.locals e j) (gY B E.locals e j all) (Gc [] i b).length U (il G e E) ((Qb pw w).den (il G e E)) [.ret k Gb Ib l c p []] s:=
 g.casesOn λF I S=>I.en.elim λK V=>jI (M0 J.hand V I.sr (by rw[y];simp) λY H z=>
  v6 .next (m {s with heap:=Y} b C (F.LN a r D f λb o K h=>H b o h) ⟨λb o L N Q q=>H b o Q (S.1 b o L N Q q),S.2.trans (Tr.heap s Y s.toks)⟩ ⟨_,H _ _ d V⟩ z u))
theorem re.locs(F:re B yd e h l):e.locals<h.objs.size:=F.ns.elim λJ h=>ge h.1 λJ J J z=>Heap.lt_size z.1
theorem FY(U:e≠E.locals)(p:j≠E.locals)(Y:e≠j)(C:B.get? e=Gb)(a:B.get? j=Gb)(g:Dh B E.locals e j E x t i i b J V s)
  (hT:z.get? s.heap.objs.size=Fb T)(D:z.IsStrIter j (zr x) x t (i+1))(G:∀b o,b≠e->b≠j->s.heap.get? b=Fb o->z.get? b=Fb o)(A:Heap.SameBut e z h)(d:IsEnum h e j ((i:Int)+1) v):
  h.get? s.heap.objs.size=Fb T/\s.heap.objs.size≠E.locals/\Dh B E.locals e j E x t i (i+1) b J V {s with heap:=h,toks:=tk+1}:=
 g.casesOn λF I S=>have y:=λb o H k q=>A.extBut b o H (G b o H k q)
  ⟨A.extBut _ _ (I.OF.elim λK q=>ri (Heap.lt_size q)) hT,ri F.locs,F.LN U p C a y,⟨⟨_,d⟩,D.elim λo q=>⟨o,A.extBut j o Y.symm q.1,q.2⟩⟩,λb o H k Q q=>y b o k Q (S.1 b o H k Q q),S.2.trans (Tr.heap s h (tk+1))⟩
theorem R0{K:Ad}(m:Bq G)(a:ae w B K)(H:Cc 0 (A.over (il G e E) [.ret k Gb Ib l C d []]))(U:e≠E.locals)(o:j≠E.locals)(Y:e≠j)(D:B.get? e=Gb)(q:B.get? j=Gb)
  (y:x.cps[i]?=Fb u)(L:i<x.cps.size)(J:∃pre,all=pre++Gc (u::r) i b)(g:Dh B E.locals e j E x t i i b ch V s)
  (back:QN w A B E.locals e j E all x t i u r (il G e E) ((Qb pw w).den (il G e E)) [.ret k Gb Ib l C d []]):
  Seg (Qb pw w) A (gE E.locals e j) (gY B E.locals e j all) (Gc (u::r) i b).length V (il G e E) ((Qb pw w).den (il G e E)) [.ret k Gb Ib l C d []] s:=by
 induction g using Dh.casesOn with
 |mk F I N=>?_
 refine I.en.elim λold O=>I.OF.elim λoe hoe=>jI ?_;have Q:=qW (w:=w) (A:=(A.over (il G e E) [.ret k Gb Ib l C d []]).in1) H.hand j x t;refine wpAny_pyNext_enum_itemD Q O I.sr L Y (λz=>Y (List.mem_singleton.mp z)) λv Mz T h ho Xj hT hz hk=>?_;refine h.elim λc' h=>h.elim λz h=>wpAny_letOwnedTupleGo_enum ho λUd b8 jz=>?_;rw[h.2,<-jc (y.symm.trans h.1)] at hT;refine(FY (tk:=T) U o Y D q ⟨F,I,N⟩ hT Xj hk jz b8).elim λhT g=>g.elim λhl g=>g.casesOn λf z_ u'=>?_;exact sU m (s:={s with heap:=Ud,toks:=T+1}) f H.hand hT hl λMh Vv W9=>nY m a H rfl rfl rfl U o (Dh.Lo U o ⟨f,z_,u'⟩ Vv W9) (λb V s p g=>seg_again rfl (back b V s p g)) J
theorem SX{K:Ad}(m:Bq G)(T:ae w B K)(J:Cc 0 (A.over (il G e E) [.ret k Gb Ib y L d []]))(V:e≠E.locals)(q:I≠E.locals)(Y:e≠I)(D:B.get? e=Gb)(a:B.get? I=Gb)
  (z:∀U s i b C,re B yd E s.heap (Xi x.cps.toList i b C)->yi E.locals e I U s->(∃o,s.heap.get? e=Fb o)->(∃o,s.heap.get? I=Fb o)->(∃pre,all=pre++Gc [] i b)->
   Seg (Qb pw w) A (gE E.locals e I) (gY B E.locals e I all) (Gc [] i b).length U L (k (.ok .next)) [] s)(l:ca):
  ∀i b C U s,x.cps.toList.drop i=l->i<=x.cps.size->(∃pre,all=pre++Gc l i b)->Dh B E.locals e I E x t i i b C U s->
   Seg (Qb pw w) A (gE E.locals e I) (gY B E.locals e I all) (Gc l i b).length U (il G e E) ((Qb pw w).den (il G e E)) [.ret k Gb Ib y L d []] s:=by
 induction l with
 |nil=>exactλi b C U s h hle H g=>K4 J V q Y D a (λs b C=>z U s i b C) (xA hle (eH▸List.drop_eq_nil_iff.mp h)) H g|cons u r f=>
  intro i b C U s h hle H g;have j:x.cps[i]?=Fb u:=by rw[<-baa,<-Nat.add_zero i,<-List.getElem?_drop,h];rfl
  have N:=(Array.getElem?_eq_some_iff.mp j).1;exact R0 m T J V q Y D a j N H g λb U s p g=>f (i+1) b _ U s (by refine List.drop_drop.symm.trans ?_;rw[h];rfl) N p g
end
end
section
theorem TJ(g:c=.int 0/\f=.int 0\/c=.bool Ib/\f=.bool Ib)(G:re B l T s.heap L)(H:slotIn l.names x 0=Fb (j,.local))
  (C:∀(i:Nat)(p:PV),(L.set j (Fb f))[i]?=Fb (Fb p)->Nm p=Hb)(r:∀Y,re B l T Y.heap (L.set j (Fb f))->fi T.locals s Y->Y.heap.objs.size=s.heap.objs.size->Q .next Y):
  Pb (Qb pw w) A (exec (.Assign [.Name x d] (.Constant c k q) U) T) Q E s:=by
 have z:∀(v:Value)(t:Nat),Tb (wg T.locals Gb s.heap) v f->Pb (Qb pw w) A (NG T v Gb [qg (.Name x d) T]) Q E {s with toks:=t}:=by
  intro v t u;show Pb _ A (do assignAll v [qg (.Name x d) T];pure .next) Q E _;refine Ob (GA ?_);have R:=G.rel Gb;obtain⟨m,I,a⟩:=R.er.own;refine wpAny_storeName_local (a x j H).1 I (λV D h=>?_) (by rw[R.er.kind];rfl);have J:=R.HK H (λy j N p O=>(a y j N).2 p O) D h u;exact vc (r {s with heap:=V,toks:=_} (G.of J C) ⟨λb o hb e=>h.extBut b o hb e,Tr.heap s V _⟩ h.1)
 rw[KA];refine Ob (gj ?_);show Pb _ A (jr (.Constant c k q) (Fb (.Name x d)) U.line T>>=_) Q E s;refine Ob (vc ?_);refine Jj (by decide) ?_;rcases g with⟨rfl,rfl⟩|⟨rfl,rfl⟩
 ·refine Ob (wpAny_Constant_int ?_)
  show Pb _ A (pure Gb>>=λq=>NG T _ q [qg (.Name x d) T]) Q E _;exact Ob (vc (z _ _ (.int _ _)))
 ·refine Ob (wpAny_Constant_bool ?_)
  show Pb _ A (pure Gb>>=λq=>NG T _ q [qg (.Name x d) T]) Q E _;exact Ob (vc (z _ s.toks (.bool _)))
set_option tactic.hygienic true in
theorem O1{K:Ad}{G:Th}{x:Str}(T:ae w B K)(F:re B yd e s.heap (Xi x.cps.toList i b O))
  (Y:∀h y t,y.cps.toList=x.cps.toList->IsEnum h (s.heap.objs.size+1) s.heap.objs.size 0 .none->h.IsStrIter s.heap.objs.size (zr y) y t 0->(∀b o,s.heap.get? b=Fb o->h.get? b=Fb o)->Q (.ref (s.heap.objs.size+1)) {s with heap:=h}):
  Pb (Qb pw w) A (eval G.iter e) (λv J=>Pb (Qb pw w) A (cn v) Q E J) E s:=by
 refine we TB λC j U=>?_;have R:=F.rel Gb;refine jn (uk T.kc C (by decide+kernel) U R ?_);refine Pv.callWith_type1 ?_;refine Qc λg k=>?_;obtain⟨m,I,a⟩:=R.er.own;obtain⟨H,D⟩:=a _ _ XB.1;obtain⟨v,z,p⟩:=D (.str x.cps.toList) rfl;obtain⟨_,_,rfl,N⟩:=Tb.inv p
 rename_i y t
 refine k ?_;refine vp (br (tG R.er.kind H I z ?_) (by decide+kernel)) rfl;refine ir ?_;refine call_enumerate_str λh V L d H=>?_;exact SG V (Y h y t N V L H)
theorem JV{K:Ad}{x:Str}(T:ae w B K)(O:Cc 0 (A.over (.func Fj E) []))
  (r:∀Nb j body k l p,Cc 0 (A.over (.forLoop Nb j body [] E) [.ret k Gb Ib l (.func Fj E) p []]))(F:re B yd E s.heap [Fb (.str x.cps.toList),Gb,Gb,Gb,Gb]):
  Seg (Qb pw w) A (gE E.locals (s.heap.objs.size+1) s.heap.objs.size) (gY B E.locals (s.heap.objs.size+1) s.heap.objs.size (Gc x.cps.toList 0 Ib)) (Gc x.cps.toList 0 Ib).length s (.func Fj E) ((Qb pw w).den (.func Fj E)) [] s:=by
 obtain⟨G,H⟩:=iV;refine seg_func ?_;have m:∀Nb j body k l p,Cc 0 (A.over (.forLoop Nb j body [] E) [.ret k Gb Ib l (.func (G.a1::G.a2::.For (.Tuple G.es G.q G.r) G.iter G.turn [] G.p9::G.last) E) p []]):=by rw[<-H.body];exact r
 have u:Cc 0 (A.over (.func (G.a1::G.a2::.For (.Tuple G.es G.q G.r) G.iter G.turn [] G.p9::G.last) E) []):=by rw[<-H.body];exact O
 rw[H.body];have J:∀(i:Nat)(p:PV),([Fb (.str x.cps.toList),Fb (.int 0),Gb,Gb,Gb]:Loc)[i]?=Fb (Fb p)->Nm p=Hb:=λi p e=>dD rfl e;refine wD (TJ (.inl ⟨rfl,rfl⟩) F XB.2.1 J λZd Q U d=>⟨rfl,?_⟩);refine wD (TJ (.inr ⟨rfl,rfl⟩) Q XB.2.2 (MB (i:=0) (.inl rfl)) λI f g H9=>⟨rfl,?_⟩);have f:re B yd E I.heap (Xi x.cps.toList 0 Ib Gb):=f;have S:=U.trans g;have z:=H9.trans d;refine yr (w6 (uB (by rw[show Zb GT 60 yd G.iter=.oc .enum [.Jb 0] from rfl];exactλh=>nn (congrArg mv h).symm) E) ?_);refine O1 T f λV y t a Y C D=>?_;intro p k M';rw[z] at Y C⊢;have N:∀n,s.heap.objs.size<=n->B.get? n=Gb:=λn hn=>by
  cases q:B.get? n with
  |none=>rfl|some o=>exact absurd (Heap.lt_size (F.base _ _ q)) (Nat.not_lt.mpr hn)
 have L:E.locals<s.heap.objs.size:=by
  obtain⟨m0,⟨o0,X,X,e0,X⟩,X⟩:=F.ns;exact Heap.lt_size e0
 rw[<-a];refine SX H T (m _ _ _ _ _ _) (ri (jo L)) (ri L) (VG _) (N _ (km _)) (N _ (Ed _)) (λQh s' i b ch F' Zo he' hi' nF=>?_) y.cps.toList 0 Ib Gb s {I with heap:=V} rfl (ah _) ⟨[],rfl⟩ ⟨?_,⟨⟨_,Y⟩,C⟩,?_⟩
 ·rw[M']
  exact MY H T F' u Zo rfl (ri (jo L)) (ri L) he' hi' rfl rfl nF
 ·rw[a]
  exact f.kept λb o X q=>D b o q
 ·exact⟨λb o h1 X X q=>D b o (S.1 b o h1 q),S.2.trans (Tr.heap I V I.toks)⟩
end
noncomputable def star(d:Nat):Dd:={handled:=Gb,depth:=994-2*d,frames:=Gb,guards:=Gb,units:=9799-10*d}
theorem rW{α:Type}{M:Model}{t:Sem α}{Q:α->Vb->Prop}(H:Cc d A)(h:Pb M (star d) t Q E s):Pb M A t Q E s:=by
 intro Γ p m;refine h Γ p ⟨m.1.trans H.hand,?_,(λl x=>by injection x),(λg y=>by injection y),?_⟩
 ·have:=m.2.1
  have:=H.depth;show _<=994-2*d;exact QQ (dc (Bf ‹frameCount Γ.below+Γ.code.weight<=A.depth› _) (saa (b:=6) this))
 ·have:=m.2.2.2.2
  have:=H.units;show _<=9799-10*d;exact QQ (dc (Bf ‹Γ.units<=A.units› _) (saa (b:=101) this))
theorem jW(H:2<=d)(h:d<=300)(body:List jd)(e:Env):Cc 0 ((star d).in1.over (.func body e) []):=by
 refine⟨rfl,?_,?_⟩
 ·show(star d).in1.units+unitsOf []+(Code.func body e).cUnits+10*0+100<9900
  exact Nf (show 9799-10*d+1+0+3+10*0+100<=9799-10*2+1+0+3+10*0+100 from Bf (Bf (Bf (Bf (Bf (WA (Yq 10 H) 9799) 1) 0) 3) (10*0)) 100) (by decide)
 ·show(star d).in1.depth+frameCount []+(Code.func body e).weight+2*0+5<1000
  exact Nf (show 994-2*d+0+1+2*0+5<=994-2*2+0+1+2*0+5 from Bf (Bf (Bf (Bf (WA (Yq 2 H) 994) 0) 1) (2*0)) 5) (by decide)
theorem Z1(H:2<=d)(h:d<=300)(Nb:Expr)(I:Value)(b body:List jd)(e:Env)(k:Result->Sem Fin)(l:ia)(p:Pos):Cc 0 ((star d).in1.over (.forLoop Nb I b [] e) [.ret k Gb Ib l (.func body e) p []]):=by
 refine⟨rfl,?_,?_⟩
 ·show(star d).in1.units+unitsOf [(.func body e,p)]+(Fx Nb I b [] e).cUnits+10*0+100<9900
  have:(Fx Nb I b [] e).cUnits<=3:=by first|exact Ed _|exact ah _
  exact Nf (show 9799-10*d+1+3+(Fx Nb I b [] e).cUnits+10*0+100<=9799-10*2+1+3+3+10*0+100 from Bf (Bf (Qk (Bf (Bf (WA (Yq 10 H) 9799) 1) 3) this) (10*0)) 100) (by decide)
 ·show(star d).in1.depth+frameCount [(.func body e,p)]+(Fx Nb I b [] e).weight+2*0+5<1000
  have:(Fx Nb I b [] e).weight<=1:=by first|exact Ed _|exact ah _
  exact Nf (show 994-2*d+1+(Fx Nb I b [] e).weight+2*0+5<=994-2*2+1+1+2*0+5 from Bf (Bf (Qk (Bf (WA (Yq 2 H) 994) 1) this) (2*0)) 5) (by decide)
section
theorem Q1(p:A.handled=Gb)(N:s.heap.NoLimit)(d:A.depth<bH)(h:s.heap.IsGen a g)(y:s.gens[g]?=Fb z)
  (H:z.Goes (Qb pw w) A.in1 (gE C e I) (gY B C e I all) n (.send .none) (s.setGen g .running))
  (t:∀v J G m,n=m+1->G.bare=Hb->gY B C e I all m (s.setGen g .running) v J (λr Y=>G.Goes (Qb pw w) A.in1 (gE C e I) (gY B C e I all) m r Y)->Q (Fb v) (J.setGen g G))
  (f:n=0->∀J,yi C e I (s.setGen g .running) J->∀V,(∀b o,J.heap.get? b=Fb o->V.get? b=Fb o)->Q Gb {J.setGen g .finished with heap:=V}):
  Pb (Qb pw w) A (fj (.ref a)) Q E s:=by
 unfold fj;refine Ob (wpAny_attempt (yp h.typeIs slot_gen_next (jm slot_gen_next h.typeIs entry_gen_next ?_ (args_gen_next _))));show Pb _ _ (taa (.ref a) (.send .none)) _ _ s;unfold taa;refine Ob (Zg (wpAny_genNumber h (Ob (wpAny_genState y ?_))));have u:∀(l:ia)(k:GenResult->Sem Fin)(T:Fin->Vb->Prop)(D:ja),
   (∀x J,gE C e I n (s.setGen g .running) x J->Pb (Qb pw w) A.in1 (k (End.ret x).result) T D (J.setGen g .finished))->
   (∀v J G,G.bare=Hb->gY B C e I all (n-1) (s.setGen g .running) v J (λr Y=>match n with|0=>False|m+1=>G.Goes (Qb pw w) A.in1 (gE C e I) (gY B C e I all) m r Y)->Pb (Qb pw w) A.in1 (k (.yielded v)) T D (J.setGen g G))->
   Pb (Qb pw w) A.in1 (.resume g (.send .none) l k) T D s:=λl k T D L j=>wpAny_resumeQ y H L j
 cases z with
 |running=>exact H.elim|finished=>exact H.elim|_=>
  refine Ob (wpAny_roomToWake N d ?_);show Pb _ _ (.resume g (.send .none) [] _) _ _ s;refine u _ _ _ _ (λx J hx=>?_) (λv J G O U=>?_)
  ·obtain⟨rfl,hz,hp⟩:=hx
   refine SM λo1 o2 e L j=>Ob (FK p (Ob (PQ ⟨_,L,j⟩ isSubtype_stop ?_)));exact vc (f hz J hp _ λb o O=>Heap.get?_push_of_some _ (Heap.get?_push_of_some _ O))
  ·refine vc ⟨v,rfl,vc ?_⟩
   induction n using jf with
   |zero=>exact(U.2.2.2.2.2 J λK K K q=>q).elim|succ m=>exact t v J G m rfl O U
end
structure zk(B:Heap)(ga gn:Nat)(C:Ub)(g:Gh):Prop where
 base:∀a o,B.get? a=Fb o->g a=.out o\/g a=.Mb o
 gen:∃nm qn,g ga=.it {cls:=.type "generator",data:=.fields #[.int gn 0,nm,qn]}
 gC:∃o,g C=.it o
 ne:ga≠C
noncomputable def F2(g C:Ub):Ub->Prop:=λa=>a=g\/a=C
noncomputable def F4(g C e I:Ub):Ub->Prop:=λb=>b=g\/b=C\/b=e\/b=I
def QF(C e I g:Ub):Prop:=e≠C/\I≠C/\e≠g/\I≠g/\e≠I
def iP(w:xd)(B:Heap)(d:Nat)(C e I:Ub)(all:List PV)(n:Nat)(g:GenState)(s:Vb):Prop:=
 ∀Y:Vb,(∀b o,(b=C\/b=e\/b=I\/∃y,B.get? b=Fb y)->s.heap.get? b=Fb o->Y.heap.get? b=Fb o)->g.Goes (Qb pw w) (star d).in1 (gE C e I) (gY B C e I all) n (.send .none) Y
inductive Ze(w:xd)(B:Heap)(d ga gn:Nat):(Ub->Prop)->Ic->Gh->Vb->Prop
 |fresh{x:Str}{env:Env}{g:Gh}{s:Vb}(b:zk B ga gn env.locals g)(hg:s.gens[gn]?=Fb (.fresh (.func Fj env)))(F:re B yd env s.heap [Fb (.str x.cps.toList),Gb,Gb,Gb,Gb]):Ze w B d ga gn (F2 ga env.locals) (.Lb (Gc x.cps.toList 0 Ib)) g s
 |Iq{C e it:Ub}{gs:GenState}{all pre l:List PV}{g:Gh}{s:Vb}(b:zk B ga gn C g)(hg:s.gens[gn]?=Fb gs)(ne:QF C e it ga)(he:∃o,g e=.it o)(hi:∃o,g it=.it o)(al:all=pre++l)(go:iP w B d C e it all l.length gs s):Ze w B d ga gn (F4 ga C e it) (.Lb l) g s
structure Rq(gn:Nat)(s s':Vb):Prop where
 os:s'.os=s.os
 gens:∀(i:Nat)(x:GenState),i≠gn->s.gens[i]?=Fb x->s'.gens[i]?=Fb x
 bare:AllBare s.gens->AllBare s'.gens
theorem VK{s:Vb}(N:x.bare=Hb)(h:AllBare s.gens):AllBare (s.setGen g x).gens:=by
 intro y a;obtain⟨i,H,rfl⟩:=Array.mem_iff_getElem.mp a;simp only [nR] at H⊢;rw[Array.getElem_setIfInBounds]
 split
 ·exact N
 ·exact h _ (Array.getElem_mem _)
 ·simpa using H
theorem lL{g:Nat}{s J:Vb}{x:GenState}(N:x.bare=Hb)(T:Tr (s.setGen g .running) J):Rq g s (J.setGen g x) where
 os:=T.os
 gens:=λi z H e=>by
  have E:(s.setGen g .running).gens[i]?=Fb z:=by rw[<-e];simp[nR,sh H]
  have o:=T.gens i z E;rw[<-o];simp[nR,sh H]
 bare:=λh=>VK N (T.bare (VK rfl h))
theorem QI{s:Vb}(h:s.gens[g]?=Fb y):(s.setGen g x).gens[g]?=Fb x:=setGen_self h
section
theorem Q5(H:tc h g b)(x:h.get? a=Gb):g a=.free:=by
 have no:∀o,h.get? a=Fb o->g a=.free:=λo e=>by rw[x] at e;injection e
 cases e:g a with
 |free=>rfl|Mb o=>exact e▸no o (H.Mb a o e)|out o=>exact e▸no o (H.out a o e)|it o=>exact e▸no o (H.it a o e)|Hc=>exact(H.Hc a e).elim λo q=>e▸no o q|Xb i=>exact Md (H.Xb a i e) λJ J J J z=>e▸no _ z.2.1
structure GK(f:Ub->Prop)(gn:Nat)(hp:Hp)(g:Gh)(s s':Vb)(g':Gh):Prop where
 hr:tc s'.heap g' hp
 ext:Jd g g'
 own:∀a,g a≠.free->¬f a->g' a=g a
 tr:Rq gn s s'
 kp:∀a o,g a≠.free->¬f a->s.heap.get? a=Fb o->s'.heap.get? a=Fb o
theorem GK.to(k:GK w G H g s Y u)(h:∀a,g a≠.free->w a->f a):GK f G H g s Y u:=
 ⟨k.hr,k.ext,λa n q=>k.own a n λz=>q (h a n z),k.tr,λa o n q=>k.kp a o n λz=>q (h a n z)⟩
inductive aF(w:xd)(B:Heap)(d ga gn:Nat)(C e it:Ub)(hp:Hp)(g:Gh)(s:Vb)(r:List PV)(v:Value)(p:PV)(s':Vb):Prop
 |mk{g':Gh}(k:GK (F4 ga C e it) gn hp g s s' g')(V:Tb g' v p)(st:Ze w B d ga gn (F4 ga C e it) (.Lb r) g' s'):aF w B d ga gn C e it hp g s r v p s'
theorem LV(H:tc s.heap g hp)(G:zk B E O C g)(hE:yf g e)(hI:yf g I)(J:QF C e I E)
  (ha:s.heap.get? a=Gb)(k:a≠C/\a≠e/\a≠I)(Bw:N.heap.get? a=Fb (pf [.int i t,.str x u] n))(U:yi C e I (s.setGen O .running) N)(T:∃o,N.heap.get? C=Fb o)(V:∃o,N.heap.get? e=Fb o)(Y:∃o,N.heap.get? I=Fb o)
  (hgn:s.gens[O]?=Fb y)(l:∃pre,all=pre++r)(hm:m=r.length)(Q:NF.bare=Hb)(hk:iP w B d C e I all m NF N):
  aF w B d E O C e I hp g s r (.ref a) (.Sb [.int i,.str x.cps.toList]) (N.setGen O NF):=by
 refine T.elim λA T=>V.elim λf V=>Y.elim λD Y=>l.elim λpre l=>Mc G.gen λnm qn BF=>?_;have j:=Q5 H ha;have hag:E≠a:=λq=>by rw[q,j] at BF;injection BF
 have p:∀{b:Ub}{y:Obj}{c:Ub},B.get? b=Fb y->yf g c->b≠c:=λq ow z=>by
  rcases G.base _ _ q with r|r<;>rcases ow with z'|⟨o,z'⟩<;>rw[<-z,r] at z'<;>injection z'
 have st:=H.uq [(a,.Mb (pf [.int i t,.str x u] n)),(I,.it D),(e,.it f),(C,.it A)] (al ⟨.inl j,Bw⟩ (al ⟨hI,Y⟩ (al ⟨hE,V⟩ (al ⟨.inr G.gC,T⟩ Zi)))) λc o n=>U.1 c o (n _ (.tail _ (.tail _ (.tail _ (.head _))))) (n _ (.tail _ (.tail _ (.head _)))) (n _ (.tail _ (.head _)));have out:∀{b},b≠a->b≠I->b≠e->b≠C->Vi g [(a,.Mb (pf [.int i t,.str x u] n)),(I,.it D),(e,.it f),(C,.it A)] b=g b:=λh1 h2 h3 h4=>Xp _ (al h1 (al h2 (al h3 (al h4 Zi))));have Gi:=qe (g:=g) (t:=.Mb (pf [.int i t,.str x u] n)) (sh k.2.2) (dh (t:=.it D) (L:=[(e,.it f),(C,.it A)]));have Ge:=qe (g:=g) (t:=.Mb (pf [.int i t,.str x u] n)) (sh k.2.1) (qe (t:=.it D) J.2.2.2.2 (dh (t:=.it f) (L:=[(C,.it A)])));have GC:=qe (g:=g) (t:=.Mb (pf [.int i t,.str x u] n)) (sh k.1) (qe (t:=.it D) (sh J.2.1) (qe (t:=.it f) (sh J.1) (dh (t:=.it A) (L:=[]))));exact⟨⟨st.1,st.2,λb Q h=>out (λq=>Q (q▸j)) (λq=>h (.inr (.inr (.inr q)))) (λq=>h (.inr (.inr (.inl q)))) λq=>h (.inr (.inl q)),lL Q U.2,λb o Q h q=>U.1 b o (λq=>h (.inr (.inl q))) (λq=>h (.inr (.inr (.inl q)))) (λq=>h (.inr (.inr (.inr q)))) q⟩,.Sb dh (.cons (.int _ _) (.cons (.str rfl) .nil)),
  .Iq ⟨λb o q=>by rw[out (p q (.inl j)) (p q hI) (p q hE) (p q (.inr G.gC))];exact G.base b o q,⟨nm,qn,(out hag (sh J.2.2.2.1) (sh J.2.2.1) G.ne).trans BF⟩,⟨_,GC⟩,G.ne⟩ (QI (U.2.gens O _ (QI hgn))) J ⟨_,Ge⟩ ⟨_,Gi⟩ l (hm▸hk)⟩
end
noncomputable def pP:Ic->List PV
 |.Lb l=>l|_=>[]
section
variable{B:Heap}{ga:Nat}{gn:Nat}{C:Ub}{g:Gh}{g':Gh} in
theorem zk.ji(h:zk B ga gn C g)(H:g' ga=g ga)(A:g' C=g C)(X:Tf g g')(O:∀a o,g a=.out o->g' a=.out o):zk B ga gn C g' where
 base:=λa o q=>(h.base a o q).imp (O a o) (X.Mb a o)
 gen:=Mc h.gen λnm Q z=>⟨nm,Q,H.trans z⟩
 gC:=h.gC.elim λo z=>⟨o,A.trans z⟩
 ne:=h.ne
theorem zk.stays{s:Vb}(h:zk B ga gn C g)(H:tc s.heap g b):∀a o,B.get? a=Fb o->s.heap.get? a=Fb o:=λa o q=>by
 rcases h.base a o q with z|z
 ·exact H.out a o z
 ·exact H.Mb a o z
theorem zk.gl{s:Vb}(h:zk B ga gn C g)(H:tc s.heap g a):s.heap.IsGen ga gn:=Mc h.gen λnm q z=>⟨_,nm,q,H.it _ _ z,rfl,rfl,rfl⟩
theorem OX(H:tc s.heap g d)(A:yf g C)(l:yf g e)(G:yf g I)(U:yi C e I (s.setGen gn .running) J)(D:∀b o,J.heap.get? b=Fb o->V.get? b=Fb o)(h:∀a,g a≠.free->a=C\/a=e\/a=I->f a):
  ∃g',GK f gn d g s {J.setGen gn .finished with heap:=V} g':=
 have live:=λb o E j Q q=>D b o (U.1 b o E j Q q);have st:=H.uq [(I,.free),(e,.free),(C,.free)] (al ⟨G,⟨⟩⟩ (al ⟨l,⟨⟩⟩ (al ⟨A,⟨⟩⟩ Zi))) λc o n=>live c o (n _ (.tail _ (.tail _ (.head _)))) (n _ (.tail _ (.head _))) (n _ (.head _));have T:=lL rfl U.2
 ⟨_,st.1,st.2,λb n q=>Xp _ (al (λz=>q (h b n (.inr (.inr z)))) (al (λz=>q (h b n (.inr (.inl z)))) (al (λz=>q (h b n (.inl z))) Zi))),⟨T.os,T.gens,T.bare⟩,
  λb o n q=>live b o (λz=>q (h b n (.inl z))) (λz=>q (h b n (.inr (.inl z)))) (λz=>q (h b n (.inr (.inr z))))⟩
section
def gO(w:xd)(B:Heap)(d ga gn:Nat)(f:Ub->Prop)(l:List PV)(g:Gh)(s:Vb)(h:Hp)(Q:Option Value->Vb->Prop):Prop:=
 (l=[]->∀Y g',GK f gn h g s Y g'->Q Gb Y)/\∀v r,l=v::r->∀Y g' val t,GK f gn h g s Y g'->(∀a,t a->f a\/g a=.free)->Tb g' val v->Ze w B d ga gn t (.Lb r) g' Y->Q (Fb val) Y
theorem EK(x:B.NoLimit)(Ov:(star d).depth<bH)(H:tc s.heap g hp)(D:zk B ga gn C g)(T:f ga/\f C)(hf2:∀a,(a=e\/a=I)->f a\/g a=.free)(A:s.gens[gn]?=Fb gs)(YF:QF C e I ga)(o:yf g e)(L:yf g I)(j:all=pre++l)
  (iQ:gs.Goes (Qb pw w) (star d).in1 (gE C e I) (gY B C e I all) l.length (.send .none) (s.setGen gn .running))(k:gO w B d ga gn f l g s hp Q):Pb (Qb pw w) (star d) (fj (.ref ga)) Q E s:=by
 have Y:∀a,a=C\/a=e\/a=I->f a\/g a=.free:=λa q=>q.elim (λq=>.inl (q▸T.2)) (hf2 a);have N:∀a,F4 ga C e I a->f a\/g a=.free:=λa q=>q.elim (λq=>.inl (q▸T.1)) (Y a);refine Q1 rfl (x.keeps (D.stays H)) Ov (D.gl H) A iQ (λv Zd NF m U hb b=>?_) (λhz Zd h h' J=>?_)
 ·refine lG b λzp h hC he hi J=>?_
  obtain⟨a,n,t,u,i,y,p,ha,han,Bw,O⟩:=zp;rw[p];clear b p
  induction l using xc with
  |nil=>injection U|cons v r'=>
   have r:=an U.symm;rw[uM j r.symm] at O;have q:=LV H D o L YF ha han Bw h hC he hi A (NC j) r hb J
   induction q using aF.casesOn with|@mk G k' V st=>exact k.2 v r' rfl _ G (.ref a) _ (k'.to λa n q=>(N a q).resolve_right n) N (jc O▸V) st
 ·exact(OX H (.inr D.gC) o L h J λa n q=>(Y a q).resolve_right n).elim λG z=>k.1 (List.length_eq_zero_iff.mp hz) _ G z
end
theorem uC{K:Ad}(V:ae w B K)(r:B.NoLimit)(j:2<=d)(T:d<=300)(J:Cc d A)(st:Ze w B d ga gn f (.Lb l) g s)(H:tc s.heap g b)(k:gO w B d ga gn f l g s b Q):Pb (Qb pw w) A (fj (.ref ga)) Q E s:=by
 have U:(star d).depth<bH:=Nf (Xk 994 (2*d)) (by decide);refine rW J ?_;generalize z:Ic.Lb l=i at st
 induction st using Ze.casesOn with
 |@fresh x Y g s G h F=>
  have L:=G.gC.elim λX y=>Heap.lt_size (H.it _ _ y);have u:=Mc G.gen λX X y=>Heap.lt_size (H.it _ _ y);exact EK (pre:=[]) r U H G ⟨.inl rfl,.inr rfl⟩ (λa t=>.inr (H.fresh (t.elim (λq=>q▸km _) λq=>q▸Ed _))) h
   ⟨ri (jo L),ri L,ri (jo u),ri u,VG _⟩ (.inl (H.fresh (km _))) (.inl (H.fresh (Ed _))) rfl
   ⟨rfl,(show l=_ from congrArg pP z)▸JV (s:=s.setGen gn .running) V (jW j T _ _) (λNb I body k l p=>Z1 j T Nb I body Fj Y k l p) F⟩ k
 |@Iq C e I O all pre D g s G h ne m N al go=>
  have e:l=D:=congrArg pP z;exact EK r U H G ⟨.inl rfl,.inr (.inl rfl)⟩ (λa t=>.inl (.inr (.inr t))) h ne (.inr m) (.inr N) (e▸al) (e▸go _ λX X X q=>q) k
theorem zk.held{s:Vb}{Y:Vb}(b:zk B ga gn C g)(H:tc s.heap g d)(h:tc Y.heap g' T)(X:Tf g g')(O:∀a o,g a=.out o->g' a=.out o)(t:((∃y,g a=.it y)/\g' a=g a)\/∃y,B.get? a=Fb y)(q:s.heap.get? a=Fb o):Y.heap.get? a=Fb o:=
 t.elim (λz=>z.1.elim λy r=>(h.it a y (z.2.trans r)).trans ((H.it a y r).symm.trans q)) λz=>z.elim λy r=>(b.base a y r).elim (λr=>(h.out a y (O a y r)).trans ((H.out a y r).symm.trans q)) λr=>(h.Mb a y (X.Mb a y r)).trans ((H.Mb a y r).symm.trans q)
theorem Ze.gl(st:Ze w B d ga gn f i g s)(H:tc s.heap g h):s.heap.IsGen ga gn:=by
 induction st using Ze.casesOn with
 |fresh b=>exact b.gl H|Iq b=>exact b.gl H
theorem Ze.own(st:Ze w B d ga gn f i g s):f a->∃o,g a=.it o:=by
 induction st using Ze.casesOn with
 |fresh b=>exactλh=>h.elim (λe=>e▸Mc b.gen λJ J z=>⟨_,z⟩) λe=>e▸b.gC|Iq b _ _ H y=>exactλh=>h.elim (λe=>e▸Mc b.gen λJ J z=>⟨_,z⟩) λh=>h.elim (λe=>e▸b.gC) λh=>h.elim (λe=>e▸H) λe=>e▸y
theorem Ze.ji(st:Ze w B d ga gn f i g s):tc s.heap g k->(∀a,f a->g' a=g a)->Tf g g'->(∀a o,g a=.out o->g' a=.out o)->Tr s s'->tc s'.heap g' U->Ze w B d ga gn f i g' s':=by
 induction st using Ze.casesOn with
 |fresh b x F=>
  intro H e X O T j;have E:=e _ (.inr rfl);exact .fresh (b.ji (e _ (.inl rfl)) E X O) (T.gens _ _ x) (F.kept λa o h q=>b.held H j X O (h.elim (λz=>.inl (z▸⟨b.gC,E⟩)) .inr) q)
 |@Iq C N I G all pre l g s b x ne V y al go=>
  intro H e X O T j;have E:=e _ (.inr (.inl rfl));have p:=e _ (.inr (.inr (.inl rfl)));have r:=e _ (.inr (.inr (.inr rfl)));exact .Iq (b.ji (e _ (.inl rfl)) E X O) (T.gens _ _ x) ne (V.imp λJ z=>p.trans z) (y.imp λJ z=>r.trans z) al λY D=>go Y λa o h q=>D a o h
   (b.held H j X O (h.elim (λz=>.inl (z▸⟨b.gC,E⟩)) λh=>h.elim (λz=>.inl (z▸⟨V,p⟩)) λh=>h.elim (λz=>.inl (z▸⟨y,r⟩)) .inr) q)
theorem Ze.Lb(st:Ze w B d ga gn f i g s):∃l,i=.Lb l:=by
 induction st using Ze.casesOn with
 |fresh=>exact⟨_,rfl⟩|Iq=>exact⟨_,rfl⟩
variable{w:xd}{B:Heap}{d:Nat}{ga:Nat}{gn:Nat}{K:Ad}{e:Ub}{g:Gh}{g':Gh}{s:Vb}{s':Vb}{hp:Hp} in
theorem Jh.gen{Nb:Expr}(h:ae w B K)(p:B.NoLimit)(j:2<=d)(Q:d<=300):Jh w d (.ref ga) Nb (Rq gn) (Ze w B d ga gn) where
 own _ _ _ _ _ st:=st.own
 ji _ _ _ _ _ _ _ _ st:=st.ji
 self _ _ _ _ _ _ _ _ _ st H Y:=oR (st.gl H) Y
 next:=by
  intro A E q a f i g s hp r I st H N post;obtain⟨l,rfl⟩:=st.Lb;rw[sI] at N;refine uC h p j Q I st H ⟨λe s' g' k=>?_,λv y e s' g' val t k T V D=>?_⟩
  ·rw[e] at N
   rw[<-jc N] at post;exact post s' g' k.hr k.ext k.own k.tr k.kp
  ·rw[e] at N
   rw[<-jc N] at post;exact ge (Ze.gl D k.hr) λJ J J z=>gB (c:="generator") z.1 z.2.1 (by decide) (post s' g' k.hr k.ext k.own k.tr k.kp val t T V D)
end
theorem nq:yd.kind=.function/\yd.isGenerator=Hb/\yd.isCoroutine=Ib/\gh (yd.names.map (·.1))=Hb/\(yd.names.all λx=>match x.2 with|.local=>Hb|.globalImplicit=>Hb|_=>Ib)=Hb/\
  ((yd.names.take 1).map (·.1))=[ya]/\((yd.names.take 1).all λx=>match x.2 with|.local=>Hb|_=>Ib)=Hb:=by
 refine⟨by rfl,by decide+kernel,by decide+kernel,by decide+kernel,by decide+kernel,by decide+kernel,by decide+kernel⟩
theorem EJ:∀x∈yd.names,x.2=.local\/x.2=.globalImplicit:=λx h=>by
 have:=List.all_eq_true.mp nq.2.2.2.2.1 x h;revert this
 cases x.2<;>simp
theorem fI:Params yd [ya] where
 kind:=nq.1
 nodup:=nq.2.2.2.1
 head:=nq.2.2.2.2.2.1
 kinds:=λx h=>(EJ x h).imp id λq=>.inr q
 own:=λx h=>by
  have:=List.all_eq_true.mp nq.2.2.2.2.2.2 x h;revert this
  cases x.2<;>simp
theorem IV(l:ca):Cg yd [.str l]=[Fb (.str l),Gb,Gb,Gb,Gb]:=by
 unfold Cg;rw[TB.2.1];rfl
section
theorem C3(R:Wb B yd C l T g h)(H:C.scope.isCoroutine=Ib):zN yd C:=
 ⟨R.er.kind,R.er.ph,R.er.blt,λx i y=>R.er.own.elim λJ z=>(z.2 x i y).1,R.er.Yi,λx N=>(EJ x N).elim (λq=>by rw[q];exact⟨(by intro h;injection h),(by intro h;injection h)⟩) λq=>by rw[q];exact⟨(by intro h;injection h),(by intro h;injection h)⟩,H,by unfold interactive;rw[R.er.kind];rfl⟩
theorem BI{i:Nat}(e:([Fb (.str l),Gb,Gb,Gb,Gb]:Loc)[i]?=Fb (Fb p)):Nm p=Hb:=dD rfl e
theorem JT(R:Wb B yd C (Cg yd [.str l]) T g h)(d:C.scope.isCoroutine=Ib)(y:B.get? C.locals=Gb):re B yd C h [Fb (.str l),Gb,Gb,Gb,Gb]:=
 ⟨C3 R d,R.stays,y,TB.2.1.symm,λJ J=>BI,R.er.own.elim λm z=>⟨m,z.1,λx i A p H=>((z.2 x i A).2 p (IV l▸H)).elim λv q=>⟨v,q.1,yC (BI H) q.2⟩⟩⟩
theorem z4(H:x.bare=Hb):Tr s {s with heap:=h,toks:=t,gens:=s.gens.push x}:=
 ⟨rfl,λi y a=>(Array.getElem?_eq_some_iff.mp a).elim λh e=>(Array.getElem?_push_lt h).trans (congrArg Fb e),λO z E=>(Array.mem_push.mp E).elim (O z) λq=>q▸H⟩
theorem m5{Q:ja}{y:Str}{nm N:Value}(Y:O={cls:=.type "generator",data:=.fields #[.int s.gens.size 0,nm,N]})(R:Wb B j E U u g s.heap)(F:re B yd C H [Fb (.str y.cps.toList),Gb,Gb,Gb,Gb])(keep:∀b o,s.heap.get? b=Fb o->H.get? b=Fb o)(fresh:s.heap.objs.size<=C.locals)
  (A:∀l G p f,Ze w B V p s.gens.size f (.Lb (Gc y.cps.toList 0 Ib)) G l->Wb B j E U u G l.heap->Ext g G->Tr s l->(∀a,f a->g a=.free)->(∀a o,s.heap.get? a=Fb o->l.heap.get? a=Fb o)->Q (.ref p) l):
  Q (.ref H.objs.size) {s with heap:=H.push O,toks:=t,gens:=s.gens.push (.fresh (.func Fj C))}:=by
 refine F.ns.elim λJ z=>ge z.1 λx K K z=>?_;have L:=Heap.lt_size z.1;have m:=R.hr.fresh fresh;have d:=R.hr.fresh (Df (Nf fresh L));have I:=ri L;have D:(H.push O).get? H.objs.size=Fb O:=Heap.get?_push_size _ (by rw[Y];rfl);have k:∀b o,s.heap.get? b=Fb o->(H.push O).get? b=Fb o:=λb o q=>Heap.get?_push_of_some _ (keep b o q);have st:=R.hr.uq [(H.objs.size,.it O),(C.locals,.it x)] (al ⟨.inl d,D⟩ (al ⟨.inl m,Heap.get?_push_of_some _ z.1⟩ Zi)) λb o K=>k b o;have X:Ext g (Vi g [(H.objs.size,.it O),(C.locals,.it x)]):=λb T=>Xp _ (al (λq=>T (q▸d)) (al (λq=>T (q▸m)) Zi));have out:=λ{b y}q=>X b λe=>(R.base b y q).elim (λr=>by rw[e] at r;injection r) λr=>by rw[e] at r;injection r
 exact A _ _ H.objs.size _ (.fresh ⟨λb o q=>by rw[out q];exact R.base b o q,⟨_,_,dh.trans (congrArg Tc.it Y)⟩,⟨_,qe (sh I) dh⟩,I⟩ Array.getElem?_push_size (F.kept λb o K q=>Heap.get?_push_of_some _ q)) ⟨Wb.baseExt R.base X.n,st.1,R.er.keep X.n λb o K e=>k b o e⟩ X (z4 rfl) (λa h=>h.elim (λe=>e▸d) λe=>e▸m) k
theorem ZX(h:Bk B 81 m yd Fj)(b:ie B m [ya] Bd id (·=1))(J:Cc d A)(R:Wb B j e L k g s.heap)
  (Y:∀l G p f,Ze w B D p s.gens.size f (.Lb (Gc y.cps.toList 0 Ib)) G l->Wb B j e L k G l.heap->Ext g G->Tr s l->(∀a,f a->g a=.free)->(∀a o,s.heap.get? a=Fb o->l.heap.get? a=Fb o)->Q (.ref p) l):
  Pb (Qb pw w) A (call (.ref 81) [.str y t]) Q E s:=by
 refine h.obj.elim λo H=>pn (codeAny_call_generator (eO J.depth) (R.stays _ _ H.1) H.2 (by rw[h.scope];exact h.co) (by rw[h.scope];exact nq.2.1) h.body (h.code.keeps R.stays) ?_);refine(b g [.str y t] [.str y.cps.toList] rfl (.cons (.str rfl) .nil)).elim λx C=>C.2.2 _ _ _ _ _ R.stays ?_;rw[h.scope,h.kc,h.yw,h.blt];refine ZQ nq.1 (UM fI) λN V O I=>?_;have r:=PB fI R.base R.hr C.1 (by rfl) rfl V I;have keep:=I.toInCall.keep;have fresh:=I.toInCall.fresh;have F:=JT r.1 (by rw[V];exact h.co) (Option.eq_none_iff_forall_ne_some.mpr λz q=>absurd (Heap.lt_size (R.stays _ _ q)) (Nat.not_lt.mpr fresh));refine⟨(h.lim.keeps R.stays).keeps keep,?_⟩;clear r;refine Qc λT u=>Mc I.done λU tk z=>?_;obtain⟨rfl,K⟩:=z;exact u (m5 (s:=s) rfl R F keep fresh Y)
end
def iN(F:Dc):Prop:=∀k a x,F.gen k a=Fb x->k=4/\∃l,a=[.str l]/\x=Gc l 0 Ib
theorem tW:(GT.kc.all λp=>match p.2 with
 |.fn k v=>k !=4||(match v with
  |.ref a=>a==81|_=>Ib)
 |_=>Hb)=Hb:=by decide+kernel
theorem T1(h:GT.kc.lookup x=Fb (.fn 4 v)):v=.ref 81:=by
 have:=List.all_eq_true.mp tW _ (mem_lookup h);have this:(4 !=4||(match(generalizing:=false) v with
  |.ref a=>a==81|_=>Ib))=Hb:=this
 clear h
 induction v using tp with
 |ref a=>exact congrArg fm (eq_of_beq this)|_=>exact absurd this Of
section
theorem B8(H:se [a])(h:Yc w B d a j l b u q):Tj w B d [a] j l b [u] q:=by
 intro A e g s E Q p I R post;refine vp (h A e g s E _ I R λx J G r Y T V=>?_) (qm (H a Fd));exact ir (post _ J G r Y T (.cons V .nil))
set_option tactic.hygienic true in
theorem nK{K:Ad}(Y:ae w B K)(C:Ep K (.ref 81)=Hb)(z:Bk B 81 D yd Fj)(O:ie B D [ya] Bd id (·=1))
  (N:GT.kc.lookup x=Fb (.fn 4 v))(hi:slotIn j.names x 0=Fb (i,.globalImplicit))(FF:(x==("__debug__":Str))=Ib)(H:se [a])(ha:Yc w B d a j L hp (.str l) u)(J:Cc d A)(R:Wb B j e L hp g s.heap)
  (hQ:∀U h m G r f,Wb B j e L u h U.heap->Ext g h->Tr s U->Ze w B d' r U.gens.size f (.Lb (Gc l 0 Ib)) G m->Wb B j e L u G m.heap->Ext h G->Tr U m->(∀a,f a->h a=.free)->(∀a o,U.heap.get? a=Fb o->m.heap.get? a=Fb o)->Q (.ref r) m):
  Pb (Qb pw w) A (eval (.Call (.Name x p) [a] [] k) e) Q E s:=by
 refine jn (uk Y.kc hi FF N R ?_);show Pb _ A (callWith k v [] (Tk k (yj [a] e)) []) Q E s;rw[T1 N];refine callWith_of (by rw[ik H];rfl) (keeps_K C) ?_;refine gk (B8 H ha) H J R λvs s' g' I X T V=>⟨λb o q=>I.stays _ _ (Y.hX b o q),?_⟩;refine Ys V λ_ _ V1 V=>?_;refine Zs V ?_;refine vStr V1 λ_ _ hy=>?_
 rename_i y t
 subst hy;exact ZX z O J I λm G r f st Pm oh Ve hf Aw=>hQ s' g' m G r f I X T st Pm oh Ve hf Aw
variable{s:Vb} in
theorem RI{s x y:Vb}(h:Tr s x)(k:Rq s.gens.size x y):Tr s y where
 os:=k.os.trans h.os
 gens:=λi z H=>by
  refine k.gens i z ?_ (h.gens i z H)
  rintro rfl
  rw[iaa (Ed _)] at H;injection H
 bare:=λO=>k.bare (h.bare O)
theorem r5{K:Ad}(H:ae w B K)(t:B.NoLimit)(m:2<=d)(U:d<=300)(C:Ep K (.ref 81)=Hb)(z:Bk B 81 u yd Fj)(b:ie B u [ya] Bd id (·=1)){Nb:Expr}
  (N:GT.kc.lookup x=Fb (.fn 4 v))(D:slotIn j.names x 0=Fb (i,.globalImplicit))(e:(x==("__debug__":Str))=Ib)(G:se [a])(I:Yc w B d a j L J (.str l) O):
  Hk w B d (.Call (.Name x p) [a] [] pos) Nb j L J (.Lb (Gc l 0 Ib)) O:=by
 intro A env g s E Q V R post;refine nK (d':=d) H C z b N D e G I V R λT Y Mh zh ga f Sv gw sw st r oh Ve hf Aw=>?_;refine oR (st.gl r.hr) (post _ Mh Y T Sv gw sw ⟨f,Rq T.gens.size,Ze w B d ga T.gens.size,zh,Jh.gen H t m U,st,r,oh,Ve,hf,λx y h k=>RI h k,λa o X q=>Aw a o q⟩)
theorem Rq.of(T:Tr s Y):Rq g s Y:=⟨T.os,λi x J=>T.gens i x,T.bare⟩
theorem GK.trans(a:GK f G H g s J l)(b:GK r G H l J I w)(T:∀x,r x->f x\/g x=.free):GK f G H g s I w:=
 have N:∀x,g x≠.free->¬f x->l x≠.free/\¬r x:=λx n q=>⟨a.own x n q▸n,λz=>(T x z).elim q n⟩
 ⟨b.hr,a.ext.trans b.ext,λx n q=>(b.own x (N x n q).1 (N x n q).2).trans (a.own x n q),⟨b.tr.os.trans a.tr.os,λi x y q=>b.tr.gens i x y (a.tr.gens i x y q),λh=>b.tr.bare (a.tr.bare h)⟩,λx o n q e=>b.kp x o (N x n q).1 (N x n q).2 (a.kp x o n q e)⟩
noncomputable def FS(f:Ub->Prop)(S:Ub):Ub->Prop:=λb=>f b\/b=S
inductive LU(w:xd)(B:Heap)(d ga gn:Nat)(hp:Hp)(S:Ub)(f:Ub->Prop)(i:Ic)(ak:ia)(g:Gh)(s:Vb)(h':Heap):Prop
 |mk{n':Nat}{g':Gh}(k:GK (FS f S) gn hp g s {s with heap:=h'} g')(e:g' S=.it (Rc ak n'))(st:Ze w B d ga gn f i g' {s with heap:=h'}):LU w B d ga gn hp S f i ak g s h'
section
theorem ez{S:Ub}{nn:Nat}(st:Ze w B d p Q f i g s)(H:tc s.heap g k)(U:g S=.it (Rc y nn))(T:¬f S)(fn:Array Value->Array Value)(I:fn y.toArray=ak.toArray):LU w B d p Q k S f i ak g s (s.heap.update S (dk fn)):=by
 refine(Vr fn (H.it _ _ U) I).elim λN l=>?_;have O:yf g S:=.inr ⟨_,U⟩;have G:∀b x,b≠S->s.heap.get? b=Fb x->(s.heap.update S (dk fn)).get? b=Fb x:=λb x h e=>(Heap.get?_update_other _ _ (sh h)).trans e;have j:=H.Qo O l λb x h J e=>G b x h e;have X:Jd g (Jc g S (.it (Rc ak N))):=Jd.Jc _ O;exact⟨⟨j,X,λb J q=>pe _ _ λz=>q (.inr z),.of (Tr.heap s _ s.toks),λb o J q=>G b o λz=>q (.inr z)⟩,ze ..,st.ji H (λa t=>pe _ _ λq=>T (q▸t)) X.v (λJ J=>X.out) (Tr.heap s _ s.toks) j⟩
noncomputable def qO(S:Ub)(g:Nat):Code:=.builtin "list.extend.loop" ⟨[.ref S,.ref g,.none],[]⟩
theorem AK{l:ia}(e:l.length=n)(h:n+k<=ic):l.toArray.size<=cm:=by rw[Cf,e];exact dc (Ex h) (by decide)
theorem jX{l:ia}(e:l.length=n)(h:n+k<=ic):(l.toArray.push v).size<=cm+1:=by rw[Array.size_push];exact Ng (AK e h)
theorem XY{K:Ad}{S:Ub}(U:ae w B K)(t:B.NoLimit)(m:2<=d)(Q:d<=300)(J:Cc d A.in1):∀{g:Gh}{s:Vb}{f:Ub->Prop}{y:ia}{nn:Nat}{a:List PV},
  Ze w B d o O f (.Lb l) g s->tc s.heap g b->g S=.it (Rc y nn)->bc g y a->¬f S->a.length+l.length<=ic->
  (∀Y G D jQ,GK (FS f S) O b g s Y G->G S=.it (Rc D jQ)->bc G D (a++l)->R (.ok (.ret .none)) Y)->qi (Qb pw w) A (qO S o) R s:=by
 induction l with
 |nil=>
  intro g s f y nn a st H h V T C j;refine lR F.entry_extend_loop ?_;rw[uaa pR _];show Pb _ A.in1 (fj (.ref o)>>=_) _ _ s;exact Ob (uC U t m Q J st H ⟨λX Y G k=>vc (j Y G y nn (k.to λX X=>.inl) ((k.own S (h▸iz) T).trans h) (ng _▸V.nh k.ext)),nofun⟩)
 |cons p r ih=>
  intro g s f y nn a st H h V T C j;refine lR F.entry_extend_loop ?_;rw[uaa pR _];show Pb _ A.in1 (fj (.ref o)>>=_) _ _ s;refine Ob (uC U t m Q J st H ⟨nofun,λv r' e Y G val f' k L E N=>?_⟩);rw[<-(ck e).1] at E;rw[<-(ck e).2] at N;have Zo:=(k.own S (h▸iz) T).trans h;have EO:¬f' S:=λq=>(L S q).elim T λz=>by rw[h] at z;injection z
  refine Ob (qx (k.hr.it _ _ Zo) rfl ?_ (AK V.length C) (jX V.length C));have u:=ez (ak:=y++[val]) N k.hr Zo EO (λx=>x.push val) (by simp)
  induction u using LU.casesOn with|@mk n' Q' I e' P9=>_
  have rO:GK (FS f S) O b g s _ Q':=(k.to λX X=>.inl).trans I λx q=>q.elim (λq=>(L x q).imp .inl id) λq=>.inl (.inr q);refine vc ⟨plainId_quiet pR _,ih P9 I.hr e' ((V.nh rO.ext).append (.cons (E.nh I.ext) .nil)) EO (by rw[Pd];exact dc (yl (laa _ _)) C) λMh zh F7 o_ z9 c_ ml=>j Mh zh F7 o_ (rO.trans z9 λx q=>q.elim (λq=>(L x q).imp .inl id) λq=>.inl (.inr q)) c_ (by rw[Sh] at ml;exact ml)⟩
theorem r3{S:Ub}{nn:Nat}(st:Ze w B d G O f i g s)(H:tc s.heap g a)(U:g S=.it (Rc y nn)):S≠G:=λq=>
 ge (st.gl H) λo J J z=>by
  rw[<-q,H.it _ _ U] at z;have h:=(congrArg Obj.cls (jc z.1)).trans z.2.1;injection h with h;exact absurd h (by decide)
theorem QZ{K:Ad}{S:Ub}(a:ae w B K)(p:B.NoLimit)(m:2<=d)(Q:d<=300)(J:Cc d A.in1)
  (st:Ze w B d G O f (.Lb l) g s)(H:tc s.heap g q)(h:g S=.it (Rc [] 0))(U:¬f S)(z:l.length<=ic)
  (r:∀Y x o N,GK (FS f S) O q g s Y x->x S=.it (Rc o N)->bc x o l->R (.ok (.ret .none)) Y):
  Pb (Qb pw w) A.in1 (Builtin.«list.__init__» ⟨[.ref S,.ref G],[]⟩) (λD Y=>match D with|.done f=>R (.ok f) Y|.again j=>j.quiet=Hb/\qi (Qb pw w) A j R Y) (λe Y=>R (.error e) Y) s:=by
 have L:=r3 st H h;show Pb _ A.in1 (do let old<-VQ (.ref S);Builtin.List.listUpdate (.ref S) (λX=>#[]);letGo old.toList.reverse;qR (.ref S) (.ref G) .none) _ _ s;refine Ob ?_;unfold VQ;refine Ob (Bl (H.it _ _ h) rfl (vc ?_));show Pb _ A.in1 (Ap S (λX=>#[])>>=λX=>letGo (#[]:Array Value).toList.reverse>>=λX=>qR (.ref S) (.ref G) .none) _ _ s;refine Ob (qx (H.it _ _ h) rfl ?_);have u:=ez st H h U (λX=>#[]) rfl
 induction u using LU.casesOn with|@mk n1 g1 I y T=>_
 refine Ob (fu ?_);unfold qR;refine Ob (wpAny_typeOf (T.gl I.hr).typeIs ?_);have E:¬(YG (.ref S) (.ref G)||mo "generator"==mo "list"||mo "generator"==mo "tuple")=Hb:=by
  rw[show YG (.ref S) (.ref G)=Ib by simp[YG,L]];decide
 refine Jj E (Ob (oR (T.gl I.hr) (Ob (Zg ?_))));unfold Builtin.List.listLengthHint;refine Ob (lx (T.gl I.hr).typeIs PySem.F.gen_no_len ?_);show Pb _ A.in1 (specialOf (fm G) (Kb "__length_hint__")>>=_) _ _ _;refine Ob (lx (T.gl I.hr).typeIs PySem.F.gen_no_hint (vc ?_));show Pb _ A.in1 (rule "list.extend.makes-room">>=λX=>Builtin.List.listTouch (.ref S)>>=λX=>again (qO S G)) _ _ _;refine Ob (so (Ob ?_));show Pb _ A.in1 (Ap S (·.push .none)>>=λX=>Ap S (·.pop)) _ _ _;refine Ob (qx (I.hr.it _ _ y) rfl ?_);have u:=ez T I.hr y U (·.push .none) rfl
 induction u using LU.casesOn with|@mk n2 g2 C E t=>_
 refine qx (C.hr.it _ _ E) rfl ?_;have u:=ez t C.hr E U (·.pop) rfl
 induction u using LU.casesOn with|@mk n3 g3 b e3 st3=>_
 have k:=(I.trans C λX=>.inl).trans b λX=>.inl;exact vc ⟨plainId_quiet PySem.F.plain_extend_loop _,XY a p m Q J st3 b.hr e3 .nil U (dc (yl (Ii _)) z) λY x o N k' Zo V=>r Y x o N (k.trans k' λX=>.inl) Zo V⟩
end
theorem jZ{K:Ad}(T:ae w B K)(S9:B.NoLimit)(h2:3<=d)(h3:d<=300)(hk:Ep K (.ref 81)=Hb)(hO:Bk B 81 fd yd Fj)(hB:ie B fd [ya] Bd id (·=1)){mt:Bool}
  (hq:GT.kc.lookup x=Fb (.oc .list))(hiq:slotIn j.names x 0=Fb (i,.globalImplicit))(hdq:(x==("__debug__":Str))=Ib)(hx:GT.kc.lookup r=Fb (.fn 4 v))(hi:slotIn j.names r 0=Fb (i',.globalImplicit))(FF:(r==("__debug__":Str))=Ib)
  (hn:se [a])(ha:Yc w B d a j L hp (.str l) u)(hl:(Gc l 0 Ib).length<=ic)(e:td mt (Rg (Gc l 0 Ib)) u=(pv,Ac)):
  Yc w B d (.Call (.Name x p) [.Call (.Name r p') [a] [] Nz] [] pos) j L hp pv Ac:=by
 intro A env g s E Q H R post;refine jn (uk T.kc hiq hdq hq R ?_);refine Pv.callWith_type1 ?_;refine vp (nK (d':=d-1) T hk hO hB hx hi FF hn ha H R λQh y m G ga f I gw sw st U J Ve hf Aw=>?_) rfl;refine ir ?_;have hA2:Cc (d-1) A.in1.in1:=⟨H.hand,by
  have:=H.units;show A.units+1+1+10*(d-1)+100<9900
  lia,by
  have:=H.depth;show A.depth+2*(d-1)+5<1000;exact PN ‹_› (Xk _ _)⟩
 refine callType_codes (Q₁:=λobj N=>obj=.ref m.heap.objs.size/\N={m with heap:=m.heap.push {cls:=.type "list",data:=.seq #[]}}) PySem.F.called_list (PySem.F.typeCall_list_1 _) PySem.F.entry_list_init (code_list_new _ ⟨rfl,rfl⟩) λobj N C=>?_;rw[C.1,C.2];clear C;have Y:(m.heap.push {cls:=.type "list",data:=.seq #[]}).get? m.heap.objs.size=Fb (Rc [] 0):=Heap.get?_push_size _ rfl;have O:=U.fresh;have NN:∀b o,m.heap.get? b=Fb o->(m.heap.push {cls:=.type "list",data:=.seq #[]}).get? b=Fb o:=λb o q=>Heap.get?_push_of_some _ q;have H4:=U.hr.Qo (.inl O) Y λb x X X q=>NN b x q;have X4:Ext G (Jc G m.heap.objs.size (.it (Rc [] 0))):=Ext.Jc _ O;have DP:¬f m.heap.objs.size:=λq=>(Ze.own st q).elim λo z=>by rw[O] at z;injection z
 have st4:=st.ji (s':={m with heap:=m.heap.push {cls:=.type "list",data:=.seq #[]}}) U.hr (λb h=>pe G (a:=m.heap.objs.size) _ λq=>DP (q▸h)) X4.n.v (λb o z=>X4.at z ou) (Tr.heap m _ m.toks) H4;refine⟨⟨_,Y,rfl⟩,PySem.F.args_list_init_2 _ _,QZ T S9 (Nat.le_sub_one_of_lt h2) (dc (Xk _ _) h3) hA2 st4 H4 (ze ..) DP hl λs' g' ak jQ k t V=>⟨rfl,?_⟩⟩;have base:∀b,y b≠.free->G b≠.free/\b≠m.heap.objs.size/\¬FS f m.heap.objs.size b:=λb h=>by
  have q:=J b h;have n:b≠m.heap.objs.size:=λz=>by rw[<-q,z] at h;exact h O
  exact⟨q▸h,n,λz=>z.elim (λz=>h (hf b z)) n⟩
 have D:Ext y (Jc g' m.heap.objs.size .free):=λb h=>by
  have z:=base b h;have q4:Jc G m.heap.objs.size (.it (Rc [] 0)) b=G b:=pe _ _ z.2.1;rw[pe _ _ z.2.1,k.own b (q4▸z.1) z.2.2,q4,J b h]
 have R5:Wb B j env L u (Jc g' m.heap.objs.size .free) s'.heap:=⟨Wb.baseExt I.base D.n,k.hr.drop (.inr ⟨_,t⟩) (λb x X X e=>e),I.er.keep D.n λb o h q=>by
  have z:=base b (h.elim (λz=>z▸pz) λz=>z.elim λX z=>z▸ou);exact k.kp b o ((pe _ _ z.2.1:Jc G m.heap.objs.size (.it (Rc [] 0)) b=G b)▸z.1) z.2.2 (NN b o (Aw b o q))⟩
 refine Xc.tag ((post.step gw sw).step D (RI (Ve.trans (Tr.heap m (m.heap.push {cls:=.type "list",data:=.seq #[]}) m.toks)) k.tr)) R5 e (ze ..) (k.hr.it _ _ t) ?_;rw[FH];exact V.nh (Jd.Jc _ (.inr ⟨_,t⟩))
variable{w:xd}{B:Heap}{sc:Scope}{loc:Loc}{hp:Hp}{Ac:Hp}{dd:Hp}{d:Nat}{K:Ad}{fd:FuncData}{F:Dc}{pv:PV}{u:PV} in
theorem ET(T:ae w B K)(q:B.NoLimit)(j:3<=d)(U:d<=300)(C:Ep K (.ref 81)=Hb)(A:Bk B 81 fd yd Fj)(f:ie B fd [ya] Bd id (·=1))(L:iN F):Zy w B d F where
 list:=λx p t G a V I k v sc loc hp y dd i J Y mt pv Ac h H r b h5 Q D E m N g=>by
  refine Qc λO o=>?_;obtain⟨rfl,l,e,rfl⟩:=L _ _ _ m;injection e with z;subst z;refine o ?_;exact jZ T q j U C A f h H r b h5 Q E D N g
 src:=λsc Nb x p a V loc hp i n v u dd Y h H r b h5 Q=>by
  obtain⟨rfl,l,e,rfl⟩:=L _ _ _ Q;injection e with z;subst z;exact r5 T q (by exact wQ ‹_›) U C A f h H r b h5
end
section
set_option maxHeartbeats 4000000
section
noncomputable def En{α:Type}(n:Nat):KasT α->Bool
 |.ret _=>Hb|.ask i j k=>decide (i<n)&&decide (j<n)&&En n (k Hb)&&En n (k Ib)
theorem M2:En 2 (Zm 2)=Hb:=by decide+kernel
theorem nV:En 3 (Zm 3)=Hb:=by decide+kernel
theorem K0:En 4 (Zm 4)=Hb:=by decide+kernel
theorem EL{α:Type}{ask:Nat->Nat->(Bool->Vb->Prop)->Vb->Prop}{G:α->Vb->Prop}(u:∀i j C,i<n->j<n->C (lt i j) s->ask i j C s):
  ∀(t:KasT α),En n t=Hb->G (Ln lt t) s->t.kasWp ask G s
 |.ret a,_,h=>h|.ask i j k,H,h=>by
  have H:(decide (i<n)&&decide (j<n)&&En n (k Hb)&&En n (k Ib))=Hb:=H;simp only [Zc,decide_eq_true_eq] at H;refine u i j _ H.1.1.1 H.1.1.2 (EL u (k (lt i j)) ?_ h)
  cases lt i j with
  |true=>exact H.1.2|false=>exact H.2
theorem rZ{P:PV->Prop}(h:yq p=Hb)(k:∀i x,P (.Sb [.int i,.str x])):P p:=by
 induction p using PV.casesOn with
 |Sb l=>induction l using xc with
  |nil=>exact ff h|cons a l=>induction a using PV.casesOn with
   |int i=>induction l using xc with
    |nil=>exact ff h|cons b l=>induction b using PV.casesOn with
     |str x=>induction l using xc with
      |cons=>exact ff h|nil=>exact k i x
     |_=>exact ff h
   |_=>exact ff h
 |_=>exact ff h
theorem bK{P:Value->PV->Prop}(V:Tb g v p)(h:yq p=Hb)(k:∀a i t x u n,g a=.Mb (pf [.int i t,.str x u] n)->P (.ref a) (.Sb [.int i,.str x.cps.toList])):P v p:=
 rZ (P:=λp=>Tb g v p->P v p) h (λi x V=>HO V λa w n z H=>KD H (λv u A j=>yh A λt=>vStr j λy u e=>e▸k a i t y u n) z) V
theorem V3(H:s.heap.get? a=Fb (pf [.int i t,.str x u] n))(O:s.heap.get? b=Fb (pf [.int j T,.str y U] m))
  (h:C (Ps (.Sb [.int i,.str x.cps.toList]) (.Sb [.int j,.str y.cps.toList])) s):Pb (Qb pw w) A (keyLt' (tuples' Hb) (.ref a) (.ref b)) C E s:=by
 refine kat_lt H rfl O rfl ?_;show KatLex pw w A Hb Ib C [(.int i t,.int j T),(.str x u,.str y U)] 0 s;have z:Ps (.Sb [.int i,.str x.cps.toList]) (.Sb [.int j,.str y.cps.toList])=(decide (i<j)||(decide (i=j)&&decide (x.cps.toList<y.cps.toList))):=rfl;rw[z] at h;refine kat_cons (wpAny_eqBool_int (kat_go (λe=>kat_yes ?_) λe=>kat_no ?_))
 ·have e:i=j:=by simpa using e
  subst e;refine kat_cons (wpAny_eqBool_str (kat_go (λe=>kat_yes (kat_nil ?_)) λe=>kat_no ?_))
  ·have e:x=y:=of_decide_eq_true e
   subst e;have:(decide (i<i)||(decide (i=i)&&decide (x.cps.toList<x.cps.toList)))=Ib:=by simp
   rw[this] at h;exact h
  ·refine kat_one _ _ (lt_str ?_)
   show C (decide (x.cps.toList<y.cps.toList)) s;have:(decide (i<i)||(decide (i=i)&&decide (x.cps.toList<y.cps.toList)))=decide (x.cps.toList<y.cps.toList):=by simp
   rw[this] at h;exact h
 ·have e:i≠j:=by simpa using e
  refine oneLt_int ?_;have:(decide (i<j)||(decide (i=j)&&decide (x.cps.toList<y.cps.toList)))=decide (i<j):=by simp[e]
  rw[this] at h;exact h
theorem aU(I:s.heap.get? l=Fb (Rc y n))(m:2<=y.length)(z:y.length<64)(J:En y.length (Zm y.length)=Hb)
  (T:∀(Y:Vb)(C:SortKind->Vb->Prop)(O:Dd),(∀b o,s.heap.get? b=Fb o->Y.heap.get? b=Fb o)->C κ Y->Pb (Qb pw w) O (keyKind' y.toArray) C Un Y)
  (U:∀(Y:Vb)(C:Bool->Vb->Prop)(O:Dd)i j,i<y.length->j<y.length->(∀b o,s.heap.get? b=Fb o->Y.heap.get? b=Fb o)->C (lt i j) Y->kas_ask pw w O κ y i j C Y)
  (hQ:∀V n',V.get? (s.heap.objs.size+1)=Fb (Rc ((Ln lt (Zm y.length)).toList.map λi=>y.getD i .none) n')->(∀b o,s.heap.get? b=Fb o->V.get? b=Fb o)->Q (.ref (s.heap.objs.size+1)) {s with heap:=V}):
  Pb (Qb pw w) A (call (.builtin "sorted") [.ref l]) Q E s:=by
 refine Calls.call_function_entry kind_sorted plain_sorted PyProof.Rows.entry_sorted (args_sorted1 _) ?_;unfold Builtin.«sorted»;refine Ob (vc ?_);refine Ob (collect_list (rf I) ?_ (by rw[yx];lia));refine Ob (wpAny_newList ?_ (by rw[yx];lia));have r:((s.heap.push (lm "list" #[] 0)).update s.heap.objs.size (dk (·++y.toArray))).objs.size=s.heap.objs.size+1:=by rw[Heap.size_update,size_push']
 show Pb _ _ _ _ _ {s with heap:=((s.heap.push (lm "list" #[] 0)).update s.heap.objs.size (dk (·++y.toArray))).push (lm "list" y.toArray 0)};rw[r];generalize u:((s.heap.push (lm "list" #[] 0)).update s.heap.objs.size (dk (·++y.toArray))).push (lm "list" y.toArray 0)=H;have a:H.get? (s.heap.objs.size+1)=Fb (lm "list" y.toArray 0):=by rw[<-u,<-r];exact Heap.get?_push_size _ rfl
 have k1:∀b o,s.heap.get? b=Fb o->H.get? b=Fb o:=λb o q=>by
  have L:=Heap.lt_size q;rw[<-u,Heap.get?_push_ne _ _ _ (by rw[r];exact dm (jo L)),Heap.get?_update_ne _ _ _ _ (dm L),Heap.get?_push_ne _ _ _ (dm L)];exact q
 have N:∀b o,s.heap.get? b=Fb o->b≠s.heap.objs.size+1:=λb o q=>dm (jo (Heap.lt_size q));refine Ob (Zg (jm slot_list_sort ⟨_,a,rfl⟩ entry_list_sort ?body (args_list_sort _)))
 case body=>
  rw[list_sort_plain];refine Ob (listItems_at a rfl ?_);refine Ob (listUpdate_at a rfl ?_ (by rw[Cf,yx];lia) (ah _));obtain⟨x,g⟩:∃x,(H.update (s.heap.objs.size+1) (dk λK=>(#[]:Array Value))).get? (s.heap.objs.size+1)=Fb (lm "list" #[] x):=⟨_,get?_update_seq a λK=>(#[]:Array Value)⟩;refine Ob (seqEpoch_at g rfl ?_);refine Ob (wpAny_newTuple ?_ (by show y.length<=_;rw[yx];lia));refine Ob (wpAny_newList ?_ (ah _));refine Zg ?_;show Pb (Qb pw w) _ _ _ _ {s with heap:=((H.update (s.heap.objs.size+1) (dk λK=>(#[]:Array Value))).push (lm "tuple" y.toArray 0)).push (lm "list" #[] 0)};generalize D:((H.update (s.heap.objs.size+1) (dk λK=>(#[]:Array Value))).push (lm "tuple" y.toArray 0)).push (lm "list" #[] 0)=h;have t:h.get? (s.heap.objs.size+1)=Fb (lm "list" #[] x):=by rw[<-D];exact Heap.get?_push_of_some _ (Heap.get?_push_of_some _ g)
  have k:∀b o,s.heap.get? b=Fb o->h.get? b=Fb o:=λb o q=>by
   rw[<-D];exact Heap.get?_push_of_some _ (Heap.get?_push_of_some _ ((Heap.get?_update_other _ _ (sh (N b o q))).trans (k1 b o q)))
  dsimp only;have d:¬y.toArray.size<2:=by rw[Cf];exact Nat.not_lt.mpr ‹_›
  refine Jj d ?_;rw[if_neg d];refine Ob (Yd (T {s with heap:=h} (λf Y=>f=κ/\Y={s with heap:=h}) _ k ⟨rfl,rfl⟩) (λf s0 hk=>?_) Ru);obtain⟨rfl,rfl⟩:=hk;refine Ob (Yd (kat_run (G:=λp Y=>p=Ln lt (Zm y.length)/\Y={s with heap:=h}) (Q:=λB Y=>arrOf B=(Ln lt (Zm y.length)).map (kas_item (y.toArray.zip y.toArray))/\failedOf B=Gb/\(Ln lt (Zm y.length)).size=y.length/\Y={s with heap:=h})
   rfl m z (λp' B Y a1 a2 a3 a4=>by obtain⟨rfl,rfl⟩:=a4;exact⟨a2,a3,a1,rfl⟩) (EL (λi j C hi hj hC=>U _ C _ i j hi hj k hC) _ J ⟨rfl,rfl⟩)) ?_ λK K e=>e)
  rintro ⟨⟨⟩,B⟩ Y ⟨har,hf,Uz,rfl⟩
  dsimp only;have D9:=kat_snds rfl har;have G9:(VA ((Ln lt (Zm y.length)).toList.map λi=>y.getD i sp)).size=y.length:=by rw[Cf,Uc,eH,Uz]
  rw[D9];refine Ob (seqEpoch_at t rfl ?_);refine Ob (listUpdate_at t rfl ?_ (ah _) (dc (yl G9) (by rw[yx];exact dc (Df z) (rr 64 16777153))));rw[hf];simp only [bne_self_eq_false,JG,if_false];refine vc ⟨_,rfl,vc ⟨_,rfl,hQ _ _ (get?_update_seq t λK=>VA ((Ln lt (Zm y.length)).toList.map λi=>y.getD i sp)) λb o q=>?_⟩⟩;exact(Heap.get?_update_other _ _ (sh (N b o q))).trans (k b o q)
theorem vZ(V:bc g w l)(H:l.all yq=Hb)(C:∀a o,g a=.Mb o->h.get? a=Fb o):∃f,KatTups h w f/\f.length=w.length/\∀v∈f,∃i t,v=.int i t:=
 V.ind (P:=λw l=>l.all yq=Hb->∃f,KatTups h w f/\f.length=w.length/\∀v∈f,∃i t,v=.int i t) (λJ=>⟨[],.nil,rfl,Zi⟩) (λ{v p D A}a J e q=>
  have q:=and_2 (show(yq p&&A.all yq)=Hb from q)
  (e q.2).elim λf y=>bK (P:=λv J=>∃f,KatTups h (v::D) f/\f.length=(v::D).length/\∀v∈f,∃i t,v=.int i t) a q.1 λa i t x u n z=>⟨.int i t::f,KatTups.cons (C a _ z) rfl rfl (by rfl) y.1,congrArg (·+1) y.2.1,λv Q=>(List.mem_cons.mp Q).elim (λe=>⟨i,t,e⟩) (y.2.2 v)⟩) H
theorem gX:Ku w:=by
 intro A E s g hp la y n l l' Q hA hu H ho V h2 h4 h post;have B:=V.length;unfold Ao at h
 split at h
 ·rename_i d
  obtain rfl:=jc h;have J:∀(Y:Vb),(∀b o,s.heap.get? b=Fb o->Y.heap.get? b=Fb o)->∀a o,g a=.Mb o->Y.heap.get? a=Fb o:=λY k a o e=>k a o (H.Mb a o e);refine aU (κ:=tuples' Hb) (lt:=λi j=>Ps (l.getD i .none) (l.getD j .none)) ho (by exact zl h2 (yl (id (Eq.symm B)))) (by lia) ?_ (λY C O k D=>?_) (λY C O i j G hj k D=>?_) λh' n' L h3=>?_
  ·have U:y.length=2\/y.length=3\/y.length=4:=by lia
   rcases U with e|e|e<;>rw[e]
   ·exact M2
   ·exact nV
   ·exact K0
  ·refine xl (vZ V d (J Y k)) λfs f=>we f λq1 q2 q3=>?_;clear f
   refine kat_kind (T:=.type "int") q1 (by lia) (λv U=>?_) (by decide) D;obtain⟨i,t,rfl⟩:=q3 v U;exact Looks.now
  ·have m:∀i,i<y.length->∀{R:Value->PV->Prop},(∀a n t u x(z:Str),Y.heap.get? a=Fb (pf [.int x t,.str z u] n)->R (.ref a) (.Sb [.int x,.str z.cps.toList]))->R (y.getD i .none) (l.getD i .none):=λi G R q=>by
    have N:=KQ G B;rw[Mg,Mg,De N];refine(V.get (De N)).elim λv z=>?_;rw[z.1];exact bK z.2 (List.all_eq_true.mp d _ (UA N)) λa x t z u n e4=>q a n t u x z (J Y k a _ e4)
   exact m i G (R:=λv p=>C (Ps p (l.getD j .none)) Y->Pb (Qb pw w) O (keyLt' (tuples' Hb) v (y.getD j .none)) C (λ_ _=>False) Y) (λa n1 t1 u1 x1 z1 e3=>m j hj (R:=λv p=>C (Ps (.Sb [.int x1,.str z1.cps.toList]) p) Y->Pb (Qb pw w) O (keyLt' (tuples' Hb) (.ref a) v) C (λ_ _=>False) Y) λb n2 t2 u2 x2 z2 f3=>V3 e3 f3) D
  ·rw[B] at L
   refine post _ _ _ _ s.toks (km _) L ?_ h3;have:∀I:ca,bc g (I.map λi=>y.getD i .none) (I.map λi=>l.getD i .none):=by
    intro I
    induction I with
    |nil=>exact .nil|cons i r ih=>
     refine .cons ?_ ih;show Tb g (y.getD i .none) (l.getD i .none)
     by_cases q:i<l.length
     ·obtain⟨v,e1,e2⟩:=V.get (De q)
      rw[Mg,Mg,e1,De q];exact e2
     ·rw[Mg,Mg,qo (by lia),qo (by exact oi ‹_›)]
      exact .none
   exact this _
 ·exact nn h
theorem RS:∀k:Fin 10,PySem.intText? ⟨#[48+k.val]⟩=Fb (k.val:Int):=by decide+kernel
theorem W5:Hv w:=by
 intro A E s x u c Q I H B j post;obtain⟨C⟩:=x;have h:C=#[c]:=by
  cases C with|mk l=>simp at H;rw[H]
 refine Jg h ?_;have e:=RS ⟨c-48,by omega⟩;have h:=by exact ao B
 simp only [h] at e;have G:((c-48:Nat):Int)=(c:Int)-48:=by lia
 rw[G] at e;exact PySem.W.KIN.call_text e (by show 1<=640;decide) (post _ _)
end
end
noncomputable def vE:List S:=[
 .ifs (.fc (.mc .Is (.Jb 4) .none)) [.asg (.Jb 2) (.fn 1 [(.Jb 0),(.Jb 1),(.Jb 2),(.Jb 3)])] [.asg (.Jb 2) .nc],
 .expr (.qc .insert (.Jb 0) [(.Jb 2),(.Jb 1)])]
theorem x0:Qg (yc za)=vE:=by kernel_rfl
noncomputable def tE:List S:=[
 .ifs (.fc (.mc .Lt (.Jb 2) (.int 0))) [.nc] [],
 .ifs (.fc (.mc .Is (.Jb 3) .none)) [.asg (.Jb 3) (.oc .len [(.Jb 0)])] [],
 .ifs (.fc (.mc .Is (.Jb 4) .none)) [.Ok (.fc (.mc .Lt (.Jb 2) (.Jb 3))) [.asg (.Jb 5) (.cc .FloorDiv (.cc .Add (.Jb 2) (.Jb 3)) (.int 2)),.ifs (.fc (.mc .Lt (.Jb 1) (.sub (.Jb 0) (.Jb 5)))) [.asg (.Jb 3) (.Jb 5)] [.asg (.Jb 2) (.cc .Add (.Jb 5) (.int 1))]]] [.Ok (.fc (.mc .Lt (.Jb 2) (.Jb 3))) [.asg (.Jb 5) (.cc .FloorDiv (.cc .Add (.Jb 2) (.Jb 3)) (.int 2)),.ifs (.fc (.mc .Lt (.Jb 1) .nc)) [.asg (.Jb 3) (.Jb 5)] [.asg (.Jb 2) (.cc .Add (.Jb 5) (.int 1))]]],
 .ret (.Jb 2)]
theorem XX:Qg (yc Aa)=tE:=by kernel_rfl
noncomputable def EE:List S:=[
 .ifs (.fc (.mc .Is (.Jb 4) .none)) [.asg (.Jb 2) (.fn 3 [(.Jb 0),(.Jb 1),(.Jb 2),(.Jb 3)])] [.asg (.Jb 2) .nc],
 .expr (.qc .insert (.Jb 0) [(.Jb 2),(.Jb 1)])]
theorem j1:Qg (yc Ba)=EE:=by kernel_rfl
noncomputable def AE:List S:=[
 .ifs (.fc (.mc .Lt (.Jb 2) (.int 0))) [.nc] [],
 .ifs (.fc (.mc .Is (.Jb 3) .none)) [.asg (.Jb 3) (.oc .len [(.Jb 0)])] [],
 .ifs (.fc (.mc .Is (.Jb 4) .none)) [.Ok (.fc (.mc .Lt (.Jb 2) (.Jb 3))) [.asg (.Jb 5) (.cc .FloorDiv (.cc .Add (.Jb 2) (.Jb 3)) (.int 2)),.ifs (.fc (.mc .Lt (.sub (.Jb 0) (.Jb 5)) (.Jb 1))) [.asg (.Jb 2) (.cc .Add (.Jb 5) (.int 1))] [.asg (.Jb 3) (.Jb 5)]]] [.Ok (.fc (.mc .Lt (.Jb 2) (.Jb 3))) [.asg (.Jb 5) (.cc .FloorDiv (.cc .Add (.Jb 2) (.Jb 3)) (.int 2)),.ifs (.fc (.mc .Lt .nc (.Jb 1))) [.asg (.Jb 2) (.cc .Add (.Jb 5) (.int 1))] [.asg (.Jb 3) (.Jb 5)]]],
 .ret (.Jb 2)]
theorem WY:Qg (yc Ca)=AE:=by kernel_rfl
noncomputable def mE:List S:=[
 .ifs (.fc (.mc .NotIn (.str [34]) (.Jb 0))) [.ret (.Jb 0)] [],
 .asg (.Jb 1) (.int 0),
 .asg (.Jb 2) .none,
 .asg (.Jb 3) (.Xb []),
 .Uf (.Sb [(.Jb 4),(.Jb 5)]) (.fn 4 [(.Jb 0)]) [.ifs (.fc (.mc .Eq (.Jb 5) (.str [34]))) [.ifs (.fc (.mc .Is (.Jb 2) .none)) [.asg (.Jb 2) (.Jb 4)] [.ifs (.fc (.mc .NotEq (.Jb 1) (.Jb 2))) [.expr (.qc .append (.Jb 3) [(.Oc (.Jb 0) (.Jb 1) (.Jb 2) .none)])] [],.asg (.Jb 1) (.cc .Add (.Jb 4) (.int 1)),.asg (.Jb 2) .none]] []],
 .ifs (.fc (.mc .Lt (.Jb 1) (.oc .len [(.Jb 0)]))) [.expr (.qc .append (.Jb 3) [(.Oc (.Jb 0) (.Jb 1) .none .none)])] [],
 .ret (.qc .join (.str []) [(.Jb 3)])]
theorem h0:Qg (yc Ea)=mE:=by kernel_rfl
noncomputable def IE:List S:=[
 .asg (.Jb 0) (.fn 5 [(.Jb 0)]),
 .asg (.Jb 1) (.int 0),
 .Uf (.Sb [(.Jb 2),(.Jb 3)]) (.fn 4 [(.Jb 0)]) [.ifs (.fc (.mc .Eq (.Jb 3) (.str [40]))) [.aug 1 .Add (.int 1)] [.ifs (.fc (.mc .Eq (.Jb 3) (.str [41]))) [.aug 1 .Sub (.int 1),.ifs (.fc (.mc .Lt (.Jb 1) (.int 0))) [.ret (.bool Ib)] []] []]],
 .ret (.mc .Eq (.Jb 1) (.int 0))]
theorem Z0:Qg (yc Fa)=IE:=by kernel_rfl
noncomputable def qE:List S:=[
 .asg (.Jb 1) (.Xb []),
 .Uf (.Jb 2) (.Jb 0) [.ifs (.dt (.fc (.fn 6 [(.Jb 2)]))) [.asg (.Jb 2) (.str [40,39,39,44,32,39,39,41])] [],.expr (.qc .append (.Jb 1) [(.Jb 2)])],
 .ret (.Jb 1)]
theorem XZ:Qg (yc Ga)=qE:=by kernel_rfl
noncomputable def yE:List S:=[
 .ret (.qc .sub (.kc (.ref 107)) [(.str [46,46]),(.qc .sub (.kc (.ref 112)) [(.kc (.str (Kb "\x0d\n") 448)),(.Jb 0)])])]
theorem LZ:Qg (yc Ha)=yE:=by kernel_rfl
noncomputable def uE:List S:=[
 .ret (.qc .sub (.kc (.ref 112)) [(.kc (.str (Kb "\x0d\n") 448)),(.Jb 0)])]
theorem UX:Qg (yc Ia)=uE:=by kernel_rfl
noncomputable def SD:List S:=[
 .asg (.Jb 2) (.fn 22 []),
 .Uf (.Jb 3) (.oc .range [(.cc .FloorDiv (.oc .len [(.Jb 0)]) (.int 2))]) [.Uf (.Jb 4) (.Sb [(.ite (.fc (.mc .Eq (.sub (.Jb 0) (.Jb 3)) (.str [40]))) (.str [112]) (.str [112,112])),(.ite (.fc (.mc .Eq (.sub (.Jb 0) (.cc .Sub (.neg (.int 1)) (.Jb 3))) (.str [41]))) (.str [113]) (.str [113,113]))]) [.asg (.sub (.Jb 2) (.ite (.fc (.sub (.Jb 1) (.Jb 3))) (.qc .upper (.Jb 4) []) (.Jb 4))) (.cc .Add (.cc .Add (.qc (.fn 23) (.Jb 2) [(.qc .upper (.Jb 4) []),(.str [])]) (.str [9])) (.oc .str [(.cc .Add (.Jb 3) (.int 1))]))]],
 .ret (.Jb 2)]
theorem OV:Qg (yc Ja)=SD:=by kernel_rfl
noncomputable def Cy:List S:=[
 .asg (.Jb 3) (.Xb []),
 .Uf (.Jb 4) (.oc .range [(.cc .Add (.oc .len [(.Jb 0)]) (.oc .len [(.Jb 1)])),(.int 0),(.neg (.int 1))]) [.ifs (.fc (.mc .Gt (.fn 1 [(.Jb 2),(.Jb 4)]) (.fn 3 [(.Jb 2),(.Jb 4)]))) [.asg (.Jb 5) (.qc .pop (.Jb 1) []),.asg (.Jb 6) (.cc .Sub (.fn 3 [(.Jb 0),(.Jb 5)]) (.int 1)),.asg (.Sb [(.sub (.Jb 0) (.Jb 6)),(.Jb 5)]) (.Sb [(.Jb 5),(.sub (.Jb 0) (.Jb 6))])] [.asg (.Jb 5) (.qc .pop (.Jb 0) [])],.expr (.qc .append (.Jb 3) [(.Jb 5)])],
 .ret (.Oc (.Jb 3) .none .none (.neg (.int 1)))]
theorem CV:Qg (yc Ka)=Cy:=by kernel_rfl
noncomputable def qv:List S:=[
 .asg (.Jb 1) (.Xb []),
 .Uf (.Jb 2) (.Jb 0) [.expr (.qc .append (.Jb 1) [(.Xb [])]),.Uf (.Jb 3) (.oc .range [(.oc .len [(.Jb 1)])]) [.asg (.Jb 4) (.fn 1 [(.sub (.Jb 1) (.Jb 3)),(.Jb 2)]),.ifs (.fc (.cc .Mod (.Jb 3) (.int 2))) [.expr (.fn 0 [(.sub (.Jb 1) (.Jb 3)),(.Jb 2)])] [.expr (.fn 2 [(.sub (.Jb 1) (.Jb 3)),(.Jb 2)])],.ifs (.fc (.mc .Eq (.Jb 4) (.cc .Sub (.oc .len [(.sub (.Jb 1) (.Jb 3))]) (.int 1)))) [.brk] [],.asg (.Jb 2) (.qc .pop (.sub (.Jb 1) (.Jb 3)) [(.cc .Add (.Jb 4) (.int 1))])],.asg (.Jb 1) (.comp (.Jb 1) (.Jb 1) (.Jb 1) (Fb (.fc (.mc .NotEq (.Jb 1) (.Xb [])))) [Gb,Gb])],
 .ret (.Jb 1)]
theorem JW:Qg (yc La)=qv:=by kernel_rfl
noncomputable def cE:List S:=[
 .asg (.Jb 2) (.Xb []),
 .Uf (.Jb 3) (.comp (.Jb 1) (.Jb 1) (.oc .range [(.oc .len [(.Jb 0)])]) (Fb (.fc (.mc .Eq (.sub (.Jb 2) (.Jb 1)) (.str [40])))) [Gb,Gb,Fb 1]) [.Uf (.Jb 4) (.oc .range [(.cc .Add (.Jb 3) (.int 1)),(.oc .len [(.Jb 0)]),(.int 2)]) [.asg (.Jb 5) (.fn 6 [(.qc .join (.str []) [(.Oc (.Jb 0) (.Jb 3) (.cc .Add (.Jb 4) (.int 1)) .none)])]),.ifs (.fc (.mc .Is (.Jb 5) (.bool Hb))) [.expr (.qc .append (.Jb 2) [(.Sb [(.cc .Add (.Jb 3) (.int 1)),(.cc .Add (.Jb 4) (.int 1))])]),.brk] [],.ifs (.fc (.mc .IsNot (.Jb 5) (.bool Ib))) [.ret (.Xb [])] []]],
 .ret (.Jb 2)]
theorem YW:Qg (yc Ma)=cE:=by kernel_rfl
noncomputable def YD:List S:=[
 .asg (.Sb [(.Jb 2),(.Jb 3),(.Jb 4)]) (.Sb [(.str []),(.cc .FloorDiv (.oc .len [(.Jb 0)]) (.int 2)),(.Xb [])]),
 .Uf (.Sb [(.Jb 5),(.Jb 6)]) (.oc .zip [(.Jb 0),(.Jb 1)]) [.asg (.Jb 2) (.ite (.fc (.mc .Eq (.Jb 5) (.str [40]))) (.fn 8 [(.Jb 2)]) (.cc .Add (.cc .Add (.Jb 2) (.str [46])) (.Jb 6)))],
 .asg (.Jb 7) (.oc .list [(.oc .range [(.int 1),(.cc .Add (.Jb 3) (.int 1))])]),
 .Uf (.Jb 8) (.Oc (.qc .split (.fn 9 [(.Jb 2)]) [(.str [13,10])]) .none (.neg (.int 1)) .none) [.expr (.qc .append (.Jb 4) [(.qc .pop (.Jb 7) [(.cc .Sub (.fn 1 [(.Jb 7),(.cc .Sub (.cc .Add (.Jb 3) (.int 1)) (.oc .len [(.Jb 8)]))]) (.int 1))])])],
 .ret (.Jb 4)]
theorem sX:Qg (yc Na)=YD:=by kernel_rfl
noncomputable def HD:List S:=[
 .del (.Jb 0) (.Jb 1),
 .expr (.qc .append (.attr (.Jb 0) oa) [(.Sb [(.Zh (.fn 26) (.Jb 0) [(.Jb 1)] ma (.bool Hb)),(.Zh (.fn 26) (.Jb 0) [(.Jb 2)] ma (.bool Ib))])])]
theorem lW:Qg (wd qa)=HD:=by kernel_rfl
noncomputable def RD:List S:=[
 .asg (.Jb 1) (.Zh (.fn 26) (.Jb 0) [(.qc .lower (.Jb 1) [])] ma (.bool Hb)),
 .asg (.Oc (.attr (.Jb 0) oa) .none .none .none) (.comp (.Jb 1) (.Jb 1) (.attr (.Jb 0) oa) (Fb (.fc (.mc .NotEq (.qc .lower (.sub (.Jb 1) (.int 0)) []) (.Jb 2)))) [Gb,Gb,Fb 1])]
theorem VW:Qg (wd ra)=RD:=by kernel_rfl
noncomputable def Zu:List S:=[
 .asg (.Jb 1) (.Zh (.fn 26) (.Jb 0) [(.qc .lower (.Jb 1) [])] ma (.bool Hb)),
 .Uf (.Sb [(.Jb 3),(.Jb 4)]) (.attr (.Jb 0) oa) [.ifs (.fc (.mc .Eq (.qc .lower (.Jb 3) []) (.Jb 1))) [.ret (.Jb 4)] []],
 .ret (.Jb 2)]
theorem qV:Qg (wd sa)=Zu:=by kernel_rfl
noncomputable def My:List S:=[
 .ret (.Oc (.attr (.Jb 0) oa) .none .none .none)]
theorem gW:Qg (wd ua)=My:=by kernel_rfl
noncomputable def WD:List S:=[
 .ret (.comp (.Jb 1) (.Sb [(.Jb 1),(.Jb 2)]) (.attr (.Jb 0) oa) Gb [Gb,Gb,Gb])]
theorem uX:Qg (wd ta)=WD:=by kernel_rfl
noncomputable def rv:List S:=[
 .ifs (.fc (.mc .Is (.oc .type [(.Jb 1)]) (.kc (.type "str")))) [.asg (.Jb 3) (.ite (.fc (.Jb 2)) (.kc (.ref 131)) (.kc (.ref 136))),.ifs (.fc (.qc .search (.Jb 3) [(.Jb 1)])) [.nc] [],.ret (.Jb 1)] [],
 .nc]
theorem AW:Qg (wd na)=rv:=by kernel_rfl
noncomputable def ai:List S:=[
 .asg (.Sb [(.Jb 1),(.Jb 2)]) (.Sb [(.Oc (.Jb 0) .none (.int 60) .none),(.cc .Add (.int 5) (.oc .min [(.int 1),(.cc .FloorDiv (.oc .len [(.Jb 0)]) (.int 3))]))]),
 .asg (.Jb 3) (.Xb [(.int 162),(.int 72),(.int 109),(.int 188),(.int 50),(.int 119),(.int 318),(.int 65),(.int 120),(.int 15),(.int 53),(.int 128)]),
 .asg (.Jb 5) (.comp (.cc .Mod (.cc .Add (.sub (.Jb 3) (.Jb 1)) (.oc .sum [(.Oc (.Jb 4) (.Jb 1) .none (.int 12))])) (.cc .Pow (.int 10) (.int 6))) (.Jb 1) (.oc .range [(.cc .Mult (.int 2) (.Jb 2))]) Gb [Gb,Gb,Gb,Fb 3,Fb 1]),
 .asg (.Jb 6) (.Xb [(.str []),(.str []),(.str []),(.str []),(.str []),(.str []),(.str [92,40]),(.str [92,41]),(.str [34,40,34]),(.str [34,92,34,41,34]),(.str [92,34]),(.str [92,92])]),
 .asg (.Sb [(.Jb 8),(.Jb 9)]) (.Sb [(.comp (.cc .Mod (.cc .FloorDiv (.Jb 1) (.int 24)) (.int 2)) (.Jb 1) (.Jb 5) Gb [Gb,Gb]),(.comp (.sub (.Xb [(.str [10]),(.str [13,10]),(.str [13])]) (.cc .Mod (.cc .FloorDiv (.Jb 1) (.int 48)) (.int 3))) (.Jb 1) (.Jb 5) Gb [Gb,Gb])]),
 .asg (.Sb [(.Jb 10),(.Jb 11),(.Jb 12),(.Jb 13),(.Jb 14)]) (.Sb [(.Xb []),(.Xb []),(.str []),(.Xb []),(.Xb [])]),
 .Uf (.Sb [(.Jb 4),(.Jb 7)]) (.oc .enum [(.Jb 5),(.int 1)]) [.asg (.Sb [(.Jb 15),(.Jb 16)]) (.Sb [(.qc .count (.Jb 10) [(.str [40])]),(.sub (.Jb 6) (.cc .Mod (.cc .FloorDiv (.Jb 7) (.int 2)) (.int 12)))]),.expr (.qc .append (.Jb 10) [(.ite (.rl [(.fc (.mc .Eq (.Jb 13) (.Xb []))),(.Nn [(.fc (.mc .Lt (.Jb 15) (.Jb 2))),(.fc (.mc .Eq (.cc .Mod (.Jb 7) (.int 2)) (.int 0)))])]) (.str [40]) (.str [41]))]),.expr (.qc .append (.Jb 11) [(.cc .Add (.sub (.Jb 10) (.neg (.int 1))) (.Jb 16))]),.aug 12 .Add (.cc .Add (.sub (.Jb 10) (.neg (.int 1))) (.ite (.fc (.mc .Eq (.Oc (.Jb 16) .none (.int 1) .none) (.str [92]))) (.Jb 16) (.str []))),.ifs (.fc (.mc .Eq (.sub (.Jb 10) (.neg (.int 1))) (.str [40]))) [.expr (.qc .append (.Jb 13) [(.Jb 4)])] [.expr (.qc .append (.Jb 14) [(.Sb [(.qc .pop (.Jb 13) []),(.Jb 4)])])]],
 .asg (.Jb 17) (.qc .join (.str []) [(.Jb 11)]),
 .asg (.Jb 18) (.oc .list [(.fn 4 [(.fn 5 [(.Jb 17)])])]),
 .asg (.Jb 19) (.comp (.Jb 2) (.Sb [(.Jb 1),(.Jb 2)]) (.Jb 18) (Fb (.fc (.mc .In (.Jb 2) (.Sb [(.str [40]),(.str [41])])))) [Gb,Gb,Gb]),
 .ifs (.rl [(.fc (.mc .NotEq (.qc .join (.str []) [(.comp (.Jb 2) (.Sb [(.Jb 1),(.Jb 2)]) (.Jb 18) Gb [Gb,Gb,Gb])]) (.Jb 12))),(.fc (.mc .NotEq (.Jb 19) (.Jb 10)))]) [.ret (.bool Ib)] [],
 .asg (.Jb 20) (.Xb [(.Jb 17),(.cc .Add (.str [40]) (.Jb 17)),(.cc .Add (.Jb 17) (.str [41,40])),(.qc .join (.str []) [(.Oc (.Jb 11) (.int 1) .none .none)]),(.cc .Add (.Jb 17) (.str [34]))]),
 .ifs (.fc (.mc .NotEq (.fn 7 [(.Jb 20)]) (.Xb [(.Jb 17),(.str [40,39,39,44,32,39,39,41]),(.str [40,39,39,44,32,39,39,41]),(.str [40,39,39,44,32,39,39,41]),(.cc .Add (.Jb 17) (.str [34]))]))) [.ret (.bool Ib)] [],
 .ifs (.fc (.mc .NotEq (.fn 15 [(.Jb 19),(.Jb 9)]) (.comp (.qc .count (.Oc (.Jb 3) .none (.Jb 1) .none) [(.str [40])]) (.Sb [(.Jb 1),(.Jb 2)]) (.Jb 14) Gb [Gb,Gb,Gb,Fb 10]))) [.ret (.bool Ib)] [],
 .asg (.Jb 21) (.fn 10 [(.Jb 19),(.Jb 8)]),
 .asg (.Jb 22) (.qc (.fn 24) (.Jb 21) []),
 .expr (.qc .append (.Jb 22) [(.Sb [(.str [114]),(.Jb 17)])]),
 .ifs (.rl [(.fc (.mc .NotEq (.fn 11 [(.Jb 21),(.Jb 17)]) (.str [67,111,110,116,114,111,108,32,99,104,97,114,97,99,116,101,114,115,32,110,111,116,32,97,108,108,111,119,101,100,32,105,110,32,104,101,97,100,101,114,115]))),(.fc (.mc .NotEq (.qc (.fn 24) (.Jb 21) []) (.Oc (.Jb 22) .none (.neg (.int 1)) .none)))]) [.ret (.bool Ib)] [],
 .asg (.Jb 23) (.comp (.comp (.oc .int [(.Jb 1)]) (.Jb 1) (.Oc (.qc .split (.qc (.fn 23) (.Jb 2) [(.Jb 1),(.str [])]) [(.str [9])]) (.int 1) .none .none) Gb [Gb,Gb,Gb]) (.Jb 1) (.Sb [(.str [80]),(.str [112,80]),(.str [81]),(.str [81,113])]) Gb [Gb,Gb,Fb 21]),
 .asg (.Jb 24) (.oc .sorted [(.comp (.Sb [(.sub (.Jb 2) (.neg (.int 1))),(.Jb 1)]) (.Sb [(.Jb 1),(.Jb 2)]) (.oc .zip [(.Sb [(.str [112]),(.str [112,112]),(.str [113]),(.str [113,113])]),(.Jb 23)]) (Fb (.fc (.mc .NotEq (.Jb 2) (.Xb [])))) [Gb,Gb,Gb])]),
 .ifs (.fc (.mc .NotEq (.qc (.fn 25) (.Jb 21) []) (.comp (.ite (.fc (.sub (.Jb 3) (.cc .Sub (.Jb 1) (.int 1)))) (.qc .upper (.Jb 2) []) (.Jb 2)) (.Sb [(.Jb 1),(.Jb 2)]) (.Jb 24) Gb [Gb,Gb,Gb,Fb 8]))) [.ret (.bool Ib)] [],
 .ifs (.fc (.mc .NotEq (.Jb 23) (.comp (.comp (.Jb 1) (.Jb 1) (.oc .range [(.int 1),(.cc .Add (.Jb 4) (.int 1))]) (Fb (.fc (.mc .Eq (.sub (.Jb 3) (.cc .Sub (.Jb 1) (.int 1))) (.Jb 2)))) [Gb,Gb,Fb 2,Fb 1]) (.Sb [(.Jb 1),(.Jb 2)]) (.Sb [(.Sb [(.Jb 10),(.str [40])]),(.Sb [(.Jb 10),(.str [41])]),(.Sb [(.Oc (.Jb 10) .none .none (.neg (.int 1))),(.str [41])]),(.Sb [(.Oc (.Jb 10) .none .none (.neg (.int 1))),(.str [40])])]) Gb [Gb,Gb,Gb,Gb,Fb 2]))) [.ret (.bool Ib)] [],
 .asg (.Jb 25) (.fn 12 [(.Oc (.sub (.Jb 23) (.int 0)) .none .none .none),(.Oc (.sub (.Jb 23) (.int 1)) .none .none .none),(.sub (.Jb 23) (.int 3))]),
 .asg (.Jb 26) (.comp (.cc .Add (.qc .index (.Jb 2) [(.Jb 1)]) (.int 1)) (.Jb 1) (.oc .range [(.int 1),(.cc .Add (.Jb 2) (.int 1))]) Gb [Gb,Gb,Fb 25]),
 .asg (.Jb 27) (.comp (.cc .Add (.Xb [(.Jb 2)]) (.Oc (.sub (.Jb 3) (.int 1)) (.Jb 1) (.cc .Add (.Jb 1) (.int 1)) .none)) (.Sb [(.Jb 1),(.Jb 2)]) (.oc .enum [(.sub (.Jb 23) (.int 0))]) Gb [Gb,Gb,Gb,Fb 23]),
 .ifs (.fc (.mc .NotEq (.Xb [(.fn 13 [(.Jb 25)]),(.fn 13 [(.Jb 26)]),(.fn 13 [(.Oc (.Jb 25) .none .none (.neg (.int 1)))])]) (.Xb [(.comp (.Jb 1) (.Jb 1) (.Oc (.Jb 23) .none (.int 2) .none) (Fb (.fc (.mc .NotEq (.Jb 1) (.Xb [])))) [Gb,Gb]),(.comp (.Jb 1) (.Jb 1) (.Oc (.Jb 23) (.int 2) .none .none) (Fb (.fc (.mc .NotEq (.Jb 1) (.Xb [])))) [Gb,Gb]),(.Jb 27)]))) [.ret (.bool Ib)] [],
 .asg (.Jb 28) (.fn 14 [(.Jb 11),(.Jb 19)]),
 .ifs (.fc (.mc .NotEq (.comp (.Jb 1) (.Jb 1) (.oc .range [(.int 1),(.cc .Add (.Jb 2) (.int 1))]) (Fb (.fc (.mc .Eq (.sub (.Jb 2) (.cc .Sub (.Jb 1) (.int 1))) (.Jb 1)))) [Gb,Gb,Fb 25]) (.comp (.Jb 1) (.Sb [(.Jb 1),(.Jb 2)]) (.Jb 28) (Fb (.fc (.mc .Eq (.cc .Add (.Jb 1) (.Jb 2)) (.cc .Add (.cc .Mult (.int 2) (.Jb 3)) (.int 1))))) [Gb,Gb,Gb,Fb 2]))) [.ret (.bool Ib)] [],
 .ret (.mc .Eq (.oc .len [(.comp (.Jb 1) (.Jb 1) (.oc .range [(.int 1),(.cc .Add (.Jb 2) (.int 1))]) (Fb (.fc (.mc .Gt (.sub (.Jb 2) (.cc .Sub (.Jb 1) (.int 1))) (.Jb 1)))) [Gb,Gb,Fb 25])]) (.oc .len [(.comp (.Jb 1) (.Sb [(.Jb 1),(.Jb 2)]) (.Jb 28) (Fb (.fc (.mc .Gt (.cc .Add (.Jb 1) (.Jb 2)) (.cc .Add (.cc .Mult (.int 2) (.Jb 3)) (.int 1))))) [Gb,Gb,Gb,Fb 2])]))]
theorem KX:Qg (yc Oa)=ai:=by kernel_rfl
noncomputable def cQ:Data->Option FuncData
 |.func f=>Fb f|_=>Gb
noncomputable def aG:Data->Option (Array Value)
 |.fields V=>Fb V|_=>Gb
noncomputable def CF:Data->Option (Array DictEntry)
 |.dict e _=>Fb e|_=>Gb
noncomputable def wP:Data->Option (Array Value)
 |.seq x _=>Fb x|_=>Gb
noncomputable def Dt:Value->Option Str
 |.str q _=>Fb q|_=>Gb
noncomputable def UD(h:Heap)(a:Ub):Option (Tt×FuncBody×Scope×Ub×List (Str×Ub)×Value×Value×Value×Ub×Str):=(h.get? a).bind λo=>(cQ o.data).map λf=>(f.params,f.body,f.scope,f.globals,f.closure,f.defaults,f.kwdefaults,f.code,f.builtins,f.qualname)
noncomputable def qC(h:Heap)(c:Ub):Option Str:=(h.get? c).bind λo=>(aG o.data).bind λV=>V[1]?.bind Dt
noncomputable def dictOf(h:Heap)(a:Ub):Option (Array DictEntry):=(h.get? a).bind λo=>CF o.data
noncomputable def rk(h:Heap)(a:Ub)(n:Str):Option (Option Value):=(dictOf h a).map λe=>nsFind e n
noncomputable def Li(h:Heap)(a:Ub):Bool:=((dictOf h a).bind λE=>if E.all λe=>(Dt e.key).isSome then Fb () else Gb).isSome
noncomputable def Dm(h:Heap)(a:Ub):Option (List (Option Str×Value)):=(h.get? a).bind λo=>(CF o.data).map λE=>E.toList.map λe=>(Dt e.key,e.val)
noncomputable def AD(h:Heap)(a:Ub):Option (Value×Option Ub×Nat×Value×Value×Value):=(h.get? a).bind λo=>(aG o.data).map λf=>(o.cls,o.dict,o.slots.size,f.getD 5 .none,f.getD 6 .none,f.getD 2 .none)
noncomputable def ui(h:Heap)(a:Ub):Option ia:=(h.get? a).bind λo=>(wP o.data).map vQ
abbrev lp:=Tt×List jd×Scope
noncomputable def Zl:List (Ub×lp×Value×Value×Ub×Str):=[
 (47,yc za,.ref 39,.ref 40,46,za),(56,yc Aa,.ref 48,.ref 49,55,Aa),
 (65,yc Ba,.ref 57,.ref 58,64,Ba),(74,yc Ca,.ref 66,.ref 67,73,Ca),
 (81,yc Pa,.none,.none,80,Pa),(88,yc Ea,.none,.none,87,Ea),
 (95,yc Fa,.none,.none,94,Fa),(102,yc Ga,.none,.none,101,Ga),
 (119,yc Ha,.none,.none,118,Ha),(126,yc Ia,.none,.none,125,Ia),
 (270,yc Ja,.none,.none,269,Ja),(277,yc Qa,.none,.none,276,Qa),
 (284,yc Ka,.none,.none,283,Ka),(289,yc La,.none,.none,288,La),
 (294,yc Ma,.none,.none,293,Ma),(301,yc Na,.none,.none,300,Na),(306,yc Oa,.none,.none,305,Oa),
 (151,wd va,.ref 144,.none,150,Kb "Headers.__init__"),(158,wd na,.none,.none,157,Ra),
 (172,wd qa,.none,.none,171,Kb "Headers.__setitem__"),(177,wd ra,.none,.none,176,Kb "Headers.__delitem__"),
 (206,wd sa,.ref 199,.none,205,Kb "Headers.get"),(211,wd ta,.none,.none,210,Kb "Headers.keys"),(223,wd ua,.none,.none,222,Kb "Headers.items")]
noncomputable def VM:List Ub:=[47,56,65,74,81,88,95,102,119,126,151,158,172,177,206,211,223,258,259,270,277,284,289,294,301]
noncomputable def fragOf(h:Heap):Ad:=VM.filterMap λa=>(h.get? a).map λo=>(a,o)
noncomputable def Lu:List (Str×Option (Option Value)):=[(oa,Fb Gb),(Kb "__getattribute__",Fb (Fb (.builtin "object.__getattribute__"))),(Kb "__getattr__",Fb Gb),(na,Fb (Fb (.ref 158))),
 (qa,Fb (Fb (.ref 172))),(ra,Fb (Fb (.ref 177))),(sa,Fb (Fb (.ref 206))),(ta,Fb (Fb (.ref 211))),(ua,Fb (Fb (.ref 223))),(va,Fb (Fb (.ref 151))),
 (Kb "__setattr__",Fb (Fb (.builtin "object.__setattr__")))]
noncomputable def Ny:List Ub:=[151,158,172,177,206,211,223]
noncomputable def bs:List Ub:=[47,56,65,74,88,95,102,119,126,270,277,284,289,294,301,259,81]
noncomputable def yk:List (Ub×Ub×fa):=[(107,106,vh),(112,111,jj),(131,130,yn),(136,135,Tp)]
abbrev Seen:=List (Option (Tt×FuncBody×Scope×Ub×List (Str×Ub)×Value×Value×Value×Ub×Str))×List (Option Str)×List (Option (Option Value)×Option (Option Value))×List Bool×List (Option (List (Option Str×Value)))×List (Option ia)×
 List (Option (Value×Option Ub×Nat×Value×Value×Value))×List (Option Obj)×(Option Bool×List (Option (Option Value))×List (Option Value)×List Bool)×Option (Option Value)×Nat×Option (Option Value)×Option (Option Value)×Option (Option Value)
noncomputable def seen(h:Heap):Seen:=
 (Zl.map λx=>UD h x.1,Zl.map λx=>qC h x.2.2.2.2.1,GT.kc.map λx=>(rk h pi x.1,rk h qh x.1),[Li h pi,Li h qh,Li h ju],[40,49,58,67].map λa=>Dm h a,[39,48,57,66,144,199].map λa=>ui h a,
  yk.map λx=>AD h x.1,yk.map λx=>h.get? x.2.1,
  ((clsIn (fragOf h) 259).map (·.hasDict),Lu.map λx=>ij (fragOf h) (.ref 259) x.1,Ny.map λf=>typeIn (fragOf h) (.ref f),[noSeq (fragOf h) 259,makesIn (fragOf h) 259,plainOver (fragOf h) 259]++bs.map λa=>Ep (fragOf h) (.ref a)),rk h ju (Kb "sys.recursionlimit"),h.objs.size,rk h pi Sa,rk h qh Sa,rk h pi Oa)
noncomputable def Mj:Seen:=
 (Zl.map λx=>Fb (x.2.1.1,.stmts x.2.1.2.1,x.2.1.2.2,3,[],x.2.2.1,x.2.2.2.1,.ref x.2.2.2.2.1,0,x.2.2.2.2.2),Zl.map λx=>Fb x.2.2.2.2.2,
  GT.kc.map λx=>match x.2 with
   |.oc q=>(Fb Gb,Fb (Fb (ll q)))|r=>(Fb (Fb (wq r)),Fb Gb),
  [Hb,Hb,Hb],[40,49,58,67].map λJ=>Fb [(Fb Ta,.none)],[Fb [.int 0 291,.none],Fb [.int 0 304,.none],Fb [.int 0 318,.none],Fb [.int 0 331,.none],Fb [.none],Fb [.none]],
  yk.map λx=>Fb (.type "re.Pattern",Gb,0,.ref x.2.1,Ef 0,Ef 0),yk.map λx=>Fb (pf (x.2.2.toList.map λ(k:Nat)=>Ef k) 0),
  (Fb Hb,Lu.map (·.2),Ny.map λJ=>Fb (.type "function"),[Hb,Hb,Hb]++bs.map λJ=>Hb),Fb Gb,307,Fb Gb,Fb (Fb (.type "ValueError")),Fb (Fb (.ref 306)))
theorem yg{α β:Type}{o:Option α}{f:α->Option β}{b:β}{R:Prop}(h:o.bind f=Fb b)(k:∀a,o=Fb a->f a=Fb b->R):R:=by
 induction o using Wd with
 |none=>exact nn h|some a=>exact k a rfl h
theorem wz{α β:Type}{o:Option α}{f:α->β}{b:β}{R:Prop}(h:o.map f=Fb b)(k:∀a,o=Fb a->f a=b->R):R:=by
 induction o using Wd with
 |none=>exact nn h|some a=>exact k a rfl (jc h)
theorem GY(h:cQ d=Fb f):d=.func f:=by
 induction d using BA with
 |func x=>exact congrArg _ (jc h)|_=>exact nn h
theorem gK(h:aG d=Fb V):d=.fields V:=by
 induction d using BA with
 |fields x=>exact congrArg _ (jc h)|_=>exact nn h
theorem KJ(h:CF d=Fb e):∃n,d=.dict e n:=by
 induction d using BA with
 |dict x n=>exact⟨n,congrArg (Data.dict · n) (jc h)⟩|_=>exact nn h
theorem sY(h:wP d=Fb T):∃n,d=.seq T n:=by
 induction d using BA with
 |seq x n=>exact⟨n,congrArg (Data.seq · n) (jc h)⟩|_=>exact nn h
theorem CC(h:Dt v=Fb s):∃t,v=.str s t:=by
 induction v using tp with
 |str x t=>exact⟨t,congrArg (xG · t) (jc h)⟩|_=>exact nn h
theorem VS(e:UD h a=Fb (p,b,s,g,C,d,k,j,B,q)):
  ∃o f,h.get? a=Fb o/\o.data=.func f/\f.params=p/\f.body=b/\f.scope=s/\f.globals=g/\f.closure=C/\f.defaults=d/\f.kwdefaults=k/\f.code=j/\f.builtins=B/\f.qualname=q:=
 yg e λo H e=>wz e λf T e=>⟨o,f,H,GY T,congrArg (·.1) e,congrArg (·.2.1) e,congrArg (·.2.2.1) e,congrArg (·.2.2.2.1) e,congrArg (·.2.2.2.2.1) e,congrArg (·.2.2.2.2.2.1) e,congrArg (·.2.2.2.2.2.2.1) e,congrArg (·.2.2.2.2.2.2.2.1) e,congrArg (·.2.2.2.2.2.2.2.2.1) e,congrArg (·.2.2.2.2.2.2.2.2.2) e⟩
theorem JR(e:qC h c=Fb q):h.CodeRec (.ref c) q:=
 yg e λo H e=>yg e λV T e=>yg e λJ Q e=>(CC e).elim λt w=>⟨c,o,V,t,rfl,H,gK T,w▸Q⟩
theorem ds(A:Li h a=Hb):∃m,h.Ns a m/\∀n,rk h a n=Fb (m n):=by
 refine(Option.isSome_iff_exists.mp A).elim λu e=>yg e λE q e=>?_;have x:(E.all λe=>(Dt e.key).isSome)=Hb:=by
  by_cases z:(E.all λe=>(Dt e.key).isSome)=Hb
  ·exact z
  ·exact nn ((if_neg z).symm.trans e)
 exact yg q λo B H=>(KJ H).elim λI H=>⟨nsFind E,⟨o,E,I,B,H,λe V=>(Option.isSome_iff_exists.mp (Array.all_eq_true_iff_forall_mem.mp x e V)).elim λs w=>(CC w).elim λt w=>⟨s,t,w⟩,λJ=>rfl⟩,λn=>congrArg (Option.map λE=>nsFind E n) q⟩
theorem Ar(e:ui h a=Fb l):∃c d n sl,h.get? a=Fb ⟨c,d,.seq l.toArray n,sl⟩:=by
 refine yg e λo z E=>wz E λx H p=>(sY H).elim λn H=>?_;obtain⟨c,d,D,sl⟩:=o;obtain rfl:D=.seq x n:=H;exact⟨c,d,n,sl,p▸z⟩
theorem Ox(e:Dm h a=Fb [(Fb Ta,.none)]):∃c d H t n sl,h.get? a=Fb ⟨c,d,.dict #[⟨H,.str Ta t,.none⟩] n,sl⟩:=by
 refine yg e λo z A=>wz A λJ T E=>(KJ T).elim λn T=>?_;obtain⟨c,d,D,sl⟩:=o;obtain rfl:D=.dict J n:=T;obtain⟨l⟩:=J;rcases l with K|⟨x,K|⟨y,r⟩⟩
 ·exact absurd (congrArg mn E) (by decide)
 ·have p:=(ck E).1
  refine(CC (congrArg Tw p)).elim λt w=>?_;obtain⟨H,k,v⟩:=x;obtain rfl:k=_:=w;obtain rfl:v=_:=congrArg Prod.snd p;exact⟨c,d,H,t,n,sl,z⟩
 ·exact absurd (an (congrArg mn E)) (gH _)
theorem vS(e:AD h a=Fb (.type T,Gb,0,.ref c,x,y)):∃f,h.get? a=Fb {cls:=.type T,data:=.fields f}/\f.getD 5 .none=.ref c/\f.getD 6 .none=x/\f.getD 2 .none=y:=by
 refine yg e λo H z=>wz z λf U E=>?_;obtain⟨C,d,D,sl⟩:=o;obtain rfl:D=.fields f:=gK U;obtain rfl:C=_:=congrArg (·.1) E;obtain rfl:d=_:=congrArg (·.2.1) E;refine Kt (show sl=#[] from Array.eq_empty_of_size_eq_zero (congrArg (·.2.2.1) E)) ?_;exact⟨f,H,congrArg (·.2.2.2.1) E,congrArg (·.2.2.2.2.1) E,congrArg (·.2.2.2.2.2) E⟩
theorem n5(h:Heap):(fragOf h).In h:=by
 intro a o e;have key:∀l:List Ub,(l.filterMap λa=>(h.get? a).map λo=>(a,o)).lookup a=Fb o->h.get? a=Fb o:=by
  intro l
  induction l with
  |nil=>exact nn|cons b r I=>
   intro e;rw[DG] at e
   cases q:h.get? b with
   |none=>rw[q] at e;exact I e|some x=>
    rw[q] at e;replace e:=List.lookup_cons.symm.trans e
    cases H:a==b with
    |true=>rw[H] at e;rw[eq_of_beq H,q];exact e|false=>rw[H] at e;exact I e
 exact key VM e
theorem Fn{α β:Type}{f g:α->β}{l:List α}(h:l.map f=l.map g){x:α}(H:x∈l):f x=g x:=List.map_inj_left.mp h x H
structure bf(B:Heap)(a:Ub)(d:lp)(dv kv:Value)(fd:FuncData):Prop where
 obj:∃o,B.get? a=Fb o/\o.data=.func fd
 params:fd.params=d.1
 body:fd.body=.stmts d.2.1
 scope:fd.scope=d.2.2
 kc:fd.globals=pi
 yw:fd.closure=[]
 dflt:fd.defaults=dv
 kw:fd.kwdefaults=kv
 blt:fd.builtins=qh
 code:B.CodeRec fd.code fd.qualname
theorem iM(H:seen h=Mj)(C:∀b o,h.get? b=Fb o->B.get? b=Fb o)(N:x∈Zl):∃f,bf B x.1 x.2.1 x.2.2.1 x.2.2.2.1 f:=by
 have A:=congrArg (·.1) H;have j:=congrArg (·.2.1) H;have e:=Fn (show Zl.map (λx=>UD h x.1)=Zl.map (λx=>Fb (x.2.1.1,FuncBody.stmts x.2.1.2.1,x.2.1.2.2,(3:Ub),[],x.2.2.1,x.2.2.2.1,fm x.2.2.2.2.1,(0:Ub),x.2.2.2.2.2)) from A) N;have E:=Fn (show Zl.map (λx=>qC h x.2.2.2.2.1)=Zl.map (λx=>Fb x.2.2.2.2.2) from j) N;refine Qc λg k=>?_;obtain⟨o,f,a1,a2,a,l,O,D,G,d,Q,I,z,t⟩:=VS e;refine k ?_;exact⟨f,⟨o,C _ _ a1,a2⟩,a,l,O,D,G,d,Q,z,by rw[I,t];exact(JR E).keeps C⟩
noncomputable def isFn(s:Scope):Bool:=match s.kind with
 |.function=>Hb|_=>Ib
noncomputable def kA:gf->Bool
 |.local=>Hb|.cell=>Hb|.globalImplicit=>Hb|_=>Ib
noncomputable def kB:gf->Bool
 |.local=>Hb|.cell=>Hb|_=>Ib
theorem r4(h:isFn s=Hb):s.kind=.function:=by
 obtain⟨k,J⟩:=s
 induction k using ScopeKind.casesOn with
 |function=>rfl|_=>exact absurd h Of
theorem e8(h:kA k=Hb):k=.local\/k=.cell\/k=.globalImplicit:=by
 induction k using wp with
 |«local»=>exact .inl rfl|cell=>exact .inr (.inl rfl)|globalImplicit=>exact .inr (.inr rfl)|_=>exact absurd h Of
theorem E8(h:kB k=Hb):k=.local\/k=.cell:=by
 induction k using wp with
 |«local»=>exact .inl rfl|cell=>exact .inr rfl|_=>exact absurd h Of
noncomputable def cg(s:Scope)(p:List Str):Bool:=isFn s&&gh (s.names.map (·.1))&&((s.names.take p.length).map (·.1)==p)&&(s.names.all λx=>kA x.2)&&(s.names.take p.length).all λx=>kB x.2
theorem Pf(h:cg s p=Hb):Params s p:=by
 have h:=(Zc _ _).mp h;have V:=(Zc _ _).mp h.1;have q:=(Zc _ _).mp V.1;have Q:=(Zc _ _).mp q.1;exact⟨r4 Q.1,Q.2,eq_of_beq q.2,λx H=>e8 (List.all_eq_true.mp V.2 x H),λx H=>E8 (List.all_eq_true.mp h.2 x H)⟩
theorem bf.Lf(h:bf B a d D k f)(H:d.2.2.isCoroutine=Ib)(p:B.NoLimit):Bk B a f d.2.2 d.2.1:=
 ⟨h.obj,h.scope,h.body,h.kc,h.yw,h.blt,h.code,H,p⟩
theorem j5(h:f.params=P)(H:f.defaults=d)(Q:f.kwdefaults=k):vo f=vo {f with params:=P,defaults:=d,kwdefaults:=k}:=by
 cases f;subst h H Q;rfl
theorem bf.bind(h:bf B a d D k f):vo f=vo {f with params:=d.1,defaults:=D,kwdefaults:=k}:=j5 h.params h.dflt h.kw
theorem rm{K:Ad}(X:K.In B)(e:∀S,peek K S (vo f args)=Fb w)(M:Model)(A:Dd)(E:ja)(Q:List (Str×Value)->Vb->Prop)(s:Vb)
  (h:∀b o,B.get? b=Fb o->s.heap.get? b=Fb o)(q:Q w s):Pb M A (vo f args) Q E s:=
 (Looks.of_peek (X.keeps h) (e _)).here q
noncomputable def Vj(a:List PV):List PV:=a++[PV.int 0,.none,.none].drop (a.length-2)
@[elab_as_elim] theorem I'{P:ia->List PV->Prop}(V:bc g w a)(e:a.length=0)(k:P [] []):P w a:=by
 induction a using xc with
 |nil=>exact V.inv.symm▸k|cons=>exact absurd e (gH _)
@[elab_as_elim] theorem Ez{P:ia->List PV->Prop}(V:bc g w a)(e:a.length=n+1)(k:∀u p U x,Tb g u p->bc g U x->x.length=n->P (u::U) (p::x)):P w a:=by
 induction a using xc with
 |nil=>exact absurd e.symm (gH _)|cons p x=>exact V.inv.elim λu z=>z.elim λU y=>y.1.symm▸k u p U x y.2.1 y.2.2 (an e)
@[elab_as_elim] theorem wO{P:ia->List PV->Prop}(V:bc g w a)(e:a.length=1)(k:∀u p,Tb g u p->P [u] [p]):P w a:=
 Ez V e λu p U x h V e=>I' V e (k u p h)
@[elab_as_elim] theorem Yv{P:ia->List PV->Prop}(V:bc g w a)(e:a.length=2)(k:∀u v p q,Tb g u p->Tb g v q->P [u,v] [p,q]):P w a:=
 Ez V e λu p U x h V e=>wO V e λv q H=>k u v p q h H
@[elab_as_elim] theorem fF{P:ia->List PV->Prop}(V:bc g w a)(e:a.length=3)(k:∀u v x p q r,Tb g u p->Tb g v q->Tb g x r->P [u,v,x] [p,q,r]):P w a:=
 Ez V e λu p U y h V e=>Yv V e λv x q r H N=>k u v x p q r h H N
@[elab_as_elim] theorem Jz{P:ia->List PV->Prop}(V:bc g w a)(e:a.length=4)(k:∀u v x y p q r z,Tb g u p->Tb g v q->Tb g x r->Tb g y z->P [u,v,x,y] [p,q,r,z]):P w a:=
 Ez V e λu p U A h V e=>fF V e λv x y q r z H N b=>k u v x y p q r z h H N b
theorem wm(h:B.get? a=Fb x)(k:Frag.In l B):Frag.In ((a,x)::l) B:=by
 intro c o e;replace e:=List.lookup_cons.symm.trans e
 cases q:c==a with
 |true=>rw[q] at e;rw[eq_of_beq q,h];exact e|false=>rw[q] at e;exact k c o e
theorem Hs:Frag.In [] B:=λJ J=>nn
theorem Ul{α:Type}{l:List α}(h:l.length=1):∃a,l=[a]:=List.length_eq_one_iff.mp h
theorem RJ{α:Type}{l:List α}(h:l.length=n+1):∃a r,l=a::r/\r.length=n:=by
 induction l using xc with
 |nil=>injection h|cons a r=>exact⟨a,r,rfl,an h⟩
theorem rt{α:Type}{l:List α}(h:l.length=2):∃a b,l=[a,b]:=(RJ h).elim λa z=>z.elim λr y=>(Ul y.2).elim λb e=>⟨a,b,e▸y.1⟩
theorem dP{α:Type}{l:List α}(h:l.length=3):∃a b c,l=[a,b,c]:=(RJ h).elim λa z=>z.elim λr y=>(rt y.2).elim λb x=>x.elim λc e=>⟨a,b,c,e▸y.1⟩
theorem UZ(h:bf B 81 (yc Pa) .none .none f):ie B f [ya] Bd id (·=1):=si λV H=>by
 rw[h.bind];obtain⟨x,rfl⟩:=Ul H
 kernel_rfl
theorem k4:cg (yc Pa).2.2 [ya]=Hb/\(yc Pa).2.2.isGenerator=Hb/\(yc Pa).2.2.isCoroutine=Ib:=⟨by decide+kernel,by decide+kernel,by decide+kernel⟩
theorem zZ(h:bf B 88 (yc Ea) .none .none f):ie B f [ya] Bd id (·=1):=si λV H=>by
 rw[h.bind];obtain⟨x,rfl⟩:=Ul H
 kernel_rfl
theorem nD:cg (yc Ea).2.2 [ya]=Hb/\(yc Ea).2.2.isGenerator=Ib/\(yc Ea).2.2.isCoroutine=Ib:=⟨by decide+kernel,by decide+kernel,by decide+kernel⟩
theorem J0(h:bf B 95 (yc Fa) .none .none f):ie B f [ya] Bd id (·=1):=si λV H=>by
 rw[h.bind];obtain⟨x,rfl⟩:=Ul H
 kernel_rfl
theorem jD:cg (yc Fa).2.2 [ya]=Hb/\(yc Fa).2.2.isGenerator=Ib/\(yc Fa).2.2.isCoroutine=Ib:=⟨by decide+kernel,by decide+kernel,by decide+kernel⟩
theorem QV(h:bf B 102 (yc Ga) .none .none f):ie B f [Kb "email_header_fields"] Bd id (·=1):=si λV H=>by
 rw[h.bind];obtain⟨x,rfl⟩:=Ul H
 kernel_rfl
theorem bC:cg (yc Ga).2.2 [Kb "email_header_fields"]=Hb/\(yc Ga).2.2.isGenerator=Ib/\(yc Ga).2.2.isCoroutine=Ib:=⟨by decide+kernel,by decide+kernel,by decide+kernel⟩
theorem gV(h:bf B 119 (yc Ha) .none .none f):ie B f [Kb "data"] Bd id (·=1):=si λV H=>by
 rw[h.bind];obtain⟨x,rfl⟩:=Ul H
 kernel_rfl
theorem vC:cg (yc Ha).2.2 [Kb "data"]=Hb/\(yc Ha).2.2.isGenerator=Ib/\(yc Ha).2.2.isCoroutine=Ib:=⟨by decide+kernel,by decide+kernel,by decide+kernel⟩
theorem IX(h:bf B 126 (yc Ia) .none .none f):ie B f [Kb "data"] Bd id (·=1):=si λV H=>by
 rw[h.bind];obtain⟨x,rfl⟩:=Ul H
 kernel_rfl
theorem tC:cg (yc Ia).2.2 [Kb "data"]=Hb/\(yc Ia).2.2.isGenerator=Ib/\(yc Ia).2.2.isCoroutine=Ib:=⟨by decide+kernel,by decide+kernel,by decide+kernel⟩
theorem aW(h:bf B 270 (yc Ja) .none .none f):ie B f [Kb "read",Kb "great"] Bd id (·=2):=si λV H=>by
 rw[h.bind];obtain⟨x,L,rfl⟩:=rt H
 kernel_rfl
theorem PC:cg (yc Ja).2.2 [Kb "read",Kb "great"]=Hb/\(yc Ja).2.2.isGenerator=Ib/\(yc Ja).2.2.isCoroutine=Ib:=⟨by decide+kernel,by decide+kernel,by decide+kernel⟩
theorem GW(h:bf B 277 (yc Qa) .none .none f):ie B f [Ua,Va] Bd id (·=2):=si λV H=>by
 rw[h.bind];obtain⟨x,L,rfl⟩:=rt H
 kernel_rfl
theorem WC:cg (yc Qa).2.2 [Ua,Va]=Hb/\(yc Qa).2.2.isGenerator=Ib/\(yc Qa).2.2.isCoroutine=Ib:=⟨by decide+kernel,by decide+kernel,by decide+kernel⟩
theorem iX(h:bf B 284 (yc Ka) .none .none f):ie B f [Kb "first",Kb "second",Kb "late"] Bd id (·=3):=si λV H=>by
 rw[h.bind];refine Qc λG k=>?_;obtain⟨x,L,N,rfl⟩:=dP H;refine k ?_
 kernel_rfl
theorem ZC:cg (yc Ka).2.2 [Kb "first",Kb "second",Kb "late"]=Hb/\(yc Ka).2.2.isGenerator=Ib/\(yc Ka).2.2.isCoroutine=Ib:=⟨by decide+kernel,by decide+kernel,by decide+kernel⟩
theorem JX(h:bf B 289 (yc La) .none .none f):ie B f [Kb "order"] Bd id (·=1):=si λV H=>by
 rw[h.bind];obtain⟨x,rfl⟩:=Ul H
 kernel_rfl
theorem BC:cg (yc La).2.2 [Kb "order"]=Hb/\(yc La).2.2.isGenerator=Ib/\(yc La).2.2.isCoroutine=Ib:=⟨by decide+kernel,by decide+kernel,by decide+kernel⟩
theorem mW(h:bf B 294 (yc Ma) .none .none f):ie B f [Va,Kb "read"] Bd id (·=2):=si λV H=>by
 rw[h.bind];obtain⟨x,L,rfl⟩:=rt H
 kernel_rfl
theorem TC:cg (yc Ma).2.2 [Va,Kb "read"]=Hb/\(yc Ma).2.2.isGenerator=Ib/\(yc Ma).2.2.isCoroutine=Ib:=⟨by decide+kernel,by decide+kernel,by decide+kernel⟩
theorem PW(h:bf B 301 (yc Na) .none .none f):ie B f [Kb "read",Kb "ends"] Bd id (·=2):=si λV H=>by
 rw[h.bind];obtain⟨x,L,rfl⟩:=rt H
 kernel_rfl
theorem HC:cg (yc Na).2.2 [Kb "read",Kb "ends"]=Hb/\(yc Na).2.2.isGenerator=Ib/\(yc Na).2.2.isCoroutine=Ib:=⟨by decide+kernel,by decide+kernel,by decide+kernel⟩
theorem BV(h:bf B 306 (yc Oa) .none .none f):ie B f [Kb "script"] Bd id (·=1):=si λV H=>by
 rw[h.bind];obtain⟨x,rfl⟩:=Ul H
 kernel_rfl
theorem aC:cg (yc Oa).2.2 [Kb "script"]=Hb/\(yc Oa).2.2.isGenerator=Ib/\(yc Oa).2.2.isCoroutine=Ib:=⟨by decide+kernel,by decide+kernel,by decide+kernel⟩
theorem JI(h:bf B 172 (wd qa) .none .none f):ie B f [xa,ma,Kb "val"] Bd id (·=3):=si λV H=>by
 rw[h.bind];refine Qc λG k=>?_;obtain⟨x,L,N,rfl⟩:=dP H;refine k ?_
 kernel_rfl
theorem Ur:cg (wd qa).2.2 [xa,ma,Kb "val"]=Hb/\(wd qa).2.2.isGenerator=Ib/\(wd qa).2.2.isCoroutine=Ib:=⟨by decide+kernel,by decide+kernel,by decide+kernel⟩
theorem jJ(h:bf B 177 (wd ra) .none .none f):ie B f [xa,ma] Bd id (·=2):=si λV H=>by
 rw[h.bind];obtain⟨x,L,rfl⟩:=rt H
 kernel_rfl
theorem Pr:cg (wd ra).2.2 [xa,ma]=Hb/\(wd ra).2.2.isGenerator=Ib/\(wd ra).2.2.isCoroutine=Ib:=⟨by decide+kernel,by decide+kernel,by decide+kernel⟩
theorem HV(h:bf B 211 (wd ta) .none .none f):ie B f [xa] Bd id (·=1):=si λV H=>by
 rw[h.bind];obtain⟨x,rfl⟩:=Ul H
 kernel_rfl
theorem pC:cg (wd ta).2.2 [xa]=Hb/\(wd ta).2.2.isGenerator=Ib/\(wd ta).2.2.isCoroutine=Ib:=⟨by decide+kernel,by decide+kernel,by decide+kernel⟩
theorem BX(h:bf B 223 (wd ua) .none .none f):ie B f [xa] Bd id (·=1):=si λV H=>by
 rw[h.bind];obtain⟨x,rfl⟩:=Ul H
 kernel_rfl
theorem mC:cg (wd ua).2.2 [xa]=Hb/\(wd ua).2.2.isGenerator=Ib/\(wd ua).2.2.isCoroutine=Ib:=⟨by decide+kernel,by decide+kernel,by decide+kernel⟩
theorem I1(h:bf B 47 (yc za) (.ref 39) (.ref 40) f)(hT:ui B 39=Fb [.int 0 291,.none])(Y:Dm B 40=Fb [(Fb Ta,.none)]):ie B f [Kb "a",Kb "x",Kb "lo",Kb "hi",Ta] Bd Vj (λn=>n=2\/n=4):=by
 intro g w G U V;refine Md (Ar hT) λc1 d j I D=>?_;refine eA (Ox Y) λc2 J t b L k o=>?_;have X:=wm D (wm o Hs);rcases U with e|e
 ·refine Yv V e λu v p q H T=>?_
  refine⟨[u,v,.int 0 291,.none,.none],.cons H (.cons T (.cons (.int _ _) (.cons .none (.cons .none .nil)))),rfl,λM A E Q s C q=>rm X (λS=>?_) M A E Q s C q⟩;rw[h.bind];kernel_rfl
 ·refine Jz V e λu v x y p q r z H T N a=>?_
  refine⟨[u,v,x,y,.none],.cons H (.cons T (.cons N (.cons a (.cons .none .nil)))),rfl,λM A E Q s C q=>rm X (λS=>?_) M A E Q s C q⟩;rw[h.bind];kernel_rfl
theorem xD:cg (yc za).2.2 [Kb "a",Kb "x",Kb "lo",Kb "hi",Ta]=Hb/\(yc za).2.2.isGenerator=Ib/\(yc za).2.2.isCoroutine=Ib:=⟨by decide+kernel,by decide+kernel,by decide+kernel⟩
theorem OZ(h:bf B 56 (yc Aa) (.ref 48) (.ref 49) f)(hT:ui B 48=Fb [.int 0 304,.none])(Y:Dm B 49=Fb [(Fb Ta,.none)]):ie B f [Kb "a",Kb "x",Kb "lo",Kb "hi",Ta] Bd Vj (λn=>n=2\/n=4):=by
 intro g w G U V;refine Md (Ar hT) λc1 d j I D=>?_;refine eA (Ox Y) λc2 J t b L k o=>?_;have X:=wm D (wm o Hs);rcases U with e|e
 ·refine Yv V e λu v p q H T=>?_
  refine⟨[u,v,.int 0 304,.none,.none],.cons H (.cons T (.cons (.int _ _) (.cons .none (.cons .none .nil)))),rfl,λM A E Q s C q=>rm X (λS=>?_) M A E Q s C q⟩;rw[h.bind];kernel_rfl
 ·refine Jz V e λu v x y p q r z H T N a=>?_
  refine⟨[u,v,x,y,.none],.cons H (.cons T (.cons N (.cons a (.cons .none .nil)))),rfl,λM A E Q s C q=>rm X (λS=>?_) M A E Q s C q⟩;rw[h.bind];kernel_rfl
theorem fD:cg (yc Aa).2.2 [Kb "a",Kb "x",Kb "lo",Kb "hi",Ta]=Hb/\(yc Aa).2.2.isGenerator=Ib/\(yc Aa).2.2.isCoroutine=Ib:=⟨by decide+kernel,by decide+kernel,by decide+kernel⟩
theorem yZ(h:bf B 65 (yc Ba) (.ref 57) (.ref 58) f)(hT:ui B 57=Fb [.int 0 318,.none])(Y:Dm B 58=Fb [(Fb Ta,.none)]):ie B f [Kb "a",Kb "x",Kb "lo",Kb "hi",Ta] Bd Vj (λn=>n=2\/n=4):=by
 intro g w G U V;refine Md (Ar hT) λc1 d j I D=>?_;refine eA (Ox Y) λc2 J t b L k o=>?_;have X:=wm D (wm o Hs);rcases U with e|e
 ·refine Yv V e λu v p q H T=>?_
  refine⟨[u,v,.int 0 318,.none,.none],.cons H (.cons T (.cons (.int _ _) (.cons .none (.cons .none .nil)))),rfl,λM A E Q s C q=>rm X (λS=>?_) M A E Q s C q⟩;rw[h.bind];kernel_rfl
 ·refine Jz V e λu v x y p q r z H T N a=>?_
  refine⟨[u,v,x,y,.none],.cons H (.cons T (.cons N (.cons a (.cons .none .nil)))),rfl,λM A E Q s C q=>rm X (λS=>?_) M A E Q s C q⟩;rw[h.bind];kernel_rfl
theorem mD:cg (yc Ba).2.2 [Kb "a",Kb "x",Kb "lo",Kb "hi",Ta]=Hb/\(yc Ba).2.2.isGenerator=Ib/\(yc Ba).2.2.isCoroutine=Ib:=⟨by decide+kernel,by decide+kernel,by decide+kernel⟩
theorem LY(h:bf B 74 (yc Ca) (.ref 66) (.ref 67) f)(hT:ui B 66=Fb [.int 0 331,.none])(Y:Dm B 67=Fb [(Fb Ta,.none)]):ie B f [Kb "a",Kb "x",Kb "lo",Kb "hi",Ta] Bd Vj (λn=>n=2\/n=4):=by
 intro g w G U V;refine Md (Ar hT) λc1 d j I D=>?_;refine eA (Ox Y) λc2 J t b L k o=>?_;have X:=wm D (wm o Hs);rcases U with e|e
 ·refine Yv V e λu v p q H T=>?_
  refine⟨[u,v,.int 0 331,.none,.none],.cons H (.cons T (.cons (.int _ _) (.cons .none (.cons .none .nil)))),rfl,λM A E Q s C q=>rm X (λS=>?_) M A E Q s C q⟩;rw[h.bind];kernel_rfl
 ·refine Jz V e λu v x y p q r z H T N a=>?_
  refine⟨[u,v,x,y,.none],.cons H (.cons T (.cons N (.cons a (.cons .none .nil)))),rfl,λM A E Q s C q=>rm X (λS=>?_) M A E Q s C q⟩;rw[h.bind];kernel_rfl
theorem kD:cg (yc Ca).2.2 [Kb "a",Kb "x",Kb "lo",Kb "hi",Ta]=Hb/\(yc Ca).2.2.isGenerator=Ib/\(yc Ca).2.2.isCoroutine=Ib:=⟨by decide+kernel,by decide+kernel,by decide+kernel⟩
theorem jV(h:bf B 206 (wd sa) (.ref 199) .none f)(hT:ui B 199=Fb [.none]):ie B f [xa,ma,Kb "default"] Bd id (·=3):=by
 intro g w a H V;refine Md (Ar hT) λc1 d k G e=>?_;have X:=wm e Hs;refine fF V H λu v x p q r j T N=>?_;refine⟨[u,v,x],.cons j (.cons T (.cons N .nil)),rfl,λM A E Q s C q=>rm X (λS=>?_) M A E Q s C q⟩;rw[h.bind];kernel_rfl
theorem VC:cg (wd sa).2.2 [xa,ma,Kb "default"]=Hb/\(wd sa).2.2.isGenerator=Ib/\(wd sa).2.2.isCoroutine=Ib:=⟨by decide+kernel,by decide+kernel,by decide+kernel⟩
theorem HW(h:bf B 151 (wd va) (.ref 144) .none f)(hT:ui B 144=Fb [.none]):ie B f [xa,wa] Bd (λa=>a++[.none]) (·=1):=by
 intro g w a H V;refine Md (Ar hT) λc1 d N G e=>?_;have X:=wm e Hs;refine wO V H λu p j=>?_;refine⟨[u,.none],.cons j (.cons .none .nil),rfl,λM A E Q s C q=>rm X (λS=>?_) M A E Q s C q⟩;rw[h.bind];kernel_rfl
theorem OC:cg (wd va).2.2 [xa,wa]=Hb/\(wd va).2.2.isGenerator=Ib/\(wd va).2.2.isCoroutine=Ib:=⟨by decide+kernel,by decide+kernel,by decide+kernel⟩
theorem oJ(h:bf B 158 (wd na) .none .none f):ie B f [xa,Kb "value",ma] Lq id (·=3):=by
 intro g w a H V;refine fF V H λu v x p q r j T N=>?_;refine⟨[u,v,x],.cons j (.cons T (.cons N .nil)),rfl,λM A E Q s C q=>?_⟩;have e:vo f (Lq [u,v,x])=pure ([xa,Kb "value",ma].zip [u,v,x]):=by rw[h.bind];kernel_rfl
 rw[e];exact vc q
theorem Xr:cg (wd na).2.2 [xa,Kb "value",ma]=Hb/\(wd na).2.2.isGenerator=Ib/\(wd na).2.2.isCoroutine=Ib:=⟨by decide+kernel,by decide+kernel,by decide+kernel⟩
abbrev Spec:=List PV->Hp->Rm (PV×Hp)
noncomputable def p_(f:Spec):Dc:=⟨λJ=>f,λJ J=>Gb⟩
noncomputable def S8:List (Nat×Nat):=Eo++cD++[(26,158),(20,172),(21,177),(99,306)]
noncomputable def uv(k:Nat):Ub:=(S8.lookup k).getD 0
noncomputable def qz(k:Nat):ia->Args:=if k=26 then Lq else Bd
theorem aK:∀p∈Eo,uv p.1=p.2/\p.1≠26/\p.1≠4:=by decide+kernel
theorem tJ:∀p∈cD,uv p.1=p.2/\p.1≠26/\p.1≠4:=by decide+kernel
def Vc(w:xd)(B:Heap)(d k:Nat)(f:Spec):Prop:=uj w B d (p_ f) k (uv k) (qz k)
noncomputable def Vo(k:Nat)(V:List PV):Option (List PV):=match k,V with
 |4,[.str x]=>Fb (Gc x 0 Ib)|_,_=>Gb
noncomputable def only(l:List (Nat×Spec)):Dc:=⟨λk=>match l.lookup k with
 |some f=>f|none=>λJ J=>Gb,Vo⟩
theorem l7(l:List (Nat×Spec)):iN (only l):=by
 intro k a T e;have e:Vo k a=Fb T:=e;rcases k with J|J|J|J|J|k
 case succ.succ.succ.succ.zero=>
  induction a using xc with
  |nil=>exact nn e|cons v r=>induction v using PV.casesOn with
   |str x=>induction r using xc with
    |nil=>refine lg e ?_;exact⟨rfl,_,rfl,rfl⟩|cons=>exact nn e
   |_=>exact nn e
 all_goals exact nn e
section
theorem Cc.mono(h:d<=D)(H:Cc D A):Cc d A:=⟨H.hand,by have:=H.units;exact d8 ‹_› ‹_›,by have:=H.depth;exact PN ‹_› ‹_›⟩
theorem Vc.mono(h:d<=D)(x:Vc w B d k f):Vc w B D k f:=λA R g s y a C r b H=>x A R g s y a C r b (Cc.mono h H)
theorem Xu{mk:ia->Args}(t:uv k=a)(T:qz k=mk)(h:∀f,l.lookup k=Fb f->Vc w B d k f):uj w B d (only l) k a mk:=by
 intro A R g s y x C r b I O H V e post;have e:(match l.lookup k with|some f=>f|none=>λJ J=>Gb) x C=Fb ((r,b),Hb):=e
 cases q:l.lookup k with
 |none=>rw[q] at e;injection e|some f=>
  rw[q] at e;have:=h f q;unfold Vc at this;rw[t,T] at this;exact this A R g s y x C r b I O H V e post
theorem XM(h:k≠26):qz k=Bd:=if_neg h
variable{w:xd}{B:Heap}{d:Nat}{k:Nat}{f:Spec}{l:List (Nat×Spec)} in
theorem V0(x:Zy w B d (only l))(h:∀k f,l.lookup k=Fb f->Vc w B d k f)(b:l.lookup 4=Gb):Sg w B d (only l) where
 ph:=λk a H=>Xu (aK _ H).1 (XM (aK _ H).2.1) (h k)
 met:=λk a H=>Xu (tJ _ H).1 (XM (tJ _ H).2.1) (h k)
 conv:=Xu (by decide+kernel) rfl (h 26)
 set:=Xu (by decide+kernel) rfl (h 20)
 del:=Xu (by decide+kernel) rfl (h 21)
 four:=λA C=>by
  show(match l.lookup 4 with|some f=>f|none=>λJ J=>Gb) A C=Gb;rw[b]
 gen:=x
theorem uh{K:Ad}(T:ae w B K)(I:Sg w B d (only l)){mk:ia->Args}(x:Bk B a p D.2.2 D.2.1)(y:D.2.2.isGenerator=Ib)(O:Params D.2.2 z)
  (q:ie B p z mk m s)(t:uv k=a)(U:qz k=mk)(Q:Qg D=o)(E:D.2.2.names.length=n)
  (G:∀A C r b,f A C=Fb ((r,b),Hb)->s A.length/\Hd P0 (only l) 60 o n (m A) C=Fb ((r,b),Hb)):Vc w B (d+1) k f:=by
 unfold Vc;rw[t,U];refine nT x y O q λA C r b e=>?_;obtain⟨Y,h⟩:=G A C r b e;refine⟨Y,?_⟩;unfold Hd at h;refine Qc λJ V=>?_;obtain⟨⟨N,L,u⟩,H,j⟩:=Rm.bind_some h;have H:Kc (uc P0 (only l) 60) (D.2.1.map (Se GT 60 D.2.2)) (Cg D.2.2 (m A)) C=Fb ((N,L,u),Hb):=by
  unfold Cg;rw[E,show D.2.1.map (Se GT 60 D.2.2)=o from Q];exact H
 have g:=Qr (It T I 60) D.2.1 H
 induction N using Fl.casesOn with
 |ret v=>
  obtain⟨rfl,rfl⟩:=ye (Rm.Gd j);refine V ?_;exact⟨_,L,g,.inl rfl⟩
 |next=>
  obtain⟨rfl,rfl⟩:=ye (Rm.Gd j);refine V ?_;exact⟨_,L,g,.inr ⟨rfl,rfl⟩⟩
 |brk=>exact nn j
end
section
open PySem PySem.W PySem.W.X PyProof.Rows
set_option maxRecDepth 1000000
set_option maxHeartbeats 0
noncomputable def q0:Program:=view pw [0,29]
noncomputable def aE:List Str:=["_wall","insort_right","bisect_right","insort_left","bisect_left","_iter_escaped_chars","_strip_quoted_realnames","_check_parenthesis","_pre_parse_validation","_twin_re_1","_twin_re_2","CRLF","quotedata","_fix_eols","_name_disallowed_re","_value_disallowed_re","Headers","_law_table","_law_refused","_law_out","_law_in","_law_mates","_law_dotted"]
theorem XW:LeftO PySem.Challenge.rw_ta0095_01.row.prog q0 aE (λs=>xlAt q0 [] s&&recOk (RowW.records PySem.Challenge.rw_ta0095_01.row.toRowW) s) (λs=>seen s.heap) (λJ=>Mj) 3452:=λw=>by
 kernel_rfl
end
section
variable{h:Heap}{B:Heap} in
theorem KW(A:seen h=Mj)(C:∀b o,h.get? b=Fb o->B.get? b=Fb o):Ml B where
 at':=λx r D=>by
  have E:=congrArg (·.2.2.1) A;have e:=Fn (show GT.kc.map (λx=>(rk h pi x.1,rk h qh x.1))=GT.kc.map (λx=>match x.2 with
   |.oc q=>(Fb Gb,Fb (Fb (ll q)))|r=>(Fb (Fb (wq r)),Fb Gb)) from E) (mem_lookup D)
  have H:[Li h pi,Li h qh,Li h ju]=[Hb,Hb,Hb]:=congrArg (·.2.2.2.1) A;simp only [XA,and_true] at H;obtain⟨m,N,V⟩:=ds H.1;obtain⟨g,w,O⟩:=ds H.2.1;refine⟨m,g,N.keeps C,w.keeps C,?_⟩;dsimp only at e;rw[V,O] at e
  induction r using Td.casesOn with
  |oc q=>
   simp only [Wt,yA] at e;exact .inr e
  |fn k v=>
   simp only [Wt,yA] at e;exact .inl e.1
  |val v=>
   simp only [Wt,yA] at e;exact .inl e.1
theorem EZ{B:Heap}(H:seen h=Mj)(C:∀b o,h.get? b=Fb o->B.get? b=Fb o):B.NoLimit:=by
 have j:[Li h pi,Li h qh,Li h ju]=[Hb,Hb,Hb]:=congrArg (·.2.2.2.1) H;simp only [XA,and_true] at j;obtain⟨m,N,V⟩:=ds j.2.2;have Q:rk h ju (Kb "sys.recursionlimit")=Fb Gb:=congrArg (·.2.2.2.2.2.2.2.2.2.1) H;rw[V] at Q;exact⟨m,N.keeps C,by simpa using Q⟩
theorem lZ(H:seen h=Mj)(C:∀b o,h.get? b=Fb o->B.get? b=Fb o):Hq B:=by
 have A:=congrArg (·.2.2.2.2.2.2.1) H;have j:=congrArg (·.2.2.2.2.2.2.2.1) H;have key:∀x∈yk,kh B x.1 x.2.2:=λx N=>by
  have e:=Fn (show yk.map (λx=>AD h x.1)=yk.map (λx=>Fb (mo "re.Pattern",Gb,0,fm x.2.1,Ef 0,Ef 0)) from A) N;have E:=Fn (show yk.map (λx=>h.get? x.2.1)=yk.map (λx=>Fb (pf (x.2.2.toList.map λ(k:Nat)=>Ef k) 0)) from j) N;refine xl (vS e) λf z=>Yj z λa1 a2 a l=>?_;clear z;exact⟨f,x.2.1,0,C _ _ a1,a2,a,l,C _ _ E⟩
 exact⟨key (107,106,vh) (bh (show yk[0]?=_ from rfl)),key (112,111,jj) (bh (show yk[1]?=_ from rfl)),key (131,130,yn) (bh (show yk[2]?=_ from rfl)),key (136,135,Tp) (bh (show yk[3]?=_ from rfl))⟩
theorem FC(A:seen h=Mj):Fk (fragOf h)/\∀a∈bs,Ep (fragOf h) (.ref a)=Hb:=by
 have H:=congrArg (·.2.2.2.2.2.2.2.2.1) A;have H:((clsIn (fragOf h) 259).map (·.hasDict),Lu.map (λx=>ij (fragOf h) (.ref 259) x.1),Ny.map (λf=>typeIn (fragOf h) (.ref f)),[noSeq (fragOf h) 259,makesIn (fragOf h) 259,plainOver (fragOf h) 259]++bs.map λa=>Ep (fragOf h) (.ref a))=
  (Fb Hb,Lu.map (·.2),Ny.map (λJ=>Fb (mo "function")),[Hb,Hb,Hb]++bs.map λJ=>Hb):=H
 simp only [Wt] at H;refine Qc λg k=>?_;refine Yj H λE o p e=>?_;clear H;simp only [TA,iu,XA] at e;refine Yj e λd O G q=>?_;clear e;have nm:∀(i:Nat)x,Lu[i]?=Fb x->ij (fragOf h) (.ref 259) x.1=x.2:=λi x N=>Fn o (bh N);refine k ?_;refine⟨⟨?_,nm 0 (oa,Fb Gb) rfl,nm 1 (Kb "__getattribute__",Fb (Fb (.builtin "object.__getattribute__"))) rfl,nm 2 (Kb "__getattr__",Fb Gb) rfl,nm 3 (na,Fb (Fb (.ref 158))) rfl,nm 4 (qa,Fb (Fb (.ref 172))) rfl,nm 5 (ra,Fb (Fb (.ref 177))) rfl,nm 6 (sa,Fb (Fb (.ref 206))) rfl,nm 7 (ta,Fb (Fb (.ref 211))) rfl,nm 8 (ua,Fb (Fb (.ref 223))) rfl,nm 9 (va,Fb (Fb (.ref 151))) rfl,λf T=>Fn p T,d,O,G,nm 10 (Kb "__setattr__",Fb (Fb (.builtin "object.__setattr__"))) rfl⟩,λa s=>Fn q s⟩;obtain⟨C,Q,U⟩:=Option.map_eq_some_iff.mp E;exact⟨C,Q,U⟩
theorem Ff(H:seen h=Mj)(C:∀b o,h.get? b=Fb o->B.get? b=Fb o)(i:Nat)(x:Ub×lp×Value×Value×Ub×Str)(N:Zl[i]?=Fb x):∃f,bf B x.1 x.2.1 x.2.2.1 x.2.2.2.1 f:=iM H C (bh N)
theorem sm(A:seen h=Mj)(C:∀b o,h.get? b=Fb o->B.get? b=Fb o):(∀x∈[(39,[yG 0 291,.none]),(48,[.int 0 304,.none]),(57,[.int 0 318,.none]),(66,[.int 0 331,.none]),(144,[.none]),(199,[.none])],ui B x.1=Fb x.2)/\∀a∈[40,49,58,67],Dm B a=Fb [(Fb Ta,.none)]:=by
 have D:=congrArg (·.2.2.2.2.1) A;have H:[ui h 39,ui h 48,ui h 57,ui h 66,ui h 144,ui h 199]=[Fb [.int 0 291,.none],Fb [.int 0 304,.none],Fb [.int 0 318,.none],Fb [.int 0 331,.none],Fb [.none],Fb [.none]]:=congrArg (·.2.2.2.2.2.1) A;have up1:∀a l,ui h a=Fb l->ui B a=Fb l:=λa l e=>yg e λo q e=>(congrArg (Option.bind · _) (C _ _ q)).trans e;have u:∀a l,Dm h a=Fb l->Dm B a=Fb l:=λa l e=>yg e λo q e=>(congrArg (Option.bind · _) (C _ _ q)).trans e;simp only [XA,and_true] at H;refine Qc λG k=>?_;refine lG H λa1 a2 J j O E=>?_;clear H;refine k ?_;refine⟨λx N=>?_,λa s=>u a _ (Fn (show[40,49,58,67].map (λa=>Dm h a)=[40,49,58,67].map (λK=>Fb [(Fb Ta,sp)]) from D) s)⟩;simp only [og,Xd,or_false] at N;rcases N with rfl|rfl|rfl|rfl|rfl|rfl<;>exact up1 _ _ (by assumption)
variable{w:xd}{h:Heap}{B:Heap} in
theorem XU(H:seen h=Mj)(C:∀b o,h.get? b=Fb o->B.get? b=Fb o):ae w B (fragOf h) where
 hK:=(FC H).1
 hX:=(n5 h).keeps C
 kc:=KW H C
 pat:=lZ H C
 sorted:=gX
 int:=W5
 keep:=λa⟨k,s⟩=>(FC H).2 a (by
  have:∀p∈Eo,p.2∈bs:=by decide+kernel
  exact this _ s)
 obj:=λf T=>by
  have:∀f∈[151,158,172,177,206,211,223],∃x∈Zl,x.1=f:=by decide+kernel
  obtain⟨x,N,rfl⟩:=this f T;obtain⟨l,Q⟩:=iM H C N;obtain⟨o,A,j⟩:=Q.obj;exact⟨o,l,A,j⟩
end
structure At(w:xd)(B h:Heap):Prop where
 seen:seen h=Mj
 keeps:∀b o,h.get? b=Fb o->B.get? b=Fb o
section
theorem At.head(C:At w B h):ae w B (fragOf h):=XU C.seen C.keeps
theorem At.lim(C:At w B h):B.NoLimit:=EZ C.seen C.keeps
theorem At.gen(C:At w B h)(Q:3<=d)(b:d<=300)(l:List (Nat×Spec)):Zy w B d (only l):=by
 obtain⟨f,H⟩:=Ff C.seen C.keeps 4 (81,yc Pa,.none,.none,80,Pa) rfl;exact ET C.head C.lim Q b ((FC C.seen).2 81 (by decide)) (H.Lf k4.2.2 C.lim) (UZ H) (l7 l)
theorem At.all(C:At w B h)(H:3<=d)(b:d<=300)(x:∀k f,l.lookup k=Fb f->Vc w B d k f)(h5:l.lookup 4=Gb):Sg w B d (only l):=V0 (C.gen H b l) x h5
theorem U'(C:At w B h)(T:3<=d)(e:d<=300)(x:∀k f,l.lookup k=Fb f->Vc w B d k f)(h5:l.lookup 4=Gb)(y:∀a H r b,f a H=Fb ((r,b),Hb)->(a.length=2\/a.length=4)/\Hd P0 (only l) 60 vE 6 (Vj a) H=Fb ((r,b),Hb)):Vc w B (d+1) 0 f:=by
 obtain⟨m,Q⟩:=Ff C.seen C.keeps 0 (47,(yc za),.ref 39,.ref 40,46,za) rfl;exact uh C.head (C.all T e x h5) (Q.Lf xD.2.2 C.lim) xD.2.1 (Pf xD.1) (I1 Q ((sm C.seen C.keeps).1 (39,[.int 0 291,.none]) (by simp)) ((sm C.seen C.keeps).2 40 (by decide))) (by decide+kernel) (by rfl) x0 (by decide+kernel) y
theorem sp1(C:At w B h)(T:3<=d)(e:d<=300)(x:∀k f,l.lookup k=Fb f->Vc w B d k f)(h5:l.lookup 4=Gb)(y:∀a H r b,f a H=Fb ((r,b),Hb)->(a.length=2\/a.length=4)/\Hd P0 (only l) 60 tE 8 (Vj a) H=Fb ((r,b),Hb)):Vc w B (d+1) 1 f:=by
 obtain⟨m,Q⟩:=Ff C.seen C.keeps 1 (56,(yc Aa),.ref 48,.ref 49,55,Aa) rfl;exact uh C.head (C.all T e x h5) (Q.Lf fD.2.2 C.lim) fD.2.1 (Pf fD.1) (OZ Q ((sm C.seen C.keeps).1 (48,[.int 0 304,.none]) (by simp)) ((sm C.seen C.keeps).2 49 (by decide))) (by decide+kernel) (by rfl) XX (by decide+kernel) y
theorem sp2(C:At w B h)(T:3<=d)(e:d<=300)(x:∀k f,l.lookup k=Fb f->Vc w B d k f)(h5:l.lookup 4=Gb)(y:∀a H r b,f a H=Fb ((r,b),Hb)->(a.length=2\/a.length=4)/\Hd P0 (only l) 60 EE 6 (Vj a) H=Fb ((r,b),Hb)):Vc w B (d+1) 2 f:=by
 obtain⟨m,Q⟩:=Ff C.seen C.keeps 2 (65,(yc Ba),.ref 57,.ref 58,64,Ba) rfl;exact uh C.head (C.all T e x h5) (Q.Lf mD.2.2 C.lim) mD.2.1 (Pf mD.1) (yZ Q ((sm C.seen C.keeps).1 (57,[.int 0 318,.none]) (by simp)) ((sm C.seen C.keeps).2 58 (by decide))) (by decide+kernel) (by rfl) j1 (by decide+kernel) y
theorem sp3(C:At w B h)(T:3<=d)(e:d<=300)(x:∀k f,l.lookup k=Fb f->Vc w B d k f)(h5:l.lookup 4=Gb)(y:∀a H r b,f a H=Fb ((r,b),Hb)->(a.length=2\/a.length=4)/\Hd P0 (only l) 60 AE 8 (Vj a) H=Fb ((r,b),Hb)):Vc w B (d+1) 3 f:=by
 obtain⟨m,Q⟩:=Ff C.seen C.keeps 3 (74,(yc Ca),.ref 66,.ref 67,73,Ca) rfl;exact uh C.head (C.all T e x h5) (Q.Lf kD.2.2 C.lim) kD.2.1 (Pf kD.1) (LY Q ((sm C.seen C.keeps).1 (66,[.int 0 331,.none]) (by simp)) ((sm C.seen C.keeps).2 67 (by decide))) (by decide+kernel) (by rfl) WY (by decide+kernel) y
theorem sp5(C:At w B h)(T:3<=d)(e:d<=300)(x:∀k f,l.lookup k=Fb f->Vc w B d k f)(h5:l.lookup 4=Gb)(y:∀a H r b,f a H=Fb ((r,b),Hb)->a.length=1/\Hd P0 (only l) 60 mE 8 a H=Fb ((r,b),Hb)):Vc w B (d+1) 5 f:=by
 obtain⟨m,Q⟩:=Ff C.seen C.keeps 5 (88,(yc Ea),.none,.none,87,Ea) rfl;exact uh C.head (C.all T e x h5) (Q.Lf nD.2.2 C.lim) nD.2.1 (Pf nD.1) (zZ Q) (by decide+kernel) (by rfl) h0 (by decide+kernel) y
theorem S'(C:At w B h)(T:3<=d)(e:d<=300)(x:∀k f,l.lookup k=Fb f->Vc w B d k f)(h5:l.lookup 4=Gb)(y:∀a H r b,f a H=Fb ((r,b),Hb)->a.length=1/\Hd P0 (only l) 60 IE 6 a H=Fb ((r,b),Hb)):Vc w B (d+1) 6 f:=by
 obtain⟨m,Q⟩:=Ff C.seen C.keeps 6 (95,(yc Fa),.none,.none,94,Fa) rfl;exact uh C.head (C.all T e x h5) (Q.Lf jD.2.2 C.lim) jD.2.1 (Pf jD.1) (J0 Q) (by decide+kernel) (by rfl) Z0 (by decide+kernel) y
theorem sp7(C:At w B h)(T:3<=d)(e:d<=300)(x:∀k f,l.lookup k=Fb f->Vc w B d k f)(h5:l.lookup 4=Gb)(y:∀a H r b,f a H=Fb ((r,b),Hb)->a.length=1/\Hd P0 (only l) 60 qE 4 a H=Fb ((r,b),Hb)):Vc w B (d+1) 7 f:=by
 obtain⟨m,Q⟩:=Ff C.seen C.keeps 7 (102,(yc Ga),.none,.none,101,Ga) rfl;exact uh C.head (C.all T e x h5) (Q.Lf bC.2.2 C.lim) bC.2.1 (Pf bC.1) (QV Q) (by decide+kernel) (by rfl) XZ (by decide+kernel) y
theorem sp8(C:At w B h)(T:3<=d)(e:d<=300)(x:∀k f,l.lookup k=Fb f->Vc w B d k f)(h5:l.lookup 4=Gb)(y:∀a H r b,f a H=Fb ((r,b),Hb)->a.length=1/\Hd P0 (only l) 60 yE 4 a H=Fb ((r,b),Hb)):Vc w B (d+1) 8 f:=by
 obtain⟨m,Q⟩:=Ff C.seen C.keeps 8 (119,(yc Ha),.none,.none,118,Ha) rfl;exact uh C.head (C.all T e x h5) (Q.Lf vC.2.2 C.lim) vC.2.1 (Pf vC.1) (gV Q) (by decide+kernel) (by rfl) LZ (by decide+kernel) y
theorem sp9(C:At w B h)(T:3<=d)(e:d<=300)(x:∀k f,l.lookup k=Fb f->Vc w B d k f)(h5:l.lookup 4=Gb)(y:∀a H r b,f a H=Fb ((r,b),Hb)->a.length=1/\Hd P0 (only l) 60 uE 3 a H=Fb ((r,b),Hb)):Vc w B (d+1) 9 f:=by
 obtain⟨m,Q⟩:=Ff C.seen C.keeps 9 (126,(yc Ia),.none,.none,125,Ia) rfl;exact uh C.head (C.all T e x h5) (Q.Lf tC.2.2 C.lim) tC.2.1 (Pf tC.1) (IX Q) (by decide+kernel) (by rfl) UX (by decide+kernel) y
theorem I9(C:At w B h)(T:3<=d)(e:d<=300)(x:∀k f,l.lookup k=Fb f->Vc w B d k f)(h5:l.lookup 4=Gb)(y:∀a H r b,f a H=Fb ((r,b),Hb)->a.length=2/\Hd P0 (only l) 60 SD 9 a H=Fb ((r,b),Hb)):Vc w B (d+1) 10 f:=by
 obtain⟨m,Q⟩:=Ff C.seen C.keeps 10 (270,(yc Ja),.none,.none,269,Ja) rfl;exact uh C.head (C.all T e x h5) (Q.Lf PC.2.2 C.lim) PC.2.1 (Pf PC.1) (aW Q) (by decide+kernel) (by rfl) OV (by decide+kernel) y
theorem k9(C:At w B h)(T:3<=d)(e:d<=300)(x:∀k f,l.lookup k=Fb f->Vc w B d k f)(h5:l.lookup 4=Gb)(y:∀a H r b,f a H=Fb ((r,b),Hb)->a.length=3/\Hd P0 (only l) 60 Cy 11 a H=Fb ((r,b),Hb)):Vc w B (d+1) 12 f:=by
 obtain⟨m,Q⟩:=Ff C.seen C.keeps 12 (284,(yc Ka),.none,.none,283,Ka) rfl;exact uh C.head (C.all T e x h5) (Q.Lf ZC.2.2 C.lim) ZC.2.1 (Pf ZC.1) (iX Q) (by decide+kernel) (by rfl) CV (by decide+kernel) y
theorem g_(C:At w B h)(T:3<=d)(e:d<=300)(x:∀k f,l.lookup k=Fb f->Vc w B d k f)(h5:l.lookup 4=Gb)(y:∀a H r b,f a H=Fb ((r,b),Hb)->a.length=1/\Hd P0 (only l) 60 qv 10 a H=Fb ((r,b),Hb)):Vc w B (d+1) 13 f:=by
 obtain⟨m,Q⟩:=Ff C.seen C.keeps 13 (289,(yc La),.none,.none,288,La) rfl;exact uh C.head (C.all T e x h5) (Q.Lf BC.2.2 C.lim) BC.2.1 (Pf BC.1) (JX Q) (by decide+kernel) (by rfl) JW (by decide+kernel) y
theorem N9(C:At w B h)(T:3<=d)(e:d<=300)(x:∀k f,l.lookup k=Fb f->Vc w B d k f)(h5:l.lookup 4=Gb)(y:∀a H r b,f a H=Fb ((r,b),Hb)->a.length=2/\Hd P0 (only l) 60 cE 9 a H=Fb ((r,b),Hb)):Vc w B (d+1) 14 f:=by
 obtain⟨m,Q⟩:=Ff C.seen C.keeps 14 (294,(yc Ma),.none,.none,293,Ma) rfl;exact uh C.head (C.all T e x h5) (Q.Lf TC.2.2 C.lim) TC.2.1 (Pf TC.1) (mW Q) (by decide+kernel) (by rfl) YW (by decide+kernel) y
theorem d_(C:At w B h)(T:3<=d)(e:d<=300)(x:∀k f,l.lookup k=Fb f->Vc w B d k f)(h5:l.lookup 4=Gb)(y:∀a H r b,f a H=Fb ((r,b),Hb)->a.length=2/\Hd P0 (only l) 60 YD 16 a H=Fb ((r,b),Hb)):Vc w B (d+1) 15 f:=by
 obtain⟨m,Q⟩:=Ff C.seen C.keeps 15 (301,(yc Na),.none,.none,300,Na) rfl;exact uh C.head (C.all T e x h5) (Q.Lf HC.2.2 C.lim) HC.2.1 (Pf HC.1) (PW Q) (by decide+kernel) (by rfl) sX (by decide+kernel) y
theorem A'(C:At w B h)(T:3<=d)(e:d<=300)(x:∀k f,l.lookup k=Fb f->Vc w B d k f)(h5:l.lookup 4=Gb)(y:∀a H r b,f a H=Fb ((r,b),Hb)->a.length=3/\Hd P0 (only l) 60 rv 11 a H=Fb ((r,b),Hb)):Vc w B (d+1) 26 f:=by
 obtain⟨m,Q⟩:=Ff C.seen C.keeps 18 (158,(wd na),.none,.none,157,Ra) rfl;exact uh C.head (C.all T e x h5) (Q.Lf Xr.2.2 C.lim) Xr.2.1 (Pf Xr.1) (oJ Q) (by decide+kernel) (by rfl) AW (by decide+kernel) y
theorem i9(C:At w B h)(T:3<=d)(e:d<=300)(x:∀k f,l.lookup k=Fb f->Vc w B d k f)(h5:l.lookup 4=Gb)(y:∀a H r b,f a H=Fb ((r,b),Hb)->a.length=3/\Hd P0 (only l) 60 HD 3 a H=Fb ((r,b),Hb)):Vc w B (d+1) 20 f:=by
 obtain⟨m,Q⟩:=Ff C.seen C.keeps 19 (172,(wd qa),.none,.none,171,Kb "Headers.__setitem__") rfl;exact uh C.head (C.all T e x h5) (Q.Lf Ur.2.2 C.lim) Ur.2.1 (Pf Ur.1) (JI Q) (by decide+kernel) (by rfl) lW (by decide+kernel) y
theorem v9(C:At w B h)(T:3<=d)(e:d<=300)(x:∀k f,l.lookup k=Fb f->Vc w B d k f)(h5:l.lookup 4=Gb)(y:∀a H r b,f a H=Fb ((r,b),Hb)->a.length=2/\Hd P0 (only l) 60 RD 2 a H=Fb ((r,b),Hb)):Vc w B (d+1) 21 f:=by
 obtain⟨m,Q⟩:=Ff C.seen C.keeps 20 (177,(wd ra),.none,.none,176,Kb "Headers.__delitem__") rfl;exact uh C.head (C.all T e x h5) (Q.Lf Pr.2.2 C.lim) Pr.2.1 (Pf Pr.1) (jJ Q) (by decide+kernel) (by rfl) VW (by decide+kernel) y
theorem C'(C:At w B h)(T:3<=d)(e:d<=300)(x:∀k f,l.lookup k=Fb f->Vc w B d k f)(h5:l.lookup 4=Gb)(y:∀a H r b,f a H=Fb ((r,b),Hb)->a.length=3/\Hd P0 (only l) 60 Zu 5 a H=Fb ((r,b),Hb)):Vc w B (d+1) 23 f:=by
 obtain⟨m,Q⟩:=Ff C.seen C.keeps 21 (206,(wd sa),.ref 199,.none,205,Kb "Headers.get") rfl;exact uh C.head (C.all T e x h5) (Q.Lf VC.2.2 C.lim) VC.2.1 (Pf VC.1) (jV Q ((sm C.seen C.keeps).1 (199,[.none]) (by simp))) (by decide+kernel) (by rfl) qV (by decide+kernel) y
theorem u9(C:At w B h)(T:3<=d)(e:d<=300)(x:∀k f,l.lookup k=Fb f->Vc w B d k f)(h5:l.lookup 4=Gb)(y:∀a H r b,f a H=Fb ((r,b),Hb)->a.length=1/\Hd P0 (only l) 60 WD 1 a H=Fb ((r,b),Hb)):Vc w B (d+1) 25 f:=by
 obtain⟨m,Q⟩:=Ff C.seen C.keeps 22 (211,(wd ta),.none,.none,210,Kb "Headers.keys") rfl;exact uh C.head (C.all T e x h5) (Q.Lf pC.2.2 C.lim) pC.2.1 (Pf pC.1) (HV Q) (by decide+kernel) (by rfl) uX (by decide+kernel) y
theorem u_(C:At w B h)(T:3<=d)(e:d<=300)(x:∀k f,l.lookup k=Fb f->Vc w B d k f)(h5:l.lookup 4=Gb)(y:∀a H r b,f a H=Fb ((r,b),Hb)->a.length=1/\Hd P0 (only l) 60 My 1 a H=Fb ((r,b),Hb)):Vc w B (d+1) 24 f:=by
 obtain⟨m,Q⟩:=Ff C.seen C.keeps 23 (223,(wd ua),.none,.none,222,Kb "Headers.items") rfl;exact uh C.head (C.all T e x h5) (Q.Lf mC.2.2 C.lim) mC.2.1 (Pf mC.1) (BX Q) (by decide+kernel) (by rfl) gW (by decide+kernel) y
theorem Z_(C:At w B h)(T:3<=d)(g:d<=300)(U:∀a H r b,f a H=Fb ((r,b),Hb)->a=[]/\H=[]/\r=.rc 0/\b=[(Ib,.Lb [])]):Vc w B (d+1) 22 f:=by
 obtain⟨m,Q⟩:=Ff C.seen C.keeps 17 (151,wd va,.ref 144,.none,150,Kb "Headers.__init__") rfl;have I:=C.all (l:=[]) T g (λk f e=>by injection e) rfl;exact Z3 C.head.hK C.head.hX C.head.kc (ol C.head I 60) (It C.head I 60) (Q.Lf OC.2.2 C.lim) OC.2.1 (HW Q ((sm C.seen C.keeps).1 (144,[.none]) (by simp))) (Pf OC.1) U
end
section
set_option backward.match.sparseCases false
theorem iT{β:Type}{p:Prop}[Decidable p]{r:β}{x:Option β}{R:Prop}(e:(if p then x else Gb)=Fb r)(k:p->x=Fb r->R):R:=by
 by_cases h:p;exact k h (by rw[if_pos h] at e;exact e);rw[if_neg h] at e;exact nn e
theorem ke{α:Type}{m:Rm α}{a:α}(h:m=Fb (a,q))(H:q=Hb):m=Fb (a,Hb):=by refine h.trans ?_;rw[H]
section
variable{β:Type}{R:Prop}
noncomputable def Oq(A:List PV)(f:Nat->List PV->Option β):Option β:=match A with
 |[]=>Gb|a::l=>match a with
  |.rc i=>f i l|_=>Gb
noncomputable def Wj(A:List PV)(f:ca->List PV->Option β):Option β:=match A with
 |[]=>Gb|a::l=>match a with
  |.str i=>f i l|_=>Gb
noncomputable def mO(A:List PV)(f:Bool->List PV->Option β):Option β:=match A with
 |[]=>Gb|a::l=>match a with
  |.bool i=>f i l|_=>Gb
noncomputable def Zn(A:List PV)(f:Nat->List PV->Option β):Option β:=match A with
 |[]=>Gb|a::l=>match a with
  |.id i=>f i l|_=>Gb
noncomputable def pt(A:List PV)(f:Int->List PV->Option β):Option β:=match A with
 |[]=>Gb|a::l=>match a with
  |.int i=>f i l|_=>Gb
noncomputable def df{α:Type}(a:List α)(x:Option β):Option β:=match a with
 |[]=>x|_::_=>Gb
noncomputable def aZ(i:Nat)(x:Option β):Option β:=match i with
 |0=>x|_+1=>Gb
theorem Nr{f:Nat->List PV->Option β}(e:Oq A f=Fb r)(k:∀i l,A=.rc i::l->f i l=Fb r->R):R:=by
 rcases A with J|⟨a,A⟩;exact nn e
 induction a using PV.casesOn with|rc i=>exact k i A rfl e|_=>exact nn e
theorem pk{f:ca->List PV->Option β}(e:Wj A f=Fb r)(k:∀i l,A=.str i::l->f i l=Fb r->R):R:=by
 rcases A with J|⟨a,A⟩;exact nn e
 induction a using PV.casesOn with|str i=>exact k i A rfl e|_=>exact nn e
theorem UW{f:Bool->List PV->Option β}(e:mO A f=Fb r)(k:∀i l,A=.bool i::l->f i l=Fb r->R):R:=by
 rcases A with J|⟨a,A⟩;exact nn e
 induction a using PV.casesOn with|bool i=>exact k i A rfl e|_=>exact nn e
theorem yo{f:Nat->List PV->Option β}(e:Zn A f=Fb r)(k:∀i l,A=.id i::l->f i l=Fb r->R):R:=by
 rcases A with J|⟨a,A⟩;exact nn e
 induction a using PV.casesOn with|id i=>exact k i A rfl e|_=>exact nn e
theorem jy{f:Int->List PV->Option β}(e:pt A f=Fb r)(k:∀i l,A=.int i::l->f i l=Fb r->R):R:=by
 rcases A with J|⟨a,A⟩;exact nn e
 induction a using PV.casesOn with|int i=>exact k i A rfl e|_=>exact nn e
theorem sf{α:Type}{A:List α}{x:Option β}(e:df A x=Fb r)(k:A=[]->x=Fb r->R):R:=by
 rcases A with J|⟨a,A⟩;exact k rfl e;exact nn e
theorem Yu{x:Option β}(e:aZ i x=Fb r)(k:i=0->x=Fb r->R):R:=by
 rcases i with J|i;exact k rfl e;exact nn e
end
noncomputable def zc(l:aa):List PV:=l.map λp=>.Sb [.str p.1,.str p.2]
noncomputable def oO(b:Bool):Nat->Bool:=if b then Vs else Hn
noncomputable def sj(b:Bool)(x:ca):Bool:=x.all (oO b)&&decide (x.length<=100000)
noncomputable def low(x:ca):ca:=x.map lo1
noncomputable def cj(x:ca):Bool:=x.all (λc=>decide (c<128))&&decide (x.length<=ic)
noncomputable def Bm:Spec:=λa C=>Oq a λJ l=>Wj l λx l=>mO l λb l=>df l (if sj b x=Hb then Fb ((.str x,C),Hb) else Gb)
theorem K6(F:Dc)(h:(x.all Vs&&decide (x.length<=100000))=Hb):Hd P0 F 60 rv 11 [.rc i,.str x,.bool Hb] C=Fb ((.str x,C),Hb):=
 ke rfl (by rw[h];rfl)
theorem l6(F:Dc)(h:(x.all Hn&&decide (x.length<=100000))=Hb):Hd P0 F 60 rv 11 [.rc i,.str x,.bool Ib] C=Fb ((.str x,C),Hb):=
 ke rfl (by rw[h];rfl)
theorem v7(F:Dc)(e:Bm a C=Fb ((r,d),Hb)):a.length=3/\Hd P0 F 60 rv 11 a C=Fb ((r,d),Hb):=by
 refine Nr e λi l h e=>pk e λx l A e=>UW e λb l j e=>sf e λQ e=>iT e λH e=>?_;rw[h,A,j,Q,<-jc e];rcases b with J|J;exact⟨rfl,l6 F H⟩;exact⟨rfl,K6 F H⟩
theorem Rm.bd{α β:Type}{m:Rm α}{f:α->Rm β}{a:α}(h:m=Fb (a,Hb)):Rm.bind m f=f a:=by
 subst h;show(match f a with|none=>Gb|some (c,B)=>Fb (c,Hb&&B))=f a
 cases f a with
 |none=>rfl|some x=>obtain⟨c,b⟩:=x;induction b using Ld<;>rfl
theorem EH{e Nb:M}{cond:Option M}:compLoop I e Nb cond (n+1) j l h a=match Cd j h with
 |none=>Gb|some Gb=>Rm.ret (a,h)|some (Fb (v,j))=>match He 6 Nb v l with
  |none=>Gb|some l=>Rm.bind (match cond with|some c=>ud I l c h|none=>Rm.ret (Hb,h)) λb=>match b.1 with
   |true=>Rm.bind (I e Ib l b.2) λx=>Rm.bind (Rm.need (decide (a.len+1<=ic))) λJ=>compLoop I e Nb cond n j l x.2 (a.push x.1)|false=>compLoop I e Nb cond n j l b.2 a:=rfl
def um(I:Nat->Ic)(T:List PV)(h:Hp):Prop:=∀k,Cd (I k) h=match T[k]? with
 |some v=>Fb (Fb (v,I (k+1)))|none=>Fb Gb
theorem Il(l:List PV)(H:Hp):um (λk=>.Lb (l.drop k)) l H:=by
 intro k;unfold Cd
 cases h:l[k]? with
 |none=>
  have:l.drop k=[]:=List.drop_eq_nil_iff.mpr (List.getElem?_eq_none_iff.mp h);simp only [this]
 |some v=>
  obtain⟨A,j⟩:=List.getElem?_eq_some_iff.mp h;have:l.drop k=v::l.drop (k+1):=by refine(dn A).trans ?_;rw[j]
  simp only [this]
theorem zI{c:Cell}(h:k<c.len):c.toList[k]?=Fb (c.getD k):=Cell.getD_eq h
theorem Bj(h:a[j]?=Fb (b,c)):um (λk=>.Xb j k) c.toList a:=by
 intro k;unfold Cd;simp only [h]
 by_cases H:k<c.len
 ·rw[decide_eq_true H,zI H]
 ·rw[decide_eq_false H,qo (by rw[<-Cell.len_eq];exact oi ‹_›)]
theorem cK(H:um f T h)(j:um g Y h):um (λk=>.zip (f k) (g k)) ((T.zip Y).map λp=>.Sb [p.1,p.2]) h:=by
 intro k;unfold Cd;rw[H k,j k,bg,List.zip,List.getElem?_zipWith]
 cases T[k]? with
 |none=>rfl|some x=>cases Y[k]? with
  |none=>rfl|some y=>rfl
theorem DW(s:Int)(h:um f T H):um (λk=>.enum (s+k) (f k)) (T.mapIdx λi x=>.Sb [.int (s+i),x]) H:=by
 intro k;unfold Cd;rw[h k,List.getElem?_mapIdx]
 cases T[k]? with
 |none=>rfl|some x=>
  show Fb (Fb (PV.Sb [.int (s+k),x],Ic.enum (s+k+1) (f (k+1))))=Fb (Fb (PV.Sb [.int (s+k),x],Ic.enum (s+(k+1:Nat)) (f (k+1))));have:s+(k:Int)+1=s+((k+1:Nat):Int):=by push_cast;lia
  rw[this]
theorem Rp{Sd Nb:M}{cond:Option M}(z:um it T hp)(I:Loc->Prop)(keep:Nat->Bool)(out:Nat->PV)
  (O:∀k v L,T[k]?=Fb v->I L->∃l,He 6 Nb v L=Fb l/\I l/\(match cond with|some c=>ud rE l c hp|none=>Rm.ret (Hb,hp))=Fb ((keep k,hp),Hb)/\(keep k=Hb->rE Sd Ib l hp=Fb ((out k,hp),Hb))):
  ∀(m k n:Nat)(L:Loc)(A:Cell),T.length-k=m->I L->m<n->k<=T.length->A.len+m<=ic->
   compLoop rE Sd Nb cond n (it k) L hp A=Fb ((((Gp k m).filter keep).foldl (λa i=>a.push (out i)) A,hp),Hb):=by
 intro m k n L A h G H C y;replace h:k+m=T.length:=h▸ao C;clear C
 induction m generalizing k n L A with
 |zero=>
  rcases n with K|n
  ·exact absurd H (Ut _)
  refine EH.trans ?_;rw[z k,qo (yl (show T.length=k from h.symm))];rfl
 |succ m d=>
  rcases n with K|n
  ·exact absurd H (io _)
  have N:=h▸fH (uA m);have Y:=(dH k m).trans h;refine xl (O k _ L (De N) G) λl B=>Yj B λD j Q b=>?_;clear B;have r:∀f:Bool×Hp->Rm (Cell×Hp),Rm.bind (match cond with|some c=>ud rE l c hp|none=>Rm.ret (Hb,hp)) f=f (keep k,hp):=λf=>by rw[Q];exact Rm.bd rfl
  have step:compLoop rE Sd Nb cond (n+1) (it k) L hp A=(match keep k with
    |true=>Rm.bind (rE Sd Ib l hp) λx=>Rm.bind (Rm.need (decide (A.len+1<=ic))) λK=>compLoop rE Sd Nb cond n (it (k+1)) l x.2 (A.push x.1)|false=>compLoop rE Sd Nb cond n (it (k+1)) l hp A):=by
   refine EH.trans ?_;rw[z k,De N];simp only [D]
   induction cond using Wd with
   |none=>exact r _|some c=>exact r _
  refine step.trans ?_;rw[iH,BG]
  cases U:keep k with
  |false=>
   rw[if_neg Of];exact d (k+1) n l A j (Yt H) (dc (bk (km m) A.len) y) Y
  |true=>
   have J:(A.push (out k)).len=A.len+1:=by rw[Cell.len_eq,Nx,Pd,<-Cell.len_eq];rfl
   rw[if_pos rfl,zA];have V:=decide_eq_true (dc (bk (rr 1 m) A.len) y);refine(Rm.bd (b U)).trans ?_;rw[V,Rm.bd (show Rm.need Hb=Fb ((),Hb) from rfl)];exact d (k+1) n l (A.push (out k)) j (Yt H) (by rw[J,wG];exact y) Y
inductive jP(body:Loc->Hp->Rm (Fl×Loc×Hp))(Nb:M)(v:PV)(loc:Loc)(hp:Hp)(St:Loc->Hp->Prop)(Pt:Fl->Loc->Hp->Prop):Prop
 |next{l0 l:Loc}{h:Hp}(b:He 6 Nb v loc=Fb l0)(e:body l0 hp=Fb ((.next,l,h),Hb))(s:St l h)
 |brk{l0 l:Loc}{h:Hp}(b:He 6 Nb v loc=Fb l0)(e:body l0 hp=Fb ((.brk,l,h),Hb))(s:Pt .next l h)
 |ret{r:PV}{l0 l:Loc}{h:Hp}(b:He 6 Nb v loc=Fb l0)(e:body l0 hp=Fb ((.ret r,l,h),Hb))(s:Pt (.ret r) l h)
theorem oB{Nb:M}(y:Cd I H=Fb (Fb (v,G)))(b:He 6 Nb v L=Fb l0)(e:body l0 H=Fb ((f,l,h),Hb))(C:(match(generalizing:=false) f with
    |.next=>forLoop body Nb n G l h|.brk=>Rm.ret (Fl.next,l,h)|.ret v=>Rm.ret (Fl.ret v,l,h))=r):forLoop body Nb (n+1) I L H=r:=by
 show(match Cd I H with
  |none=>Gb|some Gb=>Rm.ret (Fl.next,L,H)|some (Fb (v,I))=>match He 6 Nb v L with
   |none=>Gb|some L=>Rm.bind (body L H) λ(x:Fl×Loc×Hp)=>match x.1 with
    |.next=>forLoop body Nb n I x.2.1 x.2.2|.brk=>Rm.ret (Fl.next,x.2.1,x.2.2)|.ret v=>Rm.ret (Fl.ret v,x.2.1,x.2.2))=_
 rw[y];show(match He 6 Nb v L with
   |none=>Gb|some L=>Rm.bind (body L H) λ(x:Fl×Loc×Hp)=>match x.1 with
    |.next=>forLoop body Nb n G x.2.1 x.2.2|.brk=>Rm.ret (Fl.next,x.2.1,x.2.2)|.ret v=>Rm.ret (Fl.ret v,x.2.1,x.2.2))=_
 rw[b];exact(Rm.bd e).trans C
theorem kS{Nb:M}(H:Cd I h=Fb Gb):forLoop body Nb (n+1) I l h=Fb ((.next,l,h),Hb):=by
 show(match Cd I h with
  |none=>Gb|some Gb=>Rm.ret (Fl.next,l,h)|some (Fb (v,I))=>match He 6 Nb v l with
   |none=>Gb|some l=>Rm.bind (body l h) λ(x:Fl×Loc×Hp)=>match x.1 with
    |.next=>forLoop body Nb n I x.2.1 x.2.2|.brk=>Rm.ret (Fl.next,x.2.1,x.2.2)|.ret v=>Rm.ret (Fl.ret v,x.2.1,x.2.2))=_
 rw[H];rfl
inductive Rf(r:Rm (Fl×Loc×Hp))(Pt:Fl->Loc->Hp->Prop):Prop
 |mk{fl:Fl}{l:Loc}{h:Hp}(e:r=Fb ((fl,l,h),Hb))(s:Pt fl l h)
theorem Qm{Nb:M}{it:Nat->Ic}{items:List PV}(St:Nat->Loc->Hp->Prop)(p:Fl->Loc->Hp->Prop)(x:∀k l H,St k l H->Cd (it k) H=match items[k]? with
   |some v=>Fb (Fb (v,it (k+1)))|none=>Fb Gb)
  (O:∀k v l H,items[k]?=Fb v->St k l H->jP body Nb v l H (St (k+1)) p)(V:∀l H,St items.length l H->p .next l H):
  ∀(m k n:Nat)(l:Loc)(H:Hp),k+m=items.length->m<n->St k l H->Rf (forLoop body Nb n (it k) l H) p:=by
 intro m
 induction m with
 |zero=>
  intro k n l H T j A;rcases n with J|n
  ·exact absurd j (Ut _)
  obtain rfl:k=items.length:=T;have h:=x _ _ _ A;rw[qo (Ed _)] at h;exact⟨kS h,V l H A⟩
 |succ m I=>
  intro k n l H T j A;rcases n with J|n
  ·exact absurd j (io _)
  have L:k<items.length:=by rw[<-T];exact fH (uA m)
  have h:=x _ _ _ A;rw[De L] at h;have t:=O k _ l H (De L) A
  induction t using jP.casesOn with
  |next b e s=>
   have w:=I (k+1) n _ _ (by rw[<-T,bm,Rk 1]) (Yt j) s
   induction w using Rf.casesOn with
   |mk E y=>exact⟨oB h b e E,y⟩
  |brk b e s=>exact⟨oB h b e rfl,s⟩|ret b e s=>exact⟨oB h b e rfl,s⟩
section
theorem sD{mt:Bool}(h:cj x=Hb):Te P F .lower (.str x) [] mt H=Fb ((.str (low x),H),Hb):=by
 show Fb ((PV.str (x.map lo1),H),cj x)=_;rw[h];rfl
theorem g5{mt:Bool}(h:cj x=Hb):Te P F .upper (.str x) [] mt H=Fb ((.str (x.map up1),H),Hb):=by
 show Fb ((PV.str (x.map up1),H),cj x)=_;rw[h]
theorem eq_str(x y:ca):Wg h 40 (.str x) (.str y)=Fb (decide (x=y)):=rfl
theorem Bc(h:I s l H=Fb ((.next,cf,Ac),Hb)):Kc I (s::r) l H=Kc I r cf Ac:=by
 show Rm.bind (I s l H) _=_;exact(Rm.bd h)
theorem qk(h:I s l H=Fb ((.ret v,L,T),Hb)):Kc I (s::r) l H=Fb ((.ret v,L,T),Hb):=by
 show Rm.bind (I s l H) _=_;refine(Rm.bd h).trans ?_;rfl
theorem Uh(h:Kc (uc P F n) b (vs.map Fb++Sk (sl-vs.length) Gb) hp=Fb ((fl,l,Ac),Hb))(H:fl=.ret r\/fl=.next/\r=.none):
  Hd P F n b sl vs hp=Fb ((r,Ac),Hb):=by
 unfold Hd;refine(Rm.bd h).trans ?_;rcases H with rfl|⟨rfl,rfl⟩<;>rfl
theorem Mx{mt:Bool}(h:k≠26):Te P F (.fn k) (.rc i) V mt H=de F k (.rc i::V) mt H:=by
 show(match decide (k=26) with|true=>Gb|false=>de F k (.rc i::V) mt H)=_;rw[decide_eq_false h]
end
section
theorem js(h:Yb P F (n+1) e Hb l H=Fb ((v,T),Hb)):uc P F (n+1) (.ret e) l H=Fb ((.ret v,l,T),Hb):=by
 show Rm.bind (Yb P F (n+1) e Hb l H) (λx=>Rm.ret (Fl.ret x.1,l,x.2))=_;refine(Rm.bd h).trans ?_;rfl
theorem Gf(h:Yb P F (n+1) e Hb l H=Fb ((v,Od),Hb))(j:vi F (Yb P F (n+1)) 12 t v l Od=Fb ((L,T),Hb)):uc P F (n+1) (.asg t e) l H=Fb ((.next,L,T),Hb):=by
 show Rm.bind (Yb P F (n+1) e Hb l H) (λx=>Rm.bind (vi F (Yb P F (n+1)) 12 t x.1 l x.2) λy=>Rm.ret (Fl.next,y.1,y.2))=_;refine(Rm.bd h).trans ?_;refine(Rm.bd j).trans ?_;rfl
theorem Aj(h:Yb P F (n+1) e Ib l H=Fb ((.none,T),Hb)):uc P F (n+1) (.expr e) l H=Fb ((.next,l,T),Hb):=by
 show Rm.bind (Yb P F (n+1) e Ib l H) (λx=>match x.1 with
  |.none=>Rm.ret (Fl.next,l,x.2)|_=>Gb)=_
 refine(Rm.bd h).trans ?_;rfl
theorem Me(h:ud (Yb P F (n+1)) l t H=Fb ((b,Od),Hb))(j:(if b=Hb then Kc (uc P F n) x l Od else Kc (uc P F n) y l Od)=r):uc P F (n+1) (.ifs t x y) l H=r:=by
 show Rm.bind (ud (Yb P F (n+1)) l t H) (λv=>match v.1 with
  |true=>Kc (uc P F n) x l v.2|false=>Kc (uc P F n) y l v.2)=_
 refine(Rm.bd h).trans ?_
 induction b using Ld<;>exact j
theorem nk{mt:Bool}{e Nb L:M}{cond:Option M}(H:Jf F (Yb P F n) l Nb L h=Fb ((ef,Od),Hb))(x:zi ef Od=m)
  (hw:compLoop (Yb P F n) e Nb cond (m+1) ef (I.map λi=>i.bind λi=>(l[i]?).join) Od (.Lb [])=Fb ((acc,Wl),Hb))(T:td mt acc Wl=(v,U)):
  Yb P F (n+1) (.comp e Nb L cond I) mt l h=Fb ((v,U),Hb):=by
 show Rm.bind (Jf F (Yb P F n) l Nb L h) (λs=>Rm.bind (compLoop (Yb P F n) e Nb cond (zi s.1 s.2+1) s.1 (I.map λi=>i.bind λi=>(l[i]?).join) s.2 (.Lb [])) λr=>Rm.ret (td mt r.1 r.2))=_;refine(Rm.bd H).trans ?_;simp only [x];refine(Rm.bd hw).trans ?_;rw[T];rfl
end
theorem Kl(H:Jf F (Yb P F (n+1)) l t L h=Fb ((ef,Od),Hb))(x:zi ef Od=m)
  (hw:forLoop (λl h=>Kc (uc P F n) b l h) t (m+1) ef l Od=Fb ((f,j,T),Hb)):uc P F (n+1) (.Uf t L b) l h=Fb ((f,j,T),Hb):=by
 show Rm.bind (Jf F (Yb P F (n+1)) l t L h) (λs=>forLoop (λl h=>Kc (uc P F n) b l h) t (zi s.1 s.2+1) s.1 l s.2)=_;refine(Rm.bd H).trans ?_;simp only [x];exact hw
theorem dg{mt:Bool}(H:Yb P F n a Ib l h=Fb ((x,N),Hb))(j:Yb P F n b Ib l N=Fb ((y,Wl),Hb))(Q:Ss op x y mt Wl=Fb ((z,k),Hb)):
  Yb P F (n+1) (.cc op a b) mt l h=Fb ((z,k),Hb):=by
 show Rm.bind (Yb P F n a Ib l h) (λx=>Rm.bind (Yb P F n b Ib l x.2) λy=>Ss op x.1 y.1 mt y.2)=_;refine(Rm.bd H).trans ?_;exact(Rm.bd j).trans Q
section
theorem jq{mt:Bool}(h:ud (Yb P F n) l t H=Fb ((c,N),Hb))(j:(if c=Hb then Yb P F n a mt l N else Yb P F n b mt l N)=r):Yb P F (n+1) (.ite t a b) mt l H=r:=by
 show Rm.bind (ud (Yb P F n) l t H) (λv=>match v.1 with
  |true=>Yb P F n a mt l v.2|false=>Yb P F n b mt l v.2)=_
 refine(Rm.bd h).trans ?_
 induction c using Ld<;>exact j
theorem Qd{mt:Bool}(h:l[i]?=Fb (Fb v)):Yb P F (n+1) (.Jb i) mt l H=Fb ((v,H),Hb):=by
 show(match l[i]? with|some (Fb v)=>Rm.ret (v,H)|_=>Gb)=_;rw[h];rfl
theorem Fe(h:I m Ib l H=Fb ((x,N),Hb))(D:lq x=Fb c):ud I l (.fc m) H=Fb ((c,N),Hb):=by
 show Rm.bind (I m Ib l H) (λv=>match lq v.1 with|some b=>Rm.ret (b,v.2)|none=>Gb)=_;refine(Rm.bd h).trans ?_;show(match lq x with|some b=>Rm.ret (b,N)|none=>Gb)=_;rw[D];rfl
theorem vk{mt:Bool}(H:Yb P F n a Ib l h=Fb ((x,N),Hb))(j:Yb P F n b Ib l N=Fb ((y,z),Hb))(Q:pj x y z=r):Yb P F (n+1) (.sub a b) mt l h=r:=by
 show Rm.bind (Yb P F n a Ib l h) (λx=>Rm.bind (Yb P F n b Ib l x.2) λy=>pj x.1 y.1 y.2)=_;refine(Rm.bd H).trans ?_;exact(Rm.bd j).trans Q
theorem af{mt:Bool}(A:Yb P F n a Ib l H=Fb ((x,N),Hb))(j:Yb P F n b Ib l N=Fb ((y,h),Hb))(Q:Pj op x y h=Fb z):Yb P F (n+1) (.mc op a b) mt l H=Fb ((z,h),Hb):=by
 show Rm.bind (Yb P F n a Ib l H) (λx=>Rm.bind (Yb P F n b Ib l x.2) λy=>match Pj op x.1 y.1 y.2 with
  |some r=>Rm.ret (r,y.2)|none=>Gb)=_
 refine(Rm.bd A).trans ?_;refine(Rm.bd j).trans ?_;show(match Pj op x y h with|some r=>Rm.ret (r,h)|none=>Gb)=_;rw[Q];rfl
theorem me{mt:Bool}(H:Yb P F n o Ib l h=Fb ((x,Od),Hb))(j:Vd (Yb P F n) (m==.append) l a Od=Fb ((vs,Wl),Hb))(Q:Te P F m x vs mt Wl=r):Yb P F (n+1) (.qc m o a) mt l h=r:=by
 show Rm.bind (Yb P F n o Ib l h) (λx=>Rm.bind (Vd (Yb P F n) (m==.append) l a x.2) λvs=>Te P F m x.1 vs.1 mt vs.2)=_;refine(Rm.bd H).trans ?_;exact(Rm.bd j).trans Q
theorem Ni{mt:Bool}(H:Vd (Yb P F n) Hb l a h=Fb ((vs,Od),Hb))(j:de F k vs mt Od=r):Yb P F (n+1) (.fn k a) mt l h=r:=by
 show Rm.bind (Vd (Yb P F n) Hb l a h) (λvs=>de F k vs.1 mt vs.2)=_;exact(Rm.bd H).trans j
theorem zd{mt:Bool}(h:I m mt l H=Fb ((x,N),Hb)):Vd I mt l [m] H=Fb (([x],N),Hb):=by
 show Rm.bind (I m mt l H) _=_;refine(Rm.bd h).trans ?_;rfl
theorem Le{mt:Bool}(h:I m mt l H=Fb ((x,Od),Hb))(j:Vd I mt l N Od=Fb ((V,y),Hb)):Vd I mt l (m::N) H=Fb ((x::V,y),Hb):=by
 show Rm.bind (I m mt l H) _=_;refine(Rm.bd h).trans ?_;show Rm.bind (Vd I mt l N Od) _=_;refine(Rm.bd j).trans ?_;rfl
theorem cl{mt:Bool}(e:Yb P F n o Ib L h=Fb ((O,H),Hb))(E:Yb P F n l Ib L H=Fb ((A,B),Hb))(p:Yb P F n u Ib L B=Fb ((w,j),Hb))(q:Yb P F n s Ib L j=Fb ((T,Q),Hb))(d:kl O A w T mt Q=r):
  Yb P F (n+1) (.Oc o l u s) mt L h=r:=by
 show Rm.bind (Yb P F n o Ib L h) (λx=>Rm.bind (Yb P F n l Ib L x.2) λa=>Rm.bind (Yb P F n u Ib L a.2) λb=>Rm.bind (Yb P F n s Ib L b.2) λc=>kl x.1 a.1 b.1 c.1 mt c.2)=_;refine(Rm.bd e).trans ?_;refine(Rm.bd E).trans ?_;refine(Rm.bd p).trans ?_;exact(Rm.bd q).trans d
theorem ZV{nm:ca}(A:I o Ib l h=Fb ((.rc j,H),Hb))(m:I i Ib l H=Fb ((.str nm,y),Hb))(Q:de F 20 [.rc j,.str nm,v] Ib y=Fb ((.none,p),Hb)):
  vi F I (k+1) (.sub o i) v l h=Fb ((l,p),Hb):=by
 show Rm.bind (I o Ib l h) _=_;refine(Rm.bd A).trans ?_;show Rm.bind (I i Ib l H) _=_;refine(Rm.bd m).trans ?_;show Rm.bind (de F 20 [.rc j,.str nm,v] Ib y) _=_;refine(Rm.bd Q).trans ?_;rfl
end
theorem zo{mt:Bool}(h:Vd (Yb P F n) mt l e H=Fb ((V,N),Hb)):Yb P F (n+1) (.Sb e) mt l H=Fb ((.Sb V,N),Hb):=by
 show Rm.bind (Vd (Yb P F n) mt l e H) (λV=>Rm.ret (PV.Sb V.1,V.2))=_;refine(Rm.bd h).trans ?_;rfl
theorem Vh{mt:Bool}(H:p≠.list)(A:Vd (Yb P F n) Ib l a h=Fb ((vs,Od),Hb))(j:sg p vs mt Od=r):Yb P F (n+1) (.oc p a) mt l h=r:=by
 have e:Yb P F (n+1) (.oc p a) mt l h=Rm.bind (Vd (Yb P F n) Ib l a h) λvs=>sg p vs.1 mt vs.2:=by
  induction p using Rj.casesOn<;>first|exact absurd rfl H|rfl
 refine e.trans ?_;exact(Rm.bd A).trans j
theorem xB{mt:Bool}(e:Yb P F n o Ib l h=Fb ((.rc i,H),Hb))(E:Vd (Yb P F n) Ib l a H=Fb ((V,j),Hb))(p:Yb P F n v Ib l j=Fb ((y,Q),Hb))
  (q:de F k (.rc i::V++[y]) mt Q=r):Yb P F (n+1) (.Zh (.fn k) o a u v) mt l h=r:=by
 show Rm.bind (Yb P F n o Ib l h) _=_;refine(Rm.bd e).trans ?_;show Rm.bind (Vd (Yb P F n) Ib l a H) _=_;refine(Rm.bd E).trans ?_;show Rm.bind (Yb P F n v Ib l j) _=_;refine(Rm.bd p).trans ?_;exact q
theorem L3{nm:ca}(e:Yb P F (n+1) o Ib l h=Fb ((.rc j,H),Hb))(E:Yb P F (n+1) i Ib l H=Fb ((.str nm,k),Hb))(p:de F 21 [.rc j,.str nm] Ib k=Fb ((.none,Q),Hb)):
  uc P F (n+1) (.del o i) l h=Fb ((.next,l,Q),Hb):=by
 show Rm.bind (Yb P F (n+1) o Ib l h) _=_;refine(Rm.bd e).trans ?_;show Rm.bind (Yb P F (n+1) i Ib l H) _=_;refine(Rm.bd E).trans ?_;show Rm.bind (de F 21 [.rc j,.str nm] Ib k) _=_;refine(Rm.bd p).trans ?_;rfl
theorem Pg{mt:Bool}(h:ug vs 0=Fb (a,I))(H:Gj I=Hb)(Q:kj hp I=Fb C)(b:(C.all λc=>Be c.2)=Hb)(h5:F.fn k a C=Fb (r,Hb))
  (T:((r.2.take I.length).all λc=>Be c.2)=Hb)(B:jk r.1 I r.2 mt (Ej I r.2 hp)=Fb (x,Hb)):de F k vs mt hp=Fb (x,Hb):=by
 unfold de;rw[h];show(match Gj I with|false=>Gb|true=>_)=_;rw[H];show(match kj hp I with|none=>Gb|some C=>_)=_;rw[Q];show(match C.all λc=>Be c.2 with|true=>_|false=>Gb)=_;rw[b];refine(Rm.bd h5).trans ?_;show(match(r.2.take I.length).all λc=>Be c.2 with|true=>_|false=>Gb)=_;rw[T];exact B
noncomputable def Et:List PV->Option aa
 |[]=>Fb []|v::r=>match v with
  |.Sb l=>Wj l λa l=>Wj l λb l=>df l ((Et r).bind λl=>Fb ((a,b)::l))|_=>Gb
theorem N2:∀{v:List PV}{l:aa},Et v=Fb l->v=zc l:=by
 intro v
 induction v with
 |nil=>intro l e;refine lg e ?_;rfl|cons x r I=>
  intro l e
  induction x using PV.casesOn with
  |Sb x=>_|_=>exact nn e
  refine pk e λa y h e=>pk e λb z H e=>sf e λQ e=>?_;obtain⟨t,d,h5⟩:=Option.bind_eq_some_iff.mp e;rw[h,H,Q,I d,<-jc h5];rfl
theorem aM:∀l,Et (zc l)=Fb l
 |[]=>rfl|(a,b)::r=>by
  show(Et (zc r)).bind _=_;rw[aM r];rfl
noncomputable def tabOf{β:Type}(C:Hp)(f:aa->Option β):Option β:=match C with
 |[]=>Gb|c::l=>df l (match c with
  |(Ib,.Lb v)=>(Et v).bind f|_=>Gb)
theorem wu{β:Type}{f:aa->Option β}{r:β}{R:Prop}(e:tabOf C f=Fb r)(k:∀l,C=[(Ib,.Lb (zc l))]->f l=Fb r->R):R:=by
 rcases C with J|⟨⟨b,c⟩,l⟩;exact nn e;refine sf e λh e=>?_;rcases b with J|J
 ·rcases c with J|J|v
  ·exact nn e
  ·exact nn e
  ·obtain⟨t,H,h5⟩:=Option.bind_eq_some_iff.mp e
   exact k t (by rw[h,N2 H]) h5
 ·exact nn e
theorem Gr{β:Type}{f:aa->Option β}:tabOf [(Ib,.Lb (zc l))] f=f l:=by
 show(Et (zc l)).bind f=_;rw[aM];rfl
theorem lC(l:aa):Be (.Lb (zc l))=Hb:=by
 show(zc l).all (Fg 8)=Hb;unfold zc;refine List.all_map.trans ?_;rw[ku];intro p J
 rfl
theorem Oj(l:aa):([(b,Cell.Lb (zc l))].all λc=>Be c.2)=Hb:=(ur _).trans (lC l)
theorem ED{k:Nat}(h:(zc l)[k]?=Fb v):∃a b,l[k]?=Fb (a,b)/\v=.Sb [.str a,.str b]:=by
 unfold zc at h;rw[bg] at h;obtain⟨⟨a,b⟩,H,j⟩:=Option.map_eq_some_iff.mp h;exact⟨a,b,H,j.symm⟩
theorem ym(l:aa):(zc l).length=l.length:=Uc _
noncomputable def Ql(l:aa):Bool:=l.all (λp=>cj p.1)&&decide (l.length<=1000)
theorem nJ(h:Ql l=Hb):l.length<=1000:=of_decide_eq_true (Zc _ _▸h).2
theorem bL(h:Ql l=Hb){k:Nat}(H:l[k]?=Fb x):cj x.1=Hb:=List.all_eq_true.mp (Zc _ _▸h).1 x (bh H)
noncomputable def Ig(nm:ca)(l:aa):aa:=l.filter λp=>!decide (low p.1=low nm)
noncomputable def Ey:Spec:=λa C=>Oq a λi l=>aZ i (Wj l λnm l=>df l (tabOf C λl=>if(cj nm&&sj Hb (low nm)&&Ql l)=Hb then Fb ((.none,[(Ib,.Lb (zc (Ig nm l))),(Ib,.Lb (zc (Ig nm l)))]),Hb) else Gb))
theorem NS{l:aa}{out:Nat->PV}(p:(ca×ca)->Bool)(C:∀i x,l[i]?=Fb x->keep i=p x/\out i=.Sb [.str x.1,.str x.2]):
  ∀(m k:Nat)(A:List PV),l.length-k=m->k<=l.length->(((Gp k m).filter keep).foldl (λa i=>a.push (out i)) (Cell.Lb A))=.Lb (A++zc ((l.drop k).filter p)):=by
 intro m
 induction m with
 |zero=>
  intro k A h o;rw[YA (by exact Nat.le_of_sub_eq_zero ‹_›)];simp[zc]
 |succ m I=>
  intro k A h o;have H:=by exact vM h
  obtain⟨B,j⟩:=C k _ (De H);rw[iH,BG,dn H,BG,B]
  cases b:p l[k] with
  |false=>
   simp only [JG,if_false];exact I (k+1) A (congrArg Nat.pred h) H
  |true=>
   simp only [if_true,zA];have:(Cell.Lb A).push (out k)=.Lb (A++[out k]):=by
    rw[j]
    induction A using xc<;>rfl
   rw[this,I (k+1) _ (congrArg Nat.pred h) H,j];simp[zc]
theorem kt{R:Prop}(h:(a&&b&&c)=Hb)(k:a=Hb->b=Hb->c=Hb->R):R:=by
 rcases a with J|J;cases h;rcases b with J|J;cases h;exact k rfl rfl h
theorem MD(H:F.fn 26=Bm){b mt:Bool}(h:sj b x=Hb):de F 26 [.rc 0,.str x,.bool b] mt [(Ib,.Lb (zc l))]=Fb ((.str x,[(Ib,.Lb (zc l))]),Hb):=
 Pg (r:=(.str x,[(Ib,.Lb (zc l))])) rfl rfl rfl (Oj l) (by rw[H];exact if_pos h) (Oj l) rfl
theorem mL(h:F.fn 26=Bm){nm:ca}(H:cj nm=Hb)(j:sj Hb (low nm)=Hb)(V:loc[0]?=Fb (Fb (.rc 0)))(L:loc[1]?=Fb (Fb (.str nm))):uc P0 F 60 (.asg (.Jb 1) (.Zh (.fn 26) (.Jb 0) [(.qc .lower (.Jb 1) [])] ma (.bool Hb))) loc [(Ib,.Lb (zc l))]=Fb ((.next,loc.set 1 (Fb (.str (low nm))),[(Ib,.Lb (zc l))]),Hb):=
 Gf (xB (Qd V) (zd (me (Qd L) rfl (sD H))) rfl (MD h j)) rfl
theorem n8(F:Dc)(B:F.fn 26=Bm)(e:Ey A C=Fb ((r,d),Hb)):A.length=2/\Hd P0 F 60 RD 2 A C=Fb ((r,d),Hb):=by
 refine Nr e λi y Q e=>Yu e λT e=>pk e λnm z Y e=>sf e λf e=>wu e λl s e=>iT e λg w=>?_;subst T f Y Q s;refine kt g λD j H=>?_;rw[<-jc w];refine⟨rfl,?_⟩;have h:l.length<=1000000:=dc (nJ H) (by decide);have hw:=Rp (rE:=Yb P0 F 59) (Sd:=.Jb 1) (Nb:=.Jb 1) (cond:=Fb (.fc (.mc .NotEq (.qc .lower (.sub (.Jb 1) (.int 0)) []) (.Jb 2)))) (hp:=[(Ib,.Lb (zc l))]) (it:=λk=>.Xb 0 k) (Bj rfl) (λL=>∃p q,L=[p,q,Fb (.str (low nm))])
  (λk=>match l[k]? with|some x=>!decide (low x.1=low nm)|none=>Ib) (λk=>match l[k]? with|some x=>.Sb [.str x.1,.str x.2]|none=>.none) (λk v L U G=>by
   obtain⟨p,q,rfl⟩:=G;obtain⟨a,b,h5,rfl⟩:=ED U;refine⟨[p,Fb (.Sb [.str a,.str b]),Fb (.str (low nm))],rfl,⟨_,_,rfl⟩,?_,λJ=>?_⟩
   ·rw[h5]
    exact Fe (af (me rfl rfl (sD (bL H h5))) rfl rfl) rfl
   ·rw[h5];rfl) l.length 0 (l.length+1) [Gb,Gb,Fb (.str (low nm))] (.Lb []) (ym l) ⟨_,_,rfl⟩ (Af _) (ah _) (by show 0+l.length<=1000000;rw[Ii];exact h)
 rw[NS (λp=>!decide (low p.1=low nm)) (λi x N=>by rw[N];exact⟨rfl,rfl⟩) l.length 0 [] rfl (ah _)] at hw;have E:Yb P0 F 60 (.comp (.Jb 1) (.Jb 1) (.attr (.Jb 0) oa) (Fb (.fc (.mc .NotEq (.qc .lower (.sub (.Jb 1) (.int 0)) []) (.Jb 2)))) [Gb,Gb,Fb 1]) Hb [Fb (.rc 0),Fb (.str (low nm))] [(Ib,.Lb (zc l))]=Fb ((.id 1,[(Ib,.Lb (zc l)),(Ib,.Lb (zc (Ig nm l)))]),Hb):=
  nk rfl (ym l) hw rfl
 have I:uc P0 F 60 (.asg (.Oc (.attr (.Jb 0) oa) .none .none .none) (.comp (.Jb 1) (.Jb 1) (.attr (.Jb 0) oa) (Fb (.fc (.mc .NotEq (.qc .lower (.sub (.Jb 1) (.int 0)) []) (.Jb 2)))) [Gb,Gb,Fb 1])) [Fb (.rc 0),Fb (.str (low nm))] [(Ib,.Lb (zc l))]=
   Fb ((.next,[Fb (.rc 0),Fb (.str (low nm))],[(Ib,.Lb (zc (Ig nm l))),(Ib,.Lb (zc (Ig nm l)))]),Hb):=
  Gf E (ke (q:=decide ((zc (Ig nm l)).length<=ic)&&decide ((zc l).length<=ic)&&Hb) rfl (by
   rw[ym,ym,decide_eq_true (show l.length<=ic from h),decide_eq_true (show(Ig nm l).length<=ic from dc (sx ..) h)];rfl))
 exact Uh ((Bc (mL B D j rfl rfl)).trans ((Bc I).trans rfl)) (.inr ⟨rfl,rfl⟩)
noncomputable def Gs:Spec:=λa C=>Oq a λi l=>aZ i (Wj l λnm l=>Wj l λval l=>df l (tabOf C λl=>if((cj nm&&sj Hb (low nm)&&Ql l)&&sj Hb nm&&sj Ib val)=Hb then Fb ((.none,[(Ib,.Lb (zc (Ig nm l++[(nm,val)])))]),Hb) else Gb))
theorem q8(F:Dc)(H:F.fn 26=Bm)(b:F.fn 21=Ey)(e:Gs a C=Fb ((r,d),Hb)):a.length=3/\Hd P0 F 60 HD 3 a C=Fb ((r,d),Hb):=by
 refine Nr e λi y Q e=>Yu e λT e=>pk e λnm z Y e=>pk e λval z f e=>sf e λp e=>wu e λl A e=>iT e λh w=>?_;subst T p f Y Q A;refine kt h λh g h5=>?_;rw[<-jc w];refine⟨rfl,?_⟩;have x:(Ig nm l).length<=1000:=kt h λJ J U=>dc (sx ..) (nJ U);have s:uc P0 F 60 (.del (.Jb 0) (.Jb 1)) [Fb (.rc 0),Fb (.str nm),Fb (.str val)] [(Ib,.Lb (zc l))]=Fb ((.next,[Fb (.rc 0),Fb (.str nm),Fb (.str val)],[(Ib,.Lb (zc (Ig nm l)))]),Hb):=by
  have c:=Pg (mt:=Ib) (hp:=[(Ib,.Lb (zc l))]) (vs:=[.rc 0,.str nm]) (r:=(.none,[(Ib,.Lb (zc (Ig nm l))),(Ib,.Lb (zc (Ig nm l)))])) rfl rfl rfl (Oj l) (by rw[b];exact Gr.trans (if_pos h)) (Oj _) rfl;exact L3 rfl rfl c
 have B:uc P0 F 60 (.expr (.qc .append (.attr (.Jb 0) oa) [(.Sb [(.Zh (.fn 26) (.Jb 0) [(.Jb 1)] ma (.bool Hb)),(.Zh (.fn 26) (.Jb 0) [(.Jb 2)] ma (.bool Ib))])])) [Fb (.rc 0),Fb (.str nm),Fb (.str val)] [(Ib,.Lb (zc (Ig nm l)))]=
   Fb ((.next,[Fb (.rc 0),Fb (.str nm),Fb (.str val)],[(Ib,.Lb (zc (Ig nm l++[(nm,val)])))]),Hb):=by
  have N:(Cell.Lb (zc (Ig nm l))).push (.Sb [.str nm,.str val])=.Lb (zc (Ig nm l++[(nm,val)])):=by
   unfold zc;rw[ej];rcases Ig nm l with J|J<;>rfl
  refine Aj (me (Od:=[(Ib,.Lb (zc (Ig nm l)))]) rfl (zd (zo (Le (xB rfl rfl rfl (MD H g)) (zd (xB rfl rfl rfl (MD H h5)))))) (ke (q:=decide ((zc (Ig nm l)).length+1<=ic)) ?_ (decide_eq_true (by rw[ym];exact dc (Ng x) (by decide)))));rw[<-N];rfl
 exact Uh ((Bc s).trans ((Bc B).trans rfl)) (.inr ⟨rfl,rfl⟩)
noncomputable def hit(nm:ca)(p:ca×ca):Bool:=decide (low p.1=low nm)
noncomputable def found(l:aa)(nm d:ca):ca:=match l.find? (hit nm) with
 |some p=>p.2|none=>d
noncomputable def Cm:Spec:=λa C=>Oq a λi l=>aZ i (Wj l λnm l=>Wj l λd l=>df l (tabOf C λl=>if(cj nm&&sj Hb (low nm)&&Ql l)=Hb then Fb ((.str (found l nm d),C),Hb) else Gb))
theorem BH{α:Type}{p:α->Bool}{l:List α}{x:α}(N:l[k]?=Fb x)(h:(l.take k).find? p=Gb):(p x=Hb->l.find? p=Fb x)/\(p x=Ib->(l.take (k+1)).find? p=Gb):=by
 obtain⟨H,a⟩:=List.getElem?_eq_some_iff.mp N;have e0:l=l.take k++x::l.drop (k+1):=by rw[<-a,<-dn H,jH]
 refine⟨λe=>?_,λe=>?_⟩
 ·refine(congrArg (List.find? p) e0).trans ?_
  refine(List.find?_append).trans ?_;rw[h,List.find?_cons_of_pos e];rfl
 ·rw[kH H,List.find?_append,h,a]
  simp[e]
noncomputable def Sw(nm d:ca)(y z:Option PV):Loc:=[Fb (.rc 0),Fb (.str (low nm)),Fb (.str d),y,z]
noncomputable def pp(l:aa):Hp:=[(Ib,.Lb (zc l))]
inductive nw(nm d:ca)(l:aa)(k:Nat):Loc->Hp->Prop
 |mk{y z:Option PV}(h:(l.take k).find? (hit nm)=Gb):nw nm d l k (Sw nm d y z) (pp l)
inductive Bz(nm d:ca)(l:aa):Fl->Loc->Hp->Prop
 |next{y z:Option PV}(h:l.find? (hit nm)=Gb):Bz nm d l .next (Sw nm d y z) (pp l)
 |ret{p:ca×ca}{x:Loc}(h:l.find? (hit nm)=Fb p):Bz nm d l (.ret (.str p.2)) x (pp l)
theorem F8(F:Dc)(C:F.fn 26=Bm)(e:Cm A I=Fb ((r,g),Hb)):A.length=3/\Hd P0 F 60 Zu 5 A I=Fb ((r,g),Hb):=by
 refine Nr e λi y Q e=>Yu e λU e=>pk e λnm z Y e=>pk e λd z j e=>sf e λt e=>wu e λl E e=>iT e λm w=>?_;subst U t j Y Q;refine kt m λG o V=>?_;rw[<-jc w,E];refine⟨rfl,?_⟩;have w:=Qm (body:=λloc f=>Kc (uc P0 F 59) [.ifs (.fc (.mc .Eq (.qc .lower (.Jb 3) []) (.Jb 1))) [.ret (.Jb 4)] []] loc f) (Nb:=.Sb [(.Jb 3),(.Jb 4)]) (it:=λk=>.Xb 0 k) (nw nm d l) (Bz nm d l)
  (λk loc f H=>by
   induction H using nw.casesOn with
   |mk=>exact Bj (c:=.Lb (zc l)) rfl k)
  (λk v loc f u H=>by
   obtain⟨a,b,h5,rfl⟩:=ED u
   induction H using nw.casesOn with
   |mk T=>
    refine(BH h5 T).elim λJ L=>?_;have D:ud (Yb P0 F 59) (Sw nm d (Fb (.str a)) (Fb (.str b))) (.fc (.mc .Eq (.qc .lower (.Jb 3) []) (.Jb 1))) (pp l)=Fb ((decide (low a=low nm),pp l),Hb):=
     Fe (af (me rfl rfl (sD (bL V h5))) rfl rfl) rfl
    by_cases q:low a=low nm
    ·exact .ret rfl (qk (Me D (by rw[decide_eq_true q];rfl))) (.ret (J (decide_eq_true q)))
    ·exact .next rfl ((Bc (Me D (by rw[decide_eq_false q];rfl))).trans rfl) (.mk (L (decide_eq_false q))))
  (λloc f H=>by
   induction H using nw.casesOn with
   |mk h=>rw[ym,Ww] at h;exact .next h)
  (zc l).length 0 ((zc l).length+1) (Sw nm d Gb Gb) (pp l) (Ii _) (Af _) (.mk rfl)
 have s:=mL C (l:=l) G o (loc:=[Fb (.rc 0),Fb (.str nm),Fb (.str d),Gb,Gb]) rfl rfl;unfold found
 induction w using Rf.casesOn with
 |@mk N O Ac hw hP=>
  have B:uc P0 F 60 (.Uf (.Sb [(.Jb 3),(.Jb 4)]) (.attr (.Jb 0) oa) [.ifs (.fc (.mc .Eq (.qc .lower (.Jb 3) []) (.Jb 1))) [.ret (.Jb 4)] []]) (Sw nm d Gb Gb) (pp l)=Fb ((N,O,Ac),Hb):=
   Kl (Od:=pp l) rfl rfl hw
  induction hP using Bz.casesOn with
  |next T=>rw[T];exact Uh ((Bc (r:=Zu.tail) s).trans ((Bc B).trans rfl)) (.inl rfl)|@ret p x T=>rw[T];exact Uh ((Bc (r:=Zu.tail) s).trans (qk B)) (.inl rfl)
noncomputable def tq:Spec:=λa C=>Oq a λi l=>aZ i (df l (tabOf C λl=>if l.length<=1000 then Fb ((.id 1,[(Ib,.Lb (zc l)),(Ib,.Lb (zc l))]),Hb) else Gb))
theorem SH{α:Type}(l:List α):∀(m a:Nat),(Gp a m).filterMap (l[·]?)=(l.drop a).take m:=by
 intro m
 induction m with
 |zero=>intro a;simp|succ m I=>
  intro a;rw[iH,DG]
  cases h:l[a]? with
  |none=>
   have:l.length<=a:=List.getElem?_eq_none_iff.mp h;simp only [I];rw[YA (by exact Xm ‹_›),YA (by assumption)];simp
  |some x=>
   obtain⟨H,j⟩:=List.getElem?_eq_some_iff.mp h;simp only [I];rw[dn H,j,List.take_succ_cons]
theorem Np{α:Type}(l:List α)(lo h:Option Int):pick l lo h Gb=(l.drop (Ip lo l.length)).take (rn h l.length-Ip lo l.length):=by
 unfold pick;rw[kms_bounds];simp only;rw[sliceRange_one,<-vaa,SH]
theorem FZ{α:Type}(l:List α):pick l Gb Gb Gb=l:=by
 rw[Np];simp[Ip,rn]
theorem O8(F:Dc)(e:tq a C=Fb ((r,d),Hb)):a.length=1/\Hd P0 F 60 My 1 a C=Fb ((r,d),Hb):=by
 refine Nr e λi y Q e=>Yu e λT e=>sf e λY e=>wu e λl f e=>iT e λH w=>?_;subst T Y Q f;rw[<-jc w];refine⟨rfl,?_⟩;have h:=Uh (P:=P0) (F:=F) (n:=60) (b:=My) (sl:=1) (vs:=[.rc 0]) (hp:=[(Ib,.Lb (zc l))]) (fl:=.ret (.id 1)) (Ac:=[(Ib,.Lb (zc l)),(Ib,.Lb (pick (zc l) Gb Gb Gb))])
  (qk (js (cl rfl rfl rfl rfl (ke (q:=decide ((zc l).length<=ic)&&Hb) rfl (by rw[ym,decide_eq_true (show l.length<=ic from dc H (by decide))];rfl))))) (.inl rfl)
 rwa[FZ] at h
noncomputable def xv:Spec:=λa C=>Oq a λi l=>aZ i (df l (tabOf C λl=>if l.length<=1000/\l≠[] then Fb ((.id 1,[(Ib,.Lb (zc l)),(Ib,.strs (l.map (·.1)))]),Hb) else Gb))
theorem vX(b:ba):∀(m k:Nat)(A:ba),b.length-k=m->k<=b.length->A≠[]\/m≠0->((Gp k m).filter (λJ=>Hb)).foldl (λa i=>a.push (.str (b.getD i []))) (if A=[] then Cell.Lb [] else .strs A)=.strs (A++b.drop k):=by
 intro m
 induction m with
 |zero=>
  intro k A H C G;rw[YA (Nat.le_of_sub_eq_zero H),ng];exact if_neg (G.resolve_right λh=>h rfl)
 |succ m I=>
  intro k A H C J;have L:=by exact vM H
  rw[iH,List.filter_cons_of_pos rfl,zA,dn L];have d:(if A=[] then Cell.Lb [] else .strs A).push (.str (b.getD k []))=(if A++[b[k]]=[] then Cell.Lb [] else .strs (A++[b[k]])):=by
   rw[Mg,De L];rcases A with J|J<;>rfl
  rw[d,I (k+1) (A++[b[k]]) (by exact congrArg Nat.pred H) L (.inl λh=>nomatch (List.append_eq_nil_iff.mp h).2),Sh]
  rfl
theorem O7(F:Dc)(e:xv A C=Fb ((r,d),Hb)):A.length=1/\Hd P0 F 60 WD 1 A C=Fb ((r,d),Hb):=by
 refine Nr e λi y Q e=>Yu e λT e=>sf e λY e=>wu e λl f e=>iT e λg w=>?_;subst T Y Q f;rw[<-jc w];refine⟨rfl,?_⟩;have hw:=Rp (rE:=Yb P0 F 59) (Sd:=.Jb 1) (Nb:=.Sb [(.Jb 1),(.Jb 2)]) (cond:=Gb) (hp:=[(Ib,.Lb (zc l))]) (it:=λk=>.Xb 0 k) (Bj rfl) (λL=>∃p q r,L=[p,q,r])
  (λJ=>Hb) (λk=>.str ((l.map (·.1)).getD k [])) (λk v L U G=>by
   obtain⟨p,q,r,rfl⟩:=G;obtain⟨a,b,h5,rfl⟩:=ED U;refine⟨[p,Fb (.str a),Fb (.str b)],rfl,⟨_,_,_,rfl⟩,rfl,λJ=>?_⟩;rw[Mg,bg,h5];rfl) l.length 0 (l.length+1) [Gb,Gb,Gb] (.Lb []) (ym l) ⟨_,_,_,rfl⟩ (Af _) (ah _) (by show 0+l.length<=1000000;lia)
 have H:=vX (l.map (·.1)) l.length 0 [] (Uc _) (ah _) (.inr λh=>g.2 (WQ h));rw[if_pos rfl] at H;rw[H] at hw;exact Uh (fl:=.ret (.id 1)) (qk (js (nk (Od:=[(Ib,.Lb (zc l))]) rfl (ym l) hw rfl))) (.inl rfl)
theorem src_range{Nb:M}(h:I (.oc .range a) Ib l H=Fb ((v,N),Hb))(y:Bi v=Fb (t,Hb)):Jf F I l Nb (.oc .range a) H=Fb ((t,N),Hb):=by
 have e:Jf F I l Nb (.oc .range a) H=Rm.bind (I (.oc .range a) Ib l H) (λx=>Rm.bind (Bi x.1) λi=>Rm.ret (i,x.2)):=rfl;refine e.trans ?_;refine(Rm.bd h).trans ?_;refine(Rm.bd y).trans ?_;rfl
noncomputable def yt:PV->Bool
 |.Sb _=>Hb|.str _=>Hb|_=>Ib
theorem tf{P:Prop}(h:Hb=Ib):P:=nomatch h
theorem gM(H:yt o=Ib):pj o (.int k) h=match cellAt o h with
  |some c=>Fb ((c.getD (idx k c.len),h),Sf k c.len&&decide (c.len<=ic))|none=>Gb:=by
 induction o using PV.casesOn<;>first|rfl|exact tf H
theorem Bn(h:cellAt o hp=Fb c)(C:k<c.len)(H:c.len<=ic)(D:yt o=Ib):pj o (.int (k:Int)) hp=Fb ((c.getD k,hp),Hb):=by
 have e:idx (k:Int) c.len=k:=by unfold idx;rw[if_neg (by lia)];exact pr k
 have E:Sf (k:Int) c.len=Hb:=by unfold Sf;rw[if_neg (by lia),decide_eq_true (show(0:Int)<=k by simp),decide_eq_true (show(k:Int)<c.len by exact Int.ofNat_lt.mpr ‹_›)];rfl
 refine(gM D).trans ?_;rw[h];show Fb ((c.getD (idx k c.len),hp),Sf k c.len&&decide (c.len<=ic))=_;rw[e,E,decide_eq_true H];rfl
theorem bD(H:cellAt o h=Fb c)(C:k<c.len)(x:c.len<=ic)(D:yt o=Ib):pj o (.int (-1-(k:Int))) h=Fb ((c.getD (c.len-1-k),h),Hb):=by
 have e:idx (-1-(k:Int)) c.len=c.len-1-k:=by unfold idx;rw[if_pos (by lia)];exact(congrArg Int.toNat (show-1-(k:Int)+c.len=(c.len:Int)-((1+k:Nat):Int) by omega)).trans ((Int.toNat_sub _ _).trans (Nat.sub_sub _ _ _).symm)
 have E:Sf (-1-(k:Int)) c.len=Hb:=by unfold Sf;rw[if_pos (by lia),decide_eq_true (show 0<=-1-(k:Int)+c.len by lia),decide_eq_true (show-1-(k:Int)+c.len<c.len by lia)];rfl
 refine(gM D).trans ?_;rw[H];show Fb ((c.getD (idx (-1-(k:Int)) c.len),h),Sf (-1-(k:Int)) c.len&&decide (c.len<=ic))=_;rw[e,E,decide_eq_true x];rfl
noncomputable def Mk(x:ca):ca:=x.map up1
theorem GD{mt:Bool}(h:cj x=Hb):Te P F .upper (.str x) [] mt H=Fb ((.str (Mk x),H),Hb):=g5 h
noncomputable def wf(g:Bool)(nm:ca):ca:=if g then Mk nm else nm
noncomputable def ot(n:Nat):ca:=Ju 6 n
noncomputable def Mq(l:aa)(nm:ca)(k:Nat):ca:=found l (Mk nm) []++[9]++ot (k+1)
noncomputable def wk(l:aa)(g:Bool)(nm:ca)(k:Nat):aa:=Ig (wf g nm) l++[(wf g nm,Mq l nm k)]
noncomputable def Vm(read:ba)(k:Nat):ca:=if read.getD k []=[40] then[112] else[112,112]
noncomputable def ul(read:ba)(k:Nat):ca:=if read.getD (read.length-1-k) []=[41] then[113] else[113,113]
noncomputable def gr(g:da)(k:Nat):Bool:=decide (g.getD k 0≠0)
noncomputable def So(read:ba)(g:da):Nat->aa
 |0=>[]|k+1=>wk (wk (So read g k) (gr g k) (Vm read k) k) (gr g k) (ul read k) k
noncomputable def ee:ba:=[[112],[112,112],[113],[113,113]]
theorem PD(read:ba)(k:Nat):Vm read k∈ee:=by
 unfold Vm
 by_cases q:read.getD k []=[40]
 ·rw[if_pos q];exact .head _
 ·rw[if_neg q];exact .tail _ (.head _)
theorem VD(read:ba)(k:Nat):ul read k∈ee:=by
 unfold ul
 by_cases q:read.getD (read.length-1-k) []=[41]
 ·rw[if_pos q];exact .tail _ (.tail _ (.head _))
 ·rw[if_neg q];exact .tail _ (.tail _ (.tail _ (.head _)))
def No(i:Nat)(l:aa):Prop:=l.length<=i/\∀p∈l,(∃g,∃nm∈ee,p.1=wf g nm)/\p.2.all Hn=Hb/\p.2.length<=10*i
theorem Zr:∀nm∈ee,∀g,cj (wf g nm)=Hb/\cj (Mk nm)=Hb/\cj nm=Hb/\sj Hb (wf g nm)=Hb/\sj Hb (low (wf g nm))=Hb/\sj Hb (low (Mk nm))=Hb/\low (wf g nm)=nm/\low (Mk nm)=nm:=by
 intro nm h;unfold ee at h;simp only [og,Xd,or_false] at h;rcases h with rfl|rfl|rfl|rfl<;>intro g<;>induction g using Ld<;>decide+kernel
theorem No.Ql(h:No i l)(y:i<=100):Ql l=Hb:=by
 unfold Mine.Ql;rw[Zc,ku,decide_eq_true_eq];refine⟨λp H=>?_,by have:=h.1;lia⟩;obtain⟨⟨g,nm,x,e⟩,J⟩:=h.2 p H;rw[e];exact(Zr nm x g).1
theorem xL:∀k:Nat,k<50->(ot (k+1)).all Hn=Hb/\(ot (k+1)).length<=5:=by
 decide+kernel
theorem IK(h:No i l)(nm:ca):(found l nm []).all Hn=Hb/\(found l nm []).length<=10*i:=by
 unfold found
 cases e:l.find? (hit nm) with
 |none=>exact⟨rfl,ah _⟩|some p=>exact(h.2 p (List.mem_of_find?_eq_some e)).2
theorem yB{nm:ca}(h:No i l)(x:nm∈ee)(C:k<50):No (i+1) (wk l g nm k):=by
 obtain⟨d,D⟩:=xL k C;obtain⟨f,U⟩:=IK h (Mk nm);refine⟨?_,λp H=>?_⟩
 ·unfold wk
  have:(Ig (wf g nm) l).length<=l.length:=sx ..;have:=h.1;rw[Pd,Dl];lia
 ·unfold wk at H
  rcases List.mem_append.mp H with H|H
  ·refine we (h.2 p (List.mem_filter.mp H).1) λa b c=>?_
   exact⟨a,b,by exact dc c (wl (10*i) 10)⟩
  ·rw[om] at H
   refine Jg H ?_;refine⟨⟨g,nm,x,rfl⟩,?_,?_⟩
   ·unfold Mq;refine List.all_append.trans ?_;rw[sR,f,d];rfl
   ·unfold Mq;rw[Pd,Pd,Dl];lia
noncomputable def bj(x y:Option PV):Loc:=[Fb (.id 0),Fb (.id 1),Fb (.rc 2),x,y,Gb,Gb,Gb,Gb]
noncomputable def Xf(b B:Bool)(read:ba)(g:da)(l:aa):Hp:=[(b,.strs read),(B,.ints g),(Ib,.Lb (zc l))]
noncomputable def ks:List S:=[.asg (.sub (.Jb 2) (.ite (.fc (.sub (.Jb 1) (.Jb 3))) (.qc .upper (.Jb 4) []) (.Jb 4))) (.cc .Add (.cc .Add (.qc (.fn 23) (.Jb 2) [(.qc .upper (.Jb 4) []),(.str [])]) (.str [9])) (.oc .str [(.cc .Add (.Jb 3) (.int 1))]))]
theorem DK(F:Dc)(V:F.fn 20=Gs)(I:F.fn 23=Cm){read:ba}{k i:Nat}{nm:ca}(h:No i l)(A:i<=50)(C:k<50)(x:nm∈ee)(y:k<g.length)(U:g.length<=1000):
  Kc (uc P0 F 58) ks (bj (Fb (.int (k:Int))) (Fb (.str nm))) (Xf b1 b2 read g l)=
   Fb ((.next,(bj (Fb (.int (k:Int))) (Fb (.str nm))),(Xf b1 b2 read g (wk l (gr g k) nm k))),Hb):=by
 refine dG (Zr nm x (gr g k)) λe w N J s G m t=>?_;obtain⟨d,D⟩:=xL k C;obtain⟨f,Y⟩:=IK h (Mk nm);have H:=h.Ql (by exact dc ‹_› (by decide));have Q:sj Ib (Mq l nm k)=Hb:=by
  unfold sj oO Mq;rw[Zc,decide_eq_true_eq];refine⟨?_,?_⟩
  ·simp only [JG,if_false]
   refine List.all_append.trans ?_;rw[sR,f,d];rfl
  ·rw[Pd,Pd,Dl];lia
 have T:(found l (Mk nm) []).length+1<=ic:=by unfold ic;lia
 have z:(found l (Mk nm) []++[9]).length+(ot (k+1)).length<=ic:=by rw[Pd,Dl];unfold ic;lia
 refine(Bc (Gf (v:=.str (Mq l nm k)) (Od:=(Xf b1 b2 read g l)) ?_ ?_)).trans rfl
 ·have E:Yb P0 F 56 (.qc (.fn 23) (.Jb 2) [(.qc .upper (.Jb 4) []),(.str [])]) Ib (bj (Fb (.int (k:Int))) (Fb (.str nm))) (Xf b1 b2 read g l)=Fb ((.str (found l (Mk nm) []),(Xf b1 b2 read g l)),Hb):=by
   refine me rfl (Le (me rfl rfl (GD N)) (zd rfl)) ((Mx (by decide)).trans (Pg (r:=(.str (found l (Mk nm) []),[(Ib,.Lb (zc l))])) rfl rfl rfl (Oj l) ?_ (Oj l) rfl));rw[I];exact Gr.trans (if_pos (by rw[w,G,H];rfl))
  have o:Yb P0 F 57 (.oc .str [(.cc .Add (.Jb 3) (.int 1))]) Ib (bj (Fb (.int (k:Int))) (Fb (.str nm))) (Xf b1 b2 read g l)=Fb ((.str (ot (k+1)),(Xf b1 b2 read g l)),Hb):=by
   exact Vh (by decide) (zd rfl) (ke rfl (by rw[decide_eq_true (show 0<=(k:Int)+1 by exact Int.NonNeg.mk (k+1+0)),decide_eq_true (show(k:Int)+1<1000 by lia)];rfl))
  have p:=dg (op:=.Add) (mt:=Ib) (b:=.str [9]) E rfl (ke rfl (decide_eq_true T));exact dg p o (ke rfl (decide_eq_true z))
 ·have q:pj (.id 1) (.int (k:Int)) (Xf b1 b2 read g l)=Fb ((.int (g.getD k 0),(Xf b1 b2 read g l)),Hb):=Bn (c:=.ints g) rfl y (by show g.length<=1000000;exact dc ‹_› (by decide)) rfl
  have j:Yb P0 F 58 (.ite (.fc (.sub (.Jb 1) (.Jb 3))) (.qc .upper (.Jb 4) []) (.Jb 4)) Ib (bj (Fb (.int (k:Int))) (Fb (.str nm))) (Xf b1 b2 read g l)=Fb ((.str (wf (gr g k) nm),(Xf b1 b2 read g l)),Hb):=by
   refine jq (Fe (vk rfl rfl q) rfl) ?_;show(if gr g k=Hb then _ else _)=_
   cases a:gr g k with
   |true=>exact me rfl rfl (GD N)|false=>rfl
  refine ZV rfl j ?_;refine Pg (r:=(.none,[(Ib,.Lb (zc (wk l (gr g k) nm k)))])) rfl rfl rfl (Oj l) ?_ (Oj _) rfl;rw[V];exact Gr.trans (if_pos (by rw[e,s,H,J,Q];rfl))
noncomputable def l4:List S:=[.Uf (.Jb 4) (.Sb [(.ite (.fc (.mc .Eq (.sub (.Jb 0) (.Jb 3)) (.str [40]))) (.str [112]) (.str [112,112])),(.ite (.fc (.mc .Eq (.sub (.Jb 0) (.cc .Sub (.neg (.int 1)) (.Jb 3))) (.str [41]))) (.str [113]) (.str [113,113]))]) ks]
theorem Y1(F:Dc)(V:F.fn 20=Gs)(I:F.fn 23=Cm){read:ba}(z:No (2*k) l)(C:k<read.length)(E:read.length<=20)(A:k<G.length)(Q:G.length<=1000):
  ∃Y,Kc (uc P0 F 59) l4 (bj (Fb (.int (k:Int))) y) (Xf b1 b2 read G l)=
   Fb ((.next,(bj (Fb (.int (k:Int))) Y),(Xf b1 b2 read G (wk (wk l (gr G k) (Vm read k) k) (gr G k) (ul read k) k))),Hb):=by
 have m:=PD read k;have r:=VD read k;have b:=DK F V I (read:=read) (b1:=b1) (b2:=b2) z (by lia) (by lia) m A Q;have o:=DK F V I (read:=read) (b1:=b1) (b2:=b2) (yB (g:=gr G k) (k:=k) z m (by lia)) (by lia) (by lia) r A Q;have s:pj (.id 0) (.int (k:Int)) (Xf b1 b2 read G l)=Fb ((.str (read.getD k []),(Xf b1 b2 read G l)),Hb):=Bn (c:=.strs read) rfl C (by show read.length<=1000000;lia) rfl;have w:pj (.id 0) (.int (-1-(k:Int))) (Xf b1 b2 read G l)=Fb ((.str (read.getD (read.length-1-k) []),(Xf b1 b2 read G l)),Hb):=bD (c:=.strs read) rfl C (by show read.length<=1000000;lia) rfl;generalize H:((bj (Fb (.int (k:Int))) y):Loc)=L;generalize a:((Xf b1 b2 read G l):Hp)=h at b s w;have B:L[0]?=Fb (Fb (.id 0)):=by rw[<-H];rfl
 have N:L[3]?=Fb (Fb (.int (k:Int))):=by rw[<-H];rfl
 have i1:Yb P0 F 58 (.ite (.fc (.mc .Eq (.sub (.Jb 0) (.Jb 3)) (.str [40]))) (.str [112]) (.str [112,112])) Ib L h=Fb ((.str (Vm read k),h),Hb):=by
  refine jq (Fe (af (vk (Qd B) (Qd N) s) rfl rfl) rfl) ?_;unfold Vm
  by_cases q:read.getD k []=[40]
  ·rw[decide_eq_true q,if_pos rfl,if_pos q];rfl
  ·rw[decide_eq_false q,if_neg (by decide),if_neg q];rfl
 have i2:Yb P0 F 58 (.ite (.fc (.mc .Eq (.sub (.Jb 0) (.cc .Sub (.neg (.int 1)) (.Jb 3))) (.str [41]))) (.str [113]) (.str [113,113])) Ib L h=Fb ((.str (ul read k),h),Hb):=by
  refine jq (Fe (af (vk (Qd B) (dg rfl (Qd N) rfl) w) rfl rfl) rfl) ?_;unfold ul
  by_cases q:read.getD (read.length-1-k) []=[41]
  ·rw[decide_eq_true q,if_pos rfl,if_pos q];rfl
  ·rw[decide_eq_false q,if_neg (by decide),if_neg q];rfl
 have O:Jf F (Yb P0 F 59) L (.Jb 4) (.Sb [(.ite (.fc (.mc .Eq (.sub (.Jb 0) (.Jb 3)) (.str [40]))) (.str [112]) (.str [112,112])),(.ite (.fc (.mc .Eq (.sub (.Jb 0) (.cc .Sub (.neg (.int 1)) (.Jb 3))) (.str [41]))) (.str [113]) (.str [113,113]))]) h=Fb ((.Lb [.str (Vm read k),.str (ul read k)],h),Hb):=by
  show Rm.bind (Rm.bind (Vd (Yb P0 F 58) Ib L [(.ite (.fc (.mc .Eq (.sub (.Jb 0) (.Jb 3)) (.str [40]))) (.str [112]) (.str [112,112])),(.ite (.fc (.mc .Eq (.sub (.Jb 0) (.cc .Sub (.neg (.int 1)) (.Jb 3))) (.str [41]))) (.str [113]) (.str [113,113]))] h) λD=>Rm.ret (PV.Sb D.1,D.2)) (λx=>Rm.bind (Bi x.1) λi=>Rm.ret (i,x.2))=_;rw[Rm.bd (Le i1 (zd i2))]
  rfl
 have h5:∀nm,(L.set 4 (Fb (.str nm)))=(bj (Fb (.int (k:Int))) (Fb (.str nm))):=λnm=>by rw[<-H];rfl
 refine⟨Fb (.str (ul read k)),(Bc (Kl O rfl ?_)).trans rfl⟩;show Rm.bind (Kc (uc P0 F 58) ks (L.set 4 (Fb (.str (Vm read k)))) h) (λx=>match x.1 with
  |.next=>forLoop (λL h=>Kc (uc P0 F 58) ks L h) (.Jb 4) 2 (.Lb [.str (ul read k)]) x.2.1 x.2.2|.brk=>Rm.ret (Fl.next,x.2.1,x.2.2)|.ret v=>Rm.ret (Fl.ret v,x.2.1,x.2.2))=_
 rw[h5,Rm.bd b];show Rm.bind (Kc (uc P0 F 58) ks (bj (Fb (.int (k:Int))) (Fb (.str (ul read k)))) _) (λx=>match x.1 with
  |.next=>forLoop (λL h=>Kc (uc P0 F 58) ks L h) (.Jb 4) 1 (.Lb []) x.2.1 x.2.2|.brk=>Rm.ret (Fl.next,x.2.1,x.2.2)|.ret v=>Rm.ret (Fl.ret v,x.2.1,x.2.2))=_
 refine(Rm.bd o).trans ?_
 rfl
noncomputable def xq{β:Type}(C:Hp)(f:Bool->ba->Hp->Option β):Option β:=match C with
 |[]=>Gb|c::l=>match c with
  |(b,.strs x)=>f b x l|_=>Gb
noncomputable def gN{β:Type}(C:Hp)(f:Bool->da->Hp->Option β):Option β:=match C with
 |[]=>Gb|c::l=>match c with
  |(b,.ints x)=>f b x l|_=>Gb
theorem Ir{β:Type}{f:Bool->ba->Hp->Option β}{r:β}{R:Prop}(e:xq C f=Fb r)(k:∀b x l,C=(b,.strs x)::l->f b x l=Fb r->R):R:=by
 rcases C with J|⟨⟨b,J|x|J⟩,l⟩
 ·exact nn e
 ·exact nn e
 ·exact k b x l rfl e
 ·exact nn e
theorem aX{β:Type}{f:Bool->da->Hp->Option β}{r:β}{R:Prop}(e:gN C f=Fb r)(k:∀b x l,C=(b,.ints x)::l->f b x l=Fb r->R):R:=by
 rcases C with J|⟨⟨b,x|J|J⟩,l⟩
 ·exact nn e
 ·exact k b x l rfl e
 ·exact nn e
 ·exact nn e
noncomputable def yv:Spec:=λa C=>Zn a λi l=>if i=0 then Zn l λj l=>if j=1 then df l (xq C λb read l=>gN l λB g l=>df l (if read.length<=20/\read.length/2<=g.length/\g.length<=1000/\2<=read.length then Fb ((.rc 2,[(b,.strs read),(B,.ints g),(Ib,.Lb (zc (So read g (read.length/2))))]),Hb) else Gb)) else Gb else Gb
theorem v3(read:ba)(g:da):∀k,k<=50->No (2*k) (So read g k):=by
 intro k
 induction k with
 |zero=>intro J;exact⟨Ed _,λJ h=>(Xd h).elim⟩|succ k I=>
  intro H;have m:=PD read k;have r:=VD read k;exact yB (yB (I (by exact Df ‹_›)) m (by lia)) r (by lia)
theorem NB:∀n:Nat,n<70->(Ih 0 (n:Int) 1).map PV.int=(xe n).map (λ(k:Nat)=>PV.int (k:Int))/\(Ym 0 (n:Int) 1&&decide (0<=Fi 0 (n:Int) 1))=Hb:=by
 have key:∀n:Nat,n<70->Ih 0 (n:Int) 1=(xe n).map (λ(k:Nat)=>(k:Int))/\(Ym 0 (n:Int) 1&&decide (0<=Fi 0 (n:Int) 1))=Hb:=by decide+kernel
 intro n h;obtain⟨H,j⟩:=key n h;exact⟨by rw[H,Yg];rfl,j⟩
inductive Fz(b1 b2:Bool)(read:ba)(great:da)(k:Nat):Loc->Hp->Prop
 |mk{x y:Option PV}:Fz b1 b2 read great k (bj x y) (Xf b1 b2 read great (So read great k))
inductive WE(b1 b2:Bool)(read:ba)(great:da)(n:Nat):Fl->Loc->Hp->Prop
 |mk{x y:Option PV}:WE b1 b2 read great n .next (bj x y) (Xf b1 b2 read great (So read great n))
theorem D0{R:Prop}(H:((xe n).map (λ(k:Nat)=>PV.int (k:Int)))[k]?=Fb v)(h:k<n->v=.int k->R):R:=by
 rw[bg] at H;refine(Option.map_eq_some_iff.mp H).elim λj z=>(List.getElem?_eq_some_iff.mp z.1).elim λC e=>h (by rw[El] at C;exact C) ?_;rw[<-z.2,<-e,tR]
theorem u7(F:Dc)(V:F.fn 20=Gs)(A:F.fn 22=λa C=>match a,C with|[],[]=>Fb ((.rc 0,[(Ib,.Lb [])]),Hb)|_,_=>Gb)(I:F.fn 23=Cm)(e:yv a C=Fb ((r,b),Hb)):a.length=2/\Hd P0 F 60 SD 9 a C=Fb ((r,b),Hb):=by
 refine yo e λi y q e=>iT e λQ e=>yo e λj z Y e=>iT e λf e=>sf e λp e=>Ir e λb1 read y B e=>aX e λb2 g z J e=>sf e λo e=>iT e λc w=>?_;subst Q f p Y q o J B;obtain⟨c1,c2,m,t⟩:=c;rw[<-jc w];refine⟨rfl,?_⟩;obtain⟨r1,r2⟩:=NB (read.length/2) (by lia);have T:read.length<=1000000:=by lia
 have s:uc P0 F 60 (.asg (.Jb 2) (.fn 22 [])) [Fb (.id 0),Fb (.id 1),Gb,Gb,Gb,Gb,Gb,Gb,Gb] [(b1,.strs read),(b2,.ints g)]=Fb ((.next,(bj Gb Gb),(Xf b1 b2 read g [])),Hb):=by
  exact Gf (Ni rfl (Pg rfl rfl rfl rfl (by rw[A]) rfl rfl)) rfl
 have L:Jf F (Yb P0 F 60) (bj Gb Gb) (.Jb 3) (.oc .range [(.cc .FloorDiv (.oc .len [(.Jb 0)]) (.int 2))]) (Xf b1 b2 read g [])=
   Fb ((.Lb ((xe (read.length/2)).map (λ(k:Nat)=>PV.int (k:Int))),(Xf b1 b2 read g [])),Hb):=by
  have d:((read.length:Int)).fdiv 2=((read.length/2:Nat):Int):=by refine(lH _ (by decide)).trans ?_;lia
  have E:Yb P0 F 60 (.oc .range [(.cc .FloorDiv (.oc .len [(.Jb 0)]) (.int 2))]) Ib (bj Gb Gb) (Xf b1 b2 read g [])=Fb ((.ag 0 ((read.length/2:Nat):Int) 1,(Xf b1 b2 read g [])),Hb):=by
   exact Vh (by decide) (zd (dg (x:=.int (read.length:Int)) (z:=.int ((read.length/2:Nat):Int)) (Vh (by decide) (zd rfl) (ke rfl (decide_eq_true T))) rfl (by rw[<-d];rfl))) rfl
  refine src_range E ?_;show Fb (Ic.Lb _,_&&_)=_;rw[r1,r2]
 have hlen:((xe (read.length/2)).map (λ(k:Nat)=>PV.int (k:Int))).length=read.length/2:=by rw[Uc,El]
 have w:=Qm (Nb:=.Jb 3) (it:=λk=>.Lb (((xe (read.length/2)).map (λ(k:Nat)=>PV.int (k:Int))).drop k))
  (Fz b1 b2 read g) (WE b1 b2 read g (read.length/2)) (λk l H K=>Il _ H k)
  (λk v l H U h=>by
   refine D0 U λD e=>?_;refine Jg e ?_
   induction h using Fz.casesOn with
   |@mk x y=>
    refine(Y1 F V I (y:=y) (b1:=b1) (b2:=b2) (v3 read g k (by lia)) (by lia) c1 (zl D c2) m).elim λu G=>?_;exact .next rfl G .mk)
  (λl H h=>by
   rw[hlen] at h
   induction h using Fz.casesOn with
   |mk=>exact .mk)
  (read.length/2) 0 (read.length/2+1) (bj Gb Gb) (Xf b1 b2 read g []) ((Ii _).trans hlen.symm) (Af _) .mk
 induction w using Rf.casesOn with
 |@mk fl cf Ac hw N=>
  induction N using WE.casesOn with
  |mk=>
   have O:=Kl L (show mn (List.drop 0 _)=_ by rw[uR];exact hlen) hw;exact Uh ((Bc s).trans ((Bc O).trans rfl)) (.inl rfl)
noncomputable def sl(x:ca)(a b:Option Int):ca:=(wA ⟨x.toArray⟩ a b).cps.toList
noncomputable def Oe(x:ca):List PV->Int->Option Int->ba->Int×ba
 |[],st,_,a=>(st,a)|v::r,st,op,a=>match v with
  |.Sb [.int p,.str c]=>if c=[34] then match op with
    |none=>Oe x r st (Fb p) a|some o=>Oe x r (p+1) Gb (if st=o then a else a++[sl x (Fb st) (Fb o)])
   else Oe x r st op a
  |_=>(st,a)
noncomputable def Co(x:ca):ca:=if decide (34∈x)=Hb then
  (let q:=Oe x (Gc x 0 Ib) 0 Gb []
   (q.2++if q.1<x.length then[sl x (Fb q.1) Gb] else[]).flatten)
 else x
noncomputable def md(a:ba):Cell:=if a=[] then .Lb [] else .strs a
theorem uu(a:ba)(s:ca):(md a).push (.str s)=md (a++[s]):=by
 unfold md;rcases a with J|J<;>rfl
theorem Au(a:ba):(md a).len=a.length:=by
 unfold md;rcases a with J|J<;>rfl
theorem vB(a:ba):nj (md a)=Fb a:=by
 unfold md;rcases a with J|J<;>rfl
theorem rJ{mt:Bool}(h:a.length+1<=1000000):Te P F .append (.id 0) [.str s] mt [(Ib,md a)]=Fb ((.none,[(Ib,md (a++[s]))]),Hb):=by
 rw[<-uu];exact ke rfl (decide_eq_true (by rw[Au];exact h))
theorem Lr:∀l:ba,Qi [] l=l.flatten
 |[]=>rfl|[x]=>(ng x).symm|x::y::r=>by
  show x++[]++Qi [] (y::r)=_;rw[ng,Lr (y::r)];rfl
theorem B1{mt:Bool}(h:(l.map (·.length)).sum<=1000000):Te P F .join (.str []) [.id 0] mt [(Ib,md l)]=Fb ((.str l.flatten,[(Ib,md l)]),Hb):=by
 show(match nj (md l) with
  |some L=>Fb ((PV.str (Qi [] L),[(Ib,md l)]),decide (((L:ba).map mn).sum+L.length*0<=ic))|none=>Gb)=_
 rw[vB];show Fb ((PV.str (Qi [] l),[(Ib,md l)]),decide ((l.map mn).sum+l.length*0<=ic))=_;rw[Lr,ZA,Nat.add_zero,decide_eq_true (show _<=ic from h)]
noncomputable def ZE:Option Int->PV
 |none=>.none|some i=>.int i
def ut(v:PV):Prop:=∃(i:Nat)(c:ca),v=.Sb [.int (i:Int),.str c]
theorem oK{l:List PV}{i n:Nat}{c:ca}(h:l.length<=n+1/\∀v∈l,ut v):(PV.Sb [.int (i:Int),.str c]::l).length<=n+1+1/\∀v∈PV.Sb [.int (i:Int),.str c]::l,ut v:=
 ⟨Ng h.1,λv H=>(List.mem_cons.mp H).elim (λe=>⟨_,_,e⟩) (h.2 v)⟩
theorem sq:∀(x:ca)(p:Nat)(e:Bool),(Gc x p e).length<=x.length+1/\∀v∈Gc x p e,ut v
 |[],_,Hb=>⟨Ed _,λJ h=>⟨_,_,List.mem_singleton.mp h⟩⟩|[],_,Ib=>⟨ah _,λJ h=>nomatch h⟩|_::r,p,Hb=>oK (sq r (p+1) Ib)|c::r,p,Ib=>by
  show(if c=92 then Gc r (p+1) Hb else .Sb [.int p,.str [c]]::Gc r (p+1) Ib).length<=_/\∀v∈(if c=92 then Gc r (p+1) Hb else .Sb [.int p,.str [c]]::Gc r (p+1) Ib),ut v
  by_cases q:c=92
  ·rw[if_pos q];exact⟨Xm (sq r (p+1) Hb).1,(sq r (p+1) Hb).2⟩
  ·rw[if_neg q];exact oK (sq r (p+1) Ib)
theorem zu(x:ca)(p:Nat)(e:Bool)(v:PV)(h:v∈Gc x p e):∃(i:Nat)(c:ca),v=.Sb [.int (i:Int),.str c]:=(sq x p e).2 v h
theorem Uu(x:ca)(p:Nat)(e:Bool):(Gc x p e).length<=x.length+1:=(sq x p e).1
noncomputable def Sy:List S:=[.ifs (.fc (.mc .Eq (.Jb 5) (.str [34]))) [.ifs (.fc (.mc .Is (.Jb 2) .none)) [.asg (.Jb 2) (.Jb 4)] [.ifs (.fc (.mc .NotEq (.Jb 1) (.Jb 2))) [.expr (.qc .append (.Jb 3) [(.Oc (.Jb 0) (.Jb 1) (.Jb 2) .none)])] [],.asg (.Jb 1) (.cc .Add (.Jb 4) (.int 1)),.asg (.Jb 2) .none]] []]
noncomputable def Xo(x:ca)(q:Int×ba):ba:=q.2++if q.1<x.length then[sl x (Fb q.1) Gb] else[]
noncomputable def vq:Spec:=λa C=>Wj a λx l=>df l (df C (if x.length<=300 then Fb ((.str (Co x),if decide (34∈x)=Hb then[(Ib,md (Xo x (Oe x (Gc x 0 Ib) 0 Gb [])))] else[]),Hb) else Gb))
theorem OM(x:ca)(a b:Option Int):(sl x a b).length<=x.length:=Txt.slice_le ⟨x.toArray⟩ a b
theorem zB{st:Int}:Oe x (.Sb [.int p,.str c]::r) st op a=if c=[34] then match op with
  |none=>Oe x r st (Fb p) a|some o=>Oe x r (p+1) Gb (if st=o then a else a++[sl x (Fb st) (Fb o)])
 else Oe x r st op a:=rfl
theorem IT(x:ca):∀(l:List PV)(st:Int)(op:Option Int)(a:ba),(∀v∈l,ut v)->(∀s∈a,s.length<=x.length)->(Oe x l st op a).2.length<=a.length+l.length/\∀s∈(Oe x l st op a).2,s.length<=x.length:=by
 intro l
 induction l with
 |nil=>intro st op a J h;exact⟨Ed _,h⟩|cons v r I=>
  intro st op a H h;obtain⟨p,c,e⟩:=H v (.head _);have H:∀v∈r,ut v:=λv h=>H v (.tail _ h);have same:∀st op,(Oe x r st op a).2.length<=a.length+(r.length+1)/\∀s∈(Oe x r st op a).2,s.length<=x.length:=λst op=>⟨Xm (I st op a H h).1,(I st op a H h).2⟩;rw[e,zB]
  by_cases q:c=[34]
  ·rw[if_pos q]
   rcases op with J|o
   ·exact same _ _
   ·by_cases Q:st=o
    ·show(Oe x r (p+1) Gb (if st=o then a else a++[sl x (Fb st) (Fb o)])).2.length<=_/\∀s∈(Oe x r (p+1) Gb (if st=o then a else a++[sl x (Fb st) (Fb o)])).2,_
     rw[if_pos Q];exact same _ _
    ·show(Oe x r (p+1) Gb (if st=o then a else a++[sl x (Fb st) (Fb o)])).2.length<=_/\∀s∈(Oe x r (p+1) Gb (if st=o then a else a++[sl x (Fb st) (Fb o)])).2,_
     rw[if_neg Q];have:=I (p+1) Gb (a++[sl x (Fb st) (Fb o)]) H λs A=>(List.mem_append.mp A).elim (h s) λA=>by rw[List.mem_singleton.mp A];exact OM ..
     rw[Pd,Dl,bm,Rk 1] at this;exact this
  ·rw[if_neg q];exact same _ _
noncomputable def L5(x:ca)(st:Int)(o:PV)(y z:Option PV):Loc:=[Fb (.str x),Fb (.int st),Fb o,Fb (.id 0),y,z,Gb,Gb]
theorem BZ(F:Dc){st p:Int}(q:c≠[34]):Kc (uc P0 F 59) Sy (L5 x st op (Fb (.int p)) (Fb (.str c))) h=Fb ((.next,L5 x st op (Fb (.int p)) (Fb (.str c)),h),Hb):=
 (Bc (Me (Fe (af rfl rfl rfl) rfl) (by rw[decide_eq_false q];rfl))).trans rfl
theorem rU(F:Dc){st p:Int}:Kc (uc P0 F 59) Sy (L5 x st .none (Fb (.int p)) (Fb (.str [34]))) h=Fb ((.next,L5 x st (.int p) (Fb (.int p)) (Fb (.str [34])),h),Hb):=rfl
theorem sT(F:Dc){st p o:Int}(h:x.length<=1000000)(H:a.length+1<=1000000):Kc (uc P0 F 59) Sy (L5 x st (.int o) (Fb (.int p)) (Fb (.str [34]))) [(Ib,md a)]=Fb ((.next,L5 x (p+1) .none (Fb (.int p)) (Fb (.str [34])),[(Ib,md (if st=o then a else a++[sl x (Fb st) (Fb o)]))]),Hb):=by
 have c:uc P0 F 57 (.ifs (.fc (.mc .NotEq (.Jb 1) (.Jb 2))) [.expr (.qc .append (.Jb 3) [(.Oc (.Jb 0) (.Jb 1) (.Jb 2) .none)])] []) (L5 x st (.int o) (Fb (.int p)) (Fb (.str [34]))) [(Ib,md a)]=Fb ((.next,L5 x st (.int o) (Fb (.int p)) (Fb (.str [34])),[(Ib,md (if st=o then a else a++[sl x (Fb st) (Fb o)]))]),Hb):=by
  refine Me (Fe (af rfl rfl rfl) rfl) ?_
  by_cases q:st=o
  ·rw[decide_eq_true q,if_pos q];rfl
  ·rw[decide_eq_false q,if_neg q]
   exact(Bc (Aj (me rfl (zd (cl rfl rfl rfl rfl (ke rfl (decide_eq_true h)))) (rJ H)))).trans rfl
 have c2:Kc (uc P0 F 57) [.ifs (.fc (.mc .NotEq (.Jb 1) (.Jb 2))) [.expr (.qc .append (.Jb 3) [(.Oc (.Jb 0) (.Jb 1) (.Jb 2) .none)])] [],.asg (.Jb 1) (.cc .Add (.Jb 4) (.int 1)),.asg (.Jb 2) .none] (L5 x st (.int o) (Fb (.int p)) (Fb (.str [34]))) [(Ib,md a)]=Fb ((.next,L5 x (p+1) .none (Fb (.int p)) (Fb (.str [34])),[(Ib,md (if st=o then a else a++[sl x (Fb st) (Fb o)]))]),Hb):=(Bc c).trans rfl;have C:uc P0 F 58 (.ifs (.fc (.mc .Is (.Jb 2) .none)) [.asg (.Jb 2) (.Jb 4)] [.ifs (.fc (.mc .NotEq (.Jb 1) (.Jb 2))) [.expr (.qc .append (.Jb 3) [(.Oc (.Jb 0) (.Jb 1) (.Jb 2) .none)])] [],.asg (.Jb 1) (.cc .Add (.Jb 4) (.int 1)),.asg (.Jb 2) .none]) (L5 x st (.int o) (Fb (.int p)) (Fb (.str [34]))) [(Ib,md a)]=_:=Me rfl ((if_neg (by decide)).trans c2);exact(Bc (Me rfl ((if_pos rfl).trans ((Bc C).trans rfl)))).trans rfl
theorem IM(l:ba)(n:Nat)(h:∀s∈l,s.length<=n):(l.map (·.length)).sum<=l.length*n:=by
 induction l with
 |nil=>exact ah _|cons x r I=>
  have H:=h x Fd;have j:=I λs A=>h s (Ee _ A);rw[rh,List.sum_cons,xj,aB,Rk];exact Qk j H
theorem d3(H:x.length<=300)(o:R.2.length<=301)(O:∀s∈R.2,s.length<=x.length):((Xo x R).map (·.length)).sum<=1000000:=by
 have h:(Xo x R).length<=302/\∀s∈Xo x R,s.length<=300:=by
  unfold Xo
  by_cases q:R.1<(x.length:Int)
  ·rw[if_pos q,Pd]
   exact⟨Ng o,λs A=>(List.mem_append.mp A).elim (λh=>dc (O s h) H) λh=>by rw[List.mem_singleton.mp h];exact dc (OM ..) H⟩
  ·rw[if_neg q,ng]
   exact⟨Xm o,λs h=>dc (O s h) H⟩
 exact dc (IM _ 300 h.2) (dc (lu 300 h.1) (by decide))
inductive Tz(x:ca)(R:Int×ba)(k:Nat):Loc->Hp->Prop
 |mk{st:Int}{op:Option Int}{acc:ba}{y z:Option PV}(hl:acc.length<=k)(iQ:Oe x ((Gc x 0 Ib).drop k) st op acc=R):Tz x R k (L5 x st (ZE op) y z) [(Ib,md acc)]
inductive Vz(x:ca)(R:Int×ba):Fl->Loc->Hp->Prop
 |mk{op:PV}{y z:Option PV}:Vz x R .next (L5 x R.1 op y z) [(Ib,md R.2)]
theorem J8(F:Dc)(N:x.length<=300):Rf (forLoop (λl a=>Kc (uc P0 F 59) Sy l a) (.Sb [(.Jb 4),(.Jb 5)]) ((Gc x 0 Ib).length+1) (.Lb (Gc x 0 Ib)) (L5 x 0 .none Gb Gb) [(Ib,md [])]) (Vz x (Oe x (Gc x 0 Ib) 0 Gb [])):=by
 have Y:=dc (Uu x 0 Ib) (Ng N);refine Qm (Tz x (Oe x (Gc x 0 Ib) 0 Gb [])) (Vz x _) (λk l a J=>Il _ a k) ?_ ?_ _ 0 _ _ _ (Ii _) (Af _) (.mk (acc:=[]) (Ed _) rfl)
 ·intro k v l a Q A
  obtain⟨p,c,rfl⟩:=zu x 0 Ib v (bh Q);obtain⟨C,I⟩:=List.getElem?_eq_some_iff.mp Q;generalize Oe x (Gc x 0 Ib) 0 Gb []=R at A⊢
  induction A using Tz.casesOn with|@mk st op j y z H h=>_
  rw[dn C,I,zB] at h;have O:He 6 (.Sb [(.Jb 4),(.Jb 5)]) (.Sb [.int p,.str c]) (L5 x st (ZE op) y z)=Fb (L5 x st (ZE op) (Fb (.int p)) (Fb (.str c))):=rfl
  by_cases q:c=[34]
  ·rw[if_pos q] at h
   rw[q] at O;rw[q];rcases op with J|o
   ·exact .next O (rU F) (.mk (Xm H) h)
   ·refine .next O (sT F (dc N (by decide)) (dc (Ng (dc H (dc (Df C) Y))) (by decide))) (.mk ?_ h)
    by_cases T:st=o
    ·rw[if_pos T];exact Xm H
    ·rw[if_neg T,Pd];exact Ng H
  ·rw[if_neg q] at h
   exact .next O (BZ F q) (.mk (Xm H) h)
 ·intro l a A
  generalize Oe x (Gc x 0 Ib) 0 Gb []=R at A⊢
  induction A using Tz.casesOn with|@mk st op j y z H h=>_
  rw[mH] at h;rw[<-h];exact .mk
theorem L_(F:Dc)(C:F.gen=Vo)(e:vq a I=Fb ((r,b),Hb)):a.length=1/\Hd P0 F 60 mE 8 a I=Fb ((r,b),Hb):=by
 refine pk e λx l Q e=>sf e λT e=>sf e λY e=>iT e λH w=>?_;subst T Q Y;rw[<-jc w];refine⟨rfl,?_⟩;have t:ud (Yb P0 F 60) [Fb (.str x),Gb,Gb,Gb,Gb,Gb,Gb,Gb] (.fc (.mc .NotIn (.str [34]) (.Jb 0))) []=Fb ((!decide (34∈x),[]),Hb):=Fe (af rfl rfl rfl) rfl;unfold Co
 by_cases N:34∈x
 ·rw[decide_eq_true N,if_pos rfl,if_pos rfl]
  rw[decide_eq_true N] at t;have o:=IT x (Gc x 0 Ib) 0 Gb [] (sq x 0 Ib).2 λK h=>nomatch h;have O:=dc o.1 (by rw[gm,Ii];exact dc (Uu x 0 Ib) (Ng H));have A:=J8 F H;show _=Fb ((PV.str (Xo x (Oe x (Gc x 0 Ib) 0 Gb [])).flatten,_),Hb);have J:=o.2;generalize Oe x (Gc x 0 Ib) 0 Gb []=R at O J A⊢;have B:x.length<=1000000:=dc H (by decide)
  induction A using Rf.casesOn with|@mk f j U hw L=>_
  induction L using Vz.casesOn with|@mk op y z=>_
  have s:Jf F (Yb P0 F 60) (L5 x 0 .none Gb Gb) (.Sb [(.Jb 4),(.Jb 5)]) (.fn 4 [(.Jb 0)]) [(Ib,md [])]=Fb ((.Lb (Gc x 0 Ib),[(Ib,md [])]),Hb):=by
   rcases F with⟨fn,gen⟩;refine Jg (show gen=Vo from C) ?_
   rfl
  have m:uc P0 F 60 (.ifs (.fc (.mc .Lt (.Jb 1) (.oc .len [(.Jb 0)]))) [.expr (.qc .append (.Jb 3) [(.Oc (.Jb 0) (.Jb 1) .none .none)])] []) (L5 x R.1 op y z) [(Ib,md R.2)]=
    Fb ((.next,L5 x R.1 op y z,[(Ib,md (Xo x R))]),Hb):=by
   refine Me (Fe (af rfl (Vh (by decide) (zd rfl) (ke rfl (decide_eq_true B))) rfl) rfl) ?_;unfold Xo
   by_cases q:R.1<(x.length:Int)
   ·rw[decide_eq_true q,if_pos q]
    exact(Bc (Aj (me rfl (zd (cl rfl rfl rfl rfl (ke rfl (decide_eq_true B)))) (rJ (dc (Ng O) (by decide)))))).trans rfl
   ·rw[decide_eq_false q,if_neg q,ng];rfl
  exact Uh ((Bc (Me t rfl)).trans ((Bc rfl).trans ((Bc rfl).trans ((Bc rfl).trans ((Bc (Kl s rfl hw)).trans ((Bc m).trans (qk (js (me rfl rfl (B1 (d3 H O J))))))))))) (.inl rfl)
 ·rw[decide_eq_false N]
  rw[decide_eq_false N] at t;exact Uh (qk (Me t rfl)) (.inl rfl)
noncomputable def qj:List PV->Int->Bool
 |[],n=>decide (n=0)|v::r,n=>match v with
  |.Sb [.int _,.str c]=>if c=[40] then qj r (n+1) else if c=[41] then(if n-1<0 then Ib else qj r (n-1)) else qj r n|_=>Ib
noncomputable def vj(x:ca):Bool:=qj (Gc (Co x) 0 Ib) 0
theorem MJ:qj (.Sb [.int p,.str c]::r) n=if c=[40] then qj r (n+1) else if c=[41] then(if n-1<0 then Ib else qj r (n-1)) else qj r n:=rfl
noncomputable def Nj:Spec:=λa C=>Wj a λx l=>df l (df C (if x.length<=300 then Fb ((.bool (vj x),[]),Hb) else Gb))
noncomputable def Fv:List S:=[.ifs (.fc (.mc .Eq (.Jb 3) (.str [40]))) [.aug 1 .Add (.int 1)] [.ifs (.fc (.mc .Eq (.Jb 3) (.str [41]))) [.aug 1 .Sub (.int 1),.ifs (.fc (.mc .Lt (.Jb 1) (.int 0))) [.ret (.bool Ib)] []] []]]
noncomputable def L6(z:ca)(n:Int)(y w:Option PV):Loc:=[Fb (.str z),Fb (.int n),y,w,Gb,Gb]
section
variable(F:Dc)
theorem mP:uc P0 F 57 (.ifs (.fc (.mc .Lt (.Jb 1) (.int 0))) [.ret (.bool Ib)] []) (L6 z n y w) []=Fb ((if n<0 then Fl.ret (.bool Ib) else .next,L6 z n y w,[]),Hb):=by
 refine Me (Fe (af rfl rfl rfl) rfl) ?_
 by_cases q:n<0
 ·rw[decide_eq_true q,if_pos q];rfl
 ·rw[decide_eq_false q,if_neg q];rfl
theorem r8:Kc (uc P0 F 59) Fv (L6 z n (Fb (.int p)) (Fb (.str [40]))) []=Fb ((.next,L6 z (n+1) (Fb (.int p)) (Fb (.str [40])),[]),Hb):=rfl
theorem x8(q:n-1<0):Kc (uc P0 F 59) Fv (L6 z n (Fb (.int p)) (Fb (.str [41]))) []=Fb ((.ret (.bool Ib),L6 z (n-1) (Fb (.int p)) (Fb (.str [41])),[]),Hb):=by
 have c:=mP F (z:=z) (n:=n-1) (y:=Fb (.int p)) (w:=Fb (.str [41]));rw[if_pos q] at c;have c2:Kc (uc P0 F 57) [.aug 1 .Sub (.int 1),.ifs (.fc (.mc .Lt (.Jb 1) (.int 0))) [.ret (.bool Ib)] []] (L6 z n (Fb (.int p)) (Fb (.str [41]))) []=_:=(Bc rfl).trans (qk c);exact qk (Me (b:=Ib) (Od:=[]) rfl ((if_neg (by decide)).trans (qk (Me (b:=Hb) (Od:=[]) rfl ((if_pos rfl).trans c2)))))
theorem O6(q:¬n-1<0):Kc (uc P0 F 59) Fv (L6 z n (Fb (.int p)) (Fb (.str [41]))) []=Fb ((.next,L6 z (n-1) (Fb (.int p)) (Fb (.str [41])),[]),Hb):=by
 have c:=mP F (z:=z) (n:=n-1) (y:=Fb (.int p)) (w:=Fb (.str [41]));rw[if_neg q] at c;have c2:Kc (uc P0 F 57) [.aug 1 .Sub (.int 1),.ifs (.fc (.mc .Lt (.Jb 1) (.int 0))) [.ret (.bool Ib)] []] (L6 z n (Fb (.int p)) (Fb (.str [41]))) []=Fb ((.next,L6 z (n-1) (Fb (.int p)) (Fb (.str [41])),[]),Hb):=(Bc rfl).trans ((Bc c).trans rfl);have C:Kc (uc P0 F 58) [.ifs (.fc (.mc .Eq (.Jb 3) (.str [41]))) [.aug 1 .Sub (.int 1),.ifs (.fc (.mc .Lt (.Jb 1) (.int 0))) [.ret (.bool Ib)] []] []] (L6 z n (Fb (.int p)) (Fb (.str [41]))) []=Fb ((.next,L6 z (n-1) (Fb (.int p)) (Fb (.str [41])),[]),Hb):=(Bc (Me rfl ((if_pos rfl).trans c2))).trans rfl;exact(Bc (Me (b:=Ib) rfl ((if_neg (by decide)).trans C))).trans rfl
theorem H5(q:c≠[40])(Q:c≠[41]):Kc (uc P0 F 59) Fv (L6 z n y (Fb (.str c))) []=Fb ((.next,L6 z n y (Fb (.str c)),[]),Hb):=by
 have C:Kc (uc P0 F 58) [.ifs (.fc (.mc .Eq (.Jb 3) (.str [41]))) [.aug 1 .Sub (.int 1),.ifs (.fc (.mc .Lt (.Jb 1) (.int 0))) [.ret (.bool Ib)] []] []] (L6 z n y (Fb (.str c))) []=Fb ((.next,L6 z n y (Fb (.str c)),[]),Hb):=
  (Bc (Me (Fe (af rfl rfl rfl) rfl) (by rw[decide_eq_false Q];rfl))).trans rfl
 exact(Bc (Me (Fe (af rfl rfl rfl) rfl) (by rw[decide_eq_false q];exact C))).trans rfl
end
inductive Wz(z:ca)(R:Bool)(k:Nat):Loc->Hp->Prop
 |mk{n:Int}{y w:Option PV}(h:qj ((Gc z 0 Ib).drop k) n=R):Wz z R k (L6 z n y w) []
inductive Jw(z:ca)(R:Bool):Fl->Loc->Hp->Prop
 |next{n:Int}{y w:Option PV}(h:decide (n=0)=R):Jw z R .next (L6 z n y w) []
 |ret{L:Loc}(h:Ib=R):Jw z R (.ret (.bool Ib)) L []
theorem W7(F:Dc):Rf (forLoop (λl a=>Kc (uc P0 F 59) Fv l a) (.Sb [(.Jb 2),(.Jb 3)]) ((Gc z 0 Ib).length+1) (.Lb (Gc z 0 Ib)) (L6 z 0 Gb Gb) []) (Jw z (qj (Gc z 0 Ib) 0)):=by
 refine Qm (Wz z (qj (Gc z 0 Ib) 0)) (Jw z _) (λk l a J=>Il _ a k) ?_ ?_ _ 0 _ _ _ (Ii _) (Af _) (.mk rfl)
 ·intro k v l a T A
  obtain⟨p,c,rfl⟩:=zu z 0 Ib v (bh T);obtain⟨C,I⟩:=List.getElem?_eq_some_iff.mp T;generalize qj (Gc z 0 Ib) 0=R at A⊢
  induction A using Wz.casesOn with|@mk n y w h=>_
  rw[dn C,I,MJ] at h;have H:He 6 (.Sb [(.Jb 2),(.Jb 3)]) (.Sb [.int p,.str c]) (L6 z n y w)=Fb (L6 z n (Fb (.int p)) (Fb (.str c))):=rfl
  by_cases q:c=[40]
  ·replace h:=(if_pos q).symm.trans h
   rw[q] at H⊢;exact .next H (r8 F) (.mk h)
  ·replace h:=(if_neg q).symm.trans h
   by_cases Q:c=[41]
   ·rw[if_pos Q] at h
    rw[Q] at H⊢
    by_cases Y:n-1<0
    ·rw[if_pos Y] at h
     exact .ret H (x8 F Y) (.ret h)
    ·rw[if_neg Y] at h
     exact .next H (O6 F Y) (.mk h)
   ·replace h:=(if_neg Q).symm.trans h
    exact .next H (H5 F q Q) (.mk h)
 ·intro l a A
  generalize qj (Gc z 0 Ib) 0=R at A⊢
  induction A using Wz.casesOn with|@mk n y w h=>_
  rw[mH] at h;exact .next h
theorem R3(h:F.gen=Vo):Jf F (Yb P0 F 60) (Fb (.str z)::r) t (.fn 4 [(.Jb 0)]) H=Fb ((.Lb (Gc z 0 Ib),H),Hb):=by
 rcases F with⟨fn,gen⟩;obtain rfl:gen=Vo:=h
 rfl
theorem E9(F:Dc)(y:F.gen=Vo)(h5:F.fn 5=vq)(e:Nj a C=Fb ((r,d),Hb)):a.length=1/\Hd P0 F 60 IE 6 a C=Fb ((r,d),Hb):=by
 refine pk e λx l q e=>sf e λQ e=>sf e λY e=>iT e λN w=>?_;subst Q q Y;rw[<-jc w];refine⟨rfl,?_⟩;have s:uc P0 F 60 (.asg (.Jb 0) (.fn 5 [(.Jb 0)])) [Fb (.str x),Gb,Gb,Gb,Gb,Gb] []=Fb ((.next,[Fb (.str (Co x)),Gb,Gb,Gb,Gb,Gb],[]),Hb):=
  Gf (Ni (vs:=[.str x]) rfl (Pg rfl rfl rfl rfl (by rw[h5];exact if_pos N) rfl rfl)) rfl
 unfold vj;generalize Co x=z at s⊢;have A:=W7 F (z:=z)
 induction A using Rf.casesOn with|@mk f L T hw H=>_
 have b:=Kl (R3 y) rfl hw;generalize qj (Gc z 0 Ib) 0=R at H⊢
 induction H using Jw.casesOn with
 |next h=>
  rw[<-h];exact Uh ((Bc s).trans ((Bc rfl).trans ((Bc b).trans (qk (js (af rfl rfl rfl)))))) (.inl rfl)
 |ret h=>
  rw[<-h];exact Uh ((Bc s).trans ((Bc rfl).trans (qk b))) (.inl rfl)
noncomputable def Ri(x:ca):ca:=if vj x then x else[40,39,39,44,32,39,39,41]
noncomputable def Ms:Spec:=λa C=>Zn a λi y=>if i=0 then df y (xq C λb l y=>df y (if l.length<=100/\l.all (λx=>decide (x.length<=300))=Hb then Fb ((.id 1,[(b,.strs l),(Ib,md (l.map Ri))]),Hb) else Gb)) else Gb
noncomputable def kN:List S:=[.ifs (.dt (.fc (.fn 6 [(.Jb 2)]))) [.asg (.Jb 2) (.str [40,39,39,44,32,39,39,41])] [],.expr (.qc .append (.Jb 1) [(.Jb 2)])]
noncomputable def L7(y:Option PV):Loc:=[Fb (.id 0),Fb (.id 1),y,Gb]
theorem Q4(h:ud I l a H=Fb ((c,N),Hb)):ud I l (.dt a) H=Fb ((!c,N),Hb):=by
 show Rm.bind (ud I l a H) (λv=>Rm.ret (!v.1,v.2))=_;refine(Rm.bd h).trans ?_;rfl
theorem M7(F:Dc)(h:F.fn 6=Nj)(H:x.length<=300)(s:acc.length+1<=1000000):Kc (uc P0 F 59) kN (L7 (Fb (.str x))) [(b,.strs l),(Ib,md acc)]=Fb ((.next,L7 (Fb (.str (Ri x))),[(b,.strs l),(Ib,md (acc++[Ri x]))]),Hb):=by
 have j:uc P0 F 59 (.ifs (.dt (.fc (.fn 6 [(.Jb 2)]))) [.asg (.Jb 2) (.str [40,39,39,44,32,39,39,41])] []) (L7 (Fb (.str x))) [(b,.strs l),(Ib,md acc)]=Fb ((.next,L7 (Fb (.str (Ri x))),[(b,.strs l),(Ib,md acc)]),Hb):=by
  refine Me (Q4 (Fe (Ni rfl (Pg rfl rfl rfl rfl (by rw[h];exact if_pos H) rfl rfl)) rfl)) ?_;unfold Ri;rcases vj x with J|J<;>rfl
 refine(Bc j).trans ((Bc (Aj (me rfl (zd rfl) ?_))).trans rfl);rw[<-uu];exact ke rfl (decide_eq_true (by rw[Au];exact s))
inductive Gw(b:Bool)(l:ba)(k:Nat):Loc->Hp->Prop
 |mk{y:Option PV}:Gw b l k (L7 y) [(b,.strs l),(Ib,md ((l.take k).map Ri))]
inductive jA(b:Bool)(l:ba):Fl->Loc->Hp->Prop
 |mk{y:Option PV}:jA b l .next (L7 y) [(b,.strs l),(Ib,md (l.map Ri))]
theorem N7(F:Dc)(U:F.fn 6=Nj)(z:l.length<=100)(s:l.all (λx=>decide (x.length<=300))=Hb):Rf (forLoop (λL H=>Kc (uc P0 F 59) kN L H) (.Jb 2) (l.length+1) (.Xb 0 0) (L7 Gb) [(b,.strs l),(Ib,md [])]) (jA b l):=by
 have T:(l.map PV.str).length=l.length:=Uc _;refine Qm (Gw b l) (jA b l) (λk L H h=>?_) ?_ ?_ l.length 0 _ _ _ ((Ii _).trans T.symm) (Af _) .mk
 ·induction h using Gw.casesOn with|mk=>exact Bj (c:=.strs l) rfl k
 ·intro k v L H Q h
  replace Q:=(bg).symm.trans Q;obtain⟨x,A,rfl⟩:=Option.map_eq_some_iff.mp Q;obtain⟨C,I⟩:=List.getElem?_eq_some_iff.mp A
  induction h using Gw.casesOn with|@mk y=>_
  have t:=M7 F U (b:=b) (l:=l) (acc:=(l.take k).map Ri) (of_decide_eq_true (List.all_eq_true.mp s x (bh A))) (by rw[Uc,vr];exact dc (Ng (dc (Cx ..) z)) (by decide));have E:(l.take (k+1)).map Ri=(l.take k).map Ri++[Ri x]:=by rw[kH C,ej,I];rfl
  rw[<-E] at t;exact .next (l0:=L7 (Fb (.str x))) rfl t .mk
 ·intro L H h
  rw[T] at h;have e:md (l.map Ri)=md ((l.take l.length).map Ri):=by rw[Ww]
  induction h using Gw.casesOn with|mk=>rw[<-e];exact .mk
theorem X9(F:Dc)(H:F.fn 6=Nj)(e:Ms a C=Fb ((r,d),Hb)):a.length=1/\Hd P0 F 60 qE 4 a C=Fb ((r,d),Hb):=by
 refine yo e λi y q e=>iT e λQ e=>sf e λY e=>Ir e λb l y f e=>sf e λp e=>iT e λh w=>?_;subst Q Y q p f;rw[<-jc w];refine⟨rfl,?_⟩;have x:=N7 F H (b:=b) h.1 h.2
 induction x using Rf.casesOn with|@mk N j T hw L=>_
 induction L using jA.casesOn with|mk=>_
 exact Uh ((Bc rfl).trans ((Bc (Kl (m:=l.length) rfl rfl hw)).trans rfl)) (.inl rfl)
theorem A2:∀n:Nat,n<20->∀a:Nat,a<n->(Ih ((a:Int)+1) (n:Int) 2).map PV.int=(xe ((n-a)/2)).map (λ(j:Nat)=>PV.int ((a+1+2*j:Nat):Int))/\(Ym ((a:Int)+1) (n:Int) 2&&decide (0<=Fi ((a:Int)+1) (n:Int) 2))=Hb:=by
 have key:∀n:Nat,n<20->∀a:Nat,a<n->Ih ((a:Int)+1) (n:Int) 2=(xe ((n-a)/2)).map (λ(j:Nat)=>((a+1+2*j:Nat):Int))/\(Ym ((a:Int)+1) (n:Int) 2&&decide (0<=Fi ((a:Int)+1) (n:Int) 2))=Hb:=by decide+kernel
 intro n h a H;obtain⟨A,k⟩:=key n h a H;exact⟨by rw[A,Yg];rfl,k⟩
noncomputable def nl(text:ba)(a b:Nat):ca:=((text.drop a).take (b+1-a)).flatten
noncomputable def cands(text:ba)(a:Nat):ca:=(xe ((text.length-a)/2)).map λj=>a+1+2*j
noncomputable def rq(text:ba)(a:Nat):Option Nat:=(cands text a).find? λb=>vj (nl text a b)
noncomputable def opens(read:ba):ca:=(xe read.length).filter λk=>decide (read.getD k []=[40])
noncomputable def Dq(a b:Nat):PV:=.Sb [.int ((a:Int)+1),.int ((b:Int)+1)]
noncomputable def jl(text:ba)(a:Nat):List PV:=match rq text a with
 |some b=>[Dq a b]|none=>[]
noncomputable def fg(text:ba):ca->List PV
 |[]=>[]|a::r=>jl text a++fg text r
noncomputable def be(b B:Bool)(text read:ba)(a:List PV):Hp:=[(b,.strs text),(B,.strs read),(Ib,.Lb a)]
noncomputable def Kg(x y z:Option PV):Loc:=[Fb (.id 0),Fb (.id 1),Fb (.id 2),x,y,z,Gb,Gb,Gb]
noncomputable def Es:Spec:=λa C=>Zn a λi l=>if i=0 then Zn l λj l=>if j=1 then df l (xq C λb text l=>xq l λB read l=>df l (if(text.length=read.length/\text.length<20/\text.length≠0)/\text.all (λx=>decide (x.length<=10))=Hb then Fb ((.id 2,be b B text read (fg text (opens read))),Hb) else Gb)) else Gb else Gb
noncomputable def py:List S:=[.asg (.Jb 5) (.fn 6 [(.qc .join (.str []) [(.Oc (.Jb 0) (.Jb 3) (.cc .Add (.Jb 4) (.int 1)) .none)])]),.ifs (.fc (.mc .Is (.Jb 5) (.bool Hb))) [.expr (.qc .append (.Jb 2) [(.Sb [(.cc .Add (.Jb 3) (.int 1)),(.cc .Add (.Jb 4) (.int 1))])]),.brk] [],.ifs (.fc (.mc .IsNot (.Jb 5) (.bool Ib))) [.ret (.Xb [])] []]
noncomputable def HL:List S:=[.Uf (.Jb 4) (.oc .range [(.cc .Add (.Jb 3) (.int 1)),(.oc .len [(.Jb 0)]),(.int 2)]) py]
theorem CY{text:ba}(h:text.all (λx=>decide (x.length<=10))=Hb)(H:text.length<20)(a b:Nat):(((text.drop a).take (b+1-a)).map (·.length)).sum<=200:=by
 refine dc (IM _ 10 λs A=>of_decide_eq_true (List.all_eq_true.mp h s (List.mem_of_mem_drop (ZG A)))) ?_;rw[vr,ex];exact lu 10 (dc (Cx ..) (dc (Xk ..) (Df H)))
theorem L2{α:Type}(l:List α)(H:a<=b)(h:b<l.length):pick l (Fb (a:Int)) (Fb ((b:Int)+1)) Gb=(l.drop a).take (b+1-a):=by
 rw[Np];have e:Ip (Fb (a:Int)) l.length=a:=by unfold Ip;simp only;refine(if_neg (by simp)).trans ?_;exact cx (Df (Nf H h))
 have E:rn (Fb ((b:Int)+1)) l.length=b+1:=by unfold rn;simp only;refine(if_neg (by exact Int.not_lt.mpr (qr _))).trans ?_;exact cx h
 rw[e,E]
theorem pK(h:I s l H=Fb ((.brk,L,T),Hb)):Kc I (s::r) l H=Fb ((.brk,L,T),Hb):=by
 show Rm.bind (I s l H) _=_;refine(Rm.bd h).trans ?_;rfl
section
variable(F:Dc)
theorem AJ{read:ba}{b:Nat}(H:F.fn 6=Nj)(h:text.length<20)(s:text.all (λx=>decide (x.length<=10))=Hb)(G:a<=b)(O:b<text.length):
  uc P0 F 58 (.asg (.Jb 5) (.fn 6 [(.qc .join (.str []) [(.Oc (.Jb 0) (.Jb 3) (.cc .Add (.Jb 4) (.int 1)) .none)])])) (Kg (Fb (.int a)) (Fb (.int b)) y) (be b1 b2 text read acc)=Fb ((.next,Kg (Fb (.int a)) (Fb (.int b)) (Fb (.bool (vj (nl text a b)))),be b1 b2 text read acc),Hb):=by
 have c:=CY s h a b;have e:kl (.id 0) (.int (a:Int)) (.int ((b:Int)+1)) .none Ib (be b1 b2 text read acc)=Fb ((.Mb (.strs ((text.drop a).take (b+1-a))),be b1 b2 text read acc),Hb):=by
  rw[<-L2 text G O];exact ke rfl (by rw[decide_eq_true (show(Cell.strs text).len<=ic from dc (Df h) (by decide))];rfl)
 have E:Te P0 F .join (.str []) [.Mb (.strs ((text.drop a).take (b+1-a)))] Hb (be b1 b2 text read acc)=Fb ((.str (nl text a b),be b1 b2 text read acc),Hb):=by
  unfold nl;rw[<-Lr];exact ke rfl (decide_eq_true (by rw[gm,ZA];exact dc c (by decide)))
 exact Gf (Ni (zd (me rfl (zd (cl rfl rfl rfl rfl e)) E))
  (Pg rfl rfl rfl rfl (by rw[H];exact if_pos (by unfold nl;rw[SA];exact dc c (by decide))) rfl rfl)) rfl
theorem SW{read:ba}(h:F.fn 6=Nj)(H:text.length<20)(t:text.all (λx=>decide (x.length<=10))=Hb)(G:a<=b)(O:b<text.length)(Q:A.length<=100)(d:vj (nl text a b)=Hb):
  Kc (uc P0 F 58) py (Kg (Fb (.int a)) (Fb (.int b)) y) (be B w text read A)=Fb ((.brk,Kg (Fb (.int a)) (Fb (.int b)) (Fb (.bool Hb)),be B w text read (A++[Dq a b])),Hb):=by
 have s:=AJ F (acc:=A) (read:=read) (y:=y) (b1:=B) (b2:=w) h H t G O;rw[d] at s;have I:(Cell.Lb A).push (Dq a b)=.Lb (A++[Dq a b]):=by rcases A with J|J<;>rfl
 have m:Te P0 F .append (.id 2) [Dq a b] Ib (be B w text read A)=Fb ((.none,be B w text read (A++[Dq a b])),Hb):=by
  unfold be;rw[<-I];exact ke rfl (decide_eq_true (dc (Ng Q) (by decide)))
 have j:Kc (uc P0 F 57) [.expr (.qc .append (.Jb 2) [(.Sb [(.cc .Add (.Jb 3) (.int 1)),(.cc .Add (.Jb 4) (.int 1))])]),.brk] (Kg (Fb (.int a)) (Fb (.int b)) (Fb (.bool Hb))) (be B w text read A)=Fb ((.brk,Kg (Fb (.int a)) (Fb (.int b)) (Fb (.bool Hb)),be B w text read (A++[Dq a b])),Hb):=
  (Bc (Aj (me rfl (zd rfl) m))).trans rfl
 exact(Bc s).trans (pK (Me (b:=Hb) (Od:=be B w text read A) rfl ((if_pos rfl).trans j)))
theorem GZ{read:ba}(h:F.fn 6=Nj)(H:text.length<20)(t:text.all (λx=>decide (x.length<=10))=Hb)(G:a<=b)(O:b<text.length)(d:vj (nl text a b)=Ib):
  Kc (uc P0 F 58) py (Kg (Fb (.int a)) (Fb (.int b)) y) (be B w text read A)=Fb ((.next,Kg (Fb (.int a)) (Fb (.int b)) (Fb (.bool Ib)),be B w text read A),Hb):=by
 have s:=AJ F (acc:=A) (read:=read) (y:=y) (b1:=B) (b2:=w) h H t G O;rw[d] at s;exact(Bc s).trans rfl
end
noncomputable def te(a:da):Cell:=if a=[] then .Lb [] else .ints a
theorem qI(a:da)(s:Int):(te a).push (.int s)=te (a++[s]):=by
 unfold te;rcases a with J|J<;>rfl
theorem ZH(a:da):(te a).toList=a.map PV.int:=by
 unfold te;rcases a with J|J<;>rfl
theorem RB(f:Nat->Int){out:Nat->PV}:∀(I:ca)(A:da),(∀i∈I,out i=.int (f i))->I.foldl (λa i=>a.push (out i)) (te A)=te (A++I.map f)
 |[],A,_=>by rw[nH,ng];rfl
 |i::r,A,h=>by
  refine List.foldl_cons.trans ?_;rw[h i Fd,qI,RB f r _ λj H=>h j (Ee _ H),Sh]
  rfl
theorem wJ(f:Nat->ca){out:Nat->PV}:∀(I:ca)(A:ba),(∀i∈I,out i=.str (f i))->I.foldl (λa i=>a.push (out i)) (md A)=md (A++I.map f)
 |[],A,_=>by rw[nH,ng];rfl
 |i::r,A,h=>by
  refine List.foldl_cons.trans ?_;rw[h i Fd,uu,wJ f r _ λj H=>h j (Ee _ H),Sh]
  rfl
theorem qM(H:Bi v=Fb (I,Hb))(h:m=Fb ((v,N),Hb)):Rm.bind m (λx=>Rm.bind (Bi x.1) λi=>Rm.ret (i,x.2))=Fb ((I,N),Hb):=by
 rw[Rm.bd h,Rm.bd H];rfl
theorem PK{f:Nat->Int}(h:((xe n).map λj=>PV.int (f j))[k]?=Fb v):k<n/\v=.int (f k):=by
 replace h:=(bg).symm.trans h;obtain⟨G,C,rfl⟩:=Option.map_eq_some_iff.mp h;obtain⟨H,q⟩:=List.getElem?_eq_some_iff.mp C;rw[tR] at q;rw[El] at H;exact⟨H,by rw[q]⟩
inductive Zz(b1 b2:Bool)(text read:ba)(a:Nat)(acc:List PV)(k:Nat):Loc->Hp->Prop
 |mk{y z:Option PV}(h:((cands text a).take k).find? (λb=>vj (nl text a b))=Gb):Zz b1 b2 text read a acc k (Kg (Fb (.int a)) y z) (be b1 b2 text read acc)
inductive bp(b1 b2:Bool)(text read:ba)(a:Nat)(acc:List PV):Fl->Loc->Hp->Prop
 |mk{y z:Option PV}:bp b1 b2 text read a acc .next (Kg (Fb (.int a)) y z) (be b1 b2 text read (acc++jl text a))
theorem XT(F:Dc)(Q:F.fn 6=Nj){text read:ba}(C:text.length<20)(s:text.all (λx=>decide (x.length<=10))=Hb)(V:A.length<=100):
  Rf (forLoop (λl h=>Kc (uc P0 F 58) py l h) (.Jb 4) ((text.length-a)/2+1) (.Lb ((xe ((text.length-a)/2)).map (λ(j:Nat)=>PV.int ((a+1+2*j:Nat):Int)))) (Kg (Fb (.int a)) y z) (be b1 b2 text read A)) (bp b1 b2 text read a A):=by
 have T:((xe ((text.length-a)/2)).map (λ(j:Nat)=>PV.int ((a+1+2*j:Nat):Int))).length=(text.length-a)/2:=(Uc _).trans El;refine Qm (Zz b1 b2 text read a A) (bp b1 b2 text read a A) (λk l h J=>Il _ h k) ?_ ?_ _ 0 _ _ _ ((Ii _).trans T.symm) (Af _) (.mk rfl)
 ·intro k v l h Y B
  obtain⟨D,rfl⟩:=PK Y;have N:(cands text a)[k]?=Fb (a+1+2*k):=by
   unfold cands;refine(bg).trans ?_;rw[List.getElem?_range D];rfl
  induction B using Zz.casesOn with|@mk y z H=>_
  obtain⟨t,b⟩:=BH N H;have q:=by exact dc (Df Nat.le.refl) (wl a.succ (2*k))
  have U:a+1+2*k<text.length:=by lia
  cases d:vj (nl text a (a+1+2*k)) with
  |true=>
   have e:bp b1 b2 text read a A .next (Kg (Fb (.int a)) (Fb (.int ((a+1+2*k:Nat):Int))) (Fb (.bool Hb))) (be b1 b2 text read (A++jl text a)):=.mk
   unfold jl at e;rw[show rq text a=Fb (a+1+2*k) from t d] at e;exact .brk rfl (SW F Q C s q U V d) e
  |false=>exact .next rfl (GZ F Q C s q U d) (.mk (b d))
 ·intro l h B
  induction B using Zz.casesOn with|@mk y z H=>_
  have e:bp b1 b2 text read a A .next (Kg (Fb (.int a)) y z) (be b1 b2 text read (A++jl text a)):=.mk
  rw[T,<-show(cands text a).length=_ from(Uc _).trans El,Ww] at H;unfold jl at e;rw[show rq text a=Gb from H,ng] at e;exact e
theorem zS(F:Dc)(H:F.fn 6=Nj){text read:ba}(h:text.length<20)(s:text.all (λx=>decide (x.length<=10))=Hb)(k:a<text.length)(Q:acc.length<=100):
  Rf (Kc (uc P0 F 59) HL (Kg (Fb (.int a)) y z) (be b1 b2 text read acc)) (bp b1 b2 text read a acc):=by
 obtain⟨r1,r2⟩:=A2 text.length h a k;have e:Yb P0 F 58 (.oc .len [(.Jb 0)]) Ib (Kg (Fb (.int a)) y z) (be b1 b2 text read acc)=Fb ((.int (text.length:Int),be b1 b2 text read acc),Hb):=Vh (by decide) (zd rfl) (ke (q:=decide (text.length<=ic)) rfl (decide_eq_true (dc (Df h) (by decide))));have E:Yb P0 F 59 (.oc .range [(.cc .Add (.Jb 3) (.int 1)),(.oc .len [(.Jb 0)]),(.int 2)]) Ib (Kg (Fb (.int a)) y z) (be b1 b2 text read acc)=Fb ((.ag ((a:Int)+1) (text.length:Int) 2,be b1 b2 text read acc),Hb):=
  Vh (by decide) (Le (Od:=be b1 b2 text read acc) rfl (Le e (zd rfl)))
   (ke rfl (by rw[show vA ((text.length:Int)-((a:Int)+1)) 2=Ib from OK (by decide)];rfl))
 have w:=XT F H (a:=a) (read:=read) (y:=y) (z:=z) (b1:=b1) (b2:=b2) h s Q
 induction w using Rf.casesOn with|@mk f l T hw L=>_
 induction L using bp.casesOn with|@mk Y b=>_
 exact⟨(Bc (Kl (ef:=.Lb ((xe ((text.length-a)/2)).map (λ(j:Nat)=>PV.int ((a+1+2*j:Nat):Int)))) (src_range E (by show Fb (Ic.Lb _,_&&_)=_;rw[r1,r2])) ((Uc _).trans El) hw)).trans rfl,.mk⟩
theorem hJ(text:ba):∀a b:ca,fg text (a++b)=fg text a++fg text b
 |[],b=>rfl|x::a,b=>by
  show _++fg text (a++b)=(_++fg text a)++fg text b;rw[hJ text a b,Sh]
theorem QU(text:ba)(a:Nat):(jl text a).length<=1:=by
 unfold jl;rcases rq text a with J|J
 ·exact ah _
 ·exact Ed _
theorem pairs_len(text:ba):∀a:ca,(fg text a).length<=a.length
 |[]=>Ed _|x::a=>by
  show(jl text x++fg text a).length<=a.length+1;rw[Pd,Rk];exact Qk (pairs_len text a) (QU text x)
inductive Dz(b1 b2:Bool)(text read:ba)(k:Nat):Loc->Hp->Prop
 |mk{x y z:Option PV}:Dz b1 b2 text read k (Kg x y z) (be b1 b2 text read (fg text ((opens read).take k)))
inductive Lz(b1 b2:Bool)(text read:ba):Fl->Loc->Hp->Prop
 |mk{x y z:Option PV}:Lz b1 b2 text read .next (Kg x y z) (be b1 b2 text read (fg text (opens read)))
theorem F6(F:Dc)(U:F.fn 6=Nj){text read:ba}(B:text.length=read.length)(C:text.length<20)(s:text.all (λx=>decide (x.length<=10))=Hb):
  Rf (forLoop (λL H=>Kc (uc P0 F 59) HL L H) (.Jb 3) ((opens read).length+1) (.Lb ((opens read).map λ(k:Nat)=>PV.int (k:Int))) (Kg Gb Gb Gb) (be b1 b2 text read [])) (Lz b1 b2 text read):=by
 have T:((opens read).map λ(k:Nat)=>PV.int (k:Int)).length=(opens read).length:=Uc _;have V:(opens read).length<=20:=dc (sx ..) (by rw[El,<-B];exact Df C);refine Qm (Dz b1 b2 text read) (Lz b1 b2 text read) (λk L H J=>Il _ H k) ?_ ?_ _ 0 _ _ _ ((Ii _).trans T.symm) (Af _) .mk
 ·intro k v L H Q A
  replace Q:=(bg).symm.trans Q;obtain⟨a,D,rfl⟩:=Option.map_eq_some_iff.mp Q;obtain⟨I,q⟩:=List.getElem?_eq_some_iff.mp D;have f:a<text.length:=by rw[B];exact List.mem_range.mp (List.mem_filter.mp (bh D)).1
  induction A using Dz.casesOn with|@mk x y z=>_
  have w:=zS F U (read:=read) (acc:=fg text ((opens read).take k)) (y:=y) (z:=z) (b1:=b1) (b2:=b2) C s f (dc (pairs_len ..) (by rw[vr];exact dc (Cx ..) (dc V (by decide))));have e:fg text ((opens read).take (k+1))=fg text ((opens read).take k)++jl text a:=by
   rw[kH I,hJ,q];exact congrArg (_++·) (ng _)
  induction w using Rf.casesOn with|@mk N l h E j=>_
  induction j using bp.casesOn with|@mk Y b=>_
  rw[<-e] at E;exact .next (l0:=Kg (Fb (.int a)) y z) rfl E .mk
 ·intro L H A
  rw[T] at A;have e:fg text (opens read)=fg text ((opens read).take (opens read).length):=by rw[Ww]
  induction A using Dz.casesOn with|@mk x y z=>_
  rw[<-e];exact .mk
theorem Y7(F:Dc)(Q:F.fn 6=Nj)(e:Es A I=Fb ((r,b),Hb)):A.length=2/\Hd P0 F 60 cE 9 A I=Fb ((r,b),Hb):=by
 refine yo e λi y o e=>iT e λU e=>yo e λj z Y e=>iT e λf e=>sf e λs e=>Ir e λb1 text y B e=>Ir e λb2 read z J e=>sf e λt e=>iT e λN w=>?_;subst U f s Y o t J B;obtain⟨⟨h,H,K⟩,u⟩:=N;rw[<-jc w];refine⟨rfl,?_⟩;obtain⟨r1,r2⟩:=NB text.length (Nat.lt_trans H (by decide));have C:text.length<=1000000:=dc (Df H) (by decide);have E:Yb P0 F 59 (.oc .range [(.oc .len [(.Jb 0)])]) Ib (Kg Gb Gb Gb) (be b1 b2 text read [])=Fb ((.ag 0 (text.length:Int) 1,be b1 b2 text read []),Hb):=
  Vh (by decide) (zd (Vh (by decide) (zd rfl) (ke (a:=(.int (text.length:Int),be b1 b2 text read [])) rfl (decide_eq_true C)))) rfl
 have hw:=Rp (rE:=Yb P0 F 59) (Sd:=.Jb 1) (Nb:=.Jb 1) (cond:=Fb (.fc (.mc .Eq (.sub (.Jb 2) (.Jb 1)) (.str [40])))) (hp:=be b1 b2 text read []) (Il _ _) (λl=>∃p q,l=[p,q,Fb (.id 1)])
  (λk=>decide (read.getD k []=[40])) (λk=>.int (k:Int)) (λk v l V G=>by
   obtain⟨p,q,rfl⟩:=G;obtain⟨D,rfl⟩:=PK V;refine⟨[p,Fb (.int (k:Int)),Fb (.id 1)],rfl,⟨_,_,rfl⟩,?_,λK=>rfl⟩;exact Fe (af (vk rfl rfl (Bn (c:=.strs read) rfl (by rw[h] at D;exact D) (by rw[h] at C;exact C) rfl)) rfl rfl) rfl)
  text.length 0 (text.length+1) [Gb,Gb,Fb (.id 1)] (.Lb []) ((Uc _).trans El) ⟨_,_,rfl⟩ (Af _) (ah _) (by show 0+text.length<=1000000;rw[Ii];exact C)
 have T:=RB (λk=>(k:Int)) ((Gp 0 text.length).filter λk=>decide (read.getD k []=[40])) [] λK K=>rfl;rw[show te []=Cell.Lb [] from rfl] at T;rw[T,iu,<-oH] at hw;have d:Yb P0 F 60 (.comp (.Jb 1) (.Jb 1) (.oc .range [(.oc .len [(.Jb 0)])]) (Fb (.fc (.mc .Eq (.sub (.Jb 2) (.Jb 1)) (.str [40])))) [Gb,Gb,Fb 1]) Ib (Kg Gb Gb Gb) (be b1 b2 text read [])=Fb ((.Mb (te ((opens read).map λ(k:Nat)=>(k:Int))),be b1 b2 text read []),Hb):=
  nk (ef:=.Lb ((xe text.length).map (λ(k:Nat)=>PV.int (k:Int)))) (src_range E (by show Fb (Ic.Lb _,_&&_)=_;rw[r1,r2])) ((Uc _).trans El) hw (by unfold opens;rw[<-h];rfl)
 have L:Bi (.Mb (te ((opens read).map λ(k:Nat)=>(k:Int))))=Fb (.Lb ((opens read).map λ(k:Nat)=>PV.int (k:Int)),Hb):=by
  show Fb (Ic.Lb (te _).toList,Hb)=_;rw[ZH,Yg];rfl
 have O:Jf F (Yb P0 F 60) (Kg Gb Gb Gb) (.Jb 3) (.comp (.Jb 1) (.Jb 1) (.oc .range [(.oc .len [(.Jb 0)])]) (Fb (.fc (.mc .Eq (.sub (.Jb 2) (.Jb 1)) (.str [40])))) [Gb,Gb,Fb 1]) (be b1 b2 text read [])=Fb ((.Lb ((opens read).map λ(k:Nat)=>PV.int (k:Int)),be b1 b2 text read []),Hb):=qM L d;have g:=F6 F Q (b1:=b1) (b2:=b2) h H u
 induction g using Rf.casesOn with|@mk fl cf Ac hw m=>_
 induction m using Lz.casesOn with|@mk x y z=>_
 exact Uh ((Bc rfl).trans ((Bc (Kl O (Uc _) hw)).trans rfl)) (.inl rfl)
noncomputable def CR:ca:=[13,10]
noncomputable def Ai:ba:=[[10],[13,10],[13]]
noncomputable def ce(r:List (Nat×ca)):ca:=(r.map λp=>Sk p.1 46++p.2).flatten
def mj(i:Nat)(r:List (Nat×ca)):Prop:=r.length<=i/\∀p∈r,1<=p.1/\p.1<=i/\p.2∈Ai
theorem Dr(p:Nat×ca)(r:List (Nat×ca)):ce (p::r)=Sk p.1 46++(p.2++ce r):=by
 unfold ce;rw[rh,pH,Sh]
theorem UU(c:Nat)(r:ca):Ie (Sk c 46++r)=Sk c 46++Ie r:=by
 induction c with
 |zero=>rfl|succ c I=>rw[qH,TA,XH (by decide) (by decide),I];rfl
theorem DU(h:mj i Q):∀y,ce Q≠10::y:=by
 intro y e
 induction Q using xc with
 |nil=>injection e|cons p r=>
  have:=(h.2 p Fd).1;obtain⟨c,H⟩:∃c,p.1=c+1:=⟨p.1-1,by exact(pG this).symm⟩;rw[Dr,H,qH] at e
  cases e
theorem mj.tail(h:mj i (p::r)):mj i r:=⟨by have:=h.1;simp at this;exact Df ‹_›,λq H=>h.2 q (Ee _ H)⟩
theorem dy:∀{Q:List (Nat×ca)},mj i Q->Ie (ce Q)=ce (Q.map λp=>(p.1,CR))
 |[],_=>by unfold ce;rw[nH];rfl
 |p::r,h=>by
  have I:=dy h.tail;rw[Dr,UU,rh,Dr]
  congr 1
  have H:=(h.2 p Fd).2.2;unfold Ai at H;simp only [og,Xd,or_false] at H;rcases H with e|e|e<;>rw[e]
  ·show Ie (10::ce r)=_
   rw[lK,I];rfl
  ·show Ie (13::10::ce r)=_
   rw[iI,I];rfl
  ·show Ie (13::ce r)=_
   refine(RK (DU h.tail)).trans ?_;rw[I];rfl
theorem zU(c:Nat)(r:ca):bi Ib (Sk c 46++r)=Sk c 46++bi Ib r:=by
 induction c with
 |zero=>rfl|succ c I=>
  rw[qH,TA];show 46::bi (46==10) _=_;rw[show((46:Nat)==10)=Ib from rfl,I];rfl
theorem xJ:∀(l:ca),(∀c∈l,1<=c)->bi Hb (ce (l.map λc=>(c,CR)))=ce (l.map λc=>(c+1,CR))
 |[],_=>rfl|c::l,h=>by
  have I:=xJ l λx H=>h x (Ee _ H);have:=h c Fd;obtain⟨k,rfl⟩:∃k,c=k+1:=⟨c-1,by exact(pG this).symm⟩;rw[rh,Dr,rh,Dr];show bi Hb (46::(Sk k 46++_))=_;show 46::46::bi Ib (Sk k 46++(CR++ce (l.map λc=>(c,CR))))=_;rw[zU];show 46::46::(Sk k 46++(13::10::bi Hb (ce (l.map λc=>(c,CR)))))=_;rw[I];simp[qH,CR]
noncomputable def quot(x:ca):ca:=bi Hb (Ie x)
theorem JU(h:mj i r):quot (ce r)=ce (r.map λp=>(p.1+1,CR)):=by
 unfold quot;rw[dy h];have:=xJ (r.map (·.1)) (λc H=>by
  obtain⟨p,a,rfl⟩:=List.mem_map.mp H;exact(h.2 p a).1)
 rw[Yg,Yg] at this;exact this
theorem LC:∀{Iz:List (Nat×ca)},(∀p∈Iz,p.1<=i/\p.2.length<=2)->(ce Iz).length<=Iz.length*(i+2)
 |[],_=>by simp[ce]
 |p::r,h=>by
  have I:=LC λq H=>h q (Ee _ H);obtain⟨A,j⟩:=h p Fd;rw[Dr,Pd,Pd,List.length_replicate,xj,aB];rw[<-bm,Rk];exact Qk I (Qk A j)
theorem mj.len(h:mj i r)(H:i<=100):(ce r).length<=20000:=by
 have A:=LC λp a=>⟨(h.2 p a).2.1,by
  have:=(h.2 p a).2.2;unfold Ai at this;simp only [og,Xd,or_false] at this;rcases this with e|e|e<;>rw[e]<;>decide⟩
 refine dc A ?_;have j:=Nat.mul_le_mul (by have:=h.1;exact dc this H) (by exact Nf (zx H) (rr (Nat.succ 100).succ 0));exact dc ‹_› (by decide)
noncomputable def Ll(r:List (Nat×ca))(foot e:ca):List (Nat×ca):=if foot=[40] then r.map λp=>(p.1+1,CR) else r++[(1,e)]
noncomputable def rowsOf:aa->List (Nat×ca)->List (Nat×ca)
 |[],Q=>Q|p::r,Q=>rowsOf r (Ll Q p.1 p.2)
theorem dT(h:mj i r)(V:e∈Ai):mj (i+1) (Ll r f e):=by
 unfold Ll
 split
 ·refine⟨by rw[Uc];have:=h.1;exact Xm ‹_›,λp H=>?_⟩
  obtain⟨q,N,rfl⟩:=List.mem_map.mp H;have:=h.2 q N;exact⟨by simp,by lia,by unfold CR Ai;simp⟩
 ·refine⟨by rw[Pd,Dl];have:=h.1;exact Ng ‹_›,λp H=>?_⟩
  rcases List.mem_append.mp H with H|H
  ·have:=h.2 p H;exact⟨this.1,by lia,this.2.2⟩
  ·rw[om] at H;refine Jg H ?_;exact⟨Ed _,by simp,V⟩
noncomputable def BD(l:ca)(foot:ca):ca:=if foot=[40] then l.map (·+1) else l++[1]
noncomputable def kz(read:ba):ca:=read.foldl BD []
theorem VJ:∀(x:aa)(Q:List (Nat×ca)),(rowsOf x Q).map (·.1)=(x.map (·.1)).foldl BD (Q.map (·.1))
 |[],Q=>rfl|p::r,Q=>by
  show(rowsOf r (Ll Q p.1 p.2)).map (·.1)=_;rw[VJ r,rh,zA]
  congr 1
  unfold Ll BD
  split
  ·refine List.map_map.trans ?_;rw[Yg];rfl
  ·refine List.map_append.trans ?_;rfl
theorem pu:∀{v:List PV}{l:da},allInts v=Fb l->v=l.map PV.int
 |[],l,e=>by refine lg e ?_;rfl
 |x::r,l,e=>by
  induction x using PV.casesOn with
  |int i=>
   have e:=e;obtain⟨L,h,rfl⟩:=Option.map_eq_some_iff.mp e;rw[pu h];rfl
  |_=>exact nn e
theorem Yr{c:Cell}(h:allInts c.toList=Fb l):c.len=l.length:=by
 rw[Cell.len_eq,pu h,Uc]
theorem N4{c:Cell}(h:allInts c.toList=Fb l)(H:k<l.length):c.getD k=.int (l.getD k 0):=by
 have A:=zI (by rw[Yr h];exact H);rw[pu h,bg,De H] at A;rw[Mg,De H];exact(jc A).symm
noncomputable def mi(q:Int->Bool)(l:da):Nat->Nat->Nat->Nat
 |0,lo,_=>lo|f+1,lo,h=>match fk lo h with
  |true=>match q (l.getD ((lo+h)/2) 0) with
   |true=>mi q l f ((lo+h)/2+1) h|false=>mi q l f lo ((lo+h)/2)
  |false=>lo
noncomputable def Rd(l:da)(x:Int):Nat:=mi (λy=>!decide (x<y)) l 39 0 l.length
noncomputable def Om(l:da)(x:Int):Nat:=mi (λy=>decide (y<x)) l 39 0 l.length
noncomputable def Gk(v:PV)(x:Int)(lo h:Nat)(y:Option PV):Loc:=[Fb v,Fb (.int x),Fb (.int lo),Fb (.int h),Fb .none,y,Gb,Gb]
theorem j7(lo h:Nat):((lo:Int)+(h:Int)).fdiv 2=(((lo+h)/2:Nat):Int):=by
 refine(lH _ (by decide)).trans ?_;lia
theorem V4(h:whileLoop (λl H=>ud (Yb P F (n+1)) l t H) (λl H=>Kc (uc P F n) b l H) 40 l H=r):uc P F (n+1) (.Ok t b) l H=r:=h
theorem OW{f lo H:Nat}(h:lo<H)(N:q (l.getD ((lo+H)/2) 0)=Hb):mi q l (f+1) lo H=mi q l f ((lo+H)/2+1) H:=by
 show(match fk lo H with
  |true=>match q (l.getD ((lo+H)/2) 0) with
   |true=>mi q l f ((lo+H)/2+1) H|false=>mi q l f lo ((lo+H)/2)
  |false=>lo)=_
 rw[show fk lo H=Hb by rw[Gx];exact h,N]
theorem y0{f lo H:Nat}(h:lo<H)(N:q (l.getD ((lo+H)/2) 0)=Ib):mi q l (f+1) lo H=mi q l f lo ((lo+H)/2):=by
 show(match fk lo H with
  |true=>match q (l.getD ((lo+H)/2) 0) with
   |true=>mi q l f ((lo+H)/2+1) H|false=>mi q l f lo ((lo+H)/2)
  |false=>lo)=_
 rw[show fk lo H=Hb by rw[Gx];exact h,N]
theorem S3{f lo H:Nat}(h:¬lo<H):mi q l (f+1) lo H=lo:=by
 show(match fk lo H with
  |true=>match q (l.getD ((lo+H)/2) 0) with
   |true=>mi q l f ((lo+H)/2+1) H|false=>mi q l f lo ((lo+H)/2)
  |false=>lo)=_
 rw[show fk lo H=Ib by rw[<-Bool.not_eq_true,Gx];exact h]
theorem XJ(h:T L H=Fb ((Hb,A),Hb))(O:B L A=Fb ((.next,l,j),Hb)):whileLoop T B (n+1) L H=whileLoop T B n l j:=by
 show Rm.bind (T L H) _=_;refine(Rm.bd h).trans ?_;show Rm.bind (B L A) _=_;exact(Rm.bd O)
theorem JJ(h:T l H=Fb ((Ib,A),Hb)):whileLoop T B (n+1) l H=Fb ((.next,l,A),Hb):=by
 show Rm.bind (T l H) _=_;refine(Rm.bd h).trans ?_;rfl
inductive LF(v:PV)(x:Int)(k:Nat)(hp:Hp):Fl->Loc->Hp->Prop
 |mk{hi:Nat}{y:Option PV}:LF v x k hp .next (Gk v x k hi y) hp
noncomputable def AN(b:Bool)(v:PV)(x:Int)(lo h:Nat):Loc:=match b with
 |true=>Gk v x ((lo+h)/2+1) h (Fb (.int (((lo+h)/2:Nat):Int)))|false=>Gk v x lo ((lo+h)/2) (Fb (.int (((lo+h)/2:Nat):Int)))
theorem vO{lo H:Nat}(h:lo<H):lo<=(lo+H)/2:=(Nat.le_div_iff_mul_le (by decide)).mpr (Nat.mul_two lo▸bk (Df h) lo)
theorem tF{lo H:Nat}(h:lo<H):(lo+H)/2<H:=Nat.div_lt_of_lt_mul (Nat.two_mul H▸Nat.add_lt_add_right h H)
theorem cZ(O:∀lo H y,lo<H->H<=l.length->Kc (uc P0 F 58) A (Gk v x lo H y) a=Fb ((.next,AN (q (l.getD ((lo+H)/2) 0)) v x lo H,a),Hb)):
  ∀(m n lo H:Nat)(y:Option PV),H-lo<=m->m<n->H<=l.length->Rf (whileLoop (λT a=>ud (Yb P0 F 59) T (.fc (.mc .Lt (.Jb 2) (.Jb 3))) a) (λT a=>Kc (uc P0 F 58) A T a) n (Gk v x lo H y) a) (LF v x (mi q l m lo H) a):=by
 intro m
 induction m with
 |zero=>
  intro n lo H y B j Q;rcases n with J|n
  ·exact absurd j (Ut _)
  have D:ud (Yb P0 F 59) (Gk v x lo H y) (.fc (.mc .Lt (.Jb 2) (.Jb 3))) a=Fb ((decide ((lo:Int)<H),a),Hb):=rfl;rw[decide_eq_false (by omega)] at D;exact⟨JJ D,.mk⟩
 |succ m I=>
  intro n lo H y B j Q;rcases n with J|n
  ·exact absurd j (io _)
  have D:ud (Yb P0 F 59) (Gk v x lo H y) (.fc (.mc .Lt (.Jb 2) (.Jb 3))) a=Fb ((decide ((lo:Int)<H),a),Hb):=rfl
  by_cases L:lo<H
  ·have h:=O lo H y L Q
   rw[decide_eq_true (Int.ofNat_lt.mpr L)] at D
   cases N:q (l.getD ((lo+H)/2) 0) with
   |true=>
    rw[N] at h;rw[OW L N];have w:=I n ((lo+H)/2+1) H (Fb (.int (((lo+H)/2:Nat):Int))) (by exact dc (WA (Ng (vO L)) H) (Nat.pred_le_pred B)) (Yt j) Q
    induction w using Rf.casesOn with|mk e s=>exact⟨(XJ D h).trans e,s⟩
   |false=>
    rw[N] at h;rw[y0 L N];have w:=I n lo ((lo+H)/2) (Fb (.int (((lo+H)/2:Nat):Int))) (by exact rG (zl (Nat.sub_lt_sub_right (vO L) (tF L)) B)) (Yt j) (by exact dc (Df (tF L)) Q)
    induction w using Rf.casesOn with|mk e s=>exact⟨(XJ D h).trans e,s⟩
  ·rw[decide_eq_false λh=>L (Int.ofNat_lt.mp h)] at D
   rw[S3 L];exact⟨JJ D,.mk⟩
noncomputable def cellOf(v:PV)(C:Hp):Option da:=match v with
 |.id i=>(C[i]?).bind λc=>allInts c.2.toList|.Mb c=>allInts c.toList|_=>Gb
noncomputable def OE{β:Type}(A:List PV)(f:List PV->Option β):Option β:=match A with
 |[]=>Gb|a::l=>match a with
  |.none=>f l|_=>Gb
noncomputable def yN{β:Type}(A:List PV)(x:Option β):Option β:=match A with
 |[]=>x|a::l=>pt (a::l) λi l=>if i=0 then OE l λl=>df l x else Gb
noncomputable def jh(f:da->Int->Nat):Spec:=λa C=>match a with
 |[]=>Gb|v::l=>pt l λx l=>yN l ((cellOf v C).bind λl=>if l.length<=30 then Fb ((.int (f l x),C),Hb) else Gb)
theorem JY{β:Type}{f:List PV->Option β}{r:β}{R:Prop}(e:OE A f=Fb r)(k:∀l,A=.none::l->f l=Fb r->R):R:=by
 rcases A with J|⟨a,A⟩;exact nn e
 induction a using PV.casesOn with|none=>exact k A rfl e|_=>exact nn e
theorem KV{β:Type}{x:Option β}{r:β}{R:Prop}(e:yN A x=Fb r)(k:A=[]\/A=[.int 0,.none]->x=Fb r->R):R:=by
 rcases A with J|⟨a,A⟩
 ·exact k (.inl rfl) e
 ·refine jy (show pt (a::A) (λi l=>if i=0 then OE l λl=>df l x else Gb)=Fb r from e) λi l q e=>iT e λQ e=>JY e λl Y e=>sf e λf e=>k (.inr ?_) e
  refine q.trans ?_;rw[Q,Y,f]
theorem YB(h:cellOf v cs=Fb l)(H:l.length<=30):jh f [v,.int x] cs=Fb ((.int (f l x),cs),Hb)/\jh f [v,.int x,.int 0,.none] cs=Fb ((.int (f l x),cs),Hb):=by
 have e:((cellOf v cs).bind λl=>if l.length<=30 then Fb ((PV.int (f l x),cs),Hb) else Gb)=Fb ((.int (f l x),cs),Hb):=by
  rw[h];exact if_pos H
 exact⟨e,e⟩
structure Ly(v:PV)(cs:Hp)(c:Cell)(l:da):Prop where
 at':cellAt v cs=Fb c
 li:allInts c.toList=Fb l
 nt:yt v=Ib
theorem xV{R:Prop}(h:cellOf v C=Fb l)(k:∀c,Ly v C c l->R):R:=by
 induction v using PV.casesOn with
 |id i=>
  obtain⟨c,H,j⟩:=Option.bind_eq_some_iff.mp h;exact k c.2 ⟨by show(C[i]?).map _=_;rw[H];rfl,j,rfl⟩
 |Mb c=>exact k c ⟨rfl,h,rfl⟩|_=>exact nn h
theorem U5{mt:Bool}(h:yt v=Ib):sg .len [v] mt C=match cellAt v C with
  |some c=>Fb ((.int c.len,C),decide (c.len<=ic))|none=>Gb:=by
 induction v using PV.casesOn<;>first|rfl|exact tf h
theorem QC{mt:Bool}(h:cellAt v C=Fb c)(H:c.len<=ic)(D:yt v=Ib):sg .len [v] mt C=Fb ((.int c.len,C),Hb):=by
 refine(U5 D).trans ?_;rw[h];exact ke rfl (decide_eq_true H)
theorem XI{R:Prop}(e:jh f a C=Fb r)(k:∀v x l c,(a.length=2\/a.length=4)->Vj a=[v,.int x,.int 0,.none,.none]->Ly v C c l->l.length<=30->((.int (f l x),C),Hb)=r->R):R:=by
 rcases a with J|⟨v,a⟩;exact nn e;refine jy e λx y Q e=>KV e λT e=>?_;obtain⟨l,h,e⟩:=Option.bind_eq_some_iff.mp e;refine xV h λc H=>iT e λz e=>k v x l c ?_ ?_ H z (jc e)
 ·rw[Q];rcases T with q|q<;>rw[q];exact .inl rfl;exact .inr rfl
 ·rw[Q];rcases T with q|q<;>rw[q]<;>rfl
noncomputable def Baa:List S:=[.asg (.Jb 5) (.cc .FloorDiv (.cc .Add (.Jb 2) (.Jb 3)) (.int 2)),.ifs (.fc (.mc .Lt (.Jb 1) (.sub (.Jb 0) (.Jb 5)))) [.asg (.Jb 3) (.Jb 5)] [.asg (.Jb 2) (.cc .Add (.Jb 5) (.int 1))]]
noncomputable def Aaa:List S:=[.asg (.Jb 5) (.cc .FloorDiv (.cc .Add (.Jb 2) (.Jb 3)) (.int 2)),.ifs (.fc (.mc .Lt (.sub (.Jb 0) (.Jb 5)) (.Jb 1))) [.asg (.Jb 2) (.cc .Add (.Jb 5) (.int 1))] [.asg (.Jb 3) (.Jb 5)]]
theorem VL(h:Ly v H c l)(B:l.length<=30)
  (O:∀lo z y,lo<z->z<=l.length->Kc (uc P0 F 58) A (Gk v x lo z y) H=Fb ((.next,AN (q (l.getD ((lo+z)/2) 0)) v x lo z,H),Hb)):
  Hd P0 F 60 [.ifs (.fc (.mc .Lt (.Jb 2) (.int 0))) [.nc] [],.ifs (.fc (.mc .Is (.Jb 3) .none)) [.asg (.Jb 3) (.oc .len [(.Jb 0)])] [],
   .ifs (.fc (.mc .Is (.Jb 4) .none)) [.Ok (.fc (.mc .Lt (.Jb 2) (.Jb 3))) A] Z,.ret (.Jb 2)] 8 [v,.int x,.int 0,.none,.none] H=Fb ((.int (mi q l 39 0 l.length),H),Hb):=by
 have C:=Yr h.li;have s:uc P0 F 60 (.ifs (.fc (.mc .Is (.Jb 3) .none)) [.asg (.Jb 3) (.oc .len [(.Jb 0)])] []) [Fb v,Fb (.int x),Fb (.int 0),Fb .none,Fb .none,Gb,Gb,Gb] H=Fb ((.next,Gk v x 0 l.length Gb,H),Hb):=by
  refine Me (Od:=H) rfl ((if_pos rfl).trans ((Bc (Gf ?_ rfl)).trans rfl));rw[<-C];exact Vh (vs:=[v]) (Od:=H) (by decide) rfl (QC h.at' (by rw[C];exact dc B (by decide)) h.nt)
 have w:=cZ O 39 40 0 l.length Gb (dc B (by decide)) (by decide) (Ed _)
 induction w using Rf.casesOn with|@mk f j T hw L=>_
 induction L using LF.casesOn with|@mk N Y=>_
 have a:uc P0 F 60 (.ifs (.fc (.mc .Is (.Jb 4) .none)) [.Ok (.fc (.mc .Lt (.Jb 2) (.Jb 3))) A] Z) (Gk v x 0 l.length Gb) H=Fb ((.next,Gk v x (mi q l 39 0 l.length) N Y,H),Hb):=
  Me (Od:=H) rfl ((if_pos rfl).trans ((Bc (V4 hw)).trans rfl))
 exact Uh ((Bc rfl).trans ((Bc s).trans ((Bc a).trans rfl))) (.inl rfl)
theorem LK{lo h:Nat}:uc P0 F 58 (.asg (.Jb 5) (.cc .FloorDiv (.cc .Add (.Jb 2) (.Jb 3)) (.int 2))) (Gk v x lo h y) H=Fb ((.next,Gk v x lo h (Fb (.int (((lo+h)/2:Nat):Int))),H),Hb):=by
 refine Gf ?_ rfl;exact dg rfl rfl (by rw[<-j7];rfl)
theorem KL(h:Ly v C c l)(x:l.length<=30){lo H:Nat}(L:lo<H)(hle:H<=l.length):pj v (.int (((lo+H)/2:Nat):Int)) C=Fb ((.int (l.getD ((lo+H)/2) 0),C),Hb):=by
 have T:=by exact zl (tF L) hle
 refine(Bn h.at' (by rw[Yr h.li];exact T) (by rw[Yr h.li];exact dc x (by decide)) h.nt).trans ?_;rw[N4 h.li T]
theorem g9(F:Dc)(e:jh Rd a C=Fb ((r,d),Hb)):(a.length=2\/a.length=4)/\Hd P0 F 60 tE 8 (Vj a) C=Fb ((r,d),Hb):=by
 refine XI e λv x l c A j h H w=>⟨A,?_⟩;rw[j,<-w];refine VL h H λlo z y L hle=>(Bc LK).trans ((Bc (Me (b:=decide (x<l.getD ((lo+z)/2) 0)) (Od:=C) ?_ ?_)).trans rfl)
 ·exact Fe (af rfl (vk rfl rfl (KL h H L hle)) rfl) rfl
 ·generalize decide (x<l.getD ((lo+z)/2) 0)=b
  rcases b with J|J<;>rfl
theorem L9(F:Dc)(e:jh Om a C=Fb ((r,d),Hb)):(a.length=2\/a.length=4)/\Hd P0 F 60 AE 8 (Vj a) C=Fb ((r,d),Hb):=by
 refine XI e λv x l c A j h H w=>⟨A,?_⟩;rw[j,<-w];refine VL h H λlo z y L hle=>(Bc LK).trans ((Bc (Me (b:=decide (l.getD ((lo+z)/2) 0<x)) (Od:=C) ?_ ?_)).trans rfl)
 ·exact Fe (af (vk rfl rfl (KL h H L hle)) rfl rfl) rfl
 ·generalize decide (l.getD ((lo+z)/2) 0<x)=b
  rcases b with J|J<;>rfl
noncomputable def Ol(f:da->Int->Nat):Spec:=λa C=>Zn a λi l=>if i=0 then pt l λx l=>df l (match C with
 |[]=>Gb|c::l=>if c.1=Ib then df l ((allInts c.2.toList).bind λl=>if l.length<=30/\f l x<=l.length then Fb ((.none,[(Ib,c.2.Dg (f l x) (.int x))]),Hb) else Gb) else Gb) else Gb
theorem d1(h:allInts c.toList=Fb l)(H:l.length<=30)(T:f l x<=l.length):Ol f [.id 0,.int x] [(Ib,c)]=Fb ((.none,[(Ib,c.Dg (f l x) (.int x))]),Hb):=by
 show((allInts c.toList).bind λl=>if l.length<=30/\f l x<=l.length then Fb ((PV.none,[(Ib,c.Dg (f l x) (.int x))]),Hb) else Gb)=_;rw[h];exact if_pos ⟨H,T⟩
theorem Xx(h:allInts c.toList=Fb l):Be c=Hb:=by
 have H:=pu h
 induction c using Cell.casesOn with
 |«ints»=>rfl|«strs»=>rfl|Lb v=>
  rw[show v=l.map PV.int from H];show(l.map PV.int).all (Fg 8)=Hb;refine List.all_map.trans ?_;rw[ku];intro i J;rfl
theorem WL(F:Dc)(s:F.fn j=jh f)(e:Ol f a C=Fb ((r,d),Hb)):(a.length=2\/a.length=4)/\
  Hd P0 F 60 [.ifs (.fc (.mc .Is (.Jb 4) .none)) [.asg (.Jb 2) (.fn j [(.Jb 0),(.Jb 1),(.Jb 2),(.Jb 3)])] Z,.expr (.qc .insert (.Jb 0) [(.Jb 2),(.Jb 1)])] 6 (Vj a) C=Fb ((r,d),Hb):=by
 refine yo e λi y q e=>iT e λQ e=>jy e λx z Y e=>sf e λg e=>?_;subst Q g Y q;rcases C with J|⟨⟨b,c⟩,C⟩
 ·exact nn e
 refine iT e λp e=>sf e λA e=>?_;obtain⟨l,h,e⟩:=Option.bind_eq_some_iff.mp e;refine iT e λB w=>⟨.inl rfl,?_⟩;rw[A,<-jc w,show b=Ib from p];obtain⟨H,k⟩:=B;have N:=(ur _).trans (Xx h);have O:=(YB (f:=f) (v:=.id 0) (x:=x) (cs:=[(Ib,c)]) h H).2;have m:uc P0 F 60 (.ifs (.fc (.mc .Is (.Jb 4) .none)) [.asg (.Jb 2) (.fn j [(.Jb 0),(.Jb 1),(.Jb 2),(.Jb 3)])] Z) [Fb (.id 0),Fb (.int x),Fb (.int 0),Fb .none,Fb .none,Gb] [(Ib,c)]=
   Fb ((.next,[Fb (.id 0),Fb (.int x),Fb (.int (f l x)),Fb .none,Fb .none,Gb],[(Ib,c)]),Hb):=
  Me (Od:=[(Ib,c)]) rfl ((if_pos rfl).trans ((Bc (Gf (Od:=[(Ib,c)]) (Ni (vs:=[.id 0,.int x,.int 0,.none]) (Od:=[(Ib,c)]) rfl
   (Pg (r:=(.int (f l x),[(Ib,c)])) rfl rfl rfl N (by rw[s];exact O) N rfl)) rfl)).trans rfl))
 have hlen:c.len=l.length:=Yr h;have D:uc P0 F 60 (.expr (.qc .insert (.Jb 0) [(.Jb 2),(.Jb 1)])) [Fb (.id 0),Fb (.int x),Fb (.int (f l x)),Fb .none,Fb .none,Gb] [(Ib,c)]=
   Fb ((.next,[Fb (.id 0),Fb (.int x),Fb (.int (f l x)),Fb .none,Fb .none,Gb],[(Ib,c.Dg (f l x) (.int x))]),Hb):=
  Aj (me (vs:=[.int (f l x),.int x]) (Wl:=[(Ib,c)]) rfl rfl
   (ke rfl
    (by rw[hlen,decide_eq_true (qr _),decide_eq_true (Int.ofNat_le.mpr k),decide_eq_true (show l.length+1<=ic from dc (Ng H) (by decide))];rfl)))
 exact Uh ((Bc m).trans ((Bc D).trans rfl)) (.inr ⟨rfl,rfl⟩)
theorem x9(F:Dc)(h:F.fn 1=jh Rd)(e:Ol Rd a C=Fb ((r,b),Hb)):(a.length=2\/a.length=4)/\Hd P0 F 60 vE 6 (Vj a) C=Fb ((r,b),Hb):=WL F h e
theorem O_(F:Dc)(h:F.fn 3=jh Om)(e:Ol Om a C=Fb ((r,b),Hb)):(a.length=2\/a.length=4)/\Hd P0 F 60 EE 6 (Vj a) C=Fb ((r,b),Hb):=WL F h e
theorem bT{β:Type}{r:β}{x:Option β}{R:Prop}(e:(match b with|true=>x|false=>Gb)=Fb r)(k:b=Hb->x=Fb r->R):R:=by
 rcases b with J|J
 ·exact nn e
 ·exact k rfl e
theorem xI:∀(a b:aa)(r:List (Nat×ca)),rowsOf (a++b) r=rowsOf b (rowsOf a r)
 |[],b,r=>rfl|p::a,b,r=>xI a b _
theorem HT(a b:List (Nat×ca)):ce (a++b)=ce a++ce b:=by
 unfold ce;rw[ej,Dx]
theorem mj.CK(h:mj i r)(H:i<=100):(Ie (ce r)).length<=20000:=by
 rw[dy h];have A:=LC (Iz:=r.map λp=>(p.1,CR)) λp a=>by
  obtain⟨q,N,rfl⟩:=List.mem_map.mp a;exact⟨(h.2 q N).2.1,Ed 2⟩
 refine dc A ?_;rw[Uc];have j:=Nat.mul_le_mul (by have:=h.1;exact dc this H) (by exact Nf (zx H) (rr (Nat.succ 100).succ 0));exact dc ‹_› (by decide)
noncomputable def Us:Spec:=λa C=>Wj a λx l=>df l (df C (if x.length<=100000/\(Ie x).length<=100000 then Fb ((.str (quot x),[]),Hb) else Gb))
noncomputable def nz:Spec:=λa C=>Wj a λx l=>df l (df C (if x.length<=100000 then Fb ((.str (Ie x),[]),Hb) else Gb))
theorem EY{mt:Bool}:Yb P F (n+1) (.kc (.str (Kb "\x0d\n") 448)) mt l h=Fb ((.str [13,10],h),Hb):=rfl
theorem L0{mt:Bool}(h:x.length<=100000):Te P0 F .sub (.kc (.ref 112)) [.str [13,10],.str x] mt H=Fb ((.str (Ie x),H),Hb):=by
 show Rm.bind (Fb (Ie x,decide (x.length<=100000))) (λr=>Rm.ret (PV.str r,H))=_;rw[decide_eq_true h];rfl
theorem H0{mt:Bool}(h:x.length<=100000):Te P0 F .sub (.kc (.ref 107)) [.str [46,46],.str x] mt H=Fb ((.str (bi Hb x),H),Hb):=by
 show Rm.bind (Fb (bi Hb x,decide (x.length<=100000))) (λr=>Rm.ret (PV.str r,H))=_;rw[decide_eq_true h];rfl
theorem TN{mt:Bool}(H:l[i]?=Fb (Fb (.str x)))(h:x.length<=100000):Yb P0 F (n+2) (.qc .sub (.kc (.ref 112)) [(.kc (.str (Kb "\x0d\n") 448)),(.Jb i)]) mt l a=Fb ((.str (Ie x),a),Hb):=
 me rfl (Le EY (zd (Qd H))) (L0 h)
theorem V9(F:Dc)(e:nz a C=Fb ((r,b),Hb)):a.length=1/\Hd P0 F 60 uE 3 a C=Fb ((r,b),Hb):=by
 refine pk e λx l q e=>sf e λQ e=>sf e λY e=>iT e λh w=>?_;rw[q,Q,Y,<-jc w];exact⟨rfl,Uh (qk (js (TN rfl h))) (.inl rfl)⟩
theorem q_(F:Dc)(e:Us a C=Fb ((r,b),Hb)):a.length=1/\Hd P0 F 60 yE 4 a C=Fb ((r,b),Hb):=by
 refine pk e λx l q e=>sf e λQ e=>sf e λY e=>iT e λh w=>?_;rw[q,Q,Y,<-jc w];exact⟨rfl,Uh (qk (js (me rfl (Le rfl (zd (TN rfl h.1))) (H0 h.2)))) (.inl rfl)⟩
noncomputable def Cs(read:ba):ba:=pick (lf (ce ((kz read).map λc=>(c,CR))) CR) Gb (Fb (-1)) Gb
noncomputable def Rs(size:Nat):ba->da->da->Option (da×da)
 |[],free,m=>Fb (m,free)|G::r,free,m=>match Sf ((Rd free ((size:Int)+1-G.length):Int)-1) free.length&&Ki free.length 30&&Ki G.length 1000 with
  |true=>Rs size r (free.eraseIdx (idx ((Rd free ((size:Int)+1-G.length):Int)-1) free.length)) (m++[free.getD (idx ((Rd free ((size:Int)+1-G.length):Int)-1) free.length) 0])|false=>Gb
theorem yV{R:Prop}(e:Rs size (G::r) free m=Fb x)(k:Sf ((Rd free ((size:Int)+1-G.length):Int)-1) free.length=Hb->free.length<=30->G.length<=1000->
  Rs size r (free.eraseIdx (idx ((Rd free ((size:Int)+1-G.length):Int)-1) free.length)) (m++[free.getD (idx ((Rd free ((size:Int)+1-G.length):Int)-1) free.length) 0])=Fb x->R):R:=
 bT e λh e=>kt h λH j Q=>k H (Hx j) (Hx Q) e
noncomputable def Ay(read:ba):Option (da×da):=match Ki (lf (ce ((kz read).map λc=>(c,CR))) CR).length 100 with
 |true=>Rs (read.length/2) (Cs read) (Ih 1 ((read.length/2:Nat)+1:Int) 1) []|false=>Gb
noncomputable def zg(c0 c1:Bool×Cell)(m ff:da):Hp:=[c0,c1,(Ib,te m),(Ib,.ints ff)]
noncomputable def wv:Spec:=λa C=>Zn a λi l=>if i=0 then Zn l λj l=>if j=1 then df l (xq C λb read l=>xq l λB E l=>df l (if(read.length<=20/\E.length=read.length)/\E.all (λe=>decide (e∈Ai))=Hb then
 (Ay read).bind λp=>Fb ((.id 2,zg (b,.strs read) (B,.strs E) p.1 p.2),Hb) else Gb)) else Gb else Gb
noncomputable def lh(m:ca)(size:Nat)(y z x r:Option PV):Loc:=[Fb (.id 0),Fb (.id 1),Fb (.str m),Fb (.int (size:Int)),Fb (.id 2),y,z,x,r,Gb,Gb,Gb,Gb,Gb,Gb,Gb]
noncomputable def EM:List S:=[.asg (.Jb 2) (.ite (.fc (.mc .Eq (.Jb 5) (.str [40]))) (.fn 8 [(.Jb 2)]) (.cc .Add (.cc .Add (.Jb 2) (.str [46])) (.Jb 6)))]
theorem AX(h:e∈Ai):e.length<=2:=(show∀e∈Ai,e.length<=2 by decide) e h
theorem VT(F:Dc)(w:F.fn 8=Us)(h:mj k Q)(H:k<=50)(V:e∈Ai):
  Kc (uc P0 F 59) EM (lh (ce Q) size (Fb (.str f)) (Fb (.str e)) x r) a=Fb ((.next,lh (ce (Ll Q f e)) size (Fb (.str f)) (Fb (.str e)) x r,a),Hb):=by
 have l:=h.len (dc H (by decide));have L:=h.CK (dc H (by decide));refine(Bc (Gf ?_ rfl)).trans rfl;refine jq (Fe (af rfl rfl rfl) rfl) ?_
 by_cases q:f=[40]
 ·have E:ce (Ll Q f e)=quot (ce Q):=by rw[JU h];unfold Ll;rw[if_pos q]
  rw[decide_eq_true q,if_pos rfl,E];exact Ni rfl (Pg rfl rfl rfl rfl (by rw[w];exact if_pos ⟨dc l (by decide),dc L (by decide)⟩) rfl rfl)
 ·have E:ce (Ll Q f e)=ce Q++[46]++e:=by
   unfold Ll;rw[if_neg q,HT];simp[ce]
  rw[decide_eq_false q,if_neg (by decide),E];have c:(ce Q++[46]).length+e.length<=ic:=by
   rw[Pd];exact dc (Qk (Ng l) (AX V)) (by decide)
  exact dg (dg rfl rfl (ke rfl (decide_eq_true (dc (Ng l) (by decide))))) rfl (ke rfl (decide_eq_true c))
noncomputable def ZM:List S:=[.expr (.qc .append (.Jb 4) [(.qc .pop (.Jb 7) [(.cc .Sub (.fn 1 [(.Jb 7),(.cc .Sub (.cc .Add (.Jb 3) (.int 1)) (.oc .len [(.Jb 8)]))]) (.int 1))])])]
theorem UK:∀l:da,allInts (l.map PV.int)=Fb l
 |[]=>rfl|i::r=>by show(allInts (r.map PV.int)).map (i::·)=_;rw[UK r];rfl
theorem eT(F:Dc)(H:F.fn 1=jh Rd){size:Nat}(C:((Rd free ((size:Int)+1-r.length):Int)-1)=k)(A:Sf k free.length=Hb)(h:free.length<=30)(D:r.length<=1000)(T:m.length<=100):
  Kc (uc P0 F 59) ZM (lh j size y z (Fb (.id 3)) (Fb (.str r))) (zg c0 c1 m free)=
   Fb ((.next,lh j size y z (Fb (.id 3)) (Fb (.str r)),zg c0 c1 (m++[free.getD (idx k free.length) 0]) (free.eraseIdx (idx k free.length))),Hb):=by
 have e:Yb P0 F 54 (.oc .len [(.Jb 8)]) Ib (lh j size y z (Fb (.id 3)) (Fb (.str r))) (zg c0 c1 m free)=Fb ((.int r.length,zg c0 c1 m free),Hb):=
  Vh (vs:=[.str r]) (by decide) rfl (ke rfl (decide_eq_true (dc D (by decide))))
 have E:Yb P0 F 55 (.cc .Sub (.cc .Add (.Jb 3) (.int 1)) (.oc .len [(.Jb 8)])) Hb (lh j size y z (Fb (.id 3)) (Fb (.str r))) (zg c0 c1 m free)=Fb ((.int ((size:Int)+1-r.length),zg c0 c1 m free),Hb):=
  dg rfl e rfl
 have B:=(YB (f:=Rd) (v:=.id 0) (x:=(size:Int)+1-r.length) (cs:=[(Ib,.ints free)]) (UK free) h).1;have p:Yb P0 F 57 (.cc .Sub (.fn 1 [(.Jb 7),(.cc .Sub (.cc .Add (.Jb 3) (.int 1)) (.oc .len [(.Jb 8)]))]) (.int 1)) Ib (lh j size y z (Fb (.id 3)) (Fb (.str r))) (zg c0 c1 m free)=Fb ((.int k,zg c0 c1 m free),Hb):=
  dg (Ni (Le rfl (zd E)) (Pg rfl rfl rfl rfl (by rw[H];exact B) rfl rfl)) rfl (by rw[<-C];rfl)
 have q:Yb P0 F 58 (.qc .pop (.Jb 7) [(.cc .Sub (.fn 1 [(.Jb 7),(.cc .Sub (.cc .Add (.Jb 3) (.int 1)) (.oc .len [(.Jb 8)]))]) (.int 1))]) Hb (lh j size y z (Fb (.id 3)) (Fb (.str r))) (zg c0 c1 m free)=
   Fb ((.int (free.getD (idx k free.length) 0),zg c0 c1 m (free.eraseIdx (idx k free.length))),Hb):=
  me rfl (zd p) (ke rfl (by rw[show Sf k (Cell.ints free).len=Hb from A,decide_eq_true (show(Cell.ints free).len<=ic from dc h (by decide))];rfl))
 have d:Te P0 F .append (.id 2) [.int (free.getD (idx k free.length) 0)] Ib (zg c0 c1 m (free.eraseIdx (idx k free.length)))=Fb ((.none,zg c0 c1 (m++[free.getD (idx k free.length) 0]) (free.eraseIdx (idx k free.length))),Hb):=by
  unfold zg;rw[<-qI];exact ke rfl (decide_eq_true (by rw[Cell.len_eq,ZH,Uc];exact dc (Ng T) (by decide)))
 exact(Bc (Aj (me rfl (zd q) d))).trans rfl
theorem fZ{mt:Bool}{lo H:Int}(h:Yb P F n (.oc q b) Ib l a=Fb ((.ag lo H 1,Od),Hb))(O:(Ym lo H 1&&decide (0<=Fi lo H 1)&&decide (Fi lo H 1<=1000000))=Hb):
  Yb P F (n+1) (.oc .list [.oc q b]) mt l a=Fb (td mt (.ints (Ih lo H 1)) Od,Hb):=by
 show Rm.bind (Vd (Yb P F n) Ib l [.oc q b] a) (λV=>sg .list V.1 mt V.2)=_;refine(Rm.bd (zd h)).trans ?_;show Fb (td mt (.ints (Ih lo H 1)) Od,(Ym lo H 1&&decide (0<=Fi lo H 1)&&decide (Fi lo H 1<=1000000)))=_;rw[O]
inductive xt(read ends:ba)(size:Nat)(H:Hp)(k:Nat):Loc->Hp->Prop
 |mk{y z:Option PV}(hr:mj k (rowsOf ((read.zip ends).take k) [])):xt read ends size H k (lh (ce (rowsOf ((read.zip ends).take k) [])) size y z Gb Gb) H
inductive sz(read ends:ba)(size:Nat)(H:Hp):Fl->Loc->Hp->Prop
 |mk{y z:Option PV}(hr:mj (read.zip ends).length (rowsOf (read.zip ends) [])):sz read ends size H .next (lh (ce (rowsOf (read.zip ends) [])) size y z Gb Gb) H
noncomputable def Vn(b B:Bool)(read e:ba):Hp:=[(b,.strs read),(B,.strs e),(Ib,.Lb [])]
theorem D6(F:Dc)(w:F.fn 8=Us){read E:ba}(x:read.length<=20)(hle:E.length=read.length)(t:E.all (λe=>decide (e∈Ai))=Hb):
  Rf (forLoop (λl h=>Kc (uc P0 F 59) EM l h) (.Sb [(.Jb 5),(.Jb 6)]) (read.length+1) (.zip (.Xb 0 0) (.Xb 1 0)) (lh [] size Gb Gb Gb Gb) (Vn b1 b2 read E)) (sz read E size (Vn b1 b2 read E)):=by
 have G:(read.zip E).length=read.length:=by refine List.length_zip.trans ?_;rw[hle,Nat.min_self]
 have V:((read.map PV.str).zip (E.map PV.str)).map (λp=>PV.Sb [p.1,p.2])=(read.zip E).map λp=>PV.Sb [.str p.1,.str p.2]:=by rw[List.zip_map,Yg];rfl
 have T:(((read.map PV.str).zip (E.map PV.str)).map λp=>PV.Sb [p.1,p.2]).length=(read.zip E).length:=by rw[V,Uc]
 refine Qm (it:=λk=>.zip (.Xb 0 k) (.Xb 1 k)) (xt read E size (Vn b1 b2 read E)) (sz read E size (Vn b1 b2 read E)) (λk l h A=>?_) ?_ ?_ read.length 0 _ _ _ ((Ii _).trans (G.symm.trans T.symm)) (Af _) (.mk ⟨Ed _,λp h=>nomatch h⟩)
 ·induction A using xt.casesOn with|mk=>exact cK (Bj (c:=.strs read) rfl) (Bj (c:=.strs E) rfl) k
 ·intro k v l h Q A
  rw[V,bg] at Q;obtain⟨p,N,rfl⟩:=Option.map_eq_some_iff.mp Q;obtain⟨D,I⟩:=List.getElem?_eq_some_iff.mp N;have V:=of_decide_eq_true (List.all_eq_true.mp t _ (vx (bh N)).2);have o:rowsOf ((read.zip E).take (k+1)) []=Ll (rowsOf ((read.zip E).take k) []) p.1 p.2:=by
   rw[kH D,xI,I];rfl
  induction A using xt.casesOn with|@mk y z C=>_
  have s:=xt.mk (size:=size) (H:=Vn b1 b2 read E) (y:=Fb (.str p.1)) (z:=Fb (.str p.2)) (by rw[o];exact dT C V);rw[o] at s;exact .next rfl (VT F w C (dc (Df D) (by rw[G];exact dc x (by decide))) V) s
 ·intro l h A
  rw[T] at A;have e:(read.zip E).take (read.zip E).length=read.zip E:=Ww
  induction A using xt.casesOn with|@mk y z C=>_
  rw[e] at C⊢;exact .mk C
inductive bA(mail:ca)(size:Nat)(y z:Option PV)(c0 c1:Bool×Cell)(rs:ba)(p:da×da)(k:Nat):Loc->Hp->Prop
 |mk{mm ff:da}{x:Option PV}(h1:mm.length<=k)(h2:Rs size (rs.drop k) ff mm=Fb p):bA mail size y z c0 c1 rs p k (lh mail size y z (Fb (.id 3)) x) (zg c0 c1 mm ff)
inductive lA(mail:ca)(size:Nat)(y z:Option PV)(c0 c1:Bool×Cell)(p:da×da):Fl->Loc->Hp->Prop
 |mk{x:Option PV}:lA mail size y z c0 c1 p .next (lh mail size y z (Fb (.id 3)) x) (zg c0 c1 p.1 p.2)
theorem T7(F:Dc)(B:F.fn 1=jh Rd){ff:da}(h:Rs size r ff []=Fb p)(D:r.length<=100):
  Rf (forLoop (λl H=>Kc (uc P0 F 59) ZM l H) (.Jb 8) (r.length+1) (.Lb (r.map PV.str)) (lh mail size y z (Fb (.id 3)) Gb) (zg c0 c1 [] ff)) (lA mail size y z c0 c1 p):=by
 have T:(r.map PV.str).length=r.length:=Uc _;refine Qm (bA mail size y z c0 c1 r p) (lA mail size y z c0 c1 p) (λk l H J=>Il _ H k) ?_ ?_ _ 0 _ _ _ ((Ii _).trans T.symm) (Af _) (.mk (Ed _) h)
 ·intro k v l H Q A
  replace Q:=(bg).symm.trans Q;obtain⟨G,E,rfl⟩:=Option.map_eq_some_iff.mp Q;obtain⟨I,q⟩:=List.getElem?_eq_some_iff.mp E
  induction A using bA.casesOn with|@mk m ff x C N=>_
  rw[dn I,q] at N;exact yV N λo U Y e=>.next rfl (eT F B rfl o U Y (dc C (dc (Df I) D))) (.mk (by rw[Pd];exact Ng C) e)
 ·intro l H A
  induction A using bA.casesOn with|@mk m ff x C N=>_
  rw[T,mH] at N;rw[<-jc N];exact .mk
theorem K8(F:Dc)(A:F.fn 1=jh Rd)(C:F.fn 8=Us)(m:F.fn 9=nz)(e:wv a I=Fb ((r,b),Hb)):a.length=2/\Hd P0 F 60 YD 16 a I=Fb ((r,b),Hb):=by
 refine yo e λi y Q e=>iT e λY e=>yo e λj z f e=>iT e λg e=>sf e λs e=>Ir e λb1 read y D e=>Ir e λb2 E z J e=>sf e λo e=>iT e λN w0=>?_;subst Y g s f Q o J D;obtain⟨p,V,w⟩:=Option.bind_eq_some_iff.mp w0;obtain⟨⟨h,hle⟩,t⟩:=N;rw[<-jc w];refine⟨rfl,?_⟩;have l:((read.length:Int)).fdiv 2=((read.length/2:Nat):Int):=by refine(lH _ (by decide)).trans ?_;rfl
 have u:uc P0 F 60 (.asg (.Sb [(.Jb 2),(.Jb 3),(.Jb 4)]) (.Sb [(.str []),(.cc .FloorDiv (.oc .len [(.Jb 0)]) (.int 2)),(.Xb [])])) [Fb (.id 0),Fb (.id 1),Gb,Gb,Gb,Gb,Gb,Gb,Gb,Gb,Gb,Gb,Gb,Gb,Gb,Gb] [(b1,.strs read),(b2,.strs E)]=
   Fb ((.next,lh [] (read.length/2) Gb Gb Gb Gb,Vn b1 b2 read E),Hb):=
  Gf (Od:=Vn b1 b2 read E) (zo (Le rfl (Le (dg (Wl:=[(b1,.strs read),(b2,.strs E)]) (Vh (vs:=[.id 0]) (by decide) rfl (ke rfl (decide_eq_true (dc h (by decide))))) rfl (by rw[<-l];rfl)) (zd rfl)))) rfl
 have O:=D6 F C (size:=read.length/2) (b1:=b1) (b2:=b2) h hle t
 induction O using Rf.casesOn with|@mk fl cf Ac hw L=>_
 have hz:(read.zip E).length=read.length:=by rw[List.length_zip,hle,Nat.min_self]
 have R_:(rowsOf (read.zip E) []).map (·.1)=kz read:=by rw[VJ,List.map_fst_zip (yl hle.symm)];rfl
 induction L using sz.casesOn with|@mk y z H=>_
 have T:Ie (ce (rowsOf (read.zip E) []))=ce ((kz read).map λc=>(c,CR)):=by
  refine(dy H).trans ?_;rw[<-R_,Yg];rfl
 rw[hz] at H;have k:=H.len (dc h (by decide));have B:=H.CK (dc h (by decide));generalize ce (rowsOf (read.zip E) [])=mail at hw T k B;refine bT V λU V=>?_;have U:(lf (Ie mail) CR).length<=100:=by rw[T];exact Hx U
 have s3:uc P0 F 60 (.asg (.Jb 7) (.oc .list [(.oc .range [(.int 1),(.cc .Add (.Jb 3) (.int 1))])])) (lh mail (read.length/2) y z Gb Gb) (Vn b1 b2 read E)=
   Fb ((.next,lh mail (read.length/2) y z (Fb (.id 3)) Gb,zg (b1,.strs read) (b2,.strs E) [] (Ih 1 (((read.length/2:Nat):Int)+1) 1)),Hb):=by
  have key:∀n:Nat,n<11->(Ym 1 ((n:Int)+1) 1&&decide (0<=Fi 1 ((n:Int)+1) 1)&&decide (Fi 1 ((n:Int)+1) 1<=1000000))=Hb:=by decide+kernel
  exact Gf (v:=.id 3) (Od:=zg (b1,.strs read) (b2,.strs E) [] (Ih 1 (((read.length/2:Nat):Int)+1) 1)) (fZ (Od:=Vn b1 b2 read E) rfl (key _ (zx (Nat.div_le_div_right h)))) rfl
 have src:Jf F (Yb P0 F 60) (lh mail (read.length/2) y z (Fb (.id 3)) Gb) (.Jb 8) (.Oc (.qc .split (.fn 9 [(.Jb 2)]) [(.str [13,10])]) .none (.neg (.int 1)) .none) (zg (b1,.strs read) (b2,.strs E) [] (Ih 1 (((read.length/2:Nat):Int)+1) 1))=
   Fb ((.Lb ((Cs read).map PV.str),zg (b1,.strs read) (b2,.strs E) [] (Ih 1 (((read.length/2:Nat):Int)+1) 1)),Hb):=by
  generalize zg (b1,.strs read) (b2,.strs E) [] (Ih 1 (((read.length/2:Nat):Int)+1) 1)=G;have d:decide ((lf (Ie mail) CR).length<=ic)=Hb:=decide_eq_true (dc U (by decide));have e1:Yb P0 F 58 (.fn 9 [(.Jb 2)]) Ib (lh mail (read.length/2) y z (Fb (.id 3)) Gb) G=Fb ((.str (Ie mail),G),Hb):=
   Ni (vs:=[.str mail]) rfl (Pg rfl rfl rfl rfl (by rw[m];exact if_pos (dc k (by decide))) rfl rfl)
  have e2:Yb P0 F 59 (.qc .split (.fn 9 [(.Jb 2)]) [(.str [13,10])]) Ib (lh mail (read.length/2) y z (Fb (.id 3)) Gb) G=Fb ((.Mb (.strs (lf (Ie mail) CR)),G),Hb):=
   me (vs:=[.str [13,10]]) e1 rfl (ke (q:=decide ((Ie mail).length<=ic)&&decide ((lf (Ie mail) CR).length<=ic)&&Hb) rfl (by rw[d,decide_eq_true (show(Ie mail).length<=ic from dc B (by decide))];rfl))
  have e3:Yb P0 F 60 (.Oc (.qc .split (.fn 9 [(.Jb 2)]) [(.str [13,10])]) .none (.neg (.int 1)) .none) Ib (lh mail (read.length/2) y z (Fb (.id 3)) Gb) G=Fb ((.Mb (.strs (Cs read)),G),Hb):=by
   unfold Cs;rw[<-T];exact cl e2 rfl rfl rfl (ke (q:=decide ((lf (Ie mail) CR).length<=ic)&&Hb) rfl (by rw[d];rfl))
  exact qM rfl e3
 have F9:(Cs read).length<=100:=by
  unfold Cs;rw[Np,vr,ex,<-T];exact dc (Cx ..) (dc (Xk ..) U)
 have w2:=T7 F A (mail:=mail) (y:=y) (z:=z) (c0:=(b1,.strs read)) (c1:=(b2,.strs E)) V F9
 induction w2 using Rf.casesOn with|@mk fl cf Ac Z' L=>_
 induction L using lA.casesOn with|@mk x=>_
 exact Uh ((Bc u).trans ((Bc (Kl rfl rfl hw)).trans ((Bc s3).trans ((Bc (Kl src (Uc _) Z')).trans rfl)))) (.inl rfl)
theorem ML(x:ca)(l u:Option Int)(a b:Nat)(G:a<=b)(O:b<=x.length)(h:CA l u 1 x.length=(xe (b-a)).map (a+·)):sl x l u=(x.drop a).take (b-a):=by
 unfold sl wA;have y:(⟨x.toArray⟩:Str).length=x.length:=by show x.toArray.size=_;simp
 rw[y,h]
 split
 ·rename_i H
  have H:(b-a)=x.length:=by simpa using H
  have q:a=0:=by lia
  have A:b=x.length:=by lia
  subst q A;simp
 ·show(List.filterMap _ _).toArray.toList=_
  have:∀(i:Nat),(x.toArray)[i]?=x[i]?:=λi=>by simp
  rw[<-vaa];show List.filterMap (λi=>x.toArray[i]?) _=_;rw[show(λi=>x.toArray[i]?)=λi=>x[i]? from funext this];exact SH x (b-a) a
theorem E7{a b:Nat}(H:a<=b)(h:b<=x.length):sl x (Fb (a:Int)) (Fb (b:Int))=(x.drop a).take (b-a):=by
 refine ML x _ _ a b H h ?_;unfold CA;simp only [show(1:Int)>0 by decide,if_true];have e:max (0:Int) (min (if(a:Int)<0 then(a:Int)+x.length else a) x.length)=(a:Int):=by rw[if_neg (Int.not_lt.mpr (qr a))];rw[Int.min_eq_left (Int.ofNat_le.mpr (dc H h)),UQ (qr a)]
 have E:max (0:Int) (min (if(b:Int)<0 then(b:Int)+x.length else b) x.length)=(b:Int):=by rw[if_neg (Int.not_lt.mpr (qr b))];rw[Int.min_eq_left (Int.ofNat_le.mpr h),UQ (qr b)]
 rw[e,E,sliceRange_one]
theorem z5{a:Nat}(h:a<=x.length):sl x (Fb (a:Int)) Gb=x.drop a:=by
 rw[ML x _ _ a x.length h (Ed _),AG (by rw[ex];exact Ed _)];unfold CA;simp only [show(1:Int)>0 by decide,if_true];have e:max (0:Int) (min (if(a:Int)<0 then(a:Int)+x.length else a) x.length)=(a:Int):=by rw[if_neg (Int.not_lt.mpr (qr a))];lia
 rw[e,sliceRange_one]
noncomputable def Ak:ba:=[[],[],[],[],[],[],[92,40],[92,41],[34,40,34],[34,92,34,41,34],[92,34],[92,92]]
noncomputable def Nh:ba:=[[],[92,40],[92,41],[34,40,34],[34,92,34,41,34],[92,34],[92,92]]
noncomputable def vg(e:ca):ca:=if e.take 1=[92] then e else[]
noncomputable def Xy(e:ca):ba:=if e.take 1=[92] then[e] else[]
abbrev Pc:=List Nat×ca
noncomputable def Ec(x:List Pc):ca:=(x.map λp=>p.1++p.2).flatten
noncomputable def Nc(x:List Pc):ca:=(x.map λp=>p.1++vg p.2).flatten
noncomputable def Kf(x:List Pc):ba:=(x.map λp=>p.1::Xy p.2).flatten
def Xe(x:List Pc):Prop:=∀p∈x,(p.1=[40]\/p.1=[41])/\p.2∈Nh
theorem Xe.tail(h:Xe (p::r)):Xe r:=λq H=>h q (Ee _ H)
theorem fy(p:Pc)(r:List Pc):Ec (p::r)=p.1++(p.2++Ec r):=by unfold Ec;rw[rh,pH,Sh]
theorem Lp(p:Pc)(r:List Pc):Nc (p::r)=p.1++(vg p.2++Nc r):=by unfold Nc;rw[rh,pH,Sh]
theorem Lx(p:Pc)(r:List Pc):Kf (p::r)=p.1::(Xy p.2++Kf r):=by unfold Kf;rw[rh,pH];rfl
noncomputable def tv:PV->ca
 |.Sb [.int _,.str c]=>c|_=>[]
theorem WW(H:f=[40]\/f=[41])(h:e∈Nh)(r:ca)(p:Nat):Gc (f++(e++r)) p Ib=.Sb [.int (p:Int),.str f]::(Gc e (p+1) Ib++Gc r (p+1+e.length) Ib):=by
 unfold Nh at h;simp only [og,Xd,or_false] at h;rcases H with rfl|rfl<;>rcases h with rfl|rfl|rfl|rfl|rfl|rfl|rfl<;>rfl
noncomputable def Ti:ba:=[[],[34]]
theorem pZ{P:ca->Prop}(H:P [])(j:P [92,40])(Q:P [92,41])(b:P [34,40,34])(h5:P [34,92,34,41,34])(T:P [92,34])(B:P [92,92]):∀e∈Nh,P e:=
 List.forall_mem_cons.mpr ⟨H,List.forall_mem_cons.mpr ⟨j,List.forall_mem_cons.mpr ⟨Q,List.forall_mem_cons.mpr ⟨b,List.forall_mem_cons.mpr ⟨h5,List.forall_mem_cons.mpr ⟨T,List.forall_mem_cons.mpr ⟨B,λJ h=>nomatch h⟩⟩⟩⟩⟩⟩⟩
inductive Ho(X res:ca):Int×ba->Prop
 |mk{st:Nat}{acc:ba}(h2:st<=X.length)(h3:acc.flatten++X.drop st=res):Ho X res ((st:Int),acc)
section
theorem QS{st:Nat}{a:ba}(H:st<=pre.length)(O:vg e=e)(h:Ho ((pre++(f++e))++T) (a.flatten++((pre++(f++e)).drop st++(Nc p++t))) go):Ho ((pre++(f++e))++T) (a.flatten++(pre.drop st++(Nc ((f,e)::p)++t))) go:=by
 rw[vR H] at h;rw[Lp,O]
 simpa only [Sh] using h
theorem cS{st:Nat}(A:st<=pre.length)(H:vg e=[])(h:Ho ((pre++(f++e))++T) ((a++[pre.drop st++f]).flatten++((pre++(f++e)).drop (pre++(f++e)).length++(Nc p++t))) go):Ho ((pre++(f++e))++T) (a.flatten++(pre.drop st++(Nc ((f,e)::p)++t))) go:=by
 rw[mH,Dx,waa] at h;rw[Lp,H]
 simpa only [Sh,iu] using h
end
theorem I3(p:Nat):∀e∈Nh,(vg e=e/\∀X r(st:Int)a,Oe X (Gc e p Ib++r) st Gb a=Oe X r st Gb a)\/
  (vg e=[]/\∀X r(st:Int)a,Oe X (Gc e p Ib++r) st Gb a=Oe X r ((p+e.length:Nat):Int) Gb (if st=(p:Int) then a else a++[sl X (Fb st) (Fb (p:Int))])):=
 pZ (.inl ⟨rfl,λJ J J J=>rfl⟩) (.inl ⟨rfl,λJ J J J=>rfl⟩) (.inl ⟨rfl,λJ J J J=>rfl⟩) (.inr ⟨rfl,λJ J J J=>rfl⟩) (.inr ⟨rfl,λJ J J J=>rfl⟩) (.inl ⟨rfl,λJ J J J=>rfl⟩) (.inl ⟨rfl,λJ J J J=>rfl⟩)
theorem qB(D:t∈Ti):∀(p:List Pc)(pre:ca)(st:Nat)(a:ba),Xe p->st<=pre.length->
  Ho (pre++(Ec p++t)) (a.flatten++(pre.drop st++(Nc p++t))) (Oe (pre++(Ec p++t)) (Gc (Ec p++t) pre.length Ib) (st:Int) Gb a)
 |[],pre,st,a,_,H=>by
  have e:Oe (pre++(Ec []++t)) (Gc (Ec []++t) pre.length Ib) (st:Int) Gb a=((st:Int),a):=by
   unfold Ti at D;simp only [og,Xd,or_false] at D;rcases D with rfl|rfl<;>rfl
  rw[e];refine .mk ?_ ?_
  ·rw[Pd];exact dc H (wl pre.length (Ec []++t).length)
  ·rw[vR H];rfl
 |(f,e)::p,pre,st,a,h,H=>by
  obtain⟨T,V⟩:=h _ Fd;have T:f=[40]\/f=[41]:=T;have V:e∈Nh:=V;have U:f.length=1:=by rcases T with rfl|rfl<;>rfl
  have Y:f≠[34]:=by rcases T with rfl|rfl<;>decide
  have E:(pre++(f++e)).length=pre.length+1+e.length:=by refine List.length_append.trans ?_;rw[Pd,U];exact(bm _ _ _).symm
  have L:Ec ((f,e)::p)++t=f++(e++(Ec p++t)):=by rw[fy,Sh,Sh]
  rw[L,WW T V,show pre++(f++(e++(Ec p++t)))=(pre++(f++e))++(Ec p++t) by simp only [Sh]];have i1:=qB D p (pre++(f++e)) st a h.tail (by lia);have i2:=qB D p (pre++(f++e)) (pre++(f++e)).length (a++[pre.drop st++f]) h.tail (Ed _);have N:(if(st:Int)=((pre.length+1:Nat):Int) then a else a++[sl (pre++(f++e)++(Ec p++t)) (Fb (st:Int)) (Fb ((pre.length+1:Nat):Int))])=a++[pre.drop st++f]:=by
   have y:(pre.drop st++f).length=pre.length+1-st:=by refine List.length_append.trans ?_;rw[ex,U];exact(G5 H).symm
   rw[if_neg (by lia),E7 (by exact Xm ‹_›) (by rw[Pd,E];lia),show pre++(f++e)++(Ec p++t)=pre++(f++(e++(Ec p++t))) by simp only [Sh],vR H,
    show List.drop st pre++(f++(e++(Ec p++t)))=(List.drop st pre++f)++(e++(Ec p++t)) by simp only [Sh],List.take_left' y]
  rw[zB,if_neg Y];rw[E] at i1;rw[<-N,E] at i2;rcases I3 (pre.length+1) e V with⟨O,x⟩|⟨O,x⟩
  ·rw[x];exact QS H O i1
  ·rw[x];exact cS H O (by rw[<-N,E];exact i2)
theorem MV(h:Xe x)(H:34∉Ec x):Nc x=Ec x:=by
 induction x with
 |nil=>rfl|cons p r I=>
  rw[fy] at H⊢;rw[Lp];simp only [List.mem_append,not_or] at H;refine we H λA j Q=>?_;clear H;rw[I h.tail Q];have:vg p.2=p.2:=by
   have V:=(h _ Fd).2;unfold Nh at V;simp only [og,Xd,or_false] at V;rcases V with e|e|e|e|e|e|e<;>rw[e] at j⊢<;>first|rfl|exact(j (by decide)).elim
  rw[this]
theorem DH(h:Xe p)(D:tl∈Ti):Co (Ec p++tl)=Nc p++tl:=by
 unfold Co
 cases H:decide (34∈Ec p++tl) with
 |false=>
  refine(if_neg (by decide)).trans ?_;have H:=of_decide_eq_false H;rw[List.mem_append,not_or] at H;rw[MV h H.1]
 |true=>
  refine(if_pos rfl).trans ?_;have c:Ho (Ec p++tl) (Nc p++tl) (Oe (Ec p++tl) (Gc (Ec p++tl) 0 Ib) 0 Gb []):=qB D p [] 0 [] h (Ed _);generalize Oe (Ec p++tl) (Gc (Ec p++tl) 0 Ib) 0 Gb []=go at c⊢
  induction c using Ho.casesOn with|@mk st a j Q=>_
  simp only;rw[<-Q]
  by_cases q:(st:Int)<((Ec p++tl).length:Int)
  ·rw[if_pos q,z5 j,Dx,waa]
  ·rw[if_neg q,YA (by lia),ng,ng]
theorem Eu(H:tl∈Ti):∀(x:List Pc)(p:Nat),Xe x->(Gc (Nc x++tl) p Ib).map tv=Kf x++(if tl=[] then[] else[tl])
 |[],p,_=>by
  unfold Ti at H;simp only [og,Xd,or_false] at H;rcases H with rfl|rfl<;>rfl
 |(f,e)::r,p,h=>by
  obtain⟨T,V⟩:=h _ Fd;simp only at T V;rw[Lp,Lx];simp only [Sh];unfold Nh at V;simp only [og,Xd,or_false] at V;rcases V with rfl|rfl|rfl|rfl|rfl|rfl|rfl<;>rcases T with rfl|rfl
  all_goals first
   |exact congrArg (λl=>_::l) (Eu H r (p+1) h.tail)|exact congrArg (λl=>_::_::l) (Eu H r (p+3) h.tail)
noncomputable def Wi:ba->Int->Bool
 |[],n=>decide (n=0)|c::r,n=>if c=[40] then Wi r (n+1) else if c=[41] then(if n-1<0 then Ib else Wi r (n-1)) else Wi r n
theorem Yx:Wi (c::r) n=if c=[40] then Wi r (n+1) else if c=[41] then(if n-1<0 then Ib else Wi r (n-1)) else Wi r n:=rfl
theorem WH:∀(l:List PV)(n:Int),(∀v∈l,∃(i:Nat)(c:ca),v=.Sb [.int (i:Int),.str c])->qj l n=Wi (l.map tv) n
 |[],n,_=>rfl|v::r,n,h=>by
  obtain⟨i,c,rfl⟩:=h v Fd;have I:=λn=>WH r n λv H=>h v (Ee _ H);refine MJ.trans ?_;rw[I,I,I];exact Yx.symm
theorem UH(H:t∈Ti):∀(p:List Pc)(n:Int),Xe p->Wi (Kf p++(if t=[] then[] else[t])) n=Wi (p.map (·.1)) n
 |[],n,_=>by
  unfold Ti at H;simp only [og,Xd,or_false] at H;rcases H with rfl|rfl<;>rfl
 |(f,e)::r,n,h=>by
  obtain⟨T,V⟩:=h _ Fd;simp only at T V;have I:=λn=>UH H r n h.tail;rw[Lx,rh];have key:∀m,Wi (Xy e++Kf r++(if t=[] then[] else[t])) m=Wi (r.map (·.1)) m:=λm=>by
   rw[Sh];unfold Nh at V;simp only [og,Xd,or_false] at V;rcases V with rfl|rfl|rfl|rfl|rfl|rfl|rfl<;>exact I m
  rw[TA,Yx,key,key,key];exact Yx.symm
theorem Br(h:Xe ps)(H:t∈Ti):vj (Ec ps++t)=Wi (ps.map (·.1)) 0:=by
 unfold vj;rw[DH h H,WH _ _ (λv Q=>zu _ _ _ v Q),Eu H _ _ h,UH H _ _ h]
theorem gq:∀{p:List Pc},Xe p->(Ec p).length<=p.length*6
 |[],_=>Ed _|(f,e)::r,h=>by
  obtain⟨T,H⟩:=h _ Fd;simp only at T H;have I:=gq h.tail;have A:f.length=1:=by rcases T with rfl|rfl<;>rfl
  have j:e.length<=5:=by
   unfold Nh at H;simp only [og,Xd,or_false] at H;rcases H with rfl|rfl|rfl|rfl|rfl|rfl|rfl<;>decide
  rw[fy,Pd,Pd,xj,aB];simp only;rw[<-bm,Rk];exact Qk I (Qk (yl A) j)
noncomputable def ed(x:List Pc):ba:=x.map λp=>p.1++p.2
theorem PX(p:List Pc):(ed p).flatten=Ec p:=rfl
noncomputable def Lw(k:Nat):ca->Bool
 |[]=>Ib|n::r=>match r with
  |[]=>Eh n k|_::_=>Ib
noncomputable def isO(c:ca):Bool:=Lw 40 c
noncomputable def isC(c:ca):Bool:=Lw 41 c
noncomputable def Uj:ba->Nat->Bool
 |[],n=>Eh n 0|c::r,n=>match isO c with
  |true=>Uj r (n+1)|false=>match isC c with
   |true=>match n with
    |0=>Ib|k+1=>Uj r k
   |false=>Uj r n
theorem oM(k:Nat)(c:ca):Lw k c=decide (c=[k]):=by
 rcases c with J|⟨n,J|⟨m,r⟩⟩
 ·exact(decide_eq_false nofun).symm
 ·by_cases q:n=k
  ·rw[decide_eq_true (by rw[q]),q];exact Nat.beq_refl k
  ·rw[decide_eq_false λh=>q (ck h).1];exact Bool.eq_false_iff.mpr λh=>q (bB h)
 ·exact(decide_eq_false λh:n::m::r=[k]=>absurd (ck h).2 nofun).symm
noncomputable def s9(r:ba):Nat->Bool
 |0=>Ib|k+1=>Uj r k
noncomputable def r_(a b:Bool)(r:ba)(n:Nat):Bool:=match a with
 |true=>Uj r (n+1)|false=>match b with
  |true=>s9 r n|false=>Uj r n
theorem fV:Uj (c::r) n=r_ (Lw 40 c) (Lw 41 c) r n:=rfl
theorem Tu:∀(l:ba)(n:Nat),Wi l (n:Int)=Uj l n
 |[],n=>by
  show decide ((n:Int)=0)=Eh n 0
  induction n using jf with
  |zero=>rfl|succ k=>refine(decide_eq_false (by lia)).trans ?_;rfl
 |c::r,n=>by
  refine Yx.trans ?_;rw[fV,oM,oM]
  by_cases h:c=[40]
  ·rw[if_pos h,decide_eq_true h]
   exact Tu r (n+1)
  ·rw[if_neg h,decide_eq_false h]
   by_cases H:c=[41]
   ·rw[if_pos H,decide_eq_true H]
    rcases n with J|k
    ·rfl
    ·refine(if_neg (by simp)).trans ?_;rw[show((k+1:Nat):Int)-1=(k:Int) by simp]
     exact Tu r k
   ·rw[if_neg H,decide_eq_false H]
    exact Tu r n
noncomputable def dF(f:ba)(a b:Nat):ba:=(f.drop a).take (b+1-a)
noncomputable def Wy(f:ba)(a:Nat):Option Nat:=((xe ((f.length-a)/2)).map λj=>a+1+2*j).find? λb=>Uj (dF f a b) 0
noncomputable def As(f:ba):ca->List PV
 |[]=>[]|a::r=>(match Wy f a with
  |some b=>[PV.Sb [.int ((a:Int)+1),.int ((b:Int)+1)]]|none=>[])++As f r
theorem Xe.sub(h:Xe p)(H:∀q∈Q,q∈p):Xe Q:=λq N=>h q (H q N)
theorem PS(h:Xe p)(a b:Nat):vj (nl (ed p) a b)=Wi (dF (p.map (·.1)) a b) 0:=by
 have e:nl (ed p) a b=Ec ((p.drop a).take (b+1-a))++[]:=by
  unfold nl ed Ec;rw[ng,<-Zw,<-bu]
 rw[e,Br (h.sub λq H=>List.mem_of_mem_drop (ZG H)) (by simp[Ti])];unfold dF;rw[<-Zw,<-bu]
theorem IR(h:Xe p)(a:Nat):rq (ed p) a=Wy (p.map (·.1)) a:=by
 unfold rq cands Wy;have:(ed p).length=(p.map (·.1)).length:=by unfold ed;rw[Uc,Uc]
 rw[this]
 congr 1
 funext b
 refine(PS h a b).trans ?_;exact Tu _ 0
theorem IH(h:Xe p):∀l:ca,fg (ed p) l=As (p.map (·.1)) l
 |[]=>rfl|a::r=>by
  show _++fg (ed p) r=(match Wy (p.map (·.1)) a with
   |some b=>[PV.Sb [.int ((a:Int)+1),.int ((b:Int)+1)]]|none=>[])++As (p.map (·.1)) r
  rw[<-IR h,IH h r]
  rfl
structure Ce where
 k:Nat
 nm:ca
 val:ca
noncomputable def Ce.tell(g:Nat->Bool)(e:Ce):ca×ca:=(wf (g e.k) e.nm,e.val)
noncomputable def cF(nm:ca)(l:List Ce):List Ce:=l.filter λe=>!decide (e.nm=nm)
noncomputable def fh(l:List Ce)(nm:ca):ca:=match l.find? (λe=>decide (e.nm=nm)) with
 |some e=>e.val|none=>[]
noncomputable def stepK(l:List Ce)(nm:ca)(k:Nat):List Ce:=cF nm l++[⟨k,nm,fh l nm++[9]++ot (k+1)⟩]
noncomputable def Sn(read:ba):Nat->List Ce
 |0=>[]|k+1=>stepK (stepK (Sn read k) (Vm read k) k) (ul read k) k
def Pn(l:List Ce):Prop:=∀e∈l,e.nm∈ee
theorem IB{nm:ca}(h:nm∈ee)(g:Bool):low (wf g nm)=nm:=(Zr nm h g).2.2.2.2.2.2.1
theorem E5{nm:ca}(h:nm∈ee):low (Mk nm)=nm:=(Zr nm h Hb).2.2.2.2.2.2.2
theorem X1(h:Pn l){nm:ca}(H:nm∈ee)(g:Nat->Bool)(b:Bool):Ig (wf b nm) (l.map (Ce.tell g))=(cF nm l).map (Ce.tell g):=by
 unfold Ig cF;refine List.filter_map.trans ?_
 congr 1
 refine List.filter_congr λe V=>?_;show(!decide (low (wf (g e.k) e.nm)=low (wf b nm)))=_;rw[IB (h e V),IB H]
theorem wI(h:Pn l){nm:ca}(H:nm∈ee)(g:Nat->Bool)(N:low x=nm):found (l.map (Ce.tell g)) x []=fh l nm:=by
 unfold found fh;rw[List.find?_map];have:l.find? (hit x∘Ce.tell g)=l.find? (λe=>decide (e.nm=nm)):=by
  clear H
  induction l with
  |nil=>rfl|cons e r I=>
   have V:(hit x∘Ce.tell g) e=decide (e.nm=nm):=by
    show decide (low (wf (g e.k) e.nm)=low x)=_;rw[IB (h e Fd),N]
   have I:=I λq O=>h q (Ee _ O);refine(List.find?_cons).trans ?_;rw[List.find?_cons,V,I]
 rw[this]
 cases l.find? (λe=>decide (e.nm=nm))<;>rfl
theorem uJ(h:Pn l){nm:ca}(x:nm∈ee)(g:Nat->Bool)(k:Nat):wk (l.map (Ce.tell g)) (g k) nm k=(stepK l nm k).map (Ce.tell g)/\Pn (stepK l nm k):=by
 constructor
 ·unfold wk stepK Mq
  rw[X1 h x,wI h x g (E5 x),ej]
  rfl
 ·intro e H
  unfold stepK at H;rcases List.mem_append.mp H with H|H
  ·exact h e (List.mem_filter.mp H).1
  ·rw[om] at H;refine Jg H ?_;exact x
theorem IC(read:ba)(g:da):∀k,So read g k=(Sn read k).map (Ce.tell (gr g))/\Pn (Sn read k)
 |0=>⟨rfl,λe h=>by cases h⟩|k+1=>by
  obtain⟨H,j⟩:=IC read g k;obtain⟨Q,b⟩:=uJ j (PD read k) (gr g) k;obtain⟨h5,T⟩:=uJ b (VD read k) (gr g) k;refine⟨?_,T⟩;show wk (wk (So read g k) (gr g k) (Vm read k) k) (gr g k) (ul read k) k=_;rw[H,Q,h5];rfl
noncomputable def CD:Spec:=λa C=>match a,C with|[],[]=>Fb ((.rc 0,[(Ib,.Lb [])]),Hb)|_,_=>Gb
noncomputable abbrev PP:List (Nat×Spec):=[(1,jh Rd),(3,jh Om)]
noncomputable def ev:Spec:=λa C=>match Eh a.length 3 with
 |true=>Hd P0 (only PP) 60 Cy 11 a C|false=>Gb
noncomputable abbrev YE:List (Nat×Spec):=[(0,Ol Rd),(1,jh Rd),(2,Ol Om)]
noncomputable def ss:Spec:=λa C=>match Eh a.length 1 with
 |true=>Hd P0 (only YE) 60 qv 10 a C|false=>Gb
noncomputable abbrev LL:List (Nat×Spec):=[(5,vq),(7,Ms),(15,wv),(10,yv),(24,tq),(23,Cm),(25,xv),(12,ev),(13,ss),(14,Es)]
noncomputable abbrev FL:Dc:=only LL
section
theorem Hy{Nb:M}{cond:Option M}(x:um it T hp)(I:Loc->Prop)(keep:Nat->Bool)(f:Nat->Int)(G:I loc)(y:T.length<=1000)
  (O:∀k v loc,T[k]?=Fb v->I loc->∃l,He 6 Nb v loc=Fb l/\I l/\(match cond with|some c=>ud rE l c hp|none=>Rm.ret (Hb,hp))=Fb ((keep k,hp),Hb)/\(keep k=Hb->rE Sd Ib l hp=Fb ((.int (f k),hp),Hb))):
  compLoop rE Sd Nb cond (T.length+1) (it 0) loc hp (.Lb [])=Fb ((te (((xe T.length).filter keep).map f),hp),Hb):=by
 have h:=Rp x I keep (λk=>.int (f k)) O T.length 0 (T.length+1) loc (.Lb []) (by rfl) G (by simp) (by simp) (by show 0+T.length<=1000000;lia);have H:=RB f ((Gp 0 T.length).filter keep) [] (λJ J=>rfl);have q:te []=.Lb []:=rfl;rw[q] at H;refine h.trans ?_;rw[H,<-oH,iu]
theorem Oy{Nb:M}{cond:Option M}(x:um it T hp)(I:Loc->Prop)(keep:Nat->Bool)(f:Nat->ca)(G:I loc)(y:T.length<=1000)
  (O:∀k v loc,T[k]?=Fb v->I loc->∃l,He 6 Nb v loc=Fb l/\I l/\(match cond with|some c=>ud rE l c hp|none=>Rm.ret (Hb,hp))=Fb ((keep k,hp),Hb)/\(keep k=Hb->rE Sd Ib l hp=Fb ((.str (f k),hp),Hb))):
  compLoop rE Sd Nb cond (T.length+1) (it 0) loc hp (.Lb [])=Fb ((md (((xe T.length).filter keep).map f),hp),Hb):=by
 have h:=Rp x I keep (λk=>.str (f k)) O T.length 0 (T.length+1) loc (.Lb []) (by rfl) G (by simp) (by simp) (by show 0+T.length<=1000000;lia);have H:=wJ f ((Gp 0 T.length).filter keep) [] (λJ J=>rfl);have q:md []=.Lb []:=rfl;rw[q] at H;refine h.trans ?_;rw[H,<-oH,iu]
end
theorem cq(n:Nat):(xe n).filter (λJ=>Hb)=xe n:=List.filter_eq_self.mpr λJ J=>rfl
theorem Jp{α β:Type}(l:List α)(d:α)(f:α->β):(xe l.length).map (λk=>f (l.getD k d))=l.map f:=by
 refine List.ext_getElem (by simp) λi A h=>?_;have H:i<l.length:=by simpa using h
 simp[Mg,De H]
theorem wH{α β:Type}(l:List α)(d:α)(p:α->Bool)(f:α->β):((xe l.length).filter (λk=>p (l.getD k d))).map (λk=>f (l.getD k d))=(l.filter p).map f:=by
 have h:=Jp l d id;have e:(xe l.length).filter (λk=>p (l.getD k d))=(xe l.length).filter (p∘λk=>l.getD k d):=rfl;rw[e];have H:((xe l.length).map (λk=>l.getD k d)).filter p=((xe l.length).filter (p∘λk=>l.getD k d)).map (λk=>l.getD k d):=List.filter_map ..;have Q:(xe l.length).map (λk=>l.getD k d)=l:=by have:=h;simpa using this
 rw[Q] at H;rw[H,Yg];rfl
theorem YL{l:ba}(h:(l.map PV.str)[k]?=Fb v):v=.str (l.getD k [])/\k<l.length:=by
 replace h:=(bg).symm.trans h;obtain⟨x,H,rfl⟩:=Option.map_eq_some_iff.mp h;exact⟨by rw[Mg,H];rfl,(List.getElem?_eq_some_iff.mp H).1⟩
theorem vD{l:da}(h:(l.map PV.int)[k]?=Fb v):v=.int (l.getD k 0)/\k<l.length:=by
 replace h:=(bg).symm.trans h;obtain⟨x,H,rfl⟩:=Option.map_eq_some_iff.mp h;exact⟨by rw[Mg,H];rfl,(List.getElem?_eq_some_iff.mp H).1⟩
theorem k3(h:((xe n).map (λ(k:Nat)=>PV.int (k:Int)))[k]?=Fb v):v=.int (k:Int)/\k<n:=by
 rw[bg] at h;obtain⟨x,A,rfl⟩:=Option.map_eq_some_iff.mp h;obtain⟨j,H⟩:=List.getElem?_eq_some_iff.mp A;rw[tR] at H;refine Kt H ?_;exact⟨rfl,by simpa using j⟩
theorem D5{Nb:M}(H:n<70)(h:I (.oc .range a) Ib l b=Fb ((.ag 0 (n:Int) 1,N),Hb)):Jf F I l Nb (.oc .range a) b=Fb ((.Lb ((xe n).map (λ(k:Nat)=>PV.int (k:Int))),N),Hb):=by
 obtain⟨r1,r2⟩:=NB n H;refine src_range h ?_;unfold Bi;simp only [r1,r2]
theorem Fs{Nb:M}(H:l[i]?=Fb (Fb (.id j))):Jf F (Yb P F (n+1)) l Nb (.Jb i) h=Fb ((.Xb j 0,h),Hb):=by
 show Rm.bind (Yb P F (n+1) (.Jb i) Ib l h) (λx=>Rm.bind (Bi x.1) λi=>Rm.ret (i,x.2))=_;refine(Rm.bd (Qd H)).trans ?_;rfl
noncomputable def lc(v:PV)(size:Nat)(k x b C extra a A B d N Y w o p Q D q:Option PV):Loc:=
 [Fb v,Fb (.id 0),Fb (.int size),Fb (.id 1),k,Fb (.id 2),Fb (.id 3),x,Fb (.id 4),Fb (.id 5),Fb (.id 6),Fb (.id 7),b,Fb (.id 8),Fb (.id 9),C,extra,a,A,B,d,N,Y,w,o,p,Q,D,q,Gb,Gb,Gb,Gb,Gb,Gb,Gb,Gb,Gb,Gb,Gb,Gb,Gb,Gb,Gb,Gb]
noncomputable def xi:da:=[162,72,109,188,50,119,318,65,120,15,53,128]
noncomputable def Qf(N:da):Nat:=if N.length<3 then 5 else 6
noncomputable def ownOf(N:da):da:=pick N Gb (Fb 60) Gb
noncomputable def numAt(own:da)(k:Nat):Int:=(xi.getD k 0+(pick own (Fb (k:Int)) Gb (Fb 12)).sum).fmod 1000000
noncomputable def numsOf(N:da):da:=(xe (2*Qf N)).map (numAt (ownOf N))
noncomputable def eh(T:da):da:=T.map λx=>(x.fdiv 24).fmod 2
noncomputable def endAt(x:Int):ca:=Ai.getD ((x.fdiv 48).fmod 3).toNat []
noncomputable def Ij(x:da):ba:=x.map endAt
theorem Wr(N:da):Qf N=5\/Qf N=6:=by unfold Qf;split<;>simp
theorem ly(N:da):(numsOf N).length=2*Qf N:=by unfold numsOf;rw[Uc,El]
theorem Y2(N:da):(ownOf N).length<=60:=by
 unfold ownOf;rw[Np,vr];have:rn (Fb (60:Int)) N.length<=60:=by unfold rn;simp only;rw[if_neg (by decide)];exact wR _ _
 exact dc (wR _ _) (dc (Xk _ _) (wR _ _))
theorem zT:∀n:Nat,n<61->∀k:Nat,k<12->(sliceRange (bo (Fb (k:Int)) Gb (Fb 12) n).1 (bo (Fb (k:Int)) Gb (Fb 12) n).2.1 (bo (Fb (k:Int)) Gb (Fb 12) n).2.2).length<=100:=by decide+kernel
theorem eY{own:da}(h:own.length<=60){k:Nat}(H:k<12):(pick own (Fb (k:Int)) Gb (Fb 12)).length<=100:=by
 unfold pick;exact dc (kaa ..) (zT own.length (by exact zx ‹_›) k H)
noncomputable def h5(own N g:da)(e:ba)(t:Hp):Hp:=(Ib,.ints own)::(Ib,.ints xi)::(Ib,.ints N)::(Ib,.strs Ak)::(Ib,.ints g)::(Ib,.strs e)::t
noncomputable def l0(v:PV):Loc:=Fb v::Sk 44 Gb
theorem j_(F:Dc)(h:N.length<=63):uc P0 F 60 (.asg (.Sb [(.Jb 1),(.Jb 2)]) (.Sb [(.Oc (.Jb 0) .none (.int 60) .none),(.cc .Add (.int 5) (.oc .min [(.int 1),(.cc .FloorDiv (.oc .len [(.Jb 0)]) (.int 3))]))])) (l0 (.Mb (.ints N))) []=
  Fb ((.next,((l0 (.Mb (.ints N))).set 1 (Fb (.id 0))).set 2 (Fb (.int (Qf N:Nat))),[(Ib,.ints (ownOf N))]),Hb):=by
 have c1:N.length<=ic:=by unfold ic;exact dc ‹_› (by decide)
 have e:Yb P0 F 59 (.Oc (.Jb 0) .none (.int 60) .none) Hb (l0 (.Mb (.ints N))) []=Fb ((.id 0,[(Ib,.ints (ownOf N))]),Hb):=by
  refine cl rfl rfl rfl rfl ?_;show Fb ((PV.id 0,[(Ib,Cell.ints (ownOf N))]),decide (N.length<=ic)&&Hb)=_;rw[decide_eq_true c1];rfl
 have E:Yb P0 F 59 (.cc .Add (.int 5) (.oc .min [(.int 1),(.cc .FloorDiv (.oc .len [(.Jb 0)]) (.int 3))])) Hb (l0 (.Mb (.ints N))) [(Ib,.ints (ownOf N))]=Fb ((.int (Qf N:Nat),[(Ib,.ints (ownOf N))]),Hb):=by
  have p:Yb P0 F 56 (.oc .len [(.Jb 0)]) Ib (l0 (.Mb (.ints N))) [(Ib,.ints (ownOf N))]=Fb ((.int (N.length:Int),[(Ib,.ints (ownOf N))]),Hb):=
   Vh (vs:=[.Mb (.ints N)]) (by decide) rfl (QC (c:=.ints N) rfl c1 rfl)
  have q:Yb P0 F 57 (.cc .FloorDiv (.oc .len [(.Jb 0)]) (.int 3)) Ib (l0 (.Mb (.ints N))) [(Ib,.ints (ownOf N))]=Fb ((.int ((N.length:Int).fdiv 3),[(Ib,.ints (ownOf N))]),Hb):=
   dg p rfl rfl
  have d:Yb P0 F 58 (.oc .min [(.int 1),(.cc .FloorDiv (.oc .len [(.Jb 0)]) (.int 3))]) Ib (l0 (.Mb (.ints N))) [(Ib,.ints (ownOf N))]=Fb ((.int (if(N.length:Int).fdiv 3<1 then(N.length:Int).fdiv 3 else 1),[(Ib,.ints (ownOf N))]),Hb):=
   Vh (by decide) (Le rfl (zd q)) rfl
  refine dg rfl d ?_;show Fb ((PV.int (5+(if(N.length:Int).fdiv 3<1 then(N.length:Int).fdiv 3 else 1)),_),Hb)=_;have:(5+(if(N.length:Int).fdiv 3<1 then(N.length:Int).fdiv 3 else 1))=((Qf N:Nat):Int):=by
   rw[lH _ (by decide)];unfold Qf
   split<;>split<;>lia
  rw[this]
 exact Gf (zo (Le e (zd E))) rfl
theorem I_(F:Dc)(O:l[2]?=Fb (Fb (.int (Qf N:Nat))))(p:l[1]?=Fb (Fb (.id 0)))(G:l[3]?=Fb (Fb (.id 1)))(r:H=[(Ib,.ints (ownOf N)),(Ib,.ints xi)]):
  uc P0 F 60 (.asg (.Jb 5) (.comp (.cc .Mod (.cc .Add (.sub (.Jb 3) (.Jb 1)) (.oc .sum [(.Oc (.Jb 4) (.Jb 1) .none (.int 12))])) (.cc .Pow (.int 10) (.int 6))) (.Jb 1) (.oc .range [(.cc .Mult (.int 2) (.Jb 2))]) Gb [Gb,Gb,Gb,Fb 3,Fb 1])) l H=
   Fb ((.next,l.set 5 (Fb (.id 2)),H++[(Ib,.ints (numsOf N))]),Hb):=by
 subst r;have A:=Wr N;have e:Yb P0 F 59 (.oc .range [(.cc .Mult (.int 2) (.Jb 2))]) Ib l [(Ib,.ints (ownOf N)),(Ib,.ints xi)]=Fb ((.ag 0 ((2*Qf N:Nat):Int) 1,[(Ib,.ints (ownOf N)),(Ib,.ints xi)]),Hb):=by
  refine Vh (vs:=[.int ((2*Qf N:Nat):Int)]) (by decide) (zd (dg rfl (Qd O) ?_)) rfl;have:((2:Int)*((Qf N:Nat):Int))=((2*Qf N:Nat):Int):=by rfl
  rw[<-this];show Fb ((PV.int (2*(Qf N:Nat)),_),Ci 2&&Ci (Qf N:Nat))=_;rcases A with h|h<;>rw[h]<;>rfl
 have T:=Y2 N;have hw:=Hy (rE:=Yb P0 F 59) (Sd:=.cc .Mod (.cc .Add (.sub (.Jb 3) (.Jb 1)) (.oc .sum [(.Oc (.Jb 4) (.Jb 1) .none (.int 12))])) (.cc .Pow (.int 10) (.int 6))) (Nb:=.Jb 1) (cond:=Gb) (Il ((xe (2*Qf N)).map (λ(k:Nat)=>PV.int (k:Int))) [(Ib,.ints (ownOf N)),(Ib,.ints xi)])
  (λl=>∃a b c,l=[a,b,c,Fb (.id 1),Fb (.id 0)]) (λK=>Hb) (numAt (ownOf N)) (loc:=[Gb,Gb,Gb,Fb (.id 1),Fb (.id 0)]) ⟨_,_,_,rfl⟩ (by rw[Uc,El];lia) (λk v l Q I=>by
   obtain⟨a,b,c,rfl⟩:=I;obtain⟨rfl,C⟩:=k3 Q;have o:k<12:=by lia
   refine⟨[a,Fb (.int (k:Int)),c,Fb (.id 1),Fb (.id 0)],rfl,⟨_,_,_,rfl⟩,rfl,λK=>?_⟩;have s:pj (.id 1) (.int (k:Int)) [(Ib,.ints (ownOf N)),(Ib,.ints xi)]=Fb ((.int (xi.getD k 0),[(Ib,.ints (ownOf N)),(Ib,.ints xi)]),Hb):=Bn (c:=.ints xi) rfl (by show k<12;exact o) (by decide) rfl;have w:Yb P0 F 56 (.Oc (.Jb 4) (.Jb 1) .none (.int 12)) Ib [a,Fb (.int (k:Int)),c,Fb (.id 1),Fb (.id 0)] [(Ib,.ints (ownOf N)),(Ib,.ints xi)]=Fb ((.Mb (.ints (pick (ownOf N) (Fb (k:Int)) Gb (Fb 12))),[(Ib,.ints (ownOf N)),(Ib,.ints xi)]),Hb):=by
    refine cl rfl rfl rfl rfl ?_;show Fb ((PV.Mb (.ints (pick (ownOf N) (Fb (k:Int)) Gb (Fb 12))),_),decide ((ownOf N).length<=ic)&&decide (Fb (12:Int)≠Fb 0))=_;rw[decide_eq_true (show(ownOf N).length<=ic by unfold ic;exact dc ‹_› (by decide))];rfl
   have d:Yb P0 F 57 (.oc .sum [(.Oc (.Jb 4) (.Jb 1) .none (.int 12))]) Ib [a,Fb (.int (k:Int)),c,Fb (.id 1),Fb (.id 0)] [(Ib,.ints (ownOf N)),(Ib,.ints xi)]=Fb ((.int (pick (ownOf N) (Fb (k:Int)) Gb (Fb 12)).sum,[(Ib,.ints (ownOf N)),(Ib,.ints xi)]),Hb):=by
    refine Vh (by decide) (zd w) ?_;show Fb ((PV.int _,_),decide ((pick (ownOf N) (Fb (k:Int)) Gb (Fb 12)).length<=ic))=_;have:=eY T o;rw[decide_eq_true (show(pick (ownOf N) (Fb (k:Int)) Gb (Fb 12)).length<=ic by unfold ic;exact dc ‹_› (by decide))]
   exact dg (y:=.int 1000000) (dg (vk rfl rfl s) d rfl) rfl rfl)
 rw[Uc,El,cq] at hw;have J:te ((xe (2*Qf N)).map (numAt (ownOf N)))=.ints (numsOf N):=by
  unfold te;rw[if_neg]
  ·rfl
  ·intro q
   have:=congrArg mn q;rw[Uc,El] at this;simp at this;lia
 rw[J] at hw;refine Gf (v:=.id 2) (nk (m:=2*Qf N) (Wl:=[(Ib,.ints (ownOf N)),(Ib,.ints xi)]) (D5 (by lia) e) (by simp[zi]) ?_ rfl) rfl;have z:([Gb,Gb,Gb,Fb 3,Fb 1]:List (Option Nat)).map (λi=>i.bind λi=>(l[i]?).join)=[Gb,Gb,Gb,Fb (.id 1),Fb (.id 0)]:=by
  simp[p,G]
 rw[z];exact hw
theorem f9(F:Dc)(N:xs≠[])(U:xs.length<=100)(p:l[5]?=Fb (Fb (.id 2)))(H:h[2]?=Fb (Ib,.ints xs))(z:h.length=4):
  uc P0 F 60 (.asg (.Sb [(.Jb 8),(.Jb 9)]) (.Sb [(.comp (.cc .Mod (.cc .FloorDiv (.Jb 1) (.int 24)) (.int 2)) (.Jb 1) (.Jb 5) Gb [Gb,Gb]),(.comp (.sub (.Xb [(.str [10]),(.str [13,10]),(.str [13])]) (.cc .Mod (.cc .FloorDiv (.Jb 1) (.int 48)) (.int 3))) (.Jb 1) (.Jb 5) Gb [Gb,Gb])])) l h=
   Fb ((.next,(l.set 8 (Fb (.id 4))).set 9 (Fb (.id 5)),h++[(Ib,.ints (eh xs)),(Ib,.strs (Ij xs))]),Hb):=by
 have hlen:∀t:Hp,zi (.Xb 2 0) (h++t)=xs.length:=λt=>by
  show(match(h++t)[2]? with|some c=>c.2.len-0|none=>0)=_;rw[qG (by omega),H];rfl
 have T:∀t:Hp,(h++t)[2]?=Fb (Ib,.ints xs):=λt=>by refine(qG (by omega)).trans ?_;exact H
 have e:Yb P0 F 59 (.comp (.cc .Mod (.cc .FloorDiv (.Jb 1) (.int 24)) (.int 2)) (.Jb 1) (.Jb 5) Gb [Gb,Gb]) Hb l h=Fb ((.id 4,h++[(Ib,.ints (eh xs))]),Hb):=by
  have hw:=Hy (rE:=Yb P0 F 58) (Sd:=.cc .Mod (.cc .FloorDiv (.Jb 1) (.int 24)) (.int 2)) (Nb:=.Jb 1) (cond:=Gb) (Bj H) (λl=>∃a b,l=[a,b]) (λJ=>Hb) (λk=>((xs.getD k 0).fdiv 24).fmod 2) (loc:=[Gb,Gb]) ⟨_,_,rfl⟩ (by show(xs.map PV.int).length<=1000;rw[Uc];omega) (λk v l Q G=>by
   obtain⟨a,b,rfl⟩:=G;obtain⟨rfl,C⟩:=vD Q;exact⟨[a,Fb (.int (xs.getD k 0))],rfl,⟨_,_,rfl⟩,rfl,λJ=>rfl⟩)
  rw[show(Cell.ints xs).toList.length=xs.length from Uc ..,cq,Jp xs 0 (λx=>(x.fdiv 24).fmod 2)] at hw;have I:te (xs.map λx=>(x.fdiv 24).fmod 2)=.ints (eh xs):=by unfold te;refine(if_neg (by simpa using N)).trans ?_;rfl
  rw[I] at hw;have r:=hlen [];rw[ng] at r;exact nk (n:=58) (m:=xs.length) (acc:=.ints (eh xs)) (Wl:=h) (Fs p) r hw (by show(PV.id h.length,_)=_;rw[z])
 have E:Yb P0 F 59 (.comp (.sub (.Xb [(.str [10]),(.str [13,10]),(.str [13])]) (.cc .Mod (.cc .FloorDiv (.Jb 1) (.int 48)) (.int 3))) (.Jb 1) (.Jb 5) Gb [Gb,Gb]) Hb l (h++[(Ib,.ints (eh xs))])=Fb ((.id 5,h++[(Ib,.ints (eh xs)),(Ib,.strs (Ij xs))]),Hb):=by
  have hw:=Oy (rE:=Yb P0 F 58) (Sd:=.sub (.Xb [(.str [10]),(.str [13,10]),(.str [13])]) (.cc .Mod (.cc .FloorDiv (.Jb 1) (.int 48)) (.int 3))) (Nb:=.Jb 1) (cond:=Gb) (Bj (T [(Ib,.ints (eh xs))])) (λl=>∃a b,l=[a,b]) (λJ=>Hb) (λk=>endAt (xs.getD k 0)) (loc:=[Gb,Gb]) ⟨_,_,rfl⟩ (by show(xs.map PV.int).length<=1000;rw[Uc];omega) (λk v l Q G=>by
   obtain⟨a,b,rfl⟩:=G;obtain⟨rfl,C⟩:=vD Q;refine⟨[a,Fb (.int (xs.getD k 0))],rfl,⟨_,_,rfl⟩,rfl,λJ=>?_⟩;have B:=xR ((xs.getD k 0).fdiv 48) (show(0:Int)<3 by decide);have w:=yR ((xs.getD k 0).fdiv 48) (show(0:Int)<3 by decide);refine vk (n:=57) (x:=.Mb (.strs Ai)) (y:=.int (((xs.getD k 0).fdiv 48).fmod 3)) rfl rfl ?_;generalize O:((xs.getD k 0).fdiv 48).fmod 3=q at B w;obtain⟨j,rfl⟩:∃j:Nat,q=j:=⟨q.toNat,by exact(Xw B).symm⟩;have:=Bn (o:=.Mb (.strs Ai)) (c:=.strs Ai) (k:=j) (hp:=h++[(Ib,.ints (eh xs))]) rfl (by show j<3;exact Int.ofNat_lt.mp ‹_›) (by decide) rfl;refine this.trans ?_;unfold endAt;rw[O];rfl)
  rw[show(Cell.ints xs).toList.length=xs.length from Uc ..,cq,Jp xs 0 endAt] at hw;have I:md (xs.map endAt)=.strs (Ij xs):=by unfold md;refine(if_neg (by simpa using N)).trans ?_;rfl
  rw[I] at hw;exact nk (n:=58) (m:=xs.length) (acc:=.strs (Ij xs)) (Wl:=h++[(Ib,Cell.ints (eh xs))]) (Fs p) (hlen _) hw (by show(PV.id (h++[(Ib,Cell.ints (eh xs))]:Hp).length,_)=_;rw[Pd,z,Sh];rfl)
 exact Gf (n:=59) (zo (Le e (zd E))) rfl
theorem I8(F:Dc)(h:N.length<=63)(r:List S):Kc (uc P0 F 60) (ai.take 6++r) (l0 (.Mb (.ints N))) []=
  Kc (uc P0 F 60) r (lc (.Mb (.ints N)) (Qf N) Gb Gb (Fb (.str [])) Gb Gb Gb Gb Gb Gb Gb Gb Gb Gb Gb Gb Gb Gb)
   (h5 (ownOf N) (numsOf N) (eh (numsOf N)) (Ij (numsOf N)) [(Ib,.Lb []),(Ib,.Lb []),(Ib,.Lb []),(Ib,.Lb [])]):=by
 have A:=Wr N;have H:=ly N;have G:numsOf N≠[]:=by intro q;rw[q] at H;simp at H;lia
 refine(Bc (j_ F h)).trans ?_;refine(Bc (cf:=(((l0 (.Mb (.ints N))).set 1 (Fb (.id 0))).set 2 (Fb (.int (Qf N:Nat)))).set 3 (Fb (.id 1))) (Ac:=[(Ib,.ints (ownOf N)),(Ib,.ints xi)]) rfl).trans ?_;refine(Bc (I_ F rfl rfl rfl rfl)).trans ?_;refine(Bc (cf:=(((((l0 (.Mb (.ints N))).set 1 (Fb (.id 0))).set 2 (Fb (.int (Qf N:Nat)))).set 3 (Fb (.id 1))).set 5 (Fb (.id 2))).set 6 (Fb (.id 3))) (Ac:=[(Ib,.ints (ownOf N)),(Ib,.ints xi),(Ib,.ints (numsOf N)),(Ib,.strs Ak)]) rfl).trans ?_;refine(Bc (f9 F (xs:=numsOf N) G (by lia) rfl rfl rfl)).trans ?_;exact Bc rfl
structure ue where
 Lc:ba
 wait:ca
 vd:List (Nat×Nat)
noncomputable def ue.opens(s:ue):Nat:=(s.Lc.filter (·==[40])).length
noncomputable def ue.up(size:Nat)(b:Bool)(s:ue):Bool:=s.wait.isEmpty||(fk s.opens size&&b)
noncomputable def ue.foot(size:Nat)(b:Bool)(s:ue):ca:=match s.up size b with
 |true=>[40]|false=>[41]
noncomputable def ue.step(size k:Nat)(b:Bool)(s:ue):ue:=match s.up size b with
 |true=>⟨s.Lc++[[40]],s.wait++[k],s.vd⟩|false=>⟨s.Lc++[[41]],s.wait.dropLast,s.vd++[(s.wait.getLastD 0,k)]⟩
noncomputable def Gg(x:Int):Bool:=decide (x.fmod 2=0)
noncomputable def dj(x:Int):ca:=Ak.getD ((x.fdiv 2).fmod 12).toNat []
noncomputable def Wc(size:Nat)(x:da):Nat->ue
 |0=>⟨[],[],[]⟩|k+1=>(Wc size x k).step size (k+1) (Gg (x.getD k 0))
noncomputable def je(size:Nat)(x:da):Nat->List Pc
 |0=>[]|k+1=>je size x k++[((Wc size x k).foot size (Gg (x.getD k 0)),dj (x.getD k 0))]
theorem qJ(size k:Nat)(b:Bool)(s:ue):(s.step size k b).Lc=s.Lc++[s.foot size b]:=by
 unfold ue.step ue.foot
 cases s.up size b<;>rfl
theorem yy(size:Nat)(x:da):∀k,(je size x k).map (·.1)=(Wc size x k).Lc
 |0=>rfl|k+1=>by
  show List.map (λp:Pc=>p.1) (je size x k++[_])=((Wc size x k).step size (k+1) _).Lc;rw[qJ,ej,yy size x k];rfl
theorem y4:∀e∈Ak,e∈Nh:=by decide+kernel
theorem z6(h:e∈Ak):e∈Nh:=y4 e h
theorem ID(x:Int):dj x∈Ak/\∃j:Nat,j<12/\(x.fdiv 2).fmod 12=j/\dj x=Ak.getD j []:=by
 have b:=xR (x.fdiv 2) (show(0:Int)<12 by decide);have B:=yR (x.fdiv 2) (show(0:Int)<12 by decide);unfold dj;generalize (x.fdiv 2).fmod 12=q at b B;obtain⟨j,rfl⟩:∃j:Nat,q=j:=⟨q.toNat,by exact(Xw ‹_›).symm⟩;have h:j<12:=by exact Int.ofNat_lt.mp ‹_›
 rw[pr];refine⟨?_,j,h,rfl,rfl⟩;rw[Mg,De (show j<Ak.length from h)];exact UA _
theorem oz(size:Nat)(x:da):∀k,Xe (je size x k)
 |0=>λp h=>by cases h
 |k+1=>λp h=>by
  have h:=h;rcases List.mem_append.mp h with h|h
  ·exact oz size x k p h
  ·rw[om] at h
   refine Jg h ?_;refine⟨?_,z6 (ID _).1⟩;show ue.foot _ _ _=_\/ue.foot _ _ _=_;unfold ue.foot
   split
   ·exact .inl rfl
   ·exact .inr rfl
theorem gv(size:Nat)(x:da):∀k,(je size x k).length=k
 |0=>rfl|k+1=>by
  show(je size x k++[_]).length=_;refine List.length_append.trans ?_;rw[gv size x k];rfl
theorem ny(size:Nat)(x:da)(k:Nat):(Wc size x k).Lc.length=k:=by
 rw[<-yy,Uc,gv]
theorem Bu:∀{p:List Pc},Xe p->(Nc p).length<=p.length*6
 |[],_=>Ed _|(f,e)::r,h=>by
  obtain⟨T,H⟩:=h _ Fd;simp only at T H;have I:=Bu h.tail;have A:f.length=1:=by rcases T with rfl|rfl<;>rfl
  have j:(vg e).length<=5:=by
   unfold Nh at H;simp only [og,Xd,or_false] at H;rcases H with rfl|rfl|rfl|rfl|rfl|rfl|rfl<;>decide
  rw[Lp,Pd,Pd,xj,aB];simp only;rw[<-bm,Rk];exact Qk I (Qk (yl A) j)
theorem pV(a b:List Pc):Nc (a++b)=Nc a++Nc b:=by unfold Nc;rw[ej,Dx]
theorem U3(a b:List Pc):ed (a++b)=ed a++ed b:=by unfold ed;exact ej
theorem j2:∀e∈Ak,sl e Gb (Fb 1)=e.take 1:=by decide+kernel
theorem GL:∀e∈Ak,e.length<=5:=by decide+kernel
def Ck(w:ca)(c:Cell):Prop:=c=.ints (w.map λ(k:Nat)=>(k:Int))\/(c=.Lb []/\w=[])
theorem Ck.push(h:Ck w c)(k:Nat):Ck (w++[k]) (c.push (.int (k:Int))):=by
 rcases h with rfl|⟨rfl,rfl⟩
 ·left;show Cell.ints (_++[_])=_;rw[ej];rfl
 ·left;rfl
theorem Ck.len(h:Ck w c):c.len=w.length:=by
 rcases h with rfl|⟨rfl,rfl⟩
 ·exact Uc ..
 ·rfl
theorem Ck.eq(h:Ck w c)(H:hp[i]?=Fb (b,c)):Wg hp 40 (.id i) (.Mb (.Lb []))=Fb w.isEmpty:=by
 have e:Wg hp 40 (.id i) (.Mb (.Lb []))=(match cellAt (.id i) hp,Fb (Cell.Lb []) with
   |some c,Fb d=>Tm hp 39 c d|_,_=>Gb):=rfl
 refine e.trans ?_;rw[show cellAt (.id i) hp=Fb c by simp[cellAt,H]];rcases h with rfl|⟨rfl,rfl⟩
 ·induction w using xc with
  |nil=>rfl|cons x r=>rfl
 ·rfl
theorem SP(H:ud I l a h=Fb ((p,h),Hb))(j:p=Ib->ud I l b h=Fb ((q,h),Hb)):ud I l (.rl [a,b]) h=Fb ((p||q,h),Hb):=by
 have e:ud I l (.rl [a,b]) h=Rm.bind (ud I l a h) λv=>match v.1 with
  |true=>Rm.ret (Hb,v.2)|false=>Rm.bind (ud I l b v.2) λv=>match v.1 with
   |true=>Rm.ret (Hb,v.2)|false=>Rm.ret (Ib,v.2):=rfl
 refine e.trans ?_;refine(Rm.bd H).trans ?_
 induction p using Ld with
 |true=>rfl|false=>
  simp only;refine(Rm.bd (j rfl)).trans ?_
  induction q using Ld<;>rfl
theorem f_(H:ud I l a h=Fb ((p,h),Hb))(j:p=Hb->ud I l b h=Fb ((q,h),Hb)):ud I l (.Nn [a,b]) h=Fb ((p&&q,h),Hb):=by
 have e:ud I l (.Nn [a,b]) h=Rm.bind (ud I l a h) λv=>match v.1 with
  |true=>Rm.bind (ud I l b v.2) λv=>match v.1 with
   |true=>Rm.ret (Hb,v.2)|false=>Rm.ret (Ib,v.2)
  |false=>Rm.ret (Ib,v.2):=rfl
 refine e.trans ?_;refine(Rm.bd H).trans ?_
 induction p using Ld with
 |false=>rfl|true=>
  simp only;refine(Rm.bd (j rfl)).trans ?_
  induction q using Ld<;>rfl
noncomputable def Ue(f:ba)(t:ba)(w:Cell)(d:List (Nat×Nat)):Hp:=[(Ib,md f),(Ib,md t),(Ib,w),(Ib,.Lb (d.map λp=>PV.Sb [.int (p.1:Int),.int (p.2:Int)]))]
section
noncomputable def D'(h:Hp)(x:ca):Option ba->Rm (PV×Hp)
 |some l=>Fb ((.int (l.filter (·==x)).length,h),decide (l.length<=ic))|none=>Gb
theorem g7(N:Lc.length<=100):uc P0 F 59 (.asg (.Sb [(.Jb 15),(.Jb 16)]) (.Sb [(.qc .count (.Jb 10) [(.str [40])]),(.sub (.Jb 6) (.cc .Mod (.cc .FloorDiv (.Jb 7) (.int 2)) (.int 12)))])) (lc v size (Fb (.int k)) (Fb (.int x)) (Fb (.str bare)) Vf extra Gb Gb Gb Gb Gb Gb Gb Gb Gb Gb Gb Gb) (h5 own pd great ends (Ue Lc tx wc vd))=
  Fb ((.next,lc v size (Fb (.int k)) (Fb (.int x)) (Fb (.str bare)) (Fb (.int ((Lc.filter (·==[40])).length:Nat))) (Fb (.str (dj x))) Gb Gb Gb Gb Gb Gb Gb Gb Gb Gb Gb Gb,h5 own pd great ends (Ue Lc tx wc vd)),Hb):=by
 have e:Yb P0 F 58 (.qc .count (.Jb 10) [(.str [40])]) Hb (lc v size (Fb (.int k)) (Fb (.int x)) (Fb (.str bare)) Vf extra Gb Gb Gb Gb Gb Gb Gb Gb Gb Gb Gb Gb) (h5 own pd great ends (Ue Lc tx wc vd))=Fb ((.int ((Lc.filter (·==[40])).length:Nat),h5 own pd great ends (Ue Lc tx wc vd)),Hb):=by
  refine me (vs:=[.str [40]]) rfl rfl ?_;have h:cellAt (.id 6) (h5 own pd great ends (Ue Lc tx wc vd))=Fb (md Lc):=rfl;show zO _ (cellAt (.id 6) (h5 own pd great ends (Ue Lc tx wc vd))) [.str [40]]=_;rw[h];show D' _ [40] (nj (md Lc))=_;rw[vB];show Fb (_,decide (Lc.length<=ic))=_;rw[decide_eq_true (show Lc.length<=ic by unfold ic;exact dc ‹_› (by decide))]
 have E:Yb P0 F 58 (.sub (.Jb 6) (.cc .Mod (.cc .FloorDiv (.Jb 7) (.int 2)) (.int 12))) Hb (lc v size (Fb (.int k)) (Fb (.int x)) (Fb (.str bare)) Vf extra Gb Gb Gb Gb Gb Gb Gb Gb Gb Gb Gb Gb) (h5 own pd great ends (Ue Lc tx wc vd))=Fb ((.str (dj x),h5 own pd great ends (Ue Lc tx wc vd)),Hb):=by
  refine vk rfl rfl ?_;refine Qc λG V=>?_;obtain⟨J,j,H,A,l⟩:=ID x;refine V ?_;rw[A,l,Bn (c:=.strs Ak) rfl (by show j<12;exact H) (by decide) rfl];rfl
 exact Gf (zo (Le e (zd E))) rfl
theorem m7{w:ue}(U:w.Lc=f)(hw:Ck w.wait j)(N:f.length<=100):uc P0 F 59 (.expr (.qc .append (.Jb 10) [(.ite (.rl [(.fc (.mc .Eq (.Jb 13) (.Xb []))),(.Nn [(.fc (.mc .Lt (.Jb 15) (.Jb 2))),(.fc (.mc .Eq (.cc .Mod (.Jb 7) (.int 2)) (.int 0)))])]) (.str [40]) (.str [41]))]))
   (lc v size (Fb (.int k)) (Fb (.int x)) (Fb (.str bare)) (Fb (.int (w.opens:Nat))) (Fb (.str e)) Gb Gb Gb Gb Gb Gb Gb Gb Gb Gb Gb Gb) (h5 own pd great ends (Ue f tx j vd))=
  Fb ((.next,lc v size (Fb (.int k)) (Fb (.int x)) (Fb (.str bare)) (Fb (.int (w.opens:Nat))) (Fb (.str e)) Gb Gb Gb Gb Gb Gb Gb Gb Gb Gb Gb Gb,h5 own pd great ends (Ue (f++[w.foot size (Gg x)]) tx j vd)),Hb):=by
 generalize B:lc v size (Fb (.int k)) (Fb (.int x)) (Fb (.str bare)) (Fb (.int (w.opens:Nat))) (Fb (.str e)) Gb Gb Gb Gb Gb Gb Gb Gb Gb Gb Gb Gb=l;generalize Y:h5 own pd great ends (Ue f tx j vd)=H;have T:ud (Yb P0 F 57) l (.rl [(.fc (.mc .Eq (.Jb 13) (.Xb []))),(.Nn [(.fc (.mc .Lt (.Jb 15) (.Jb 2))),(.fc (.mc .Eq (.cc .Mod (.Jb 7) (.int 2)) (.int 0)))])]) H=Fb ((w.up size (Gg x),H),Hb):=by
  have C:ud (Yb P0 F 57) l (.fc (.mc .Eq (.Jb 13) (.Xb []))) H=Fb ((w.wait.isEmpty,H),Hb):=by
   refine Fe (x:=.bool w.wait.isEmpty) (af (y:=.Mb (.Lb [])) (Qd (by rw[<-B];rfl)) rfl ?_) rfl;have:=hw.eq (hp:=H) (i:=8) (by rw[<-Y];rfl);show(Wg H 40 (.id 8) (.Mb (.Lb []))).map PV.bool=_;rw[this];rfl
  have t:ud (Yb P0 F 57) l (.fc (.mc .Lt (.Jb 15) (.Jb 2))) H=Fb ((decide ((w.opens:Int)<size),H),Hb):=
   Fe (af (Qd (by rw[<-B];rfl)) (Qd (by rw[<-B];rfl)) rfl) rfl
  have D:ud (Yb P0 F 57) l (.fc (.mc .Eq (.cc .Mod (.Jb 7) (.int 2)) (.int 0))) H=Fb ((Gg x,H),Hb):=
   Fe (af (dg (Qd (by rw[<-B];rfl)) rfl rfl) rfl rfl) rfl
  have O:decide ((w.opens:Int)<size)=fk w.opens size:=by
   by_cases q:w.opens<size
   ·rw[decide_eq_true (by exact Int.ofNat_lt.mpr ‹_›)];symm;simpa [Gx] using q
   ·rw[decide_eq_false (by lia)]
    cases h:fk w.opens size
    ·rfl
    ·exact absurd (by simpa [Gx] using h) q
  rw[O] at t;exact SP C λJ=>f_ t λJ=>D
 have E:Yb P0 F 58 (.ite (.rl [(.fc (.mc .Eq (.Jb 13) (.Xb []))),(.Nn [(.fc (.mc .Lt (.Jb 15) (.Jb 2))),(.fc (.mc .Eq (.cc .Mod (.Jb 7) (.int 2)) (.int 0)))])]) (.str [40]) (.str [41])) Hb l H=Fb ((.str (w.foot size (Gg x)),H),Hb):=by
  refine jq T ?_;unfold ue.foot
  cases w.up size (Gg x)<;>rfl
 refine Aj (me (Qd (by rw[<-B];rfl)) (zd E) ?_);rw[<-Y];show Fb ((PV.none,h5 own pd great ends [(Ib,(md f).push (.str (w.foot size (Gg x)))),_,_,_]),decide ((md f).len+1<=ic))=_;rw[uu,Au,decide_eq_true (show f.length+1<=ic by unfold ic;exact Nf ‹_› (by decide))]
 rfl
theorem cy{mt:Bool}(Q:L[10]?=Fb (Fb (.id 6)))(o:H[6]?=Fb (Ib,md (l++[f])))(N:l.length<=100):Yb P0 F (n+3) (.sub (.Jb 10) (.neg (.int 1))) mt L H=Fb ((.str f,H),Hb):=by
 refine vk (y:=.int (-1-((0:Nat):Int))) (Qd Q) rfl ?_;have h:(md (l++[f])).len=l.length+1:=by rw[Au,Pd];rfl
 refine(bD (c:=md (l++[f])) (by simp[cellAt,o]) (by rw[h];simp) (by rw[h];unfold ic;exact Nf ‹_› (by decide)) rfl).trans ?_;rw[h];have:(md (l++[f])).getD (l.length+1-1-0)=.str f:=by
  unfold md;rw[if_neg (by simp)];show PV.str ((l++[f]).getD (l.length+1-1-0) [])=_;rw[Mg,show l.length+1-1-0=l.length by rfl,YQ (Ed _)];simp
 rw[this]
theorem P6(h:e∈Ak)(T:f.length=1)(H:Lc.length<=100)(D:tx.length<=100):uc P0 F 59 (.expr (.qc .append (.Jb 11) [(.cc .Add (.sub (.Jb 10) (.neg (.int 1))) (.Jb 16))])) (lc v size (Fb (.int k)) (Fb (.int x)) (Fb (.str bare)) Vf (Fb (.str e)) Gb Gb Gb Gb Gb Gb Gb Gb Gb Gb Gb Gb) (h5 own pd great ends (Ue (Lc++[f]) tx wc vd))=
  Fb ((.next,lc v size (Fb (.int k)) (Fb (.int x)) (Fb (.str bare)) Vf (Fb (.str e)) Gb Gb Gb Gb Gb Gb Gb Gb Gb Gb Gb Gb,h5 own pd great ends (Ue (Lc++[f]) (tx++[f++e]) wc vd)),Hb):=by
 have B:=GL e h;have E:Yb P0 F 58 (.cc .Add (.sub (.Jb 10) (.neg (.int 1))) (.Jb 16)) Hb (lc v size (Fb (.int k)) (Fb (.int x)) (Fb (.str bare)) Vf (Fb (.str e)) Gb Gb Gb Gb Gb Gb Gb Gb Gb Gb Gb Gb) (h5 own pd great ends (Ue (Lc++[f]) tx wc vd))=Fb ((.str (f++e),h5 own pd great ends (Ue (Lc++[f]) tx wc vd)),Hb):=by
  refine dg (cy rfl rfl H) rfl ?_;show Fb ((PV.str (f++e),_),decide (f.length+e.length<=ic))=_;rw[decide_eq_true (show f.length+e.length<=ic by unfold ic;lia)]
 refine Aj (me rfl (zd E) ?_);show Fb ((PV.none,h5 own pd great ends [_,(Ib,(md tx).push (.str (f++e))),_,_]),decide ((md tx).len+1<=ic))=_;rw[uu,Au,decide_eq_true (show tx.length+1<=ic by unfold ic;exact Nf ‹_› (by decide))]
 rfl
theorem g6(V:e∈Ak)(T:f.length=1)(N:Lc.length<=100)(U:bare.length<=1000):uc P0 F 59 (.aug 12 .Add (.cc .Add (.sub (.Jb 10) (.neg (.int 1))) (.ite (.fc (.mc .Eq (.Oc (.Jb 16) .none (.int 1) .none) (.str [92]))) (.Jb 16) (.str [])))) (lc v size (Fb (.int k)) (Fb (.int x)) (Fb (.str bare)) Vf (Fb (.str e)) Gb Gb Gb Gb Gb Gb Gb Gb Gb Gb Gb Gb) (h5 own pd great ends (Ue (Lc++[f]) tx wc vd))=
  Fb ((.next,lc v size (Fb (.int k)) (Fb (.int x)) (Fb (.str (bare++(f++vg e)))) Vf (Fb (.str e)) Gb Gb Gb Gb Gb Gb Gb Gb Gb Gb Gb Gb,h5 own pd great ends (Ue (Lc++[f]) tx wc vd)),Hb):=by
 have B:=GL e V;have G:(vg e).length<=5:=by unfold vg;split;exact B;exact ah _
 generalize H:lc v size (Fb (.int k)) (Fb (.int x)) (Fb (.str bare)) Vf (Fb (.str e)) Gb Gb Gb Gb Gb Gb Gb Gb Gb Gb Gb Gb=l;generalize Y:h5 own pd great ends (Ue (Lc++[f]) tx wc vd)=h;have J:l[16]?=Fb (Fb (.str e)):=by rw[<-H];rfl
 have E:Yb P0 F 58 (.ite (.fc (.mc .Eq (.Oc (.Jb 16) .none (.int 1) .none) (.str [92]))) (.Jb 16) (.str [])) Ib l h=Fb ((.str (vg e),h),Hb):=by
  have e0:Yb P0 F 56 (.Oc (.Jb 16) .none (.int 1) .none) Ib l h=Fb ((.str (e.take 1),h),Hb):=by
   refine cl (Qd J) rfl rfl rfl ?_;show Fb ((PV.str (sl e Gb (Fb 1)),_),decide (e.length<=ic))=_;rw[j2 e V,decide_eq_true (show e.length<=ic by unfold ic;exact dc ‹_› (by decide))]
  refine jq (Fe (af e0 rfl rfl) rfl) ?_;unfold vg
  by_cases q:e.take 1=[92]
  ·rw[decide_eq_true q,if_pos rfl,if_pos q];exact Qd J
  ·rw[decide_eq_false q,if_neg (by decide),if_neg q];rfl
 have o:Yb P0 F 59 (.cc .Add (.sub (.Jb 10) (.neg (.int 1))) (.ite (.fc (.mc .Eq (.Oc (.Jb 16) .none (.int 1) .none) (.str [92]))) (.Jb 16) (.str []))) Ib l h=Fb ((.str (f++vg e),h),Hb):=by
  refine dg (cy (by rw[<-H];rfl) (by rw[<-Y];rfl) N) E ?_;show Fb ((PV.str (f++vg e),_),decide (f.length+(vg e).length<=ic))=_;rw[decide_eq_true (show f.length+(vg e).length<=ic by unfold ic;lia)]
 have e0:uc P0 F 59 (.aug 12 .Add (.cc .Add (.sub (.Jb 10) (.neg (.int 1))) (.ite (.fc (.mc .Eq (.Oc (.Jb 16) .none (.int 1) .none) (.str [92]))) (.Jb 16) (.str [])))) l h=Rm.bind (Yb P0 F 59 (.cc .Add (.sub (.Jb 10) (.neg (.int 1))) (.ite (.fc (.mc .Eq (.Oc (.Jb 16) .none (.int 1) .none) (.str [92]))) (.Jb 16) (.str []))) Ib l h) (λx=>Rm.bind (Kv .Add (.str bare) x.1) λy=>Rm.ret (Fl.next,l.set 12 (Fb y),x.2)):=by rw[<-H];rfl
 refine e0.trans ?_;refine(Rm.bd o).trans ?_;have p:Kv .Add (.str bare) (.str (f++vg e))=Fb (.str (bare++(f++vg e)),Hb):=by
  show Fb (PV.str _,decide (bare.length+(f++vg e).length<=ic))=_;rw[decide_eq_true (by rw[Pd];unfold ic;lia)]
 refine(Rm.bd p).trans ?_;rw[<-H]
 rfl
theorem n4(hw:Ck w j)(h:Lc.length<=100)(H:w.length<=100):uc P0 F 59 (.ifs (.fc (.mc .Eq (.sub (.Jb 10) (.neg (.int 1))) (.str [40]))) [.expr (.qc .append (.Jb 13) [(.Jb 4)])] [.expr (.qc .append (.Jb 14) [(.Sb [(.qc .pop (.Jb 13) []),(.Jb 4)])])]) (lc v size (Fb (.int k)) (Fb (.int x)) (Fb (.str bare)) Vf extra Gb Gb Gb Gb Gb Gb Gb Gb Gb Gb Gb Gb) (h5 own pd great ends (Ue (Lc++[[40]]) tx j vd))=
  Fb ((.next,lc v size (Fb (.int k)) (Fb (.int x)) (Fb (.str bare)) Vf extra Gb Gb Gb Gb Gb Gb Gb Gb Gb Gb Gb Gb,h5 own pd great ends (Ue (Lc++[[40]]) tx (j.push (.int k)) vd)),Hb):=by
 refine Me (Fe (x:=.bool Hb) (af (cy rfl rfl h) rfl rfl) rfl) ?_;refine(if_pos rfl).trans ?_;refine(Bc (Aj (me (vs:=[.int k]) rfl rfl ?_))).trans rfl;show Fb ((PV.none,h5 own pd great ends [_,_,(Ib,j.push (.int k)),_]),decide (j.len+1<=ic))=_;rw[hw.len,decide_eq_true (show w.length+1<=ic by unfold ic;exact Nf ‹_› (by decide))]
 rfl
theorem i5(hw:Ck w j)(h:w≠[])(H:Lc.length<=100)(l:w.length<=100)(T:vd.length<=100):uc P0 F 59 (.ifs (.fc (.mc .Eq (.sub (.Jb 10) (.neg (.int 1))) (.str [40]))) [.expr (.qc .append (.Jb 13) [(.Jb 4)])] [.expr (.qc .append (.Jb 14) [(.Sb [(.qc .pop (.Jb 13) []),(.Jb 4)])])]) (lc v size (Fb (.int (k:Nat))) (Fb (.int x)) (Fb (.str bare)) Vf extra Gb Gb Gb Gb Gb Gb Gb Gb Gb Gb Gb Gb) (h5 own pd great ends (Ue (Lc++[[41]]) tx j vd))=
  Fb ((.next,lc v size (Fb (.int (k:Nat))) (Fb (.int x)) (Fb (.str bare)) Vf extra Gb Gb Gb Gb Gb Gb Gb Gb Gb Gb Gb Gb,h5 own pd great ends (Ue (Lc++[[41]]) tx (.ints (w.dropLast.map λ(k:Nat)=>(k:Int))) (vd++[(w.getLastD 0,k)]))),Hb):=by
 refine Me (Fe (af (cy rfl rfl H) rfl rfl) rfl) ?_;refine(if_neg (by decide)).trans ?_;rcases hw with rfl|⟨J,q⟩
 ·have y:=List.length_pos_iff.mpr h
  have g:(Cell.ints (w.map λ(k:Nat)=>(k:Int))).getD ((Cell.ints (w.map λ(k:Nat)=>(k:Int))).len-1)=.int ((w.getLastD 0:Nat):Int):=by
   show PV.int ((w.map λ(k:Nat)=>(k:Int)).getD ((w.map λ(k:Nat)=>(k:Int)).length-1) 0)=_;rw[Uc,Mg,bg,De (by lia),List.getLastD_eq_getLast?,List.getLast?_eq_getElem?,De (by lia)];rfl
  have G:(Cell.ints (w.map λ(k:Nat)=>(k:Int))).Kj ((Cell.ints (w.map λ(k:Nat)=>(k:Int))).len-1)=.ints (w.dropLast.map λ(k:Nat)=>(k:Int)):=by
   show Cell.ints ((w.map λ(k:Nat)=>(k:Int)).eraseIdx ((w.map λ(k:Nat)=>(k:Int)).length-1))=_;rw[List.map_dropLast,List.eraseIdx_length_sub_one]
  have e:Yb P0 F 56 (.qc .pop (.Jb 13) []) Hb (lc v size (Fb (.int (k:Nat))) (Fb (.int x)) (Fb (.str bare)) Vf extra Gb Gb Gb Gb Gb Gb Gb Gb Gb Gb Gb Gb) (h5 own pd great ends (Ue (Lc++[[41]]) tx (.ints (w.map λ(k:Nat)=>(k:Int))) vd))=
    Fb ((.int ((w.getLastD 0:Nat):Int),h5 own pd great ends (Ue (Lc++[[41]]) tx (.ints (w.dropLast.map λ(k:Nat)=>(k:Int))) vd)),Hb):=by
   refine me rfl rfl ?_;show Fb ((Cell.getD _ _,h5 own pd great ends [_,_,(Ib,Cell.Kj _ _),_]),decide (0<(Cell.ints (w.map λ(k:Nat)=>(k:Int))).len)&&decide ((Cell.ints (w.map λ(k:Nat)=>(k:Int))).len<=ic))=_;rw[g,G,show(Cell.ints (w.map λ(k:Nat)=>(k:Int))).len=w.length from Uc ..,decide_eq_true y,decide_eq_true (show w.length<=ic by unfold ic;exact dc ‹_› (by decide))]
   rfl
  refine(Bc (Aj (me rfl (zd (zo (Le e (zd rfl)))) ?_))).trans rfl;have N:(Cell.Lb (vd.map λp=>PV.Sb [.int (p.1:Int),.int (p.2:Int)])).push (.Sb [.int ((w.getLastD 0:Nat):Int),.int (k:Nat)])=.Lb ((vd++[(w.getLastD 0,k)]).map λp=>PV.Sb [.int (p.1:Int),.int (p.2:Int)]):=by
   rw[ej]
   induction vd using xc<;>rfl
  show Fb ((PV.none,h5 own pd great ends [_,_,_,(Ib,Cell.push _ _)]),decide ((Cell.Lb (vd.map λp=>PV.Sb [.int (p.1:Int),.int (p.2:Int)])).len+1<=ic))=_;have dl:(Cell.Lb (vd.map λp=>PV.Sb [.int (p.1:Int),.int (p.2:Int)])).len+1<=ic:=by
   show(vd.map λp=>PV.Sb [.int (p.1:Int),.int (p.2:Int)]).length+1<=ic;rw[Uc];unfold ic;exact Nf ‹_› (by decide)
  rw[N,decide_eq_true dl]
  rfl
 ·exact(h q).elim
end
noncomputable def wE:List S:=[.asg (.Sb [(.Jb 15),(.Jb 16)]) (.Sb [(.qc .count (.Jb 10) [(.str [40])]),(.sub (.Jb 6) (.cc .Mod (.cc .FloorDiv (.Jb 7) (.int 2)) (.int 12)))]),.expr (.qc .append (.Jb 10) [(.ite (.rl [(.fc (.mc .Eq (.Jb 13) (.Xb []))),(.Nn [(.fc (.mc .Lt (.Jb 15) (.Jb 2))),(.fc (.mc .Eq (.cc .Mod (.Jb 7) (.int 2)) (.int 0)))])]) (.str [40]) (.str [41]))]),.expr (.qc .append (.Jb 11) [(.cc .Add (.sub (.Jb 10) (.neg (.int 1))) (.Jb 16))]),.aug 12 .Add (.cc .Add (.sub (.Jb 10) (.neg (.int 1))) (.ite (.fc (.mc .Eq (.Oc (.Jb 16) .none (.int 1) .none) (.str [92]))) (.Jb 16) (.str []))),.ifs (.fc (.mc .Eq (.sub (.Jb 10) (.neg (.int 1))) (.str [40]))) [.expr (.qc .append (.Jb 13) [(.Jb 4)])] [.expr (.qc .append (.Jb 14) [(.Sb [(.qc .pop (.Jb 13) []),(.Jb 4)])])]]
theorem JC(size:Nat)(x:da):∀k,(Wc size x k).wait.length+(Wc size x k).vd.length<=k/\(Wc size x k).wait.length<=k
 |0=>⟨Ed _,Ed _⟩|k+1=>by
  obtain⟨h,H⟩:=JC size x k;show((Wc size x k).step size (k+1) _).wait.length+((Wc size x k).step size (k+1) _).vd.length<=k+1/\((Wc size x k).step size (k+1) _).wait.length<=k+1;unfold ue.step ue.up
  cases hw:(Wc size x k).wait with
  |nil=>
   rw[hw] at h;simp only [DQ,Bool.true_or,Pd,gm,Dl];simp only [gm] at h
   lia
  |cons a r=>
   rw[hw] at h H;simp only [xj] at h H
   split
   ·simp only [Pd,xj,gm];lia
   ·simp only [Pd,xj,gm,List.length_dropLast];lia
theorem FV(F:Dc)(D:k<=50)(hw:Ck (Wc size T k).wait w):
  ∃f C Y,Ck (Wc size T (k+1)).wait f/\Kc (uc P0 F 59) wE (lc v size (Fb (.int ((k+1:Nat):Int))) (Fb (.int (T.getD k 0))) (Fb (.str (Nc (je size T k)))) j extra Gb Gb Gb Gb Gb Gb Gb Gb Gb Gb Gb Gb) (h5 own N g E (Ue (Wc size T k).Lc (ed (je size T k)) w (Wc size T k).vd))=
   Fb ((.next,lc v size (Fb (.int ((k+1:Nat):Int))) (Fb (.int (T.getD k 0))) (Fb (.str (Nc (je size T (k+1))))) C Y Gb Gb Gb Gb Gb Gb Gb Gb Gb Gb Gb Gb,h5 own N g E (Ue (Wc size T (k+1)).Lc (ed (je size T (k+1))) f (Wc size T (k+1)).vd)),Hb):=by
 have U:=ny size T k;have B:=gv size T k;have O:=Bu (oz size T k);obtain⟨r,l⟩:=JC size T k;have J:(ed (je size T k)).length=k:=by unfold ed;rw[Uc,B]
 generalize H:T.getD k 0=x;have V:=(ID x).1;have Q:((Wc size T k).foot size (Gg x)).length=1:=by unfold ue.foot;split<;>rfl
 have a:=g7 (F:=F) (own:=own) (pd:=N) (great:=g) (ends:=E) (v:=v) (size:=size) (k:=k+1) (x:=x) (Lc:=(Wc size T k).Lc) (tx:=ed (je size T k)) (wc:=w) (vd:=(Wc size T k).vd) (bare:=Nc (je size T k)) (Vf:=j) (extra:=extra) (by lia);have b:=m7 (F:=F) (own:=own) (pd:=N) (great:=g) (ends:=E) (v:=v) (size:=size) (k:=k+1) (x:=x) (tx:=ed (je size T k)) (vd:=(Wc size T k).vd) (bare:=Nc (je size T k)) (e:=dj x) rfl hw (by lia);have c:=P6 (F:=F) (own:=own) (pd:=N) (great:=g) (ends:=E) (v:=v) (size:=size) (k:=k+1) (x:=x) (Lc:=(Wc size T k).Lc) (tx:=ed (je size T k)) (wc:=w) (vd:=(Wc size T k).vd) (bare:=Nc (je size T k)) (Vf:=Fb (.int ((Wc size T k).opens:Nat))) V Q (by lia) (by lia);have d:=g6 (F:=F) (own:=own) (pd:=N) (great:=g) (ends:=E) (v:=v) (size:=size) (k:=k+1) (x:=x) (Lc:=(Wc size T k).Lc) (tx:=ed (je size T k)++[(Wc size T k).foot size (Gg x)++dj x]) (wc:=w) (vd:=(Wc size T k).vd) (bare:=Nc (je size T k)) (Vf:=Fb (.int ((Wc size T k).opens:Nat))) V Q (by lia) (by lia);have y:Nc (je size T (k+1))=Nc (je size T k)++((Wc size T k).foot size (Gg x)++vg (dj x)):=by
  show Nc (je size T k++[_])=_;rw[pV,H];simp[Nc]
 have o:ed (je size T (k+1))=ed (je size T k)++[(Wc size T k).foot size (Gg x)++dj x]:=by
  show ed (je size T k++[_])=_;rw[U3,H];rfl
 have p:Wc size T (k+1)=(Wc size T k).step size (k+1) (Gg x):=by
  show(Wc size T k).step size (k+1) (Gg (T.getD k 0))=_;rw[H]
 rw[y,o,p,qJ]
 cases h:(Wc size T k).up size (Gg x) with
 |true=>
  have G:(Wc size T k).foot size (Gg x)=[40]:=by unfold ue.foot;rw[h]
  have A:(Wc size T k).step size (k+1) (Gg x)=⟨(Wc size T k).Lc++[[40]],(Wc size T k).wait++[k+1],(Wc size T k).vd⟩:=by unfold ue.step;rw[h]
  rw[G] at b c d⊢;rw[A];have e:=n4 (F:=F) (own:=own) (pd:=N) (great:=g) (ends:=E) (v:=v) (size:=size) (k:=k+1) (x:=x) (Lc:=(Wc size T k).Lc) (tx:=ed (je size T k)++[[40]++dj x]) (vd:=(Wc size T k).vd) (bare:=Nc (je size T k)++([40]++vg (dj x))) (Vf:=Fb (.int ((Wc size T k).opens:Nat))) (extra:=Fb (.str (dj x))) hw (by lia) (by lia);exact⟨_,_,_,hw.push (k+1),(Bc a).trans ((Bc b).trans ((Bc c).trans ((Bc d).trans ((Bc e).trans rfl))))⟩
 |false=>
  have G:(Wc size T k).foot size (Gg x)=[41]:=by unfold ue.foot;rw[h]
  have A:(Wc size T k).step size (k+1) (Gg x)=⟨(Wc size T k).Lc++[[41]],(Wc size T k).wait.dropLast,(Wc size T k).vd++[((Wc size T k).wait.getLastD 0,k+1)]⟩:=by unfold ue.step;rw[h]
  have I:(Wc size T k).wait≠[]:=λq=>by unfold ue.up at h;rw[q] at h;injection h
  rw[G] at b c d⊢;rw[A];have e:=i5 (F:=F) (own:=own) (pd:=N) (great:=g) (ends:=E) (v:=v) (size:=size) (k:=k+1) (x:=x) (Lc:=(Wc size T k).Lc) (tx:=ed (je size T k)++[[41]++dj x]) (vd:=(Wc size T k).vd) (bare:=Nc (je size T k)++([41]++vg (dj x))) (Vf:=Fb (.int ((Wc size T k).opens:Nat))) (extra:=Fb (.str (dj x))) hw I (by lia) (by lia) (by lia);exact⟨_,_,_,.inl rfl,(Bc a).trans ((Bc b).trans ((Bc c).trans ((Bc d).trans ((Bc e).trans rfl))))⟩
inductive cw(own pd great:da)(ends:ba)(v:PV)(size:Nat)(k:Nat):Loc->Hp->Prop
 |mk{a b Vf extra:Option PV}{wc:Cell}(hw:Ck (Wc size pd k).wait wc):cw own pd great ends v size k (lc v size a b (Fb (.str (Nc (je size pd k)))) Vf extra Gb Gb Gb Gb Gb Gb Gb Gb Gb Gb Gb Gb) (h5 own pd great ends (Ue (Wc size pd k).Lc (ed (je size pd k)) wc (Wc size pd k).vd))
inductive rz(own pd great:da)(ends:ba)(v:PV)(size:Nat):Fl->Loc->Hp->Prop
 |mk{a b Vf extra:Option PV}{wc:Cell}:rz own pd great ends v size .next (lc v size a b (Fb (.str (Nc (je size pd pd.length)))) Vf extra Gb Gb Gb Gb Gb Gb Gb Gb Gb Gb Gb Gb) (h5 own pd great ends (Ue (Wc size pd pd.length).Lc (ed (je size pd pd.length)) wc (Wc size pd pd.length).vd))
theorem K5(F:Dc)(A:N.length<=12):Rf (forLoop (λl H=>Kc (uc P0 F 59) wE l H) (.Sb [(.Jb 4),(.Jb 7)]) (N.length+1) (.enum 1 (.Xb 2 0)) (lc v size Gb Gb (Fb (.str [])) Gb Gb Gb Gb Gb Gb Gb Gb Gb Gb Gb Gb Gb Gb) (h5 own N great ends [(Ib,.Lb []),(Ib,.Lb []),(Ib,.Lb []),(Ib,.Lb [])])) (rz own N great ends v size):=by
 have T:((N.map PV.int).mapIdx λi x=>PV.Sb [.int (1+i),x]).length=N.length:=by rw[List.length_mapIdx,Uc]
 refine Qm (it:=λk=>.enum (1+k) (.Xb 2 k)) (items:=(N.map PV.int).mapIdx λi x=>.Sb [.int (1+i),x]) (cw own N great ends v size) (rz own N great ends v size) (λk l H h=>?_) ?_ ?_ N.length 0 _ _ _ ((Ii _).trans T.symm) (Af _) (.mk (.inr ⟨rfl,rfl⟩))
 ·induction h using cw.casesOn with|mk=>exact DW 1 (Bj (c:=.ints N) rfl) k
 ·intro k w l H Q h
  rw[List.getElem?_mapIdx] at Q;refine(Option.map_eq_some_iff.mp Q).elim λx y=>?_;have g:=vD y.1;have d:(1+(k:Int))=((k+1:Nat):Int):=Int.add_comm 1 k;rw[<-y.2,g.1,d]
  induction h using cw.casesOn with
  |mk hw=>exact ge (FV F (dc (Df g.2) (dc A (by decide))) hw) λe C E z=>.next rfl z.2 (.mk z.1)
 ·intro l H h
  rw[T] at h
  induction h using cw.casesOn with|mk=>exact .mk
theorem l_(F:Dc)(H:pd.length<=12):
  ∃k x C extra j,uc P0 F 60 (.Uf (.Sb [(.Jb 4),(.Jb 7)]) (.oc .enum [(.Jb 5),(.int 1)]) wE) (lc v size Gb Gb (Fb (.str [])) Gb Gb Gb Gb Gb Gb Gb Gb Gb Gb Gb Gb Gb Gb) (h5 own pd great ends [(Ib,.Lb []),(Ib,.Lb []),(Ib,.Lb []),(Ib,.Lb [])])=
   Fb ((.next,lc v size k x (Fb (.str (Nc (je size pd pd.length)))) C extra Gb Gb Gb Gb Gb Gb Gb Gb Gb Gb Gb Gb,
    h5 own pd great ends (Ue (Wc size pd pd.length).Lc (ed (je size pd pd.length)) j (Wc size pd pd.length).vd)),Hb):=by
 have w:=K5 F (own:=own) (great:=great) (ends:=ends) (v:=v) (size:=size) H
 induction w using Rf.casesOn with
 |@mk f l h hw L=>
  induction L using rz.casesOn with
  |@mk a b C extra j=>exact⟨a,b,C,extra,j,Kl (Od:=h5 own pd great ends [(Ib,.Lb []),(Ib,.Lb []),(Ib,.Lb []),(Ib,.Lb [])]) rfl rfl hw⟩
noncomputable def reach(size:Nat):Nat->List ue
 |0=>[⟨[],[],[]⟩]|k+1=>(reach size k).flatMap λs=>match s.up size Ib with
  |true=>[s.step size (k+1) Hb]|false=>match fk s.opens size with
   |true=>[s.step size (k+1) Hb,s.step size (k+1) Ib]|false=>[s.step size (k+1) Ib]
theorem MC(size:Nat)(x:da):∀k,Wc size x k∈reach size k
 |0=>List.mem_singleton.mpr rfl|k+1=>by
  show _∈(reach size k).flatMap _;rw[List.mem_flatMap];refine⟨_,MC size x k,?_⟩;show(Wc size x k).step size (k+1) (Gg (x.getD k 0))∈_
  cases h:(Wc size x k).up size Ib with
  |true=>
   have:∀b,(Wc size x k).step size (k+1) b=(Wc size x k).step size (k+1) Hb:=λb=>by
    unfold ue.step;have H:∀b,(Wc size x k).up size b=Hb:=λb=>by
     unfold ue.up at h⊢;rw[Zt,zR] at h;rw[h];rfl
    rw[H b,H Hb]
   rw[this (Gg _)];exact List.mem_singleton.mpr rfl
  |false=>
   simp only
   cases z:fk (Wc size x k).opens size with
   |true=>
    cases Gg (x.getD k 0)
    ·exact Ee _ (List.mem_singleton.mpr rfl)
    ·exact Fd
   |false=>
    have:∀b,(Wc size x k).step size (k+1) b=(Wc size x k).step size (k+1) Ib:=λb=>by
     unfold ue.step;have H:∀b,(Wc size x k).up size b=Ib:=λb=>by
      unfold ue.up at h⊢;rw[Zt,zR] at h;rw[h,z];rfl
     rw[H b,H Ib]
    rw[this (Gg _)];exact List.mem_singleton.mpr rfl
noncomputable def hT(own N g:da)(e f T:ba)(w:Cell)(d:List PV)(t:Hp):Hp:=h5 own N g e ((Ib,.strs f)::(Ib,.strs T)::(Ib,w)::(Ib,.Lb d)::t)
noncomputable def mh:ca:=[40,39,39,44,32,39,39,41]
noncomputable def ZD(c:ca):Bool:=decide (c=[40])||decide (c=[41])
theorem aI:∀{p:List Pc},Xe p->(Kf p).filter ZD=p.map (·.1)
 |[],_=>rfl|(f,e)::r,h=>by
  obtain⟨T,H⟩:=h _ Fd;simp only at T H;have I:=aI h.tail;rw[Lx,rh,<-I];unfold Nh at H;simp only [og,Xd,or_false] at H;rcases T with rfl|rfl<;>rcases H with rfl|rfl|rfl|rfl|rfl|rfl|rfl<;>rfl
theorem AB:∀{p:List Pc},Xe p->(Kf p).flatten=Nc p
 |[],_=>rfl|(f,e)::r,h=>by
  obtain⟨T,H⟩:=h _ Fd;simp only at T H;have I:=AB h.tail;rw[Lx,Lp,<-I];unfold Nh at H;simp only [og,Xd,or_false] at H;rcases T with rfl|rfl<;>rcases H with rfl|rfl|rfl|rfl|rfl|rfl|rfl<;>simp[Xy,vg]
theorem jv:Pj .NotEq a b h=(Wg h 40 a b).map λx=>.bool (!x):=rfl
theorem iy{mt b:Bool}(A:I[j]?=Gb)(k:H[j]?=Fb (b,c))(Q:Be c=Hb):jk (.id j) I H mt h=Fb (td mt c h,Hb):=by
 have e:jk (.id j) I H mt h=match I[j]? with
  |some i=>Rm.ret (.id i,h)|none=>match H[j]? with
   |some (_,c)=>match Be c with
    |true=>Rm.ret (td mt c h)|false=>match Dj H I.length 9 (.id j) with
     |some v=>Rm.ret (v,h)|none=>Gb
   |none=>Gb:=rfl
 refine e.trans ?_;rw[A,k];show(match Be c with
    |true=>Rm.ret (td mt c h)|false=>match Dj H I.length 9 (.id j) with
     |some v=>Rm.ret (v,h)|none=>Gb)=_
 rw[Q];rfl
theorem u4{mt b:Bool}(A:I[j]?=Gb)(k:H[j]?=Fb (b,c))(Q:Be c=Hb):jk (.rc j) I H mt h=Fb ((.rc h.length,h++[(Ib,c)]),Hb):=by
 have e:jk (.rc j) I H mt h=match I[j]? with
  |some i=>Rm.ret (.rc i,h)|none=>match H[j]? with
   |some (_,c)=>match Be c with
    |true=>Rm.ret (.rc h.length,h++[(Ib,c)])|false=>Gb
   |none=>Gb:=rfl
 refine e.trans ?_;rw[A,k];show(match Be c with
    |true=>Rm.ret (PV.rc h.length,h++[(Ib,c)])|false=>Gb)=_
 rw[Q];rfl
theorem aN{mt:Bool}(H:cellAt (.id i) h=Fb c)(A:eg l=Fb L)(j:eg u=Fb U)(Q:eg s=Fb Gb)(x:c.len<=ic):kl (.id i) l u s mt h=Fb (td mt (c.pick L U Gb) h,Hb):=by
 unfold kl;rw[A,j,Q];show(match cellAt (.id i) h with
  |some c=>Fb (td mt (c.pick L U Gb) h,decide (c.len<=ic)&&decide ((Gb:Option Int)≠Fb 0))|none=>Gb)=_
 rw[H];exact ke rfl (by rw[decide_eq_true x];rfl)
theorem W4{mt:Bool}(h:eg l=Fb L)(H:eg u=Fb U)(Q:eg s=Fb Gb)(x:c.len<=ic):kl (.Mb c) l u s mt a=Fb (td mt (c.pick L U Gb) a,Hb):=by
 unfold kl;rw[h,H,Q];exact ke rfl (by rw[decide_eq_true x];rfl)
theorem Sp(h:H[i]?=Fb c):kj H [i]=Fb [c]:=by
 show(match H[i]?,(Fb []:Option Hp) with|some c,Fb C=>Fb (c::C)|_,_=>Gb)=_;rw[h]
theorem HB(h:H[i]?=Fb c)(k:H[j]?=Fb d):kj H [i,j]=Fb [c,d]:=by
 show(match H[i]?,kj H [j] with|some c,Fb C=>Fb (c::C)|_,_=>Gb)=_;rw[h,Sp k]
theorem bU:Rg (.Sb a::r)=.Lb (.Sb a::r):=rfl
theorem f7(h:Xe x)(H:x≠[]):∃a r,Gc (Nc x) 0 Ib=.Sb a::r:=by
 induction x using xc with
 |nil=>exact(H rfl).elim|cons p r=>
  obtain⟨T,J⟩:=h _ Fd;rw[Lp];rcases T with e|e<;>rw[e]<;>exact⟨_,_,rfl⟩
theorem EI{α:Type}(l:List α):pick l (Fb 1) Gb Gb=l.tail:=by
 rw[Np];have e:rn Gb l.length=l.length:=rfl;have E:Ip (Fb (1:Int)) l.length=min 1 l.length:=by unfold Ip;simp only;refine(if_neg (by decide)).trans ?_;rfl
 rw[e,E]
 induction l using xc with
 |nil=>rfl|cons a r=>simp
section
theorem WM(h:Xe p)(H:p.length<=12):((ed p).map (·.length)).sum<=1000:=by
 have:=gq h;unfold Ec at this;rw[SA] at this;show(List.map mn (ed p)).sum<=1000;unfold ed;exact dc ‹_› (dc (lu _ ‹_›) (by decide))
theorem W_(h:Xe p)(H:p.length<=12):uc P0 F 60 (.asg (.Jb 17) (.qc .join (.str []) [(.Jb 11)])) (lc v size k x (Fb (.str (Nc p))) C extra Gb Gb Gb Gb Gb Gb Gb Gb Gb Gb Gb Gb) (hT own N g e (p.map (·.1)) (ed p) w d [])=
  Fb ((.next,lc v size k x (Fb (.str (Nc p))) C extra (Fb (.str (Ec p))) Gb Gb Gb Gb Gb Gb Gb Gb Gb Gb Gb,hT own N g e (p.map (·.1)) (ed p) w d []),Hb):=by
 refine Gf (me (vs:=[.id 7]) rfl rfl ?_) rfl;rw[show Ec p=Qi [] (ed p) by rw[Lr,PX]];exact ke rfl (decide_eq_true (by rw[gm,ZA];exact dc (WM h H) (by decide)))
theorem U_(G:F.fn 5=vq)(y:F.gen=Vo)(h:Xe p)(D:p.length<=12)(H:p≠[]):uc P0 F 60 (.asg (.Jb 18) (.oc .list [(.fn 4 [(.fn 5 [(.Jb 17)])])])) (lc v size k x (Fb (.str (Nc p))) C extra (Fb (.str (Ec p))) Gb Gb Gb Gb Gb Gb Gb Gb Gb Gb Gb) (hT own N g e (p.map (·.1)) (ed p) w d [])=
  Fb ((.next,lc v size k x (Fb (.str (Nc p))) C extra (Fb (.str (Ec p))) (Fb (.id 10)) Gb Gb Gb Gb Gb Gb Gb Gb Gb Gb,hT own N g e (p.map (·.1)) (ed p) w d [(Ib,.Lb (Gc (Nc p) 0 Ib))]),Hb):=by
 have J:=gq h;have E:(Ec p).length<=300:=by exact dc ‹_› (dc (lu _ ‹_›) (by decide))
 have A:Co (Ec p)=Nc p:=by have:=DH h (tl:=[]) (by simp[Ti]);simpa using this
 have U:=Bu h;have I:=Uu (Nc p) 0 Ib;refine Mc (f7 h H) λa r j=>?_;refine Gf ?_ rfl;generalize B:lc v size k x (Fb (.str (Nc p))) C extra (Fb (.str (Ec p))) Gb Gb Gb Gb Gb Gb Gb Gb Gb Gb Gb=l;have z:Yb P0 F 59 (.fn 5 [(.Jb 17)]) Ib l (hT own N g e (p.map (·.1)) (ed p) w d [])=Fb ((.str (Nc p),hT own N g e (p.map (·.1)) (ed p) w d []),Hb):=by
  refine Ni (zd (Qd (by rw[<-B];rfl))) ?_;rw[<-A];exact Pg rfl rfl rfl rfl (by rw[G];exact if_pos E) rfl rfl
 show Rm.bind (Yb P0 F 59 (.fn 5 [(.Jb 17)]) Ib l (hT own N g e (p.map (·.1)) (ed p) w d [])) (λx=>match F.gen 4 [x.1] with
   |some T=>Fb (td Hb (Rg T) x.2,decide (T.length<=ic))|none=>Gb)=_
 refine(Rm.bd z).trans ?_;rw[y];show Fb (td Hb (Rg (Gc (Nc p) 0 Ib)) _,decide ((Gc (Nc p) 0 Ib).length<=ic))=_;rw[decide_eq_true (show(Gc (Nc p) 0 Ib).length<=ic by unfold ic;lia),j,bU]
 rfl
theorem RM{l:List PV}(hw:∀v∈l,∃(i:Nat)(c:ca),v=.Sb [.int (i:Int),.str c]){u:PV}(h:l[k]?=Fb u):∃i:Nat,u=.Sb [.int (i:Int),.str ((l.map tv).getD k [])]:=by
 obtain⟨i,c,rfl⟩:=hw _ (bh h);refine⟨i,?_⟩;rw[Mg,bg,h];rfl
theorem n9(h:Xe p)(y:p.length<=12)(G:p≠[]):uc P0 F 60 (.asg (.Jb 19) (.comp (.Jb 2) (.Sb [(.Jb 1),(.Jb 2)]) (.Jb 18) (Fb (.fc (.mc .In (.Jb 2) (.Sb [(.str [40]),(.str [41])])))) [Gb,Gb,Gb])) (lc v size k x (Fb (.str (Nc p))) C extra (Fb (.str (Ec p))) (Fb (.id 10)) Gb Gb Gb Gb Gb Gb Gb Gb Gb Gb) (hT own N g e (p.map (·.1)) (ed p) w d [(Ib,.Lb (Gc (Nc p) 0 Ib))])=
  Fb ((.next,lc v size k x (Fb (.str (Nc p))) C extra (Fb (.str (Ec p))) (Fb (.id 10)) (Fb (.id 11)) Gb Gb Gb Gb Gb Gb Gb Gb Gb,hT own N g e (p.map (·.1)) (ed p) w d [(Ib,.Lb (Gc (Nc p) 0 Ib)),(Ib,.strs (p.map (·.1)))]),Hb):=by
 have U:=Bu h;have B:=Uu (Nc p) 0 Ib;have H:(Gc (Nc p) 0 Ib).map tv=Kf p:=by have:=Eu (tl:=[]) (by simp[Ti]) p 0 h;simpa using this
 refine Gf ?_ rfl;have hw:=Oy (rE:=Yb P0 F 59) (Sd:=.Jb 2) (Nb:=.Sb [(.Jb 1),(.Jb 2)]) (cond:=Fb (.fc (.mc .In (.Jb 2) (.Sb [(.str [40]),(.str [41])])))) (hp:=hT own N g e (p.map (·.1)) (ed p) w d [(Ib,.Lb (Gc (Nc p) 0 Ib))]) (it:=λk=>.Xb 10 k)
  (Bj rfl) (λl=>∃a b c,l=[a,b,c]) (λk=>ZD ((Kf p).getD k [])) (λk=>(Kf p).getD k []) (loc:=[Gb,Gb,Gb]) ⟨_,_,_,rfl⟩ (by show(Gc (Nc p) 0 Ib).length<=1000;lia) (λk u l j I=>by
   obtain⟨a,b,c,rfl⟩:=I;obtain⟨i,rfl⟩:=RM (λv Q=>zu _ _ _ v Q) j;rw[H];exact⟨[a,Fb (.int (i:Int)),Fb (.str ((Kf p).getD k []))],rfl,⟨_,_,_,rfl⟩,rfl,λJ=>rfl⟩)
 have hlen:(Gc (Nc p) 0 Ib).length=(Kf p).length:=by rw[<-H,Uc]
 have T:=wH (Kf p) [] ZD id;simp only [id] at T;rw[show(Cell.Lb (Gc (Nc p) 0 Ib)).toList.length=(Kf p).length from hlen,T,List.map_id,aI h] at hw;have f:md (p.map (·.1))=.strs (p.map (·.1)):=by unfold md;exact(if_neg (by simpa using G))
 rw[f] at hw;exact nk (Fs rfl) hlen hw rfl
noncomputable def eqQ(h:Hp):Option Cell->Option Cell->Option Bool
 |some c,Fb d=>Tm h 39 c d|_,_=>Gb
theorem X5(h:x=Fb c)(H:y=Fb d)(e:Tm a 39 c d=r):eqQ a x y=r:=by rw[h,H];exact e
noncomputable def U8(h:Hp)(s:ca):Option ba->Rm (PV×Hp)
 |some l=>Fb ((.str (Qi s l),h),decide ((l.map (·.length)).sum+l.length*s.length<=ic))|none=>Gb
theorem nB(h:cellAt a hp=Fb (.strs l))(H:cellAt b hp=Fb (.strs l)):Wg hp 40 a b=Fb Hb:=by
 have:Tm hp 39 (.strs l) (.strs l)=Fb Hb:=by
  show Fb (decide (l=l))=_;rw[decide_eq_true rfl]
 induction a using PV.casesOn<;>induction b using PV.casesOn<;>first|(injection h;done)|(injection H;done)|(have z:=X5 h H this;exact z)
theorem Y8(h:Xe p)(y:p.length<=12)(I:p≠[])(o:H=hT own N g J (p.map (·.1)) (ed p) w d [(Ib,.Lb (Gc (Nc p) 0 Ib)),(Ib,.strs (p.map (·.1)))])(B:l=lc v size k x (Fb (.str (Nc p))) C extra (Fb (.str (Ec p))) (Fb (.id 10)) (Fb (.id 11)) Gb Gb Gb Gb Gb Gb Gb Gb Gb):
  uc P0 F 60 (.ifs (.rl [(.fc (.mc .NotEq (.qc .join (.str []) [(.comp (.Jb 2) (.Sb [(.Jb 1),(.Jb 2)]) (.Jb 18) Gb [Gb,Gb,Gb])]) (.Jb 12))),(.fc (.mc .NotEq (.Jb 19) (.Jb 10)))]) [.ret (.bool Ib)] []) l H=Fb ((.next,l,H),Hb):=by
 have U:=Bu h;have D:=Uu (Nc p) 0 Ib;have m:(Gc (Nc p) 0 Ib).map tv=Kf p:=by have:=Eu (tl:=[]) (by simp[Ti]) p 0 h;simpa using this
 have hlen:(Gc (Nc p) 0 Ib).length=(Kf p).length:=by rw[<-m,Uc]
 have hw:=Oy (rE:=Yb P0 F 57) (Sd:=.Jb 2) (Nb:=.Sb [(.Jb 1),(.Jb 2)]) (cond:=Gb) (hp:=H) (it:=λk=>.Xb 10 k)
  (Bj (by rw[o];rfl)) (λl=>∃a b c,l=[a,b,c]) (λk=>Hb) (λk=>(Kf p).getD k []) (loc:=[Gb,Gb,Gb]) ⟨_,_,_,rfl⟩ (by show(Gc (Nc p) 0 Ib).length<=1000;lia) (λk u l q G=>by
   obtain⟨a,b,c,rfl⟩:=G;obtain⟨i,rfl⟩:=RM (λv Q=>zu _ _ _ v Q) q;rw[m];exact⟨[a,Fb (.int (i:Int)),Fb (.str ((Kf p).getD k []))],rfl,⟨_,_,_,rfl⟩,rfl,λK=>rfl⟩)
 have j:=Jp (Kf p) [] id;rw[List.map_id] at j;simp only [id] at j;rw[show(Cell.Lb (Gc (Nc p) 0 Ib)).toList.length=(Kf p).length from hlen,cq,j] at hw;have e:Yb P0 F 58 (.comp (.Jb 2) (.Sb [(.Jb 1),(.Jb 2)]) (.Jb 18) Gb [Gb,Gb,Gb]) Ib l H=Fb ((.Mb (md (Kf p)),H),Hb):=
  nk (Fs (by rw[B];rfl)) (by rw[o];exact hlen) hw rfl
 have E:Yb P0 F 59 (.qc .join (.str []) [(.comp (.Jb 2) (.Sb [(.Jb 1),(.Jb 2)]) (.Jb 18) Gb [Gb,Gb,Gb])]) Ib l H=Fb ((.str (Nc p),H),Hb):=by
  refine me rfl (zd e) ?_;show U8 H [] (nj (md (Kf p)))=_;rw[vB];show Fb ((PV.str (Qi [] (Kf p)),H),decide (((Kf p).map (·.length)).sum+(Kf p).length*0<=ic))=_;rw[Lr,ZA,Nat.add_zero];have A:((Kf p).map (·.length)).sum<=ic:=by
   rw[<-SA,AB h];unfold ic;lia
  rw[decide_eq_true A,AB h]
 have t:ud (Yb P0 F 60) l (.fc (.mc .NotEq (.qc .join (.str []) [(.comp (.Jb 2) (.Sb [(.Jb 1),(.Jb 2)]) (.Jb 18) Gb [Gb,Gb,Gb])]) (.Jb 12))) H=Fb ((Ib,H),Hb):=by
  refine Fe (x:=.bool Ib) (af E (Qd (by rw[B];rfl)) ?_) rfl;show(Fb (decide (Nc p=Nc p))).map (λx=>PV.bool (!x))=_;rw[decide_eq_true rfl];rfl
 have T:ud (Yb P0 F 60) l (.fc (.mc .NotEq (.Jb 19) (.Jb 10))) H=Fb ((Ib,H),Hb):=by
  refine Fe (x:=.bool Ib) (af (Qd (by rw[B];rfl)) (Qd (by rw[B];rfl)) ?_) rfl;have:=nB (hp:=H) (a:=.id 11) (b:=.id 6) (by rw[o];rfl) (by rw[o];rfl);show(Wg H 40 (.id 11) (.id 6)).map (λx=>PV.bool (!x))=_;rw[this];rfl
 exact Me (b:=Ib) (SP t λK=>T) rfl
noncomputable def Xh(p:List Pc):ba:=[Ec p,[40]++Ec p,Ec p++[41,40],Ec p.tail,Ec p++[34]]
noncomputable def Ry(f:ba):Bool:=Uj f 0&&!Uj ([40]::f) 0&&!Uj (f++[[41],[40]]) 0&&!Uj f.tail 0
theorem P2(a b:List Pc):Ec (a++b)=Ec a++Ec b:=by unfold Ec;rw[ej,Dx]
theorem DT(h:Xe x)(d:Ry (x.map (·.1))=Hb):(Xh x).map Ri=[Ec x,mh,mh,mh,Ec x++[34]]:=by
 unfold Ry at d;simp only [Zc,bn] at d;obtain⟨⟨⟨c1,c2⟩,C⟩,s⟩:=d;have z:∀l,Uj l 0=Wi l 0:=λl=>(Tu l 0).symm;rw[z] at c1 c2 C s;have t0:([]:ca)∈Ti:=by simp[Ti]
 have t:([34]:ca)∈Ti:=by simp[Ti]
 have I:=Br h t0;rw[ng,c1] at I;have k:=Br (ps:=([40],[])::x) (λp H=>by
  rcases List.mem_cons.mp H with rfl|H
  ·exact⟨.inl rfl,by simp[Nh]⟩
  ·exact h p H) t0
 rw[ng,rh,c2,fy] at k;have b:=Br (ps:=x++[([41],[]),([40],[])]) (λp H=>by
  rcases List.mem_append.mp H with H|H
  ·exact h p H
  ·simp only [og,Xd,or_false] at H
   rcases H with rfl|rfl
   ·exact⟨.inr rfl,by simp[Nh]⟩
   ·exact⟨.inl rfl,by simp[Nh]⟩) t0
 rw[ng,ej,P2] at b;have b:vj (Ec x++[41,40])=Ib:=by rw[<-C];exact b
 have Y:=Br (λp H=>h p (AR H)) t0;rw[ng,List.map_tail,s] at Y;have L:=Br h t;rw[c1] at L;have k:vj ([40]++Ec x)=Ib:=k;unfold Xh;simp only [rh,nH,Ri,I,k,b,Y,L]
 rfl
theorem V8(h:Xe y)(A:y.length<=12)(o:H=hT own N g e (y.map (·.1)) (ed y) w d t)(O:t.length=2)(B:l=lc v size k x (Fb (.str (Nc y))) C extra (Fb (.str (Ec y))) (Fb (.id 10)) (Fb (.id 11)) Gb Gb Gb Gb Gb Gb Gb Gb Gb):
  uc P0 F 60 (.asg (.Jb 20) (.Xb [(.Jb 17),(.cc .Add (.str [40]) (.Jb 17)),(.cc .Add (.Jb 17) (.str [41,40])),(.qc .join (.str []) [(.Oc (.Jb 11) (.int 1) .none .none)]),(.cc .Add (.Jb 17) (.str [34]))])) l H=
   Fb ((.next,lc v size k x (Fb (.str (Nc y))) C extra (Fb (.str (Ec y))) (Fb (.id 10)) (Fb (.id 11)) (Fb (.id 12)) Gb Gb Gb Gb Gb Gb Gb Gb,hT own N g e (y.map (·.1)) (ed y) w d (t++[(Ib,.strs (Xh y))])),Hb):=by
 have Q:=gq h;have m:=WM h A;have V:∀n mt,Yb P0 F (n+1) (.Jb 17) mt l H=Fb ((.str (Ec y),H),Hb):=λn mt=>Qd (by rw[B];rfl);have G:Yb P0 F 59 (.cc .Add (.str [40]) (.Jb 17)) Ib l H=Fb ((.str ([40]++Ec y),H),Hb):=by
  refine dg rfl (V _ _) ?_;show Fb ((PV.str ([40]++Ec y),_),decide (1+(Ec y).length<=ic))=_;rw[decide_eq_true (show 1+(Ec y).length<=ic by unfold ic;lia)]
 have b:∀z:ca,z.length<=5->Yb P0 F 59 (.cc .Add (.Jb 17) (.str z)) Ib l H=Fb ((.str (Ec y++z),H),Hb):=λz U=>by
  refine dg (V _ _) rfl ?_;show Fb ((PV.str (Ec y++z),_),decide ((Ec y).length+z.length<=ic))=_;rw[decide_eq_true (show(Ec y).length+z.length<=ic by unfold ic;lia)]
 have E:(ed y).length<=12:=by unfold ed;rw[Uc];exact A
 have I:Yb P0 F 58 (.Oc (.Jb 11) (.int 1) .none .none) Ib l H=Fb ((.Mb (.strs (ed y).tail),H),Hb):=by
  refine cl (Qd (by rw[B];rfl)) rfl rfl rfl ?_;have f:cellAt (.id 7) H=Fb (.strs (ed y)):=by rw[o];rfl
  rw[<-EI];show(match cellAt (.id 7) H with
   |some c=>Fb (td Ib (c.pick (Fb 1) Gb Gb) H,decide (c.len<=ic)&&decide ((Gb:Option Int)≠Fb 0))|none=>Gb)=_
  rw[f];exact ke rfl (by rw[decide_eq_true (show(Cell.strs (ed y)).len<=ic from dc E (by decide))];rfl)
 have q:Yb P0 F 59 (.qc .join (.str []) [(.Oc (.Jb 11) (.int 1) .none .none)]) Ib l H=Fb ((.str (Ec y.tail),H),Hb):=by
  refine me rfl (zd I) ?_;have T:(ed y).tail.flatten=Ec y.tail:=by unfold ed Ec;rw[<-List.map_tail]
  have J:((ed y).tail.map (·.length)).sum<=ic:=by
   have L:Xe y.tail:=λp H=>h p (AR H);have j:=gq L;rw[<-SA,T,rH] at*;unfold ic;exact dc j (dc (lu 6 (dc (Xk _ _) A)) (by decide))
  rw[<-T,<-Lr];exact ke rfl (decide_eq_true (by rw[gm,ZA];exact J))
 refine Gf ?_ (by rw[B];rfl);show Rm.bind (Vd (Yb P0 F 59) Ib l [(.Jb 17),(.cc .Add (.str [40]) (.Jb 17)),(.cc .Add (.Jb 17) (.str [41,40])),(.qc .join (.str []) [(.Oc (.Jb 11) (.int 1) .none .none)]),(.cc .Add (.Jb 17) (.str [34]))] H) (λD=>Rm.ret (td Hb (Rg D.1) D.2))=_;refine(Rm.bd (Le (V _ _) (Le G (Le (b [41,40] (by decide)) (Le q (zd (b [34] (by decide)))))))).trans ?_;have hlen:H.length=12:=by rw[o];show t.length+10=12;lia
 show Fb ((PV.id H.length,H++[(Ib,.strs (Xh y))]),Hb)=_;rw[hlen,o];rfl
theorem y7(g:F.fn 7=Ms)(h:Xe y)(z:y.length<=12)(m:Ry (y.map (·.1))=Hb)(o:H=hT own N G I (y.map (·.1)) (ed y) s t [a,b,(Ib,.strs (Xh y))])(B:l=lc v size k x (Fb (.str (Nc y))) u extra (Fb (.str (Ec y))) (Fb (.id 10)) (Fb (.id 11)) (Fb (.id 12)) Gb Gb Gb Gb Gb Gb Gb Gb):
  uc P0 F 60 (.ifs (.fc (.mc .NotEq (.fn 7 [(.Jb 20)]) (.Xb [(.Jb 17),(.str [40,39,39,44,32,39,39,41]),(.str [40,39,39,44,32,39,39,41]),(.str [40,39,39,44,32,39,39,41]),(.cc .Add (.Jb 17) (.str [34]))]))) [.ret (.bool Ib)] []) l H=Fb ((.next,l,H),Hb):=by
 have J:=gq h;have d:(Xh y).all (λx=>decide (x.length<=300))=Hb:=by
  have A:Xe y.tail:=λp H=>h p (AR H);have j:=gq A;rw[rH] at j;unfold Xh;simp only [List.all_cons,List.all_nil,Pd,xj,gm,ur,Zc,decide_eq_true_eq];exact have h:=dc J (lu 6 z);⟨dc h (by decide),dc (bk h _) (by decide),dc (Bf h _) (by decide),dc j (dc (lu 6 (dc (Xk _ _) z)) (by decide)),dc (Bf h _) (by decide)⟩
 have e:Yb P0 F 59 (.fn 7 [(.Jb 20)]) Ib l H=Fb ((.Mb (.strs [Ec y,mh,mh,mh,Ec y++[34]]),H),Hb):=by
  refine Ni (zd (Qd (by rw[B];rfl))) ?_;have C:Ms [.id 0] [(Ib,.strs (Xh y))]=Fb ((.id 1,[(Ib,.strs (Xh y)),(Ib,.strs [Ec y,mh,mh,mh,Ec y++[34]])]),Hb):=by
   show(if(Xh y).length<=100/\(Xh y).all (λx=>decide (x.length<=300))=Hb then Fb ((PV.id 1,[(Ib,Cell.strs (Xh y)),(Ib,md ((Xh y).map Ri))]),Hb) else Gb)=_;refine(if_pos ⟨by show 5<=100;decide,d⟩).trans ?_;rw[DT h m];rfl
  have q:H[12]?=Fb (Ib,.strs (Xh y)):=by rw[o];rfl
  have w:H.set 12 (Ib,.strs (Xh y))=H:=by rw[o];rfl
  exact Pg rfl rfl (Sp q) rfl (by rw[g];exact C) rfl (by
   show Fb ((PV.Mb _,H.set 12 (Ib,.strs (Xh y))),Hb)=_;rw[w])
 have V:∀n mt,Yb P0 F (n+1) (.Jb 17) mt l H=Fb ((.str (Ec y),H),Hb):=λn mt=>Qd (by rw[B];rfl);have E:Yb P0 F 58 (.cc .Add (.Jb 17) (.str [34])) Ib l H=Fb ((.str (Ec y++[34]),H),Hb):=by
  refine dg (V _ _) rfl ?_;show Fb ((PV.str (Ec y++[34]),_),decide ((Ec y).length+1<=ic))=_;rw[decide_eq_true (show(Ec y).length+1<=ic by unfold ic;lia)]
 have r:Yb P0 F 59 (.Xb [(.Jb 17),(.str [40,39,39,44,32,39,39,41]),(.str [40,39,39,44,32,39,39,41]),(.str [40,39,39,44,32,39,39,41]),(.cc .Add (.Jb 17) (.str [34]))]) Ib l H=Fb ((.Mb (.strs [Ec y,mh,mh,mh,Ec y++[34]]),H),Hb):=by
  show Rm.bind (Vd (Yb P0 F 58) Ib l [(.Jb 17),(.str [40,39,39,44,32,39,39,41]),(.str [40,39,39,44,32,39,39,41]),(.str [40,39,39,44,32,39,39,41]),(.cc .Add (.Jb 17) (.str [34]))] H) (λD=>Rm.ret (td Ib (Rg D.1) D.2))=_;refine(Rm.bd (Le (V _ _) (Le (x:=.str mh) rfl (Le (x:=.str mh) rfl (Le (x:=.str mh) rfl (zd E)))))).trans ?_
  rfl
 refine Me (Fe (x:=.bool Ib) (af e r ?_) rfl) rfl;have:=nB (hp:=H) (a:=.Mb (.strs [Ec y,mh,mh,mh,Ec y++[34]])) (b:=.Mb (.strs [Ec y,mh,mh,mh,Ec y++[34]])) rfl rfl;refine jv.trans ?_;rw[this];rfl
end
noncomputable def lF(l:ba):Nat:=(l.filter (·==[40])).length
noncomputable def a_(f:ba)(d:List (Nat×Nat)):da:=d.map λp=>((lF (f.take p.1):Nat):Int)
noncomputable def JD(f:ba)(d:List (Nat×Nat)):Bool:=match Ay f with
 |some (m,_)=>decide (m=a_ f d)|none=>Ib
theorem A4{α:Type}(l:List α)(i:Nat):pick l Gb (Fb (i:Int)) Gb=l.take i:=by
 rw[Np];have e:Ip Gb l.length=0:=rfl;have E:rn (Fb (i:Int)) l.length=min i l.length:=by unfold rn;simp only;refine(if_neg (by simp)).trans ?_;rfl
 rw[e,E,uR,LG]
 by_cases q:i<=l.length
 ·rw[cx q]
 ·rw[iR (by lia),AG (Ed _),AG (by lia)]
theorem MR:Wg h 40 (.Mb (te l)) (.Mb (te l))=Fb Hb:=by
 unfold te;rcases l with J|⟨a,l⟩
 ·rfl
 ·show Fb (decide (a::l=a::l))=_
  rw[decide_eq_true rfl]
theorem UT(l:da):Be (te l)=Hb:=by
 unfold te;rcases l with J|J<;>rfl
theorem jY{l:List (Nat×Nat)}(h:(l.map λp=>PV.Sb [.int (p.1:Int),.int (p.2:Int)])[k]?=Fb u):u=.Sb [.int ((l.getD k (0,0)).1:Int),.int ((l.getD k (0,0)).2:Int)]/\k<l.length:=by
 replace h:=(bg).symm.trans h;obtain⟨p,H,rfl⟩:=Option.map_eq_some_iff.mp h;exact⟨by rw[Mg,H];rfl,(List.getElem?_eq_some_iff.mp H).1⟩
noncomputable abbrev Ah(d:List (Nat×Nat)):List PV:=d.map λp=>PV.Sb [.int (p.1:Int),.int (p.2:Int)]
section
theorem s8(g:F.fn 15=wv)(y:l.length<=20)(C:E.length=l.length)(U:E.all (λe=>decide (e∈Ai))=Hb)(N:d.length<=100)(Q:JD l d=Hb)(H:h=hT own J O E l tx wc (Ah d) (eG::(Ib,.strs l)::HF::t))(B:L=lc v size k x bare Vf extra nG Kw (Fb (.id 11)) zw a21 Ow a23 iG JF IF fG jG):
  uc P0 F 60 (.ifs (.fc (.mc .NotEq (.fn 15 [(.Jb 19),(.Jb 9)]) (.comp (.qc .count (.Oc (.Jb 3) .none (.Jb 1) .none) [(.str [40])]) (.Sb [(.Jb 1),(.Jb 2)]) (.Jb 14) Gb [Gb,Gb,Gb,Fb 10]))) [.ret (.bool Ib)] []) L h=Fb ((.next,L,h),Hb):=by
 unfold JD at Q
 cases T:Ay l with
 |none=>rw[T] at Q;injection Q|some p=>
  rw[T] at Q;obtain⟨m,f⟩:=p;have V:=of_decide_eq_true Q;have j:h[11]?=Fb (Ib,.strs l):=by rw[H];rfl
  have q:h[5]?=Fb (Ib,.strs E):=by rw[H];rfl
  have Y:h[6]?=Fb (Ib,.strs l):=by rw[H];rfl
  have w:(h.set 11 (Ib,.strs l)).set 5 (Ib,.strs E)=h:=by rw[H];rfl
  have z:Yb P0 F 59 (.fn 15 [(.Jb 19),(.Jb 9)]) Ib L h=Fb ((.Mb (te m),h),Hb):=by
   refine Ni (Le (Qd (by rw[B];rfl)) (zd (Qd (by rw[B];rfl)))) ?_;exact Pg (r:=(.id 2,zg (Ib,.strs l) (Ib,.strs E) m f)) rfl rfl (HB j q) rfl (by
    rw[g];refine(if_pos ⟨⟨y,C⟩,U⟩:_=(Ay l).bind λp=>Fb ((PV.id 2,zg (Ib,.strs l) (Ib,.strs E) p.1 p.2),Hb)).trans ?_;rw[T];rfl) rfl ((iy rfl rfl (UT m)).trans (by
    show Fb ((PV.Mb (te m),(h.set 11 (Ib,.strs l)).set 5 (Ib,.strs E)),Hb)=_;rw[w]))
  have hw:=Hy (rE:=Yb P0 F 58) (Sd:=.qc .count (.Oc (.Jb 3) .none (.Jb 1) .none) [(.str [40])]) (Nb:=.Sb [(.Jb 1),(.Jb 2)]) (cond:=Gb) (hp:=h) (it:=λk=>.Xb 9 k) (Bj (by rw[H];rfl))
   (λL=>∃a b c,L=[a,b,c,Fb (.id 6)]) (λK=>Hb) (λk=>((lF (l.take (d.getD k (0,0)).1):Nat):Int)) (loc:=[Gb,Gb,Gb,Fb (.id 6)]) ⟨_,_,_,rfl⟩ (by show(Ah d).length<=1000;rw[Uc];exact dc ‹_› (by decide)) (λk u L o G=>by
    obtain⟨a,b,c,rfl⟩:=G;obtain⟨rfl,hk⟩:=jY o;refine⟨[a,Fb (.int ((d.getD k (0,0)).1:Int)),Fb (.int ((d.getD k (0,0)).2:Int)),Fb (.id 6)],rfl,⟨_,_,_,rfl⟩,rfl,λK=>?_⟩;have s:Yb P0 F 57 (.Oc (.Jb 3) .none (.Jb 1) .none) Ib [a,Fb (.int ((d.getD k (0,0)).1:Int)),Fb (.int ((d.getD k (0,0)).2:Int)),Fb (.id 6)] h=Fb ((.Mb (.strs (l.take (d.getD k (0,0)).1)),h),Hb):=by
     refine cl rfl rfl rfl rfl ?_;rw[<-A4];exact aN (c:=.strs l) (show(h[6]?).map (·.2)=_ by rw[Y];rfl) rfl rfl rfl (dc y (by decide))
    refine me (vs:=[.str [40]]) s rfl ?_;show Fb ((PV.int _,h),decide ((l.take (d.getD k (0,0)).1).length<=ic))=_;rw[decide_eq_true (show(l.take (d.getD k (0,0)).1).length<=ic by rw[vr];unfold ic;exact dc (Cx _ _) (dc y (by decide)))];rfl)
  have A:=Jp d (0,0) (λp=>((lF (l.take p.1):Nat):Int));rw[show(Cell.Lb (Ah d)).toList.length=d.length from Uc ..,cq,A] at hw;have D:Yb P0 F 59 (.comp (.qc .count (.Oc (.Jb 3) .none (.Jb 1) .none) [(.str [40])]) (.Sb [(.Jb 1),(.Jb 2)]) (.Jb 14) Gb [Gb,Gb,Gb,Fb 10]) Ib L h=Fb ((.Mb (te m),h),Hb):=by
   rw[V];refine nk (m:=d.length) (Fs (by rw[B];rfl)) (by rw[H];exact Uc ..) ?_ rfl;have I:([Gb,Gb,Gb,Fb 10]:List (Option Nat)).map (λi=>i.bind λi=>(L[i]?).join)=[Gb,Gb,Gb,Fb (.id 6)]:=by rw[B];rfl
   rw[I];exact hw
  refine Me (Fe (x:=.bool Ib) (af z D ?_) rfl) rfl;refine jv.trans ?_;rw[MR];rfl
noncomputable def iw(f:ba)(g:da):aa:=So f g (f.length/2)
theorem s7(G:F.fn 10=yv)(y:f.length<=20)(j:2<=f.length)(z:f.length/2<=g.length)(Q:g.length<=1000)(H:h=hT own N g e f t w (Ah d) [C,(Ib,.strs f),b])(B:l=lc v size k x A m extra a D (Fb (.id 11)) o O Y E p q T I s):
  uc P0 F 60 (.asg (.Jb 21) (.fn 10 [(.Jb 19),(.Jb 8)])) l h=Fb ((.next,lc v size k x A m extra a D (Fb (.id 11)) o (Fb (.rc 13)) Y E p q T I s,hT own N g e f t w (Ah d) [C,(Ib,.strs f),b,(Ib,.Lb (zc (iw f g)))]),Hb):=by
 have u:h[11]?=Fb (Ib,.strs f):=by rw[H];rfl
 have J:h[4]?=Fb (Ib,.ints g):=by rw[H];rfl
 have L:(h.set 11 (Ib,.strs f)).set 4 (Ib,.ints g)=h:=by rw[H];rfl
 have hlen:h.length=13:=by rw[H];rfl
 refine Gf ?_ (by rw[B];rfl);refine Ni (Le (Qd (by rw[B];rfl)) (zd (Qd (by rw[B];rfl)))) ?_;clear hlen;exact Pg (r:=(.rc 2,[(Ib,.strs f),(Ib,.ints g),(Ib,.Lb (zc (iw f g)))])) rfl rfl (HB u J) rfl (by rw[G];exact if_pos ⟨y,z,Q,j⟩) rfl ((u4 rfl rfl (lC _)).trans (by
  show Fb ((PV.rc ((h.set 11 (Ib,.strs f)).set 4 (Ib,.ints g)).length,((h.set 11 (Ib,.strs f)).set 4 (Ib,.ints g))++[(Ib,Cell.Lb (zc (iw f g)))]),Hb)=_;rw[L,H];rfl))
theorem mJ(g:F.fn 24=tq)(h:l.length<=1000)(H:hp[13]?=Fb (Ib,.Lb (zc l)))(w:hp.set 13 (Ib,.Lb (zc l))=hp)(B:loc[21]?=Fb (Fb (.rc 13)))(n:Nat)(mt:Bool):
  Yb P0 F (n+2) (.qc (.fn 24) (.Jb 21) []) mt loc hp=Fb (td mt (.Lb (zc l)) hp,Hb):=by
 refine me (Qd B) rfl ?_;refine(Mx (by decide)).trans ?_;exact Pg (r:=(.id 1,[(Ib,.Lb (zc l)),(Ib,.Lb (zc l))])) rfl rfl (Sp H) (Oj l) (by rw[g];exact Gr.trans (if_pos h)) (Oj l) ((iy rfl rfl (lC l)).trans (by
  show Fb (td mt (.Lb (zc l)) (hp.set 13 (Ib,.Lb (zc l))),Hb)=_;rw[w]))
theorem l8(G:F.fn 24=tq)(y:l.length<=1000)(h:hp=hT own N g e f t w (Ah d) [C,V,b,(Ib,.Lb (zc l))])(H:loc=lc v size k x B j extra a A (Fb (.id 11)) m (Fb (.rc 13)) Y z o p Q D q):
  uc P0 F 60 (.asg (.Jb 22) (.qc (.fn 24) (.Jb 21) [])) loc hp=Fb ((.next,lc v size k x B j extra a A (Fb (.id 11)) m (Fb (.rc 13)) (Fb (.id 14)) z o p Q D q,hT own N g e f t w (Ah d) [C,V,b,(Ib,.Lb (zc l)),(Ib,.Lb (zc l))]),Hb):=by
 have E:=mJ G y (hp:=hp) (by rw[h];rfl) (by rw[h];rfl) (loc:=loc) (by rw[H];rfl) 58 Hb;exact Gf (v:=.id 14) (Od:=hT own N g e f t w (Ah d) [C,V,b,(Ib,.Lb (zc l)),(Ib,.Lb (zc l))]) (by refine E.trans ?_;rw[h];rfl) (by rw[H];rfl)
theorem D7(y:l.length<=1000)(H:a=hT own N g e f t j (Ah d) [C,V,b,m,(Ib,.Lb (zc l))])(h:L=lc v size k x B o extra (Fb (.str w)) A (Fb (.id 11)) p (Fb (.rc 13)) (Fb (.id 14)) z q r Q D s):
  uc P0 F 60 (.expr (.qc .append (.Jb 22) [(.Sb [(.str [114]),(.Jb 17)])])) L a=Fb ((.next,L,hT own N g e f t j (Ah d) [C,V,b,m,(Ib,.Lb (zc (l++[([114],w)])))]),Hb):=by
 refine Aj (me (Qd (by rw[h];rfl)) (zd (zo (Le rfl (zd (Qd (by rw[h];rfl)))))) ?_);have O:(Cell.Lb (zc l)).push (.Sb [.str [114],.str w])=.Lb (zc (l++[([114],w)])):=by
  unfold zc;rw[ej]
  induction l using xc<;>rfl
 rw[H];show Fb ((PV.none,hT own N g e f t j (Ah d) [_,_,_,_,(Ib,(Cell.Lb (zc l)).push (.Sb [.str [114],.str w]))]),decide ((Cell.Lb (zc l)).len+1<=ic))=_;have dl:(Cell.Lb (zc l)).len+1<=ic:=by
  show(zc l).length+1<=ic;unfold zc;rw[Uc];unfold ic;exact Nf ‹_› (by decide)
 rw[O,decide_eq_true dl]
theorem hM(H:Hp):∀(l:aa)(n:Nat),l.length+5<=n->Jm H n (zc l) (zc l)=Fb Hb
 |[],n+1,_=>rfl|p::r,n+1,h=>by
  have I:=hM H r n (by simp at h;omega);have b:4<=n:=by simp at h;lia
  obtain⟨m,rfl⟩:∃m,n=m+4:=⟨n-4,by exact(pG b).symm⟩;have e:Wg H (m+4) (.Sb [.str p.1,.str p.2]) (.Sb [.str p.1,.str p.2])=Fb Hb:=by
   show Jm H (m+3) [.str p.1,.str p.2] [.str p.1,.str p.2]=_;have s:∀(j:Nat)(z:ca),Wg H (j+1) (.str z) (.str z)=Fb Hb:=λj z=>by
    show Fb (decide (z=z))=_;rw[decide_eq_true rfl]
   show(match Wg H (m+2) (.str p.1) (.str p.1),(match Wg H (m+1) (.str p.2) (.str p.2),Fb Hb with
    |some p,Fb q=>Fb (p&&q)|_,_=>Gb) with
    |some p,Fb q=>Fb (p&&q)|_,_=>Gb)=_
   rw[s,s]
   rfl
  show(match Wg H (m+4) (.Sb [.str p.1,.str p.2]) (.Sb [.str p.1,.str p.2]),Jm H (m+4) (zc r) (zc r) with
   |some p,Fb q=>Fb (p&&q)|_,_=>Gb)=_
  rw[e,I]
  rfl
theorem zV{α:Type}(l:List α)(x:α):pick (l++[x]) Gb (Fb (-1)) Gb=l:=by
 rw[Np];have e:Ip Gb (l++[x]).length=0:=rfl;have E:rn (Fb (-1:Int)) (l++[x]).length=l.length:=by
  unfold rn;simp only;refine(if_pos (by decide)).trans ?_;rw[Pd,Dl];rfl
 rw[e,E,uR,LG];simp
theorem B7(g:F.fn 24=tq)(z:l.length<=30)(h:hp=hT own N G I f t w (Ah D) [C,Y,b,(Ib,.Lb (zc l)),(Ib,.Lb (zc (l++[y])))])(H:loc=lc v size k x B j extra a J (Fb (.id 11)) m (Fb (.rc 13)) (Fb (.id 14)) L o p Q O q):
  ud (Yb P0 F 60) loc (.fc (.mc .NotEq (.qc (.fn 24) (.Jb 21) []) (.Oc (.Jb 22) .none (.neg (.int 1)) .none))) hp=Fb ((Ib,hp),Hb):=by
 have e:=mJ g (by exact dc ‹_› (by decide)) (hp:=hp) (by rw[h];rfl) (by rw[h];rfl) (loc:=loc) (by rw[H];rfl) 57 Ib;have E:Yb P0 F 59 (.Oc (.Jb 22) .none (.neg (.int 1)) .none) Ib loc hp=Fb ((.Mb (.Lb (zc l)),hp),Hb):=by
  refine cl (Qd (by rw[H];rfl)) rfl rfl rfl ?_;have d:cellAt (.id 14) hp=Fb (.Lb (zc (l++[y]))):=by rw[h];rfl
  have V:zc (l++[y])=zc l++[.Sb [.str y.1,.str y.2]]:=by unfold zc;refine List.map_append.trans ?_;rfl
  have A:pick (zc (l++[y])) Gb (Fb (-1)) Gb=zc l:=by rw[V];exact zV _ _
  have r:=aN (mt:=Ib) (u:=.int (-1)) (l:=.none) (s:=.none) d rfl rfl rfl (by show(zc (l++[y])).length<=ic;rw[ym,Pd];exact dc (Ng z) (by decide));exact r.trans (by show Fb ((PV.Mb (.Lb (pick (zc (l++[y])) Gb (Fb (-1)) Gb)),hp),Hb)=_;rw[A])
 refine Fe (x:=.bool Ib) (af e E ?_) rfl;have:Wg hp 40 (.Mb (.Lb (zc l))) (.Mb (.Lb (zc l)))=Fb Hb:=hM hp l 38 (by lia);refine jv.trans ?_;rw[this];rfl
end
noncomputable def Zj(l:List Ce)(nm:ca):ba:=(lf (fh l nm) [9]).tail
noncomputable def P8(C:ba):Bool:=C.all λs=>match s with
 |[c]=>Ki 48 c&&Ki c 57|_=>Ib
noncomputable def JO(C:ba):da:=C.map λs=>(s.getD 0 0:Int)-48
noncomputable def Mn(l:List Ce)(nm:ca):da:=JO (Zj l nm)
noncomputable def qq(l:List Ce)(nm:ca):Bool:=Ki (fh l nm).length 100&&Ki (lf (fh l nm) [9]).length 100&&P8 (Zj l nm)
noncomputable def Ft:ba:=[[80],[112,80],[81],[81,113]]
theorem b6:∀k:Nat,k<4->cj (Ft.getD k [])=Hb/\sj Hb (low (Ft.getD k []))=Hb/\low (Ft.getD k [])=ee.getD k []/\ee.getD k []∈ee:=by decide+kernel
theorem qT(h:Pn l)(x:l.length<=100)(g:Nat->Bool):Ql (l.map (Ce.tell g))=Hb:=by
 unfold Ql;rw[Zc,ku,decide_eq_true_eq,Uc];refine⟨λp H=>?_,by exact dc ‹_› (by decide)⟩;obtain⟨e,V,rfl⟩:=List.mem_map.mp H;exact(Zr e.nm (h e V) (g e.k)).1
theorem X0{Nb o a b c:M}(h:Yb P F n (.Oc o a b c) Ib l H=Fb ((.Mb C,N),Hb)):Jf F (Yb P F n) l Nb (.Oc o a b c) H=Fb ((.Lb C.toList,N),Hb):=by
 show Rm.bind (Yb P F n (.Oc o a b c) Ib l H) (λx=>Rm.bind (Bi x.1) λi=>Rm.ret (i,x.2))=_;refine(Rm.bd h).trans ?_;rfl
noncomputable def nP:M:=.comp (.oc .int [(.Jb 1)]) (.Jb 1) (.Oc (.qc .split (.qc (.fn 23) (.Jb 2) [(.Jb 1),(.str [])]) [(.str [9])]) (.int 1) .none .none) Gb [Gb,Gb,Gb]
theorem P4(G:F.fn 23=Cm)(T:Pn l)(x:l.length<=100){nm up:ca}(A:cj up=Hb)(j:sj Hb (low up)=Hb)(Q:low up=nm)(e:nm∈ee)(C:qq l nm=Hb)(m:h[13]?=Fb (Ib,.Lb (zc (l.map (Ce.tell g)))))(w:h.set 13 (Ib,.Lb (zc (l.map (Ce.tell g))))=h)(a:Option PV):
  Yb P0 F 59 nP Ib [a,Fb (.str up),Fb (.rc 13)] h=Fb ((.Mb (te (Mn l nm)),h),Hb):=by
 unfold qq at C;rw[Zc,Zc] at C;obtain⟨⟨I,B⟩,f⟩:=C;have I:(fh l nm).length<=100:=by simpa using I
 have B:(lf (fh l nm) [9]).length<=100:=by simpa using B
 have E:Yb P0 F 56 (.qc (.fn 23) (.Jb 2) [(.Jb 1),(.str [])]) Ib [a,Fb (.str up),Fb (.rc 13)] h=Fb ((.str (fh l nm),h),Hb):=by
  refine me rfl (Le rfl (zd rfl)) ?_;refine(Mx (by decide)).trans ?_;refine Pg (r:=(.str (fh l nm),[(Ib,.Lb (zc (l.map (Ce.tell g))))])) rfl rfl (Sp m) (Oj _) ?_ (Oj _) (by
   show Fb ((PV.str (fh l nm),h.set 13 _),Hb)=_;rw[w])
  rw[G];refine Gr.trans ((if_pos (by rw[A,j,qT T x g];rfl)).trans ?_);rw[wI T e g Q]
 have o:Yb P0 F 57 (.qc .split (.qc (.fn 23) (.Jb 2) [(.Jb 1),(.str [])]) [(.str [9])]) Ib [a,Fb (.str up),Fb (.rc 13)] h=Fb ((.Mb (.strs (lf (fh l nm) [9])),h),Hb):=by
  refine me (vs:=[.str [9]]) E rfl ?_;show Fb ((PV.Mb (.strs (lf (fh l nm) [9])),h),decide ((fh l nm).length<=ic)&&decide ((lf (fh l nm) [9]).length<=ic)&&Hb)=_;rw[decide_eq_true (show(fh l nm).length<=ic by unfold ic;exact dc ‹_› (by decide)),decide_eq_true (show(lf (fh l nm) [9]).length<=ic by unfold ic;exact dc ‹_› (by decide))];rfl
 have p:Yb P0 F 58 (.Oc (.qc .split (.qc (.fn 23) (.Jb 2) [(.Jb 1),(.str [])]) [(.str [9])]) (.int 1) .none .none) Ib [a,Fb (.str up),Fb (.rc 13)] h=Fb ((.Mb (.strs (Zj l nm)),h),Hb):=by
  refine cl o rfl rfl rfl ?_;refine(W4 (c:=.strs (lf (fh l nm) [9])) rfl rfl rfl (show(lf (fh l nm) [9]).length<=ic from dc B (by decide))).trans ?_;rw[show Cell.pick (.strs (lf (fh l nm) [9])) (Fb 1) Gb Gb=.strs (Zj l nm) from congrArg Cell.strs (EI _)];rfl
 have y:(Zj l nm).length<=100:=by unfold Zj;rw[rH];exact dc (Xk _ _) B
 have hw:=Hy (rE:=Yb P0 F 58) (Sd:=.oc .int [(.Jb 1)]) (Nb:=.Jb 1) (cond:=Gb) (it:=λk=>.Lb (((Zj l nm).map PV.str).drop k)) (Il _ h) (λL=>∃a b c,L=[a,b,c]) (λK=>Hb) (λk=>(((Zj l nm).getD k []).getD 0 0:Int)-48) (loc:=[Gb,Gb,Gb]) ⟨_,_,_,rfl⟩ (by rw[Uc];exact dc ‹_› (by decide)) (λk u L q J=>by
  obtain⟨a,b,c,rfl⟩:=J;obtain⟨rfl,C⟩:=YL q;refine⟨[a,Fb (.str ((Zj l nm).getD k [])),c],rfl,⟨_,_,_,rfl⟩,rfl,λK=>?_⟩;have U:(Zj l nm).getD k []∈Zj l nm:=by rw[Mg,De C];exact UA C
  have H:=List.all_eq_true.mp f _ U;generalize (Zj l nm).getD k []=s at H;rcases s with K|⟨c,K|⟨d,r⟩⟩
  ·injection H
  ·have H:=(Zc _ _).mp H
   exact Vh (vs:=[.str [c]]) (by decide) rfl (ke rfl (by rw[decide_eq_true (show 48<=c by simpa using H.1),decide_eq_true (show c<=57 by simpa using H.2)];rfl))
  ·injection H)
 have t:=Jp (Zj l nm) [] (λs=>((s.getD 0 0:Nat):Int)-48);rw[Uc,cq,t] at hw;exact nk (X0 p) (Uc _) hw rfl
noncomputable def Je(l:List Ce):List da:=[Mn l [112],Mn l [112,112],Mn l [113],Mn l [113,113]]
noncomputable def Yo(L:List da):List PV:=L.map λr=>.Mb (te r)
section
theorem D8(G:F.fn 23=Cm)(T:Pn l)(y:l.length<=100)(C:ee.all (qq l)=Hb)(H:h=hT own N t e f V w (Ah d) [D,Y,j,(Ib,.Lb (zc (l.map (Ce.tell g)))),z])(B:L=lc v size k x A o extra p E (Fb (.id 11)) q (Fb (.rc 13)) r a23 s I Q J O):
  uc P0 F 60 (.asg (.Jb 23) (.comp nP (.Jb 1) (.Sb [(.str [80]),(.str [112,80]),(.str [81]),(.str [81,113])]) Gb [Gb,Gb,Fb 21])) L h=
   Fb ((.next,lc v size k x A o extra p E (Fb (.id 11)) q (Fb (.rc 13)) r (Fb (.id 15)) s I Q J O,hT own N t e f V w (Ah d) [D,Y,j,(Ib,.Lb (zc (l.map (Ce.tell g)))),z,(Ib,.Lb (Yo (Je l)))]),Hb):=by
 have hw:=Rp (Nb:=.Jb 1) (cond:=Gb) (it:=λk=>.Lb ((Ft.map PV.str).drop k)) (Il _ h) (λL=>∃a b,L=[a,b,Fb (.rc 13)]) (λK=>Hb) (λk=>.Mb (te (Mn l (ee.getD k [])))) (λk u L hu hI=>by
   obtain⟨a,b,rfl⟩:=hI;obtain⟨rfl,hk4⟩:=YL hu;refine Yj (b6 k hk4) λu1 u2 u3 U=>?_;exact⟨[a,Fb (.str (Ft.getD k [])),Fb (.rc 13)],rfl,⟨_,_,rfl⟩,rfl,λK=>P4 G T y u1 u2 u3 U (List.all_eq_true.mp C _ U) (by rw[H];rfl) (by rw[H];rfl) a⟩) 4 0 5 [Gb,Gb,Fb (.rc 13)] (.Lb []) rfl ⟨_,_,rfl⟩ (by simp) (by decide) (by decide)
 have hf:((Gp 0 4).filter (λK=>Hb)).foldl (λa i=>a.push (PV.Mb (te (Mn l (ee.getD i []))))) (Cell.Lb [])=.Lb (Yo (Je l)):=rfl;rw[hf] at hw;refine Gf ?_ (by rw[B];rfl);refine nk (m:=4) (Od:=h) (Wl:=h) (ef:=.Lb (Ft.map PV.str)) rfl rfl ?_ (by rw[H];rfl);have hi:([Gb,Gb,Fb 21]:List (Option Nat)).map (λi=>i.bind λi=>(L[i]?).join)=[Gb,Gb,Fb (.rc 13)]:=by rw[B];rfl
 rw[hi];exact hw
theorem YI(t:Nat->List PV):∀(I:ca)(A:List PV),(∀i∈I,out i=.Sb (t i))->I.foldl (λa i=>a.push (out i)) (Cell.Lb A)=.Lb (A++I.map out)
 |[],A,_=>by simp
 |i::r,A,h=>by
  have H:(Cell.Lb A).push (out i)=.Lb (A++[out i]):=by
   rw[h i Fd]
   induction A using xc<;>rfl
  refine List.foldl_cons.trans ?_;rw[H,YI t r _ λj s=>h j (Ee _ s)];simp
theorem uS(r:da):Wg h 40 (.Mb (te r)) (.Mb (.Lb []))=Fb (decide (r=[])):=by
 induction r using xc with
 |nil=>rfl|cons a r=>rfl
noncomputable def HE(r:da):Int:=r.getD (r.length-1) 0
noncomputable def Vy(p:ca×da):PV:=.Sb [.int (HE p.2),.str p.1]
noncomputable def Ds(p:ca×da):Bool:=!decide (p.2=[])
noncomputable def xk(r:List da):List PV:=((ee.zip r).filter Ds).map Vy
noncomputable def tw:List PV->Option (List (Int×ca))
 |[]=>Fb []|v::r=>match v with
  |.Sb l=>pt l λa l=>Wj l λb l=>df l ((tw r).bind λl=>Fb ((a,b)::l))|_=>Gb
theorem DV:∀{v:List PV}{l:List (Int×ca)},tw v=Fb l->v=l.map λp=>.Sb [.int p.1,.str p.2]:=by
 intro v
 induction v with
 |nil=>intro l e;refine lg e ?_;rfl|cons x r I=>
  intro l e
  induction x using PV.casesOn with
  |Sb x=>_|_=>exact nn e
  refine jy e λa y h e=>pk e λb z H e=>sf e λQ e=>?_;obtain⟨t,d,h5⟩:=Option.bind_eq_some_iff.mp e;rw[h,H,Q,I d,<-jc h5];rfl
noncomputable def Qj(l:List Ce):List PV:=l.map λe=>.Sb [.int ((e.k:Int)+1),.str e.nm]
noncomputable def Fy(l:List Ce):Bool:=match Ao (xk (Je l)) with
 |some s=>match tw s with
  |some q=>decide (q=l.map λe=>((e.k:Int)+1,e.nm))&&Ki 2 (xk (Je l)).length&&Ki (xk (Je l)).length 4&&Ki 1 l.length|none=>Ib
 |none=>Ib
theorem fJ(h:Fy l=Hb):Ao (xk (Je l))=Fb (Qj l)/\2<=(xk (Je l)).length/\(xk (Je l)).length<=4/\l≠[]:=by
 unfold Fy at h
 cases A:Ao (xk (Je l)) with
 |none=>rw[A] at h;injection h|some s=>
  rw[A] at h;have h:(match tw s with
    |some q=>decide (q=l.map λe=>((e.k:Int)+1,e.nm))&&Ki 2 (xk (Je l)).length&&Ki (xk (Je l)).length 4&&Ki 1 l.length|none=>Ib)=Hb:=h
  cases H:tw s with
  |none=>rw[H] at h;injection h|some q=>
   rw[H] at h;have h:=(Zc _ _).mp h;refine kt h.1 λB j Q=>⟨?_,Hx j,Hx Q,λq=>?_⟩
   ·rw[DV H,of_decide_eq_true B,Yg];rfl
   ·have b:=h.2
    rw[q] at b;injection b
theorem HU(C:ee.all (qq l)=Hb):∀r∈Je l,r.length<=100:=by
 have key:∀nm∈ee,(Mn l nm).length<=100:=λnm x=>by
  have h:=List.all_eq_true.mp C nm x;unfold qq at h;rw[Zc,Zc] at h;have k:(lf (fh l nm) [9]).length<=100:=by simpa using h.1.2
  unfold Mn JO Zj;rw[Uc,rH];exact dc (Xk _ _) k
 intro r H;unfold Je at H;simp only [og,Xd,or_false] at H;rcases H with rfl|rfl|rfl|rfl<;>exact key _ (by simp[ee])
theorem v8(D:ee.all (qq l)=Hb)(G:Fy l=Hb)(o:h=hT own N g I f t w (Ah d) [J,V,m,s,O,(Ib,.Lb (Yo (Je l)))])(B:L=lc v size k x Q U extra Y Kw (Fb (.id 11)) zw (Fb (.rc 13)) Ow (Fb (.id 15)) iG JF IF fG jG):
  uc P0 F 60 (.asg (.Jb 24) (.oc .sorted [(.comp (.Sb [(.sub (.Jb 2) (.neg (.int 1))),(.Jb 1)]) (.Sb [(.Jb 1),(.Jb 2)]) (.oc .zip [(.Sb [(.str [112]),(.str [112,112]),(.str [113]),(.str [113,113])]),(.Jb 23)]) (Fb (.fc (.mc .NotEq (.Jb 2) (.Xb [])))) [Gb,Gb,Gb])])) L h=
   Fb ((.next,lc v size k x Q U extra Y Kw (Fb (.id 11)) zw (Fb (.rc 13)) Ow (Fb (.id 15)) (Fb (.id 16)) JF IF fG jG,hT own N g I f t w (Ah d) [J,V,m,s,O,(Ib,.Lb (Yo (Je l))),(Ib,.Lb (Qj l))]),Hb):=by
 refine Yj (fJ G) λs1 s2 s3 s4=>?_;have hz:(ee.zip (Je l)).length=4:=rfl;have h15:h[15]?=Fb (Ib,.Lb (Yo (Je l))):=by rw[o];rfl
 have X6:((ee.map PV.str).zip (Cell.Lb (Yo (Je l))).toList).map (λp=>PV.Sb [p.1,p.2])=(ee.zip (Je l)).map λp=>.Sb [.str p.1,.Mb (te p.2)]:=rfl;have z:=cK (Il (ee.map PV.str) h) (Bj h15);rw[X6] at z;have hw:=Rp (rE:=Yb P0 F 58) (Sd:=.Sb [(.sub (.Jb 2) (.neg (.int 1))),(.Jb 1)]) (Nb:=.Sb [(.Jb 1),(.Jb 2)]) (cond:=Fb (.fc (.mc .NotEq (.Jb 2) (.Xb [])))) z (λL=>∃a b c,L=[a,b,c]) (λk=>Ds ((ee.zip (Je l)).getD k ([],[]))) (λk=>Vy ((ee.zip (Je l)).getD k ([],[]))) (λk u L j hI=>by
   obtain⟨a,b,c,rfl⟩:=hI;rw[bg] at j;obtain⟨p,A,rfl⟩:=Option.map_eq_some_iff.mp j;have Ac:(ee.zip (Je l)).getD k ([],[])=p:=by refine(Mg).trans ?_;rw[A];rfl
   rw[Ac];refine⟨[a,Fb (.str p.1),Fb (.Mb (te p.2))],rfl,⟨_,_,_,rfl⟩,?_,λH=>?_⟩
   ·refine Fe (x:=.bool (Ds p)) (af (y:=.Mb (.Lb [])) rfl rfl ?_) rfl
    refine jv.trans ?_;rw[uS];rfl
   ·have H:p.2≠[]:=by unfold Ds at H;simpa using H
    have zP:=λq=>H (WQ q);have hcl:(te p.2)=.ints p.2:=by unfold te;exact(if_neg H)
    have r6:p.2.length<=ic:=by
     have T:=(vx (bh A)).2;have:=HU D _ T;unfold ic;exact dc ‹_› (by decide)
    have E:Yb P0 F 57 (.sub (.Jb 2) (.neg (.int 1))) Ib [a,Fb (.str p.1),Fb (.Mb (te p.2))] h=Fb ((.int (HE p.2),h),Hb):=by
     refine vk (y:=.int (-1-((0:Nat):Int))) rfl rfl ?_;rw[hcl,bD (c:=.ints p.2) rfl (by show 0<p.2.length;exact Nat.pos_of_ne_zero ‹_›) r6 rfl];rfl
    exact zo (Le E (zd rfl))) 4 0 5 [Gb,Gb,Gb] (.Lb []) rfl ⟨_,_,_,rfl⟩ (by simp) (ah _) (by decide)
 have hf:=YI (out:=λk=>Vy ((ee.zip (Je l)).getD k ([],[]))) (λk=>[.int (HE ((ee.zip (Je l)).getD k ([],[])).2),.str ((ee.zip (Je l)).getD k ([],[])).1]) ((Gp 0 4).filter λk=>Ds ((ee.zip (Je l)).getD k ([],[]))) [] (λK K=>rfl);have C:=wH (ee.zip (Je l)) ([],[]) Ds Vy;rw[hz,oH] at C;rw[hf,C,iu] at hw;have E:Yb P0 F 59 (.comp (.Sb [(.sub (.Jb 2) (.neg (.int 1))),(.Jb 1)]) (.Sb [(.Jb 1),(.Jb 2)]) (.oc .zip [(.Sb [(.str [112]),(.str [112,112]),(.str [113]),(.str [113,113])]),(.Jb 23)]) (Fb (.fc (.mc .NotEq (.Jb 2) (.Xb [])))) [Gb,Gb,Gb]) Ib L h=Fb ((.Mb (.Lb (xk (Je l))),h),Hb):=
  nk (by rw[B];rfl) rfl hw rfl
 refine Gf ?_ (by rw[B];rfl);refine Vh (by decide) (zd E) ?_;have T:Rg (Qj l)=.Lb (Qj l):=by
  induction l using xc with
  |nil=>exact(s4 rfl).elim|cons e r=>rfl
 show(match Ao (xk (Je l)) with
  |some q=>Fb (td Hb (Rg q) h,decide (2<=(xk (Je l)).length)&&decide ((xk (Je l)).length<=4))|none=>Gb)=_
 rw[s1];simp only;rw[T,decide_eq_true s2,decide_eq_true s3,o]
 rfl
end
section
theorem N8(Y:F.fn 25=xv)(U:Pn l)(y:l.length<=100)(G:l≠[])(p:l.all (λe=>fk e.k g.length)=Hb)(Q:g.length<=1000)(o:h=hT own O g ends Lc tx wc (Ah vd) [eG,c11,HF,(Ib,.Lb (zc (l.map (Ce.tell (gr g))))),NP,c15,(Ib,.Lb (Qj l))])(B:L=lc v size k x bare Vf extra nG Kw (Fb (.id 11)) zw (Fb (.rc 13)) Ow (Fb (.id 15)) (Fb (.id 16)) JF IF fG jG):
  uc P0 F 60 (.ifs (.fc (.mc .NotEq (.qc (.fn 25) (.Jb 21) []) (.comp (.ite (.fc (.sub (.Jb 3) (.cc .Sub (.Jb 1) (.int 1)))) (.qc .upper (.Jb 2) []) (.Jb 2)) (.Sb [(.Jb 1),(.Jb 2)]) (.Jb 24) Gb [Gb,Gb,Gb,Fb 8]))) [.ret (.bool Ib)] []) L h=Fb ((.next,L,h),Hb):=by
 have s:h[13]?=Fb (Ib,.Lb (zc (l.map (Ce.tell (gr g))))):=by rw[o];rfl
 have d:h[4]?=Fb (Ib,.ints g):=by rw[o];rfl
 have D:h[16]?=Fb (Ib,.Lb (Qj l)):=by rw[o];rfl
 have w:h.set 13 (Ib,.Lb (zc (l.map (Ce.tell (gr g)))))=h:=by rw[o];rfl
 have E:Yb P0 F 59 (.qc (.fn 25) (.Jb 21) []) Ib L h=Fb ((.Mb (.strs (l.map λe=>wf (gr g e.k) e.nm)),h),Hb):=by
  refine me (Qd (by rw[B];rfl)) rfl ?_;refine(Mx (by decide)).trans ?_;exact Pg (r:=(.id 1,[(Ib,.Lb (zc (l.map (Ce.tell (gr g))))),(Ib,.strs (l.map λe=>wf (gr g e.k) e.nm))])) rfl rfl (Sp s) (Oj _) (by
   rw[Y];refine Gr.trans ((if_pos ⟨by rw[Uc];exact dc y (by decide),λq=>G (List.map_eq_nil_iff.mp q)⟩).trans ?_);rw[Yg];rfl) (Oj _) ((iy rfl rfl rfl).trans (by
   show Fb ((PV.Mb (.strs _),h.set 13 _),Hb)=_;rw[w]))
 have hw:=Oy (rE:=Yb P0 F 58) (Sd:=.ite (.fc (.sub (.Jb 3) (.cc .Sub (.Jb 1) (.int 1)))) (.qc .upper (.Jb 2) []) (.Jb 2)) (Nb:=.Sb [(.Jb 1),(.Jb 2)]) (cond:=Gb) (Bj D) (λL=>∃a b c,L=[a,b,c,Fb (.id 4)]) (λK=>Hb) (λk=>(l.map λe=>wf (gr g e.k) e.nm).getD k []) (loc:=[Gb,Gb,Gb,Fb (.id 4)]) ⟨_,_,_,rfl⟩ (by show(Qj l).length<=1000;unfold Qj;rw[Uc];exact dc ‹_› (by decide)) (λk u L H I=>by
  obtain⟨a,b,c,rfl⟩:=I;have H:=H;replace H:=(bg).symm.trans H;obtain⟨e,A,rfl⟩:=Option.map_eq_some_iff.mp H;have V:(l.map λe=>wf (gr g e.k) e.nm).getD k []=wf (gr g e.k) e.nm:=by refine(Mg).trans ?_;rw[bg,A];rfl
  rw[V];have T:=bh A;have C:e.k<g.length:=by simpa [Gx] using List.all_eq_true.mp p e T
  refine⟨[a,Fb (.int ((e.k:Int)+1)),Fb (.str e.nm),Fb (.id 4)],rfl,⟨_,_,_,rfl⟩,rfl,λK=>?_⟩;have t:pj (.id 4) (.int (e.k:Int)) h=Fb ((.int (g.getD e.k 0),h),Hb):=Bn (c:=.ints g) (show(h[4]?).map (·.2)=_ by rw[d];rfl) C (by show g.length<=1000000;exact dc ‹_› (by decide)) rfl;have N:=(Zr e.nm (U e T) Hb).2.2.1;refine jq (c:=gr g e.k) (Fe (vk rfl (dg rfl rfl ?_) t) rfl) ?_
  ·show Fb ((PV.int ((e.k:Int)+1-1),h),Hb)=_
   rw[show(e.k:Int)+1-1=e.k by simp]
  ·cases gr g e.k with
   |true=>
    refine(if_pos rfl).trans ?_;exact me rfl rfl (GD N)
   |false=>rfl)
 have j:=Jp (l.map λe=>wf (gr g e.k) e.nm) [] id;rw[List.map_id] at j;simp only [id] at j;have hlen:(Cell.Lb (Qj l)).toList.length=(l.map λe=>wf (gr g e.k) e.nm).length:=by show(Qj l).length=_;unfold Qj;rw[Uc,Uc]
 rw[hlen,cq,j] at hw;have f:md (l.map λe=>wf (gr g e.k) e.nm)=.strs (l.map λe=>wf (gr g e.k) e.nm):=by unfold md;exact(if_neg (by simpa using G))
 rw[f] at hw;have z:Yb P0 F 59 (.comp (.ite (.fc (.sub (.Jb 3) (.cc .Sub (.Jb 1) (.int 1)))) (.qc .upper (.Jb 2) []) (.Jb 2)) (.Sb [(.Jb 1),(.Jb 2)]) (.Jb 24) Gb [Gb,Gb,Gb,Fb 8]) Ib L h=Fb ((.Mb (.strs (l.map λe=>wf (gr g e.k) e.nm)),h),Hb):=by
  refine nk (m:=(l.map λe=>wf (gr g e.k) e.nm).length) (Fs (by rw[B];rfl)) ?_ ?_ rfl
  ·show(match h[16]? with|some c=>c.2.len-0|none=>0)=_
   rw[D];show(Qj l).length-0=_;unfold Qj;rw[Uc,Uc];rfl
  ·have J:([Gb,Gb,Gb,Fb 8]:List (Option Nat)).map (λi=>i.bind λi=>(L[i]?).join)=[Gb,Gb,Gb,Fb (.id 4)]:=by rw[B];rfl
   rw[J];exact hw
 refine Me (Fe (x:=.bool Ib) (af E z ?_) rfl) rfl;have:=nB (hp:=h) (a:=.Mb (.strs (l.map λe=>wf (gr g e.k) e.nm))) (b:=.Mb (.strs (l.map λe=>wf (gr g e.k) e.nm))) rfl rfl;refine jv.trans ?_;rw[this];rfl
end
theorem jK:∀(a b:List S){L j:Loc}{H T:Hp},Kc I a L H=Fb ((.next,j,T),Hb)->Kc I (a++b) L H=Kc I b j T
 |[],b,L,j,H,T,h=>by cases h;rfl
 |s::a,b,L,j,H,T,h=>by
  refine Qc λG k=>?_;obtain⟨⟨f,l,A⟩,E,e⟩:=Rm.bind_some h
  induction f using Fl.casesOn with
  |next=>refine k ?_;exact(Bc E).trans (jK a b e)|brk=>cases Rm.Gd e
  |ret r=>cases Rm.Gd e
theorem set_same{α:Type}:∀{l:List α}{i:Nat}{a:α},l[i]?=Fb a->l.set i a=l
 |[],i,a,h=>by simp at h
 |x::r,0,a,h=>by simp at h;subst h;rfl
 |x::r,i+1,a,h=>by
  show x::r.set i a=x::r;rw[set_same (by simpa using h)]
theorem K7(g:F.fn 14=Es)(V:L[11]?=Fb (Fb (.id 7)))(Y:L[19]?=Fb (Fb (.id 11)))(H:h[7]?=Fb (Ib,.strs t))(d:h[11]?=Fb (Ib,.strs f))(y:t.length=f.length)(b:t.length<20)(G:t.length≠0)(s:t.all (λx=>decide (x.length<=10))=Hb):
  uc P0 F 60 (.asg (.Jb 28) (.fn 14 [(.Jb 11),(.Jb 19)])) L h=Fb ((.next,L.set 28 (Fb (.id h.length)),h++[(Ib,.Lb (fg t (opens f)))]),Hb):=by
 refine Gf ?_ rfl;refine Ni (Le (Qd V) (zd (Qd Y))) ?_;have w:(h.set 7 (Ib,.strs t)).set 11 (Ib,.strs f)=h:=by rw[set_same H,set_same d]
 have N:Be (.Lb (fg t (opens f)))=Hb:=by
  show(fg t (opens f)).all (Fg 8)=Hb;generalize opens f=l
  induction l with
  |nil=>rfl|cons a r I=>
   show(jl t a++fg t r).all (Fg 8)=Hb;refine List.all_append.trans ?_;rw[I,ur];unfold jl;rcases rq t a with J|J<;>rfl
 exact Pg (r:=(.id 2,be Ib Ib t f (fg t (opens f)))) rfl rfl (HB H d) rfl (by rw[g];exact if_pos ⟨⟨y,b,G⟩,s⟩) rfl ((iy rfl rfl N).trans (by
  show Fb ((PV.id ((h.set 7 (Ib,.strs t)).set 11 (Ib,.strs f)).length,(h.set 7 (Ib,.strs t)).set 11 (Ib,.strs f)++[_]),Hb)=_;rw[w]))
noncomputable def tt(v:PV)(size:Nat)(k x b C extra a A d Y o:Option PV):Loc:=lc v size k x b C extra a A (Fb (.id 11)) d (Fb (.rc 13)) Y (Fb (.id 15)) o Gb Gb Gb Gb
noncomputable def Yz(c0 c1 c2 C s Y a o G D b d u e:Bool×Cell)(f:ba)(n:Nat):Hp:=[c0,c1,c2,C,s,Y,(Ib,.strs f),a,o,G,D,(Ib,.strs f),b,d,u,(Ib,.Lb (Yo (Je (Sn f n)))),e]
noncomputable def av:Rm (Fl×Loc×Hp)->Loc
 |some ((_,l,_),_)=>l|none=>[]
noncomputable def Ko:Rm (Fl×Loc×Hp)->Hp
 |some ((_,_,h),_)=>h|none=>[]
noncomputable def TM:Rm (Fl×Loc×Hp)->Bool
 |some ((.next,_),Hb)=>Hb|_=>Ib
noncomputable def wL:Rm (Fl×Loc×Hp)->Bool
 |some ((.ret (.bool Hb),_),Hb)=>Hb|_=>Ib
theorem sV(h:TM r=Hb):r=Fb ((.next,av r,Ko r),Hb):=by
 rcases r with J|⟨⟨f,l,H⟩,b⟩
 ·injection h
 ·induction f using Fl.casesOn with
  |next=>
   rcases b with J|J
   ·injection h
   ·rfl
  |_=>injection h
theorem GU(h:wL r=Hb):r=Fb ((.ret (.bool Hb),av r,Ko r),Hb):=by
 rcases r with J|⟨⟨f,l,H⟩,b⟩
 ·injection h
 ·induction f using Fl.casesOn with
  |ret v=>induction v using PV.casesOn with
   |bool v=>rcases v with J|J<;>rcases b with J|J<;>first|rfl|injection h
   |_=>injection h
  |_=>injection h
noncomputable def Dy(l:Loc)(i j:Nat):Bool:=match l[i]? with
 |some (Fb (.id k))=>Eh k j|_=>Ib
theorem GI(h:Dy l i j=Hb):l[i]?=Fb (Fb (.id j)):=by
 unfold Dy at h
 cases H:l[i]? with
 |none=>rw[H] at h;injection h|some o=>
  rw[H] at h;rcases o with J|v
  ·injection h
  ·induction v using PV.casesOn with
   |id k=>rw[bB h]|_=>injection h
noncomputable def Cz(F:Dc)(size:Nat)(L:Loc)(H:Hp):Rm (Fl×Loc×Hp):=Kc (uc P0 F 60) ((ai.drop 21).take 5) L H
noncomputable def F_(F:Dc)(r:Rm (Fl×Loc×Hp))(f:ba):Rm (Fl×Loc×Hp):=Kc (uc P0 F 60) (ai.drop 27) ((av r).set 28 (Fb (.id (Ko r).length))) (Ko r++[(Ib,.Lb (As f (opens f)))])
noncomputable def jE(F:Dc)(r:Rm (Fl×Loc×Hp))(f:ba):Bool:=TM r&&Dy (av r) 11 7&&Dy (av r) 19 11&&wL (F_ F r f)
theorem wY(g:F.fn 14=Es)(a:jE F (Cz F size L H) f=Hb)(B:(Ko (Cz F size L H))[7]?=Fb (Ib,.strs t))(d:(Ko (Cz F size L H))[11]?=Fb (Ib,.strs f))(b:fg t (opens f)=As f (opens f))
  (y:t.length=f.length)(V:t.length<20)(G:t.length≠0)(s:t.all (λx=>decide (x.length<=10))=Hb):
  ∃l h,Kc (uc P0 F 60) (ai.drop 21) L H=Fb ((.ret (.bool Hb),l,h),Hb):=by
 unfold jE at a;simp only [Zc] at a;obtain⟨⟨⟨I,w⟩,m⟩,j⟩:=a;have E:=sV I;have o:=GU j;have e:=K7 g (GI w) (GI m) B d y V G s;rw[b] at e;have O:ai.drop 21=(ai.drop 21).take 5++(.asg (.Jb 28) (.fn 14 [(.Jb 11),(.Jb 19)])::ai.drop 27):=rfl;rw[O,jK _ _ E,Bc e];exact⟨_,_,o⟩
noncomputable def bw:List S:=[.asg (.Jb 4) (.fn 1 [(.sub (.Jb 1) (.Jb 3)),(.Jb 2)]),.ifs (.fc (.cc .Mod (.Jb 3) (.int 2))) [.expr (.fn 0 [(.sub (.Jb 1) (.Jb 3)),(.Jb 2)])] [.expr (.fn 2 [(.sub (.Jb 1) (.Jb 3)),(.Jb 2)])],.ifs (.fc (.mc .Eq (.Jb 4) (.cc .Sub (.oc .len [(.sub (.Jb 1) (.Jb 3))]) (.int 1)))) [.brk] [],.asg (.Jb 2) (.qc .pop (.sub (.Jb 1) (.Jb 3)) [(.cc .Add (.Jb 4) (.int 1))])]
theorem vT(l:da):allInts (l.map PV.int)=Fb l:=by
 induction l with
 |nil=>rfl|cons a r I=>show(allInts (r.map PV.int)).map _=_;rw[I];rfl
theorem jL{c:Cell}(h:allInts c.toList=Fb l)(i:Nat)(x:Int):allInts (c.Dg i (.int x)).toList=Fb (l.take i++x::l.drop i):=by
 have H:=pu h;have e:(c.Dg i (.int x)).toList=(l.take i++x::l.drop i).map PV.int:=by
  rw[ej,rh,bu,Zw,<-H]
  induction c using Cell.casesOn with
  |«ints» m=>show(m.take i++x::m.drop i).map PV.int=(m.map PV.int).take i++_::(m.map PV.int).drop i;refine List.map_append.trans ?_;rw[rh,bu,Zw]|«strs» m=>rfl|Lb m=>rfl
 rw[e,vT]
noncomputable def Kn(n:Nat):da->Int->Nat:=match Eh (n%2) 0 with
 |true=>Om|false=>Rd
noncomputable def oF(l:Loc)(h:Hp)(r:Nat)(e:Int)(c:Cell)(len s i:Nat):Option (Fl×Loc×Hp):=match Ki i len&&Ki s len&&Ki len 30 with
 |true=>match Eh s len with
  |true=>Fb (.brk,l.set 4 (Fb (.int s)),h.set r (Ib,c.Dg i (.int e)))|false=>Fb (.next,(l.set 4 (Fb (.int s))).set 2 (Fb ((c.Dg i (.int e)).getD (s+1))),h.set r (Ib,(c.Dg i (.int e)).Kj (s+1)))
 |false=>Gb
noncomputable def ZN:Cell->Option (List PV)
 |.Lb l=>Fb l|_=>Gb
noncomputable def OP:PV->Option Nat
 |.id r=>Fb r|_=>Gb
noncomputable def pA:Bool->Option Unit
 |true=>Fb ()|false=>Gb
theorem mU(h:ZN c=Fb l):c=.Lb l:=by
 induction c using Cell.casesOn with
 |Lb x=>exact congrArg _ (jc h)|_=>exact nn h
theorem F0(h:OP v=Fb r):v=.id r:=by
 induction v using PV.casesOn with
 |id x=>exact congrArg _ (jc h)|_=>exact nn h
theorem UC(h:pA b=Fb u):b=Hb:=by
 cases b with
 |true=>rfl|false=>exact nn h
noncomputable def kF(L:Loc)(h:Hp)(R n:Nat)(e:Int):Option (Fl×Loc×Hp):=(h[R]?).bind λq=>(ZN q.2).bind λl=>(pA (Ki l.length 100)).bind λJ=>(l[n]?).bind λv=>(OP v).bind λr=>
 (pA (!Eh R r)).bind λJ=>(h[r]?).bind λq=>(pA (!q.1)).bind λJ=>(allInts q.2.toList).bind λG=>oF L h r e q.2 G.length (Rd G e) (Kn n G e)
noncomputable def oQ(o:Option (Option PV)):Option Nat:=match o with
 |some (Fb (.id i))=>Fb i|_=>Gb
noncomputable def bF(o:Option (Option PV)):Option Int:=match o with
 |some (Fb (.int i))=>Fb i|_=>Gb
noncomputable def AO(i:Int):Option Nat:=match i with
 |.ofNat n=>Fb n|_=>Gb
noncomputable def Gy(l:Loc)(h:Hp):Option (Fl×Loc×Hp):=match l with
 |[_,b,c,d,_,_,_,_,_,_]=>(oQ (Fb b)).bind λR=>(bF (Fb c)).bind λe=>((bF (Fb d)).bind AO).bind λn=>kF l h R n e|_=>Gb
theorem QY(h:oQ (Fb o)=Fb i):o=Fb (.id i):=by
 induction o using Wd with
 |none=>exact nn h|some v=>induction v using PV.casesOn with
  |id j=>exact congrArg (λx=>Fb (PV.id x)) (jc h)|_=>exact nn h
theorem dJ(h:bF (Fb o)=Fb i):o=Fb (.int i):=by
 induction o using Wd with
 |none=>exact nn h|some v=>induction v using PV.casesOn with
  |int j=>exact congrArg (λx=>Fb (PV.int x)) (jc h)|_=>exact nn h
theorem FX(h:AO i=Fb n):i=.ofNat n:=by
 induction i using IG with
 |ofNat j=>exact congrArg Int.ofNat (jc h)|_=>exact nn h
theorem xS{P:Loc->Prop}(h:Gy l g=Fb x)(k:∀T R e n A N C B f Q,kF [T,Fb (.id R),Fb (.int e),Fb (.int (.ofNat n)),A,N,C,B,f,Q] g R n e=Fb x->P [T,Fb (.id R),Fb (.int e),Fb (.int (.ofNat n)),A,N,C,B,f,Q]):P l:=by
 rcases l with J|⟨a,J|⟨b,J|⟨c,J|⟨d,J|⟨A,J|⟨N,J|⟨C,J|⟨B,J|⟨f,J|⟨Q,J|⟨z,r⟩⟩⟩⟩⟩⟩⟩⟩⟩⟩⟩
 case cons.cons.cons.cons.cons.cons.cons.cons.cons.cons.nil=>
  refine yg h λR D h=>yg h λe j h=>yg h λn H h=>yg H λz H m=>?_;obtain rfl:=QY D;obtain rfl:=dJ j;obtain rfl:d=Fb (.int (.ofNat n)):=FX m▸dJ H;exact k a R e n A N C B f Q h
 all_goals exact nn h
theorem MW{P:Prop}(h:kF L H R n e=Fb x)
  (k:∀b l r c G,H[R]?=Fb (b,.Lb l)->l.length<=100->l[n]?=Fb (.id r)->R≠r->H[r]?=Fb (Ib,c)->allInts c.toList=Fb G->oF L H r e c G.length (Rd G e) (Kn n G e)=Fb x->P):P:=
 yg h λq A h=>yg h λl j h=>yg h λJ T h=>yg h λv d h=>yg h λr h5 h=>yg h λJ U h=>yg h λQ B h=>yg h λJ w h=>yg h λG m h=>
  k q.1 l r Q.2 G (A.trans (congrArg (λc=>Fb (q.1,c)) (mU j))) (Hx (UC T)) (F0 h5▸d) (BR ((bn _).mp (UC U))) (B.trans (congrArg (λb=>Fb (b,Q.2)) ((bn _).mp (UC w)))) m h
section
theorem IZ(A:F.fn 1=jh Rd)(H:h[r]?=Fb (Ib,c))(y:allInts c.toList=Fb G)(x:G.length<=30)(mt:Bool):de F 1 [.id r,.int e] mt h=Fb ((.int (Rd G e),h),Hb):=by
 have N:=(ur _).trans (Xx y);exact Pg (r:=(.int (Rd G e),[(Ib,c)])) rfl rfl (Sp H) N (by rw[A];exact(YB (v:=.id 0) (cs:=[(Ib,c)]) y x).1) N (by
  show Fb ((PV.int (Rd G e),h.set r (Ib,c)),Hb)=_;rw[set_same H])
theorem NK(s:F.fn j=Ol f)(C:H[r]?=Fb (Ib,c))(h:allInts c.toList=Fb G)(x:G.length<=30)(T:f G e<=G.length)(mt:Bool):de F j [.id r,.int e] mt H=Fb ((.none,H.set r (Ib,c.Dg (f G e) (.int e))),Hb):=by
 exact Pg (r:=(.none,[(Ib,c.Dg (f G e) (.int e))])) rfl rfl (Sp C) ((ur _).trans (Xx h)) (by rw[s];exact d1 h x T) ((ur _).trans (Xx (jL h _ e))) rfl
end
theorem B5{c:Cell}(H:allInts c.toList=Fb r)(h:i<=r.length)(e:Int):(c.Dg i (.int e)).len=r.length+1:=by
 rw[Yr (jL H i e),Pd,vr,xj,ex];rw[cx h,<-bm,ao h]
theorem A6{mt:Bool}(h:H[i]?=Fb (Ib,c))(A:Sf k c.len=Hb)(j:c.len<=ic):Te P F .pop (.id i) [.int k] mt H=Fb ((c.getD (idx k c.len),H.set i (Ib,c.Kj (idx k c.len))),Hb):=by
 show(match H[i]? with
  |some (Ib,c)=>Fb ((c.getD (idx k c.len),H.set i (Ib,c.Kj (idx k c.len))),Sf k c.len&&decide (c.len<=ic))|_=>Gb)=_
 rw[h];exact ke rfl (by rw[A,decide_eq_true j];rfl)
theorem KU(t:F.fn 0=Ol Rd)(J:F.fn 1=jh Rd)(u:F.fn 2=Ol Om)(h:Gy L H=Fb x):Kc (uc P0 F 58) bw L H=Fb (x,Hb):=by
 refine xS (P:=λL=>Kc (uc P0 F 58) bw L H=Fb (x,Hb)) h λa R e n O A C B d Q h=>?_;refine MW h λw l r c G j hl T U D z h=>?_;unfold oF at h
 split at h
 case h_2=>injection h
 rename_i g
 simp only [Zc,Nat.ble_eq] at g;obtain⟨⟨c1,c2⟩,f⟩:=g;obtain⟨V,hv'⟩:=List.getElem?_eq_some_iff.mp T;have s:∀{H:Hp}{L:Loc}{mt:Bool}{m:Nat},H[R]?=Fb (w,.Lb l)->L[1]?=Fb (Fb (.id R))->L[3]?=Fb (Fb (.int (.ofNat n)))->Yb P0 F (m+2) (.sub (.Jb 1) (.Jb 3)) mt L H=Fb ((.id r,H),Hb):=by
  intro H L mt m Y q2 q3;refine vk (Qd q2) (Qd q3) ?_;have:=Bn (o:=.id R) (c:=.Lb l) (show(H[R]?).map (·.2)=_ by rw[Y];rfl) V (by show l.length<=ic;unfold ic;lia) rfl;rw[show(PV.int (Int.ofNat n))=PV.int (n:Int) from rfl,this];show Fb ((l.getD n .none,H),Hb)=_;rw[Mg,T];rfl
 have k:∀y,(H.set r y)[R]?=Fb (w,.Lb l):=λy=>by refine(sG (λq=>U q.symm)).trans ?_;exact j
 have I:∀y,(H.set r y)[r]?=Fb y:=λy=>by exact(sQ (List.getElem?_eq_some_iff.mp D).1)
 have e1:uc P0 F 58 (.asg (.Jb 4) (.fn 1 [(.sub (.Jb 1) (.Jb 3)),(.Jb 2)])) [a,Fb (.id R),Fb (.int e),Fb (.int (.ofNat n)),O,A,C,B,d,Q] H=Fb ((.next,[a,Fb (.id R),Fb (.int e),Fb (.int (.ofNat n)),Fb (.int (Rd G e:Nat)),A,C,B,d,Q],H),Hb):=by
  refine Gf ?_ rfl;exact Ni (Le (s j rfl rfl) (zd (Qd rfl))) (IZ J D z f _)
 have e2:uc P0 F 58 (.ifs (.fc (.cc .Mod (.Jb 3) (.int 2))) [.expr (.fn 0 [(.sub (.Jb 1) (.Jb 3)),(.Jb 2)])] [.expr (.fn 2 [(.sub (.Jb 1) (.Jb 3)),(.Jb 2)])]) [a,Fb (.id R),Fb (.int e),Fb (.int (.ofNat n)),Fb (.int (Rd G e:Nat)),A,C,B,d,Q] H=Fb ((.next,[a,Fb (.id R),Fb (.int e),Fb (.int (.ofNat n)),Fb (.int (Rd G e:Nat)),A,C,B,d,Q],H.set r (Ib,c.Dg (Kn n G e) (.int e))),Hb):=by
  have em:(Int.ofNat n).fmod 2=((n%2:Nat):Int):=by
   refine(Int.fmod_eq_emod_of_nonneg _ (by decide)).trans ?_;show((n:Int))%2=_;lia
  refine Me (b:=!Eh (n%2) 0) (Fe (dg rfl rfl rfl) ?_) ?_
  ·show Fb (decide ((Int.ofNat n).fmod 2≠0))=_
   rw[em];rcases Nat.mod_two_eq_zero_or_one n with q|q<;>rw[q]<;>rfl
  ·unfold Kn at c1⊢
   cases q:Eh (n%2) 0 with
   |true=>
    rw[q] at c1;refine(if_neg (by decide)).trans ?_;refine(Bc (Aj (Ni (n:=56) (Le (s j rfl rfl) (zd (Qd rfl))) (NK u D z f c1 _)))).trans rfl
   |false=>
    rw[q] at c1;refine(if_pos (by decide)).trans ?_;refine(Bc (Aj (Ni (n:=56) (Le (s j rfl rfl) (zd (Qd rfl))) (NK t D z f c1 _)))).trans rfl
 have hlen:=B5 z c1 e;have E:ud (Yb P0 F 58) [a,Fb (.id R),Fb (.int e),Fb (.int (.ofNat n)),Fb (.int (Rd G e:Nat)),A,C,B,d,Q] (.fc (.mc .Eq (.Jb 4) (.cc .Sub (.oc .len [(.sub (.Jb 1) (.Jb 3))]) (.int 1)))) (H.set r (Ib,c.Dg (Kn n G e) (.int e)))=Fb ((Eh (Rd G e) G.length,H.set r (Ib,c.Dg (Kn n G e) (.int e))),Hb):=by
  refine Fe (x:=.bool (Eh (Rd G e) G.length)) (af (Qd rfl) (dg (x:=.int ((G.length+1:Nat):Int)) ?_ rfl rfl) ?_) rfl
  ·refine Vh (by decide) (zd (s (k _) rfl rfl)) ?_
   have:=QC (v:=.id r) (mt:=Ib) (c:=c.Dg (Kn n G e) (.int e)) (show((H.set r (Ib,c.Dg (Kn n G e) (.int e)))[r]?).map (·.2)=_ by rw[I];rfl) (by rw[hlen];unfold ic;lia) rfl;refine this.trans ?_;rw[hlen]
  ·show(Fb (decide (((Rd G e:Nat):Int)=((G.length+1:Nat):Int)-1))).map PV.bool=_
   have:decide (((Rd G e:Nat):Int)=((G.length+1:Nat):Int)-1)=Eh (Rd G e) G.length:=by
    cases q:Eh (Rd G e) G.length with
    |true=>have:=bB q;exact decide_eq_true (by lia)|false=>have:=BR q;exact decide_eq_false (by lia)
   rw[this];rfl
 refine(Bc e1).trans ((Bc e2).trans ?_)
 split at h
 ·rename_i N
  refine lg h ?_;rw[N] at E;exact pK (Me E (by refine(if_pos rfl).trans ?_;rfl))
 ·rename_i N
  refine lg h ?_;rw[N] at E;have hs:=BR N;refine(Bc (Me E (by refine(if_neg (by decide)).trans ?_;rfl))).trans ?_;refine(Bc (Gf ?_ rfl)).trans rfl;refine me (s (k _) rfl rfl) (zd (dg (Qd rfl) rfl rfl)) ?_;have ei:idx (((Rd G e:Nat):Int)+1) (G.length+1)=Rd G e+1:=by
   unfold idx;rw[if_neg (by lia)];lia
  have eo:Sf (((Rd G e:Nat):Int)+1) (G.length+1)=Hb:=by
   unfold Sf;rw[if_neg (by lia),decide_eq_true (by lia),decide_eq_true (by lia)];rfl
  have eb:decide (G.length+1<=ic)=Hb:=decide_eq_true (by unfold ic;lia);have p:=A6 (P:=P0) (F:=F) (mt:=Hb) (I (Ib,c.Dg (Kn n G e) (.int e))) (by rw[hlen];exact eo) (by rw[hlen];exact of_decide_eq_true eb);rw[hlen,ei,List.set_set] at p;exact p
noncomputable abbrev pl:Dc:=only YE
noncomputable def nE(l:Loc)(h:Hp):Rm (Fl×Loc×Hp):=match Gy l h with
 |some x=>Fb (x,Hb)|none=>Kc (uc P0 pl 58) bw l h
theorem i0:(λl H=>Kc (uc P0 pl 58) bw l H)=nE:=by
 funext l H
 unfold nE
 cases h:Gy l H with
 |none=>rfl|some x=>exact KU rfl rfl rfl h
noncomputable def az(r:Rm (Fl×Loc×Hp))(f:Loc->Hp->Rm (Fl×Loc×Hp)):Rm (Fl×Loc×Hp):=Rm.bind r λx=>match x.1 with
 |.next=>f x.2.1 x.2.2|g=>Rm.ret (g,x.2.1,x.2.2)
noncomputable def BN:S:=.expr (.qc .append (.Jb 1) [(.Xb [])])
noncomputable def CN:M:=.oc .range [(.oc .len [(.Jb 1)])]
noncomputable def SN:S:=.asg (.Jb 1) (.comp (.Jb 1) (.Jb 1) (.Jb 1) (Fb (.fc (.mc .NotEq (.Jb 1) (.Xb [])))) [Gb,Gb])
noncomputable def KO(l:Loc)(h:Hp):Rm (Fl×Loc×Hp):=Rm.bind (Jf pl (Yb P0 pl 59) l (.Jb 3) CN h) λs=>forLoop nE (.Jb 3) (zi s.1 s.2+1) s.1 l s.2
noncomputable def XE(l:Loc)(h:Hp):Rm (Fl×Loc×Hp):=az (uc P0 pl 59 BN l h) λl h=>az (KO l h) λl h=>Kc (uc P0 pl 59) [SN] l h
theorem X2:(λl h=>Kc (uc P0 pl 59) [BN,.Uf (.Jb 3) CN bw,SN] l h)=XE:=by
 funext l h
 unfold XE KO;rw[<-i0]
 rfl
noncomputable def yF(l:Loc)(h:Hp):Rm (Fl×Loc×Hp):=az (uc P0 pl 60 (.asg (.Jb 1) (.Xb [])) l h) λl h=>az (Rm.bind (Jf pl (Yb P0 pl 60) l (.Jb 2) (.Jb 0) h) λs=>forLoop XE (.Jb 2) (zi s.1 s.2+1) s.1 l s.2) λl h=>Kc (uc P0 pl 60) [.ret (.Jb 1)] l h
theorem x5(l:Loc)(h:Hp):Kc (uc P0 pl 60) qv l h=yF l h:=by
 unfold yF;rw[<-X2]
 rfl
noncomputable def qD:Spec:=λa C=>match Eh a.length 1 with
 |true=>Rm.bind (yF (a.map Fb++Sk (10-a.length) Gb) C) λr=>match r.1 with
  |.ret v=>Rm.ret (v,r.2.2)|.next=>Rm.ret (.none,r.2.2)|.brk=>Gb
 |false=>Gb
theorem kX:ss=qD:=by
 funext a C
 unfold ss qD Hd;rw[x5]
 all_goals rfl
noncomputable abbrev GF:List (Nat×Spec):=[(5,vq),(7,Ms),(15,wv),(10,yv),(24,tq),(23,Cm),(25,xv),(12,ev),(13,qD),(14,Es)]
noncomputable abbrev FQ:Dc:=only GF
theorem S7:FL=FQ:=by
 show only LL=only GF;unfold LL GF;rw[kX]
structure Sym where
 v:PV
 k:Option PV
 x:Option PV
 bare:Option PV
 Vf:Option PV
 extra:Option PV
 nG:Option PV
 Kw:Option PV
 zw:Option PV
 Ow:Option PV
 iG:Option PV
 c0:Bool×Cell
 c1:Bool×Cell
 c2:Bool×Cell
 c3:Bool×Cell
 c4:Bool×Cell
 c5:Bool×Cell
 c7:Bool×Cell
 c8:Bool×Cell
 c9:Bool×Cell
 eG:Bool×Cell
 HF:Bool×Cell
 c13:Bool×Cell
 NP:Bool×Cell
 c16:Bool×Cell
noncomputable def vz(F:Dc)(n:Nat)(f:ba)(u:Sym):Rm (Fl×Loc×Hp):=Cz F n (tt u.v n u.k u.x u.bare u.Vf u.extra u.nG u.Kw u.zw u.Ow u.iG) (Yz u.c0 u.c1 u.c2 u.c3 u.c4 u.c5 u.c7 u.c8 u.c9 u.eG u.HF u.c13 u.NP u.c16 f n)
noncomputable def xF(F:Dc)(n:Nat)(u:Sym)(w:ue):Bool×Option (Bool×Cell)×Option (Bool×Cell):=(jE F (vz F n w.Lc u) w.Lc,(Ko (vz F n w.Lc u))[7]?,(Ko (vz F n w.Lc u))[11]?)
def ii(n:Nat)(w:ue):Prop:=∀u:Sym,xF FQ n u w=(Hb,Fb u.c7,Fb (Ib,.strs w.Lc))
theorem Hj{n:Nat}{l:List ue}(h:∀u:Sym,l.map (xF FQ n u)=l.map λw=>(Hb,Fb u.c7,Fb (Ib,.strs w.Lc))):∀w∈l,ii n w:=λw hw u=>List.map_inj_left.mp (h u) w hw
theorem D4{α:Type}{p:α->Prop}{l:List α}(n:Nat)(H:∀x∈l.take n,p x)(j:∀x∈l.drop n,p x):∀x∈l,p x:=by
 intro x h;rw[<-jH n l] at h;rcases List.mem_append.mp h with q|q
 ·exact H x q
 ·exact j x q
theorem KN{P:Nat->Prop}:∀i<0,P i:=λi h=>absurd h (io i)
theorem Sj{P:Nat->Prop}{m:Nat}(h:∀i<m,P i)(H:P m):∀i<m+1,P i:=λi y=>(Nat.lt_succ_iff_lt_or_eq.mp y).elim (h i) λq=>q▸H
theorem YC{α:Type}{p:α->Prop}{l:List α}(n:Nat):∀m:Nat,(∀i<m,∀x∈(l.drop (i*n)).take n,p x)->(∀x∈l.drop (m*n),p x)->∀x∈l,p x
 |0,_,h=>by simpa using h
 |m+1,H,j=>YC n m (λi y=>H i (by exact jo ‹_›)) (D4 n (H m (by exact Ed _)) (by rw[mu];rw[aB] at j;exact j))
set_option maxHeartbeats 0
theorem Z9:∀w∈((reach 6 12).drop (0*12)).take 12,ii 6 w:=Hj λu=>by kernel_rfl
theorem Y_:∀w∈((reach 6 12).drop (1*12)).take 12,ii 6 w:=Hj λu=>by kernel_rfl
theorem i_:∀w∈((reach 6 12).drop (2*12)).take 12,ii 6 w:=Hj λu=>by kernel_rfl
theorem n_:∀w∈((reach 6 12).drop (3*12)).take 12,ii 6 w:=Hj λu=>by kernel_rfl
theorem l9:∀w∈((reach 6 12).drop (4*12)).take 12,ii 6 w:=Hj λu=>by kernel_rfl
theorem r9:∀w∈((reach 6 12).drop (5*12)).take 12,ii 6 w:=Hj λu=>by kernel_rfl
theorem b_:∀w∈((reach 6 12).drop (6*12)).take 12,ii 6 w:=Hj λu=>by kernel_rfl
theorem T_:∀w∈((reach 6 12).drop (7*12)).take 12,ii 6 w:=Hj λu=>by kernel_rfl
theorem C9:∀w∈((reach 6 12).drop (8*12)).take 12,ii 6 w:=Hj λu=>by kernel_rfl
theorem H_:∀w∈((reach 6 12).drop (9*12)).take 12,ii 6 w:=Hj λu=>by kernel_rfl
theorem A8:∀w∈((reach 6 12).drop (10*12)).take 12,ii 6 w:=Hj λu=>by kernel_rfl
theorem J9:∀w∈((reach 5 10).drop (0*14)).take 14,ii 5 w:=Hj λu=>by kernel_rfl
theorem S_:∀w∈((reach 5 10).drop (1*14)).take 14,ii 5 w:=Hj λu=>by kernel_rfl
theorem b9:∀w∈((reach 5 10).drop (2*14)).take 14,ii 5 w:=Hj λu=>by kernel_rfl
theorem w_:(reach 6 12).drop (11*12)=[]:=by kernel_rfl
theorem w':(reach 5 10).drop (3*14)=[]:=by kernel_rfl
theorem s_:∀w∈reach 6 12,ii 6 w:=YC 12 11 (Sj (Sj (Sj (Sj (Sj (Sj (Sj (Sj (Sj (Sj (Sj KN Z9) Y_) i_) n_) l9) r9) b_) T_) C9) H_) A8) (by rw[w_];intro x h;cases h)
theorem A_:∀w∈reach 5 10,ii 5 w:=YC 14 3 (Sj (Sj (Sj KN J9) S_) b9) (by rw[w'];intro x h;cases h)
noncomputable def Lk(size:Nat)(w:ue):Bool:=Ry w.Lc&&JD w.Lc w.vd&&ee.all (qq (Sn w.Lc size))&&Fy (Sn w.Lc size)&&(Sn w.Lc size).all (λe=>fk e.k size)&&Ki (Sn w.Lc size).length 20
theorem xy{α:Type}{p:α->Bool}{l:List α}(n:Nat)(h:(l.take n).all p=Hb)(H:(l.drop n).all p=Hb):l.all p=Hb:=by
 rw[<-jH n l,sR,h,H];rfl
theorem RX{α:Type}{p:α->Bool}{l:List α}(n:Nat)(h:(l.take n).all p=Hb)(H:((l.drop n).take n).all p=Hb)(Q:((l.drop (n+n)).take n).all p=Hb)(b:((l.drop (n+(n+n))).take n).all p=Hb)(h5:(l.drop (n+(n+(n+n)))).all p=Hb):l.all p=Hb:=
 xy n h (xy n H (xy n (by rw[mu];exact Q) (xy n (by rw[mu,mu];exact b) (by rw[mu,mu,mu];exact h5))))
theorem b3:((reach 6 12).take 30).all (Lk 6)=Hb:=by kernel_rfl
theorem K2:(((reach 6 12).drop 30).take 30).all (Lk 6)=Hb:=by kernel_rfl
theorem I2:(((reach 6 12).drop 60).take 30).all (Lk 6)=Hb:=by kernel_rfl
theorem M3:(((reach 6 12).drop 90).take 30).all (Lk 6)=Hb:=by kernel_rfl
theorem E4:((reach 6 12).drop 120).all (Lk 6)=Hb:=by kernel_rfl
theorem S5:(reach 6 12).all (Lk 6)=Hb:=RX 30 b3 K2 I2 M3 E4
theorem H6:(reach 5 10).all (Lk 5)=Hb:=by kernel_rfl
section
variable(ns:da)
noncomputable abbrev Kd:Nat:=Qf ns
noncomputable abbrev Qe:da:=numsOf ns
noncomputable abbrev wN:ue:=Wc (Kd ns) (Qe ns) (2*Kd ns)
noncomputable abbrev ve:List Pc:=je (Kd ns) (Qe ns) (2*Kd ns)
noncomputable abbrev Vq:List Ce:=Sn (wN ns).Lc (Kd ns)
noncomputable abbrev Ot:aa:=(Vq ns).map (Ce.tell (gr (eh (Qe ns))))
noncomputable def DF(k x C extra:Option PV):Loc:=lc (.Mb (.ints ns)) (Kd ns) k x (Fb (.str (Nc (ve ns)))) C extra (Fb (.str (Ec (ve ns)))) (Fb (.id 10)) (Fb (.id 11)) (Fb (.id 12)) (Fb (.rc 13)) (Fb (.id 14)) Gb Gb Gb Gb Gb Gb
noncomputable def aA(w:Cell):Hp:=hT (ownOf ns) (Qe ns) (eh (Qe ns)) (Ij (Qe ns)) (wN ns).Lc (ed (ve ns)) w (Ah (wN ns).vd) [(Ib,.Lb (Gc (Nc (ve ns)) 0 Ib)),(Ib,.strs (wN ns).Lc),(Ib,.strs (Xh (ve ns))),(Ib,.Lb (zc (Ot ns))),(Ib,.Lb (zc (Ot ns++[([114],Ec (ve ns))])))]
theorem PE:Lk (Kd ns) (wN ns)=Hb:=by
 have h:=MC (Kd ns) (Qe ns) (2*Kd ns);rcases Wr ns with e|e
 ·have H:wN ns∈reach 5 10:=by
   have:Kd ns=5:=e;rw[this] at h;unfold wN;rw[this];exact h
  rw[show Kd ns=5 from e];exact List.all_eq_true.mp H6 _ H
 ·have H:wN ns∈reach 6 12:=by
   have:Kd ns=6:=e;rw[this] at h;unfold wN;rw[this];exact h
  rw[show Kd ns=6 from e];exact List.all_eq_true.mp S5 _ H
theorem E6:iw (wN ns).Lc (eh (Qe ns))=Ot ns:=by
 unfold iw;rw[ny,show 2*Kd ns/2=Kd ns by exact Nat.mul_div_cancel_left _ (by decide)];exact(IC _ _ _).1
theorem Wx:(eh (Qe ns)).length=2*Kd ns:=by unfold eh;rw[Uc,ly]
theorem TZ:(Ij (Qe ns)).length=2*Kd ns:=by unfold Ij;rw[Uc,ly]
theorem E2:(Ij (Qe ns)).all (λe=>decide (e∈Ai))=Hb:=by
 rw[ku];intro e h;unfold Ij at h;obtain⟨x,J,rfl⟩:=List.mem_map.mp h;refine decide_eq_true ?_;have b:=xR (x.fdiv 48) (show(0:Int)<3 by decide);have B:=yR (x.fdiv 48) (show(0:Int)<3 by decide);unfold endAt;generalize (x.fdiv 48).fmod 3=q at b B;obtain⟨j,rfl⟩:∃j:Nat,q=j:=⟨q.toNat,by exact(Xw ‹_›).symm⟩;rw[pr,Mg,De (show j<Ai.length by show j<3;exact Int.ofNat_lt.mp ‹_›)];exact UA _
theorem TV(h:ns.length<=63):∃k x C extra w,Kc (uc P0 FL 60) (ai.take 17) (l0 (.Mb (.ints ns))) []=Fb ((.next,DF ns k x C extra,aA ns w),Hb):=by
 have A:=Wr ns;have a:(Qe ns).length=2*Kd ns:=ly ns;have Q:=PE ns;unfold Lk at Q;simp only [Zc] at Q;obtain⟨⟨⟨⟨⟨U,J⟩,Y⟩,b⟩,l⟩,O⟩:=Q;have O:(Vq ns).length<=20:=by simpa using O
 have H:=oz (Kd ns) (Qe ns) (2*Kd ns);have B:(ve ns).length=2*Kd ns:=gv _ _ _;have j:(ve ns).map (λp:Pc=>p.1)=(wN ns).Lc:=yy _ _ _;have T:(wN ns).Lc.length=2*Kd ns:=ny _ _ _;have o:(ve ns).length<=12:=by lia
 have G:ve ns≠[]:=λq=>by rw[q] at B;simp at B;lia
 have m:=(JC (Kd ns) (Qe ns) (2*Kd ns)).1;refine Qc λg V=>?_;refine WP (l_ FL (own:=ownOf ns) (pd:=Qe ns) (great:=eh (Qe ns)) (ends:=Ij (Qe ns)) (v:=.Mb (.ints ns)) (size:=Kd ns) (by lia)) λk x C extra w e=>?_;refine V ?_;refine⟨k,x,C,extra,w,?_⟩;rw[a] at e;have I:h5 (ownOf ns) (Qe ns) (eh (Qe ns)) (Ij (Qe ns)) (Ue (Wc (Kd ns) (Qe ns) (2*Qf ns)).Lc (ed (je (Kd ns) (Qe ns) (2*Qf ns))) w (Wc (Kd ns) (Qe ns) (2*Qf ns)).vd)=hT (ownOf ns) (Qe ns) (eh (Qe ns)) (Ij (Qe ns)) ((ve ns).map (λp:Pc=>p.1)) (ed (ve ns)) w (Ah (wN ns).vd) []:=by
  rw[j];unfold hT Ue md;rw[if_neg (λq=>by have:=congrArg mn q;rw[T] at this;simp at this;lia),if_neg (λq=>by have:=congrArg mn q;unfold ed at this;rw[Uc,B] at this;simp at this;lia)]
 rw[I] at e;show Kc (uc P0 FL 60) (ai.take 6++(ai.drop 6).take 11) (l0 (.Mb (.ints ns))) []=_;rw[I8 FL h];refine(Bc e).trans ?_;refine(Bc (W_ H o)).trans ?_;refine(Bc (U_ rfl rfl H o G)).trans ?_;refine(Bc (n9 H o G)).trans ?_;refine(Bc (Y8 H o G rfl rfl)).trans ?_;refine(Bc (V8 H o rfl rfl rfl)).trans ?_;refine(Bc (y7 rfl H o (by rw[j];exact U) rfl rfl)).trans ?_;rw[j];refine(Bc (s8 rfl (by lia) (by rw[TZ,T]) (E2 ns) (by lia) J rfl rfl)).trans ?_;refine(Bc (s7 rfl (by lia) (by lia) (by rw[Wx];lia) (by rw[Wx];lia) rfl rfl)).trans ?_;rw[E6];have N:(Ot ns).length<=1000:=by rw[Uc];exact dc O (by decide)
 refine(Bc (l8 rfl N rfl rfl)).trans ?_;refine(Bc (D7 N rfl rfl)).trans ?_
 rfl
theorem xY:ud (Yb P0 FL 60) (DF ns k x C extra) (.fc (.mc .NotEq (.qc (.fn 24) (.Jb 21) []) (.Oc (.Jb 22) .none (.neg (.int 1)) .none))) (aA ns w)=Fb ((Ib,aA ns w),Hb):=by
 have h:=PE ns;unfold Lk at h;simp only [Zc] at h;have o:(Vq ns).length<=20:=by simpa using h.2
 exact B7 rfl (by rw[Uc];exact dc o (by decide)) rfl rfl
noncomputable def rP(w:Cell):Hp:=hT (ownOf ns) (Qe ns) (eh (Qe ns)) (Ij (Qe ns)) (wN ns).Lc (ed (ve ns)) w (Ah (wN ns).vd) [(Ib,.Lb (Gc (Nc (ve ns)) 0 Ib)),(Ib,.strs (wN ns).Lc),(Ib,.strs (Xh (ve ns))),(Ib,.Lb (zc (Ot ns))),(Ib,.Lb (zc (Ot ns++[([114],Ec (ve ns))]))),(Ib,.Lb (Yo (Je (Vq ns)))),(Ib,.Lb (Qj (Vq ns)))]
theorem dY:Kc (uc P0 FL 60) (ai.drop 18) (DF ns k x C extra) (aA ns w)=Kc (uc P0 FL 60) (ai.drop 21) (tt (.Mb (.ints ns)) (Kd ns) k x (Fb (.str (Nc (ve ns)))) C extra (Fb (.str (Ec (ve ns)))) (Fb (.id 10)) (Fb (.id 12)) (Fb (.id 14)) (Fb (.id 16))) (rP ns w):=by
 have B:=Wr ns;have h:=PE ns;unfold Lk at h;simp only [Zc] at h;have o:=h.1.1.2;have O:(Vq ns).length<=20:=by simpa using h.2
 have H:=(IC (wN ns).Lc [] (Kd ns)).2;have T:(Vq ns).all (λe=>fk e.k (eh (Qe ns)).length)=Hb:=by
  rw[Wx,ku];intro e V;have A:=Nat.blt_eq.mp (List.all_eq_true.mp h.1.2 e V);exact Nat.blt_eq.mpr (zl A (Nat.le_mul_of_pos_left _ (by decide)))
 refine(Bc (D8 rfl H (dc O (by decide)) h.1.1.1.2 rfl rfl)).trans ?_;refine(Bc (v8 h.1.1.1.2 o rfl rfl)).trans ?_;exact Bc (N8 rfl H (dc O (by decide)) (fJ o).2.2.2 T (by rw[Wx];lia) rfl rfl)
end
end
open PySem.Calls in
noncomputable def Xg(l:List Env):List Ub:=l.filterMap (·.frame)
noncomputable def JE(h:Heap)(L:Ub):Heap:=h.update L λo=>{o with data:=.freed}
noncomputable def Cv(h:Heap)(L:List Ub):Heap:=L.foldl JE h
theorem QH(H:b≠L):(JE h L).get? b=h.get? b:=Heap.get?_update_other h _ (sh H)
theorem pI(h:Heap)(L:Ub):(JE h L).get? L=Gb:=TI.get?_update_freed h L
theorem tI:∀(l:List Ub)(h:Heap)(b:Ub),h.get? b=Gb->(Cv h l).get? b=Gb
 |[],h,b,e=>e|L::r,h,b,e=>by
  refine tI r _ b ?_
  by_cases q:b=L
  ·subst q;exact pI h b
  ·refine(QH q).trans ?_;exact e
theorem JK(l:List Ub):∀(h:Heap)(b:Ub),b∈l->(Cv h l).get? b=Gb:=by
 induction l with
 |nil=>exactλJ J e=>(Xd e).elim|cons L r I=>exactλh b e=>(List.mem_cons.mp e).elim (λq=>by rw[q];exact tI r _ _ (pI h _)) (I _ b)
theorem vJ(l:List Ub):∀(h:Heap)(b:Ub),b∉l->(Cv h l).get? b=h.get? b:=by
 induction l with
 |nil=>exactλJ J J=>rfl|cons L r I=>exactλh b e=>(I _ b λq=>e (Ee _ q)).trans (QH λq=>e (q▸Fd))
theorem KS(h:Heap)(L:List Ub):(Cv h L).StaysIn h:=λb o e=>by
 by_cases q:b∈L
 ·rw[JK L h b q] at e;injection e
 ·rw[vJ L h b q] at e;exact e
def uf(g:Gh)(b:Ub)(o:Obj):Prop:=g b=.out o\/g b=.Mb o
theorem uf.get(H:tc h g a)(x:uf g b o):h.get? b=Fb o:=x.elim (H.out b o) (H.Mb b o)
theorem uf.ext(x:uf g b o)(X:Ext g G):uf G b o:=x.elim (λe=>.inl (X.at e (by intro h;injection h))) λe=>.inr (X.at e (by intro h;injection h))
theorem uf.call(H:tc h g a)(x:uf g b o)(I:ca):uf (fe g h I) b o:=by
 rcases x with e|e
 ·exact .inl (vy e (H.out b o e))
 ·exact .inr (tm _ _ e)
theorem uf.of(H:tc h g a)(O:g b≠.free)(z:h.get? b=Fb o):uf (fe g h []) b o:=by
 have c:=gD (is:=[]) H b;unfold uf;generalize fe g h [] b=t at c
 induction c using am.casesOn with
 |free q=>exact absurd q O|Mb q=>exact .inr (congrArg Tc.Mb (jc ((H.Mb b _ q).symm.trans z)))|Xb _ y=>exact absurd y Xd|out _ _ _ f=>exact .inl (congrArg Tc.out (jc (f.symm.trans z)))
theorem Wp(h:e.frame=Fb L):Xg (e::l)=L::Xg l:=by unfold Xg;refine List.filterMap_cons.trans ?_;rw[h]
theorem xM(h:e.frame=Fb L)(q:b∈Xg (e::l)):b=L\/b∈Xg l:=List.mem_cons.mp (Wp h▸q)
inductive Iu(g:Gh)(env:Env):Prop
 |mk{L:Ub}{o:Obj}(k:env.scope.kind≠.module)(f:env.frame=Fb L)(t:g L=.out o)(d:∀vs,o.data≠.fields vs)
def ti(g:Gh)(l:List Env):Prop:=∀e∈l,Iu g e
theorem ti.ext(x:ti g l)(X:Ext g G):ti G l:=λe H=>by
 induction x e H using Iu.casesOn with|mk k f t d=>exact⟨k,f,X.at t (by intro h;injection h),d⟩
theorem ti.Xg(x:ti g l)(L:Ub)(h:L∈Xg l):∃o,g L=.out o:=by
 refine(List.mem_filterMap.mp h).elim λe z=>?_
 induction x e z.1 using Iu.casesOn with|mk k f t d=>exact⟨_,jc (f.symm.trans z.2)▸t⟩
theorem ti.fun{B h:Heap}:∀{l:List Env},ti g l->(∀b o,uf g b o->h.get? b=Fb o)->(∀L∈Mine.Xg l,B.get? L=Gb)->h.FunFrames B l
 |[],_,_,_=>trivial|E::r,x,H,O=>by
  induction x E Fd using Iu.casesOn with|@mk L o k f t d=>_
  exact⟨k,⟨L,o,f,O L (Wp f▸Fd),H L o (.inl t),d⟩,ti.fun (λe V=>x e (Ee _ V)) H λp Y=>O p (Wp f▸Ee _ Y)⟩
inductive di(g:Gh)(x:Ub):Prop
 |mk{dx:Ub}{od:Obj}{la:Ub}(h1:uf g x (gt dx))(h2:uf g dx od)(h3:Dn od la)
theorem di.ext(h:di g x)(X:Ext g G):di G x:=by
 induction h using di.casesOn with|mk H j Q=>exact⟨H.ext X,j.ext X,Q⟩
theorem di.call(H:tc h g a)(q:di g x)(I:ca):di (fe g h I) x:=by
 induction q using di.casesOn with|mk A j Q=>exact⟨A.call H I,j.call H I,Q⟩
inductive rj(g:Gh)(s:Vb)(Jn:List Env)(Rw:ca)(s':Vb):Value->Prop
 |mk{hr base:Heap}{ea t:Ub}{tk:Tok}{xs:Str}(k1:∀b o,uf g b o->hr.get? b=Fb o)(T:Tr s s')(fl:Heap.FlyingW base Jn ea (.type "ValueError") (.ref t) s'.heap)(tu:s'.heap.TupAt t [.str xs tk])(bt:base.get? t=Gb)(xm:xs.cps.toList=Rw)(us:hr.UpToSlots s'.heap)
  (k2:∀b o,b∉Xg Jn->uf g b o->base.get? b=Fb o):rj g s Jn Rw s' (.ref ea)
inductive Im(g:Gh)(L:Ub)(s:Vb)(Rw:ca)(s':Vb):Value->Prop
 |mk{hr:Heap}{ea:Ub}{tk:Tok}{xs:Str}{o:Obj}(ho:hr.get? L=Fb o)(hd:∀vs,o.data≠.fields vs)(k1:∀b o,uf g b o->hr.get? b=Fb o)(T:Tr s s')(m:Heap.MadeExc hr s'.heap ea "ValueError" [.str xs tk])(xm:xs.cps.toList=Rw):Im g L s Rw s' (.ref ea)
def Cj(w:xd)(B:Heap)(d:Nat)(x a:Ub)(mk:ia->Args)(z:List PV)(m:ca):Prop:=
 ∀(A:Dd)(R:Result->Vb->Prop)(g:Gh)(s:Vb)(y:ia)(O:List Env),Cc d A->(∀b o,B.get? b=Fb o->g b=.out o\/g b=.Mb o)->tc s.heap g []->bc g y z->A.frames=Fb O->ti g O->di g x->
  (∀e Y,rj g s O m Y e->R (.error e) Y)->qi (Qb pw w) A (.call (.ref a) (mk y)) R s
def Sx(w:xd)(B:Heap)(d:Nat)(x:Ub)(j:Scope)(body:List jd)(a:List PV)(m:ca):Prop:=
 ∀(A:Dd)(T:Env)(g:Gh)(s:Vb)(o:List Env)(E:ja)(Q:Flow->Vb->Prop),Cc d A->di g x->Wb B j T (Cg j a) [] g s.heap->A.frames=Fb (T::o)->T.frame=Fb T.locals->ti g o->
  (∀e Y,Im g T.locals s m Y e->E e Y)->(∀e Y,rj g s (T::o) m Y e->E e Y)->Pb (Qb pw w) A (kf body T) Q E s
section
theorem PM{h:Heap}{P:Prop}(n:h.Ns L m)(k:∀o,h.get? L=Fb o->(∀V,o.data≠.fields V)->P):P:=by
 refine ge n λo e E z=>k o z.1 λV q=>?_;rw[z.2.1] at q;injection q
theorem JB(R:Wb B s E l a g h)(T:E.frame=Fb E.locals)(x:ti g O):ti (fe g h []) (E::O):=λe H=>
 (List.mem_cons.mp H).elim (λq=>q▸R.er.own.elim λm z=>PM z.1 λo A U=>⟨by rw[R.er.kind];decide,T,pD R.er.Ug A,U⟩) λH=>by
  induction x e H using Iu.casesOn with|mk k f t d=>exact⟨k,f,vy t (R.hr.out _ _ t),d⟩
theorem BM(h:e.frame=Fb e.locals)(H:g e.locals=.free)(x:uf g b o)(O:b∉Xg I):b∉Xg (e::I):=λq=>
 (xM h q).elim (λq=>by unfold uf at x;rw[q,H] at x;rcases x with x|x<;>injection x) O
section
theorem xU{R:Result->Vb->Prop}(a:A.frames=Fb (E::O))(h:E.frame=Fb E.locals)(C:E.scope.kind≠.module)(f:ti G O)(X:Ext g G)(T:Tr s J)(r:g E.locals=.free)(m:Im G E.locals J B H e)(post:∀e Y,rj g s O B Y e->R (.error e) Y):
  Pb (Qb pw w) A (leaving E e) (λK d=>R (.error e) d) E' H:=by
 induction m using Im.casesOn with|@mk D ea tk xs j z I k V U l=>_
 have y:∀L∈Xg (E::O),(Cv D (Xg (E::O))).get? L=Gb:=JK _ _;refine wpAny_leaves_madeW a h (KS _ _) ⟨C,⟨E.locals,j,h,y _ (Wp h▸Fd),z,I⟩,f.fun k λL N=>y L (Wp h▸Ee _ N)⟩ U.of λp t q u Q x4=>post _ _
  ⟨λb o x=>k b o (x.ext X),(T.trans V).trans (Tr.heap H p _),q,u,Q,l,(Heap.UpToSlots.of_keeps U.keeps).trans x4,λb o TF x=>?_⟩
 refine(vJ _ _ _ (BM h r x TF)).trans ?_;exact k b o (x.ext X)
theorem kT{R:Result->Vb->Prop}(d:A.frames=Fb (E::O))(h:E.frame=Fb E.locals)(X:Ext g G)(T:Tr s J)(r:g E.locals=.free)(m:rj G J (E::O) B H e)(post:∀e Y,rj g s O B Y e->R (.error e) Y):
  Pb (Qb pw w) A (leaving E e) (λK f=>R (.error e) f) L H:=by
 induction m using rj.casesOn with|@mk D z I t N xs k U V j l p q C=>_
 exact wpAny_leaves_onW d h V λu y a=>post _ _ ⟨λb o x=>k b o (x.ext X),(T.trans U).trans (Tr.heap H u _),y,j.of_slots a,l,p,q.trans a,λb o Q x=>C b o (BM h r x Q) (x.ext X)⟩
end
theorem mB{mk:ia->Args}(z:Bk B a f j body)(C:j.isGenerator=Ib)(L:Params j p)(b:ie B f p mk D o)(Q:o y.length)(G:Sx w B d x j body (D y) I):Cj w B (d+1) x a mk y I:=
 λA R g s q O J U H V h E N post=>gy z C L b Q J U H V λe k r Y t T u l=>
  G (A.deeper e) e _ k O _ _ l (N.ext Y) r (dB h) T (E.ext Y) (λK K m=>xU (dB h) T (by rw[r.er.kind];decide) (E.ext Y) Y t u m post) λK K m=>kT (dB h) T Y t u m post
end
theorem LH:jx (.type "re.Match") "__bool__"=pure Gb:=by rw[Ax,Bx];kernel_rfl
theorem NH:jx (.type "re.Match") "__len__"=pure Gb:=by rw[Ax,Bx];kernel_rfl
section
theorem jS(hT:s.TypeIs (.ref m) "re.Match")(h:Q Hb s):Pb (Qb pw w) A (truthy (.ref m)) Q E s:=by
 unfold truthy
 first
  |refine Ob (wpAny_callSpecial?_none hT LH ?_)
  |refine Ob (vc (Ob (wpAny_callSpecial?_none hT LH ?_)))
 first
  |refine Ob (lx hT NH ?_)
  |refine Ob (vc (Ob (lx hT NH ?_)))
 exact vc h
noncomputable def LM:fa:=#[112,9]
theorem I7:(stN 12 (Dp yn LM 0 0 2 Ib)).outcome=Fb .matched:=by kernel_rfl
theorem AV(H:kh s.heap a yn)(N:x.cps=LM)(Y:∀h m,(∀b o,s.heap.get? b=Fb o->h.get? b=Fb o)->(∃o,h.get? m=Fb o/\o.cls=.type "re.Match")->Q (.ref m) {s with heap:=h}):
  Pb (Qb pw w) A (call (.builtin "re.Pattern.search") [.ref a,.str x t]) Q E s:=by
 refine Qc λG V=>?_;refine ge H λf c n z=>qp z λB j T d h5=>?_;clear z H;refine V ?_;refine jm Jx ⟨_,B,rfl⟩ tH ?_ (vH _ _);unfold Builtin.«re.Pattern.search»;refine Ob ?_;unfold naa;refine Ob (Hi (a:=[Fb (.str x t),Gb,Gb]) (by first|rfl|kernel_rfl) ?_);refine Ob (vc (Ob (vc (Ob ?_))));refine wpAny_fieldsOf B rfl ?_;refine Ob (Hi rfl ?_);dsimp only;rw[j,T,d];refine Jj (by decide) ?_;refine Ob (Hi rfl ?_);refine Ob (QB h5 ?_);refine vc ?_;have e:(yn.map λ(k:Nat)=>(k:Int)).map (λx=>x.toNat)=yn:=UB;have p:min ((2:Int)^63-1).toNat x.cps.size=x.cps.size:=by
  apply iR;have:((2:Int)^63-1).toNat=9223372036854775807:=by decide
  rw[N];show 2<=_;lia
 dsimp only;rw[e,p,N];unfold oaa;refine Ob (Ky (by decide) (.inl ⟨_,rfl,I7,?_⟩));generalize stN 12 _=m;show Pb (Qb pw w) _ (xaa (.ref a) (.str x t) 0 _ _ m>>=λv=>ret v) _ _ _;unfold xaa;refine Ob ?_;dsimp only;unfold newTuple newFields;refine Ob (ox ?_ (show 2<=cm by decide));refine ox ?_ (by first|trivial|size_fits);refine vc ⟨_,rfl,Y _ _ (λb o O=>Heap.get?_push_of_some _ (Heap.get?_push_of_some _ O)) ⟨_,Heap.get?_push_size _ rfl,rfl⟩⟩
end
noncomputable def kg:ca:=[67,111,110,116,114,111,108,32,99,104,97,114,97,99,116,101,114,115,32,110,111,116,32,97,108,108,111,119,101,100,32,105,110,32,104,101,97,100,101,114,115]
noncomputable abbrev ci:lp:=wd na
noncomputable def cI:jd:=sA ci.2.1 0
noncomputable def cJ:jd:=sB cI 0 1
noncomputable def cC:Expr:=sE cJ 0
noncomputable def cR:jd:=sB cJ 0 0
noncomputable def cX:Expr:=sE cR 0
noncomputable def cT:Expr:=sE cI 0
noncomputable def c1:jd:=sB cI 0 0
noncomputable def cM:Expr:=.Constant (.str ⟨kg.toArray⟩) (eN (eE cX 1)) (eP (eE cX 1))
noncomputable def cV:Expr:=.Name (Kb "value") (eP (eE cC 1))
noncomputable def cG:Expr:=.Name (Kb "regex") (eP (eE (eE cC 0) 0))
noncomputable abbrev c2:jd:=.If (.Call (.Attribute cG (Kb "search") (eP (eE cC 0))) [cV] [] (eP cC)) [.Raise (Fb (.Call (.Name Sa (eP (eE cX 0))) [cM] [] (eP cX))) Gb (sP cR)] [] (sP cJ)
noncomputable abbrev c0:jd:=.If cT [c1,c2,sB cI 0 2] [] (sP cI)
theorem B2:ci.2.1=[c0,sA ci.2.1 1]:=by kernel_rfl
theorem oV:((eP (eE cC 0)).endLine==(eP cC).line)=Hb:=by kernel_rfl
noncomputable def cA(s:Value):Loc:=[Fb (.kc s),Fb (.str [112,9]),Fb (.bool Hb),Gb,Gb,Gb,Gb,Gb,Gb,Gb,Gb]
noncomputable def cB(s:Value):Loc:=[Fb (.kc s),Fb (.str [112,9]),Fb (.bool Hb),Fb (.kc (.ref 131)),Gb,Gb,Gb,Gb,Gb,Gb,Gb]
theorem D3(s:Value):ud (Yb P F 60) (cA s) (qf GT 59 ci.2.2 cT) []=Fb ((Hb,[]),Hb):=by kernel_rfl
theorem N3(s:Value):uc P0 F 60 (Se GT 60 ci.2.2 c1) (cA s) []=Fb ((.next,cB s,[]),Hb):=by kernel_rfl
theorem PY(s:Value):Cg ci.2.2 [.kc s,.str [112,9],.bool Hb]=cA s:=by kernel_rfl
theorem DB:slotIn ci.2.2.names (Kb "regex") 0=Fb (3,.local)/\slotIn ci.2.2.names (Kb "value") 0=Fb (1,.local)/\(∃i,slotIn ci.2.2.names Sa 0=Fb (i,.globalImplicit))/\ci.2.2.names.length=11:=
 ⟨by decide+kernel,by decide+kernel,⟨8,by decide+kernel⟩,by decide+kernel⟩
structure Wo(B:Heap):Prop where
 at':∃mg mb,B.Ns pi mg/\B.Ns qh mb/\mg Sa=Gb/\mb Sa=Fb (.type "ValueError")
theorem WJ(H:seen h=Mj)(C:∀b o,h.get? b=Fb o->B.get? b=Fb o):Wo B where
 at':=by
  have j:[Li h pi,Li h qh,Li h ju]=[Hb,Hb,Hb]:=congrArg (·.2.2.2.1) H;simp only [XA,and_true] at j;obtain⟨m,N,V⟩:=ds j.1;obtain⟨g,w,O⟩:=ds j.2.1;have Q:rk h pi Sa=Fb Gb:=congrArg (·.2.2.2.2.2.2.2.2.2.2.2.1) H;have d:rk h qh Sa=Fb (Fb (.type "ValueError")):=congrArg (·.2.2.2.2.2.2.2.2.2.2.2.2.1) H;rw[V] at Q;rw[O] at d;exact⟨m,g,N.keeps C,w.keeps C,by simpa using Q,by simpa using d⟩
section
theorem OJ(H:Wo B)(y:slotIn j.names Sa 0=Fb (i,.globalImplicit))(R:Wb B j T l a g s.heap)(h:Q (.type "ValueError") s):Pb (Qb pw w) A (eval (.Name Sa p) T) Q E s:=by
 refine br ?_ (by decide+kernel);rw[loadName_read R.er.kind (R.er.Yi _ i y)];refine Mc H.at' λm x z=>Yj z λN C U b=>?_;clear z;have V:s.heap.Ns T.globals m:=by rw[R.er.ph];exact Heap.Ns.Wh N λo e=>R.stays _ o e
 have r:s.heap.Ns T.builtins x:=by rw[R.er.blt];exact Heap.Ns.Wh C λo e=>R.stays _ o e
 exact eaa V U r b h
theorem uD(h:Yc w B d e j l H x T)(z:∀y q,e≠.Starred y q):Tj w B d [e] j l H [x] T:=by
 intro A U g s E Q p I R post;refine vp (h A U g s E _ I R λv J G r Y t V=>?_) (qm z);exact ir (post [v] J G r Y t (.cons V .nil))
theorem Im.back(X:Ext g G)(T:Tr s H)(m:Im G L H B Y e):Im g L s B Y e:=by
 induction m using Im.casesOn with|mk h U k t m f=>exact⟨h,U,λb o x=>k b o (x.ext X),T.trans t,m,f⟩
theorem OU{K:Ad}(H:ae w B K)(N:Sg w B d F)(O:Wo B)(I:Cc d A)(R:Wb B ci.2.2 T (cB J) [] g s.heap)(post:∀e Y,Im g T.locals s kg Y e->E e Y):Pb (Qb pw w) A (kf [.Raise (Fb (.Call (.Name Sa (eP (eE cX 0))) [cM] [] (eP cX))) Gb (sP cR)] T) Q E s:=by
 have U:Yc w B d cM ci.2.2 (cB J) [] (.str kg) []:=(ol H N 60).ok 1 ci.2.2 _ Ib _ _ _ _ rfl;refine DB.2.2.1.elim λl p=>zj (Raise_madeB _root_.PySem.F.excCall_ValueError _root_.PySem.F.excRaise_ValueError I.hand (OJ O p R ⟨rfl,?_⟩));refine uD U (by intro y q h;injection h) A T g s _ _ _ I R λG a L r f t V=>⟨?_,λu e j=>post _ _ ?_⟩
 ·rw[V.length];decide
 ·obtain⟨X,rfl,C⟩:=vals1 V
  obtain⟨y6,t6,rfl,k⟩:=wi C;exact r.er.own.elim λm z=>PM z.1 λo D H=>⟨D,H,λb o x=>(x.ext f).get r.hr,t.trans (Tr.heap a u _),j,k⟩
theorem cW{K:Ad}(H:ae w B K)(N:Sg w B d F)(O:Wo B)(I:Cc d A)(G:Wb B ci.2.2 T (cB J) [] g s.heap)(post:∀e Y,Im g T.locals s kg Y e->E e Y):Pb (Qb pw w) A (kf (c2::LO) T) Q E s:=by
 refine zj (wpAny_If (wpAny_isTrue_value ?_));have f:Yc w B d cG ci.2.2 (cB J) [] (.kc (.ref 131)) []:=Gl DB.1 (by decide+kernel) rfl;have L:Yc w B d cV ci.2.2 (cB J) [] (.str [112,9]) []:=Gl DB.2.1 (by decide+kernel) rfl;refine HG (wo rfl) rfl (beq_iff_eq.mp oV) eB Jx uH (f A T g s _ _ I G λD Mh zh r x t V=>?_);rw[show D=_ from Tb.inv V];refine ge (id (H.pat.name.keeps λb o q=>r.stays b o q)) λfs c n C=>⟨⟨_,C.1,rfl⟩,λb q=>by rw[<-cr q];exact⟨_,C.1,rfl⟩,?_⟩;refine DA rfl (gk (uD L (by intro y q h;injection h)) (by intro e a y q h;rw[List.mem_singleton.mp a] at h;injection h) I r λvs j Hz p U k l=>?_);refine(vals1 l).elim λu z=>Mc (wi z.2) λy2 t2 C=>?_;rw[z.1,C.1];refine AV (H.pat.name.keeps λb o q=>p.stays b o q) (Array.ext' (by refine C.2.trans ?_;rfl)) λh' m hk hm=>jS hm (Js rfl ?_);exact OU H N O I (p.heap λb o X q=>hk b o q) λe Y m=>post e Y (m.back (x.trans U) (t.trans (k.trans (Tr.heap j h' _))))
theorem GS{K:Ad}(h:ae w B K)(H:Sg w B d F)(N:Wo B)(J:Value)(x:Ub):Sx w B d x ci.2.2 ci.2.1 [.kc J,.str [112,9],.bool Hb] kg:=by
 intro A T g s o E Q I X R k V l post X;rw[B2];rw[PY] at R;refine zj (wpAny_If (Zp (ol h H 60) 59 cT (D3 J) A T g s _ _ I R λL G r Y t=>?_));refine Js rfl (zj ((It h H 60).ok _ _ _ _ _ _ _ _ (N3 J) A T G L _ _ I r λf p y O a U j=>?_))
 cases j
 exact cW h H N I O λe b m=>post e b (m.back (Y.trans a) (t.trans U))
end
inductive Yy(h:Heap)(x:Ub):Prop
 |mk{dx:Ub}{od:Obj}{la:Ub}(I:InstAt h x (gt dx) 259 (Fb od))(d:Dn od la)
theorem di.inst(H:tc h g a)(q:di g x):Yy h x:=by
 induction q using di.casesOn with|mk A j Q=>exact⟨⟨A.get H,rfl,rfl,j.get H⟩,Q⟩
theorem ZB(h:Tb g v (.str l)):Tb G v (.str l):=Mc (wi h) λJ J z=>z.1▸.str z.2
theorem oW(h:Tb g v (.bool b)):Tb G v (.bool b):=(Tb.inv h:v=_)▸.bool b
theorem rj.back(X:Ext g G)(H:tc m.heap G a)(T:Tr s m)(h:rj (fe G m.heap []) m l B Y e):rj g s l B Y e:=by
 induction h using rj.casesOn with|mk k t f j d p u C=>exact⟨λb o x=>k b o ((x.ext X).call H []),T.trans t,f,j,d,p,u,λb o O x=>C b o O ((x.ext X).call H [])⟩
section
theorem vI{E:ja}{Q:ja}{mk:ia->Args}(H:Cj w B d x a mk z m)(I:Cc d A)(R:Wb B l U L p g s.heap)(V:bc (fe g s.heap []) y z)(b:A.frames=Fb (U::o))(f:U.frame=Fb U.locals)(G:ti g o)(N:di g x)(X:Ext j g)(T:Tr k s)
  (post:∀e Y,rj j k (U::o) m Y e->E e Y):qi (Qb pw w) A (.call (.ref a) (mk y)) (λr Y=>match r with|.ok (.ret v)=>Q v Y|.ok _=>False|.error e=>E e Y) s:=
 H A _ (fe g s.heap []) s y (U::o) I (Ux R.hr R.base) (R.hr.fe rfl rfl rfl) V b (JB R f G) (N.call R.hr []) λe Y h=>post e Y (h.back X R.hr T)
noncomputable abbrev Ik:lp:=wd ra
noncomputable def dS:jd:=sA Ik.2.1 0
noncomputable def dC:Expr:=sE dS 0
noncomputable def dA:Expr:=eE dC 1
noncomputable def dK:Expr:=eE dC 2
noncomputable def dN:Expr:=.Name xa (eP (eE (eE dC 0) 0))
noncomputable def dW:Keyword:=⟨Fb ma,dK,eP (eE dC 3)⟩
noncomputable abbrev d0:jd:=.Assign [.Name ma (eP (sE dS 1))] (.Call (.Attribute dN na (eP (eE dC 0))) [dA] [dW] (eP dC)) (sP dS)
theorem m6:Ik.2.1=[d0,sA Ik.2.1 1]:=by kernel_rfl
theorem YZ:((eP (eE dC 0)).endLine==(eP dC).line)=Hb:=by kernel_rfl
noncomputable def dL(x:Ub):Loc:=[Fb (.kc (.ref x)),Fb (.str [112,9])]
theorem Q2(x:Ub):Cg Ik.2.2 [.kc (.ref x),.str [112,9]]=dL x:=by kernel_rfl
theorem x7(x:Ub):Yb P F 60 (Zb GT 59 Ik.2.2 dA) Ib (dL x) []=Fb ((.str [112,9],[]),Hb):=by kernel_rfl
theorem i8(x:Ub):Yb P F 60 (Zb GT 59 Ik.2.2 dK) Ib (dL x) []=Fb ((.bool Hb,[]),Hb):=by kernel_rfl
theorem z7:Eh dA.ctorIdx 22=Ib:=by kernel_rfl
theorem pX:slotIn Ik.2.2.names xa 0=Fb (0,.local)/\Ik.2.2.names.length=2:=⟨by decide+kernel,by decide+kernel⟩
theorem pU{K:Ad}(H:ae w B K)(N:Sg w B d F)(f:Cj w B d x 158 Lq [.kc (.ref x),.str [112,9],.bool Hb] kg):Sx w B d x Ik.2.2 Ik.2.1 [.kc (.ref x),.str [112,9]] kg:=by
 intro A T g s Jn E Q J p R j l m Z post;rw[m6];rw[Q2] at R;have U:∀y q,dA≠.Starred y q:=λy q h=>by have e:=z7;rw[h] at e;exact Zq e
 have D:Yc w B d dN Ik.2.2 (dL x) [] (.kc (.ref x)) []:=Gl pX.1 (by decide+kernel) rfl;have t:=(ol H N 60).ok 59 Ik.2.2 dA Ib _ _ _ _ (x7 x);have okK:=(ol H N 60).ok 59 Ik.2.2 dK Ib _ _ _ _ (i8 x);refine zj ?_;rw[KA];refine Ob (gj (Ob (vc (Jj Of (Ob (Yd (Q:=λZ Z=>False) ?_ (λZ Z h=>h.elim) λZ Z h=>h))))));rw[arm_eval_Call,wo rfl];refine Ob (D A T g s E _ J R λov O Mf r Y ig Tn=>Ob (gj ?_));rw[show ov=_ from Tb.inv Tn];have hn1:se [dA]:=by intro e he y q;rw[List.mem_singleton.mp he];exact U y q
 have Iv:wx ([dA].length+[dW].length) (Tk (eP dC) (yj [dA] T)) (Uk (eP dC) (Vk [dW] T))=Hb:=by
  unfold wx;rw[qu hn1,kr,show(Uk (eP dC) (Vk [dW] T)).all (λx=>x.1.isSome)=Hb from rfl,kr]
  rfl
 have Uv:xx Hb dN T (eP (eE dC 0)) (eP dC)=pure (eP dC):=by unfold xx;simp[beq_iff_eq.mp YZ]
 have I:=(p.ext Y).inst r.hr
 induction I using Yy.casesOn with|@mk dx od la I kG=>_
 unfold methodCall;rw[Iv];have hKs:K.In O.heap:=λa o e=>r.stays _ _ (H.hX a o e);refine Ob (Zg (method_fn hKs I H.hK.ga H.hK.TP H.hK.conv (H.hK.fns 158 (by decide)) (by show(lookIn _ od).map (·.isSome)=Fb Ib;rw[(fC kG).2 _ (by decide+kernel)];rfl) ?_));refine Ob (Hi Uv ?_);refine Mc (H.obj 158 (by decide)) λG fd C=>?_;have q:=uD t U A T Mf O E (λV s'=>Pb (Qb pw w) A (evalAll ((Uk (eP dC) (Vk [dW] T)).map (·.2))) (λk L=>(L.heap.get? 158=Fb G/\G.data=.func fd)/\
   Pb (Qb pw w) A (call (.ref 158) ([fm x]++(⟨V,((Uk (eP dC) (Vk [dW] T)).filterMap (·.1)).zip k⟩:Args).pos) (⟨V,((Uk (eP dC) (Vk [dW] T)).filterMap (·.1)).zip k⟩:Args).kw) (λZ Z=>False) E L) E s') (eP dC) J r λV L sd nf Vg mf Ui=>?_
 ·rw[qm U] at q⊢
  exact callWith_function_kw (evalArgs_kw rfl q)
 ·refine wpAny_evalAll_cons (Ob (okK A T sd L E _ J nf λMP Mh zh b oh Ve ml=>Ob (gj (vc (wpAny_evalAll_nil ⟨⟨b.stays _ _ C.1,C.2⟩,pn ?_⟩)))))
  have X:=Y.trans (Vg.trans oh);refine(vals1 Ui).elim λu z=>?_;rw[z.1];refine vI f J b (.cons (.kc _) (.cons (ZB z.2) (.cons (oW ml) .nil))) j l (m.ext X) (p.ext X) X (ig.trans (mf.trans Ve)) post
end
section
noncomputable abbrev Tl:lp:=wd qa
noncomputable def eS:jd:=sA Tl.2.1 0
noncomputable def eU:Expr:=.Name xa (eP (eE (sE eS 0) 0))
noncomputable def eM:Expr:=.Name ma (eP (eE (sE eS 0) 1))
noncomputable abbrev t0:jd:=.Delete [.Subscript eU eM (eP (sE eS 0))] (sP eS)
theorem J5:Tl.2.1=[t0,sA Tl.2.1 1]:=by kernel_rfl
noncomputable def eL(x:Ub)(t:Value):Loc:=[Fb (.kc (.ref x)),Fb (.str [112,9]),Fb (.kc t)]
theorem d5(x:Ub)(t:Value):Cg Tl.2.2 [.kc (.ref x),.str [112,9],.kc t]=eL x t:=by kernel_rfl
theorem PI:slotIn Tl.2.2.names xa 0=Fb (0,.local)/\slotIn Tl.2.2.names ma 0=Fb (1,.local)/\Tl.2.2.names.length=3:=⟨by decide+kernel,by decide+kernel,by decide+kernel⟩
theorem kU{K:Ad}(h:ae w B K)(L:Cj w B d x 177 Bd [.kc (.ref x),.str [112,9]] kg):Sx w B d x Tl.2.2 Tl.2.1 [.kc (.ref x),.str [112,9],.kc t] kg:=by
 intro A T g s Jn E Q H p R b U G Z post;rw[J5];rw[d5] at R;have O:Yc w B d eU Tl.2.2 (eL x t) [] (.kc (.ref x)) []:=Gl PI.1 (by decide+kernel) rfl;have Y:Yc w B d eM Tl.2.2 (eL x t) [] (.str [112,9]) []:=Gl PI.2.1 (by decide+kernel) rfl;refine zj (wpAny_Delete (wpAny_deleteEach_cons (wpAny_delete_Subscript (O A T g s E _ H R λC J l N f D V=>Y A T l J E _ H N λiv j sd r k m u=>?_))));rw[show C=_ from Tb.inv V];have X:=f.trans k;have I:=(p.ext X).inst r.hr;refine Qc λGG y=>?_
 induction I using Yy.casesOn with|@mk dx od la I kG=>_
 refine y ?_;have q:K.In j.heap:=λa o e=>r.stays _ _ (h.hX a o e);unfold delItem aH;refine Zg (Ob (Ob (I.type.here (Ob ((anyM_none q h.hK.seq).here (Bo rfl (vc (Ob (special_fn q I h.hK.del (h.hK.fns 177 (by decide)) ?_)))))))));refine Yd (Q:=λZ Z=>False) (pn ?_) (λZ Z z=>z.elim) λZ Z z=>z;exact vI L H r (.cons (.kc _) (.cons (ZB u) .nil)) b U (G.ext X) (p.ext X) X (D.trans m) post
end
noncomputable abbrev We:lp:=yc Qa
noncomputable def rS:jd:=sA We.2.1 0
noncomputable def rA:jd:=sB rS 0 0
noncomputable def rR:jd:=sB rS 1 0
noncomputable def rC:Expr:=sE rR 0
noncomputable def rT:Expr:=.Name Ua (eP (eE (sE rA 1) 0))
noncomputable def rX:Expr:=.Name Va (eP (sE rA 0))
noncomputable def rK:Expr:=.Constant (.str ⟨#[112,9]⟩) (eN (eE (sE rA 1) 1)) (eP (eE (sE rA 1) 1))
noncomputable abbrev r1:jd:=.Assign [.Subscript rT rK (eP (sE rA 1))] rX (sP rA)
noncomputable abbrev r2:jd:=.Return (Fb (.Call (.Name (Kb "str") (eP (eE rC 0))) [.Name (Kb "error") (eP (eE rC 1))] [] (eP rC))) (sP rR)
noncomputable abbrev r0:jd:=.Try [r1] [.ExceptHandler (Fb (.Name Sa (eP (sE rS 0)))) (Fb (Kb "error")) [r2] (sP (sB rS 2 0))] [] [] (sP rS)
theorem R6:We.2.1=[r0,sA We.2.1 1]:=by kernel_rfl
noncomputable def rL(x:Ub)(t:Value):Loc:=[Fb (.kc (.ref x)),Fb (.kc t),Gb,Gb,Gb]
theorem S2(x:Ub)(t:Value):Cg We.2.2 [.kc (.ref x),.kc t]=rL x t:=by kernel_rfl
theorem vn:slotIn We.2.2.names Ua 0=Fb (0,.local)/\slotIn We.2.2.names Va 0=Fb (1,.local)/\slotIn We.2.2.names (Kb "error") 0=Fb (2,.local)/\slotIn We.2.2.names Sa 0=Fb (3,.globalImplicit)/\slotIn We.2.2.names (Kb "str") 0=Fb (4,.globalImplicit)/\We.2.2.names.length=5/\
 We.2.2.names.all (λx=>match x.2 with|.cell=>Ib|.free=>Ib|_=>Hb)=Hb:=⟨by decide+kernel,by decide+kernel,by decide+kernel,by decide+kernel,by decide+kernel,by decide+kernel,by decide+kernel⟩
theorem ZY:GT.kc.lookup (Kb "str")=Fb (.oc .str):=by rfl
open Classical in
noncomputable def Ks(g:Gh)(L:List Ub):Gh:=λa=>if a∈L then .free else g a
section
theorem zn(e:Ks g L b=t)(h:t≠.free):b∉L/\g b=t:=
 xp (λq:b∈L=>absurd ((if_pos q).symm.trans e).symm h) λq=>⟨q,(if_neg q).symm.trans e⟩
theorem aJ(R:Wb B k E Y d g H)(D:∀L∈l,B.get? L=Gb)(T:∀L∈l,∃o,g L=.out o)(f:∀x i,slotIn k.names x 0=Fb (i,.free)->l=[])
  (I:∀b o,b∉l->b≠E.locals->uf (fe g H []) b o->h.get? b=Fb o)(N:∀o,uf (fe g H []) E.locals o->(∀V,o.data≠.fields V)->∃sl,h.get? E.locals=Fb {o with slots:=sl}):Wb B k E Y d (Ks g l) h:=by
 have G:∀{b t},g b=t->(∀o,t≠.out o)->Ks g l b=t:=λ{b t}e O=>(if_neg λq=>(T b q).elim λo z=>O o (e.symm.trans z)).trans e;have keep:∀b o t,g b=t->t≠.free->t≠.Hc->b∉l->H.get? b=Fb o->h.get? b=Fb o:=λb o t e u d w A=>I b o w (λq=>d (e.symm.trans (q▸R.er.Ug))) (.of R.hr (e▸u) A);have J:∀b o,g b=.Hc->b≠E.locals->H.get? b=Fb o->h.get? b=Fb o:=λb o e q A=>I b o (λz=>(T b z).elim λx z=>by rw[e] at z;injection z) q (.of R.hr (e▸pz) A);have X:Tf g (Ks g l):=⟨λK K e=>G e λK q=>by injection q,λK K e=>G e λK q=>by injection q⟩;have own:∀m,H.Ns E.locals m->h.Ns E.locals m:=λm n=>ge n λo es ep z=>(N o (.of R.hr (R.er.Ug▸pz) z.1) λV q=>by rw[z.2.1] at q;injection q).elim λsl e=>⟨_,es,ep,e,z.2⟩;exact{
  base:=λa o e=>by rw[show Ks g l a=g a from if_neg λq=>by rw[D a q] at e;injection e];exact R.base a o e
  hr:={
   Mb:=λa o e=>have z:=zn e fz;keep a o _ z.2 fz (by intro q;injection q) z.1 (R.hr.Mb a o z.2)
   out:=λa o e=>have z:=zn e ou;keep a o _ z.2 ou (by intro q;injection q) z.1 (R.hr.out a o z.2)
   it:=λa o e=>have z:=zn e iz;keep a o _ z.2 iz (by intro q;injection q) z.1 (R.hr.it a o z.2)
   Hc:=λa e=>have z:=zn e pz;(R.hr.Hc a z.2).elim λo A=>xp (λq:a=E.locals=>q▸R.er.own.elim λm y=>ge (own m y.1) λo K K y=>⟨o,y.1⟩) λq=>⟨o,J a o z.2 q A⟩
   Xb:=λa i e=>have z:=zn e li;Md (R.hr.Xb a i z.2) λb c ws n y=>⟨b,c,ws,n,y.1,keep a _ _ z.2 li (by intro q;injection q) z.1 y.2.1,y.2.2.xh X⟩
   all:=λi hi=>(R.hr.all i hi).elim λa e=>⟨a,X.Xb a i e⟩
   inj:=λa b i e e'=>R.hr.inj a b i (zn e li).2 (zn e' li).2}
  er:={
   kind:=R.er.kind,ph:=R.er.ph,blt:=R.er.blt,len:=R.er.len,Ug:=G R.er.Ug λK q=>by injection q
   own:=R.er.own.elim λm z=>⟨m,own m z.1,λx i e=>⟨(z.2 x i e).1,λp Q=>((z.2 x i e).2 p Q).elim λv q=>⟨v,q.1,q.2.xh X⟩⟩⟩
   aj:=λx i e=>(R.er.aj x i e).elim λs z=>Mc z λa cv z=>Yj z λC j U z=>⟨s,a,cv,C,G j λK q=>by injection q,U,Heap.IsCell.Wh z.1 λo e=>J a o j U e,λp Q=>(z.2 p Q).elim λv q=>⟨v,q.1,q.2.xh X⟩⟩
   Pk:=λx i e=>by
    obtain rfl:=f x i e;exact(R.er.Pk x i e).elim λs z=>z.elim λa z=>we z λC j z=>⟨s,a,C,j.elim λo q=>⟨o,(if_neg Xd).trans q⟩,λp Q=>(z p Q).elim λv q=>⟨v,Heap.IsCell.Wh q.1 λo e=>j.elim λx r=>keep a o _ r ou (by intro q;injection q) Xd e,q.2.xh X⟩⟩
   apart:=R.er.apart,Yi:=R.er.Yi}}
theorem PU(g:Gh):Ks g []=g:=funext λJ=>if_neg Xd
end
section
theorem U6:isSubtype (.type "ValueError") (.type "ValueError")=pure Hb:=by rw[QA];kernel_rfl
theorem C4:isSubtype (.type "ValueError") (.type "BaseException")=pure Hb:=by rw[QA];kernel_rfl
theorem H3:isSubtype (.type ((Manifest.find? "ValueError").elim "type" λx=>x.metatype)) (.type "tuple")=pure Ib:=by rw[QA];kernel_rfl
theorem uW(h:slotIn We.2.2.names x 0=Fb (i,.free)):False:=by
 have:=List.all_eq_true.mp vn.2.2.2.2.2.2 _ (Yp h);exact Zq this
inductive lz(B:Heap)(env:Env)(Jn:List Env)(g:Gh)(s:Vb)(x:Ub)(tx:Value)(s':Vb):Value->Prop
 |mk{hr base:Heap}{ea t:Ub}{tk:Tok}{xs:Str}{G:Gh}(T:Tr s s')(fl:Heap.FlyingW base (env::Jn) ea (.type "ValueError") (.ref t) s'.heap)(tu:s'.heap.TupAt t [.str xs tk])(bt:base.get? t=Gb)(xm:xs.cps.toList=kg)(us:hr.UpToSlots s'.heap)
  (rel:∀h,base.StaysIn h->hr.UpToSlots h->Wb B We.2.2 env (rL x tx) [] G h) (np:∀b,base.get? b=Gb->G b=.Hc->b=env.locals)
  (k1:∀b o,uf g b o->hr.get? b=Fb o) (k2:∀b o,b∉Xg Jn->b≠env.locals->uf g b o->base.get? b=Fb o) (kp:∀b o,uf g b o->G b≠.Hc):lz B env Jn g s x tx s' (.ref ea)
theorem rj.land(U:Wb B We.2.2 E (rL x V) [] G l.heap)(X:Ext g G)(T:Tr s l)(Y:E.frame=Fb E.locals)(J:ti g O)(D:∀L∈Xg O,B.get? L=Gb)(m:rj (fe G l.heap []) l (E::O) kg a e):lz B E O g s x V a e:=by
 induction m using rj.casesOn with|@mk hr base ea t tk xs I p f u d w A k=>_
 have C:=λL hL=>(J.ext X).Xg L hL;have N:∀b,b∉Xg O->b≠E.locals->b∉Xg (E::O):=λb H j q=>(xM Y q).elim j H;refine⟨T.trans p,f,u,d,w,A,λh q1 q2=>aJ U D C (λK K z=>(uW z).elim) (λb o H j z=>q1 b o (k b o (N b H j) z)) λo z y=>q2 _ o (I _ o z) y,λb Q e=>?_,λb o z=>I b o ((z.ext X).call U.hr []),λb o H j z=>k b o (N b H j) ((z.ext X).call U.hr []),λb o z q=>?_⟩
 ·have q:=zn e pz
  refine fx λy=>(U.hr.Hc b q.2).elim λo ho=>?_;rw[k b o (N b q.1 y) (.of U.hr (q.2▸pz) ho)] at Q;injection Q
 ·have q:=zn q pz
  have z:=z.ext X;unfold uf at z;exact z.elim (λr=>by rw[q.2] at r;injection r) λr=>by rw[q.2] at r;injection r
theorem MS{K:Ad}(h:ae w B K)(N:Sg w B d F)(V:Cj w B d x 172 Bd [.kc (.ref x),.str [112,9],.kc t] kg)(H:Cc d A)(p:di g x)(R:Wb B We.2.2 T (rL x t) [] g s.heap)
  (b:A.frames=Fb (T::O))(U:T.frame=Fb T.locals)(G:ti g O)(D:∀L∈Xg O,B.get? L=Gb)(post:∀e Y,lz B T O g s x t Y e->E e Y):Pb (Qb pw w) A (kf [r1] T) Q E s:=by
 have f:Yc w B d rT We.2.2 (rL x t) [] (.kc (.ref x)) []:=Gl vn.1 (by decide+kernel) rfl;have j:Yc w B d rX We.2.2 (rL x t) [] (.kc t) []:=Gl vn.2.1 (by decide+kernel) rfl;have y:Yc w B d rK We.2.2 (rL x t) [] (.str [112,9]) []:=(ol h N 60).ok 1 We.2.2 _ Ib _ _ _ _ rfl;refine zj (wpAny_Assign_Subscript (j A T g s _ _ H R λC J Mf Rl Ek ig Tn=>f A T Mf J _ _ H Rl λov jg sd nf Vg mf Ui=>y A T sd jg _ _ H nf λiv l q r oh Ve ml=>?_));rw[show C=_ from Tb.inv Tn,show ov=_ from Tb.inv Ui];have X:Ext g q:=Ek.trans (Vg.trans oh);have I:=(p.ext X).inst r.hr;refine Qc λGG k=>?_
 induction I using Yy.casesOn with|@mk dx od la I kG=>_
 refine k ?_;clear k GG;have u:K.In l.heap:=λa o e=>r.stays _ _ (h.hX a o e);unfold ln aH;refine Zg (Ob (Ob (I.type.here (Ob ((anyM_none u h.hK.seq).here (Bo rfl (vc (Ob (special_fn u I h.hK.set (h.hK.fns 172 (by decide)) ?_)))))))));refine Yd (Q:=λZ Z=>False) (pn ?_) (λZ Z z=>z.elim) λZ Z z=>z;refine V A _ (fe q l.heap []) l [.ref x,iv,t] (T::O) H (Ux r.hr r.base) (r.hr.fe rfl rfl rfl) (.cons (.kc _) (.cons (ZB ml) (.cons (.kc _) .nil))) b (JB r U (G.ext X)) ((p.ext X).call r.hr []) λe yz m=>post e yz (m.land r X (ig.trans (mf.trans Ve)) U G D)
theorem a0{h:Heap}(n:h.Ns L m)(e:h.get? b=Fb o)(H:∀E n,o.data≠.dict E n):b≠L:=λq=>
 ge n λO E I z=>H E I (by rw[<-q,e] at z;rw[jc z.1];exact z.2.1)
theorem m3{K:Ad}(h:ae w B K)(H:A.units+10*d+100<9900)(R:Wb B We.2.2 e ((rL x U).set 2 (Fb (.kc (.ref f)))) [] G s.heap)(l:s.heap.ExcAt f "ValueError" (.ref t))(T:s.heap.TupAt t [.str xs tk])(post:Q (.ret (.str xs tk)) s):Pb (Qb pw w) A (kf [r2] e) Q E s:=by
 refine R.er.own.elim λm z=>(z.2 _ _ vn.2.2.1).2 _ rfl|>.elim λj q=>?_;refine zj (wpAny_Return_some (jn (uk h.kc vn.2.2.2.2.1 (by decide+kernel) ZY R ?_)));refine PySem.callWith_type rfl (Calls.evalArgs_plain ?_);refine vp (br (tG R.er.kind (z.2 _ _ vn.2.2.1).1 z.1 (q.1.trans (congrArg Fb (Tb.inv q.2))) ?_) (by decide+kernel)) rfl;exact ir (P.str_of_exc_one _root_.PySem.F.excStr_ValueError (Nf (Qk (wl _ _) (by decide)) H) l T post)
theorem lS{K:Ad}(hd:ae w B K)(hA0:Sg w B d F)(hX:Wo B)(hF:Cj w B d x 172 Bd [.kc (.ref x),.str [112,9],.kc tx] kg)(hA:Cc d A)(hh:di g x)(R:Wb B We.2.2 U (Cg We.2.2 [.kc (.ref x),.kc tx]) [] g s.heap)
  (Yl:A.frames=Fb (U::O))(hf:U.frame=Fb U.locals)(AF:ti g O)(hNB:∀L∈Xg O,B.get? L=Gb)
  (post:∀xs tk Y,xs.cps.toList=kg->Tr s Y->(∀b o,b∉Xg O->b≠U.locals->uf g b o->Y.heap.get? b=Fb o)->(∀b o,g b=.out o->(∀V,o.data≠.fields V)->b≠U.locals->∃sl,Y.heap.get? b=Fb {o with slots:=sl})->Q (.ret (.str xs tk)) Y):Pb (Qb pw w) A (kf We.2.1 U) Q E s:=by
 rw[R6];rw[S2] at R;refine zj (wpAny_Try_except (Yd (MS (Q:=λX X=>False) hd hA0 hF hA hh R Yl hf AF hNB λe f m=>?_) (λX X h=>h.elim) λX X h=>h))
 induction m using lz.casesOn with|@mk hr base ea t tk xs G T fl tu bt xm us rel np k1 k2 kp=>_
 refine wpAny_looks_onW Yl hf fl λh5 hld l=>wpAny_landsW hld λh6 y u=>wpAny_handleBy_builtin_as C4 H3 U6 ?_;refine OJ hX vn.2.2.2.1 (s:={f with heap:=h6}) (rel h6 y.1 ((us.trans l).trans u)) ⟨rfl,y.there,Js rfl (lands_againW y λC N tP=>?_)⟩;have yP:=((us.trans l).trans u).trans tP;have R7:=rel C N.1 yP;have tu7:=((tu.of_slots l).of_slots u).of_slots tP;have ZP:∀b o,base.get? b=Gb->C.get? b=Fb o->(∀J n,o.data≠.dict J n)->G b≠.Hc:=λb o D j h3 q=>R7.er.own.elim λm z=>a0 z.1 j h3 (np b D q);refine Pp (s:={f with heap:=C}) R7 vn.2.2.1 (.inl rfl) (.kc _) λh8 t8 r k=>m3 hd hA.units r (t:=t) (xs:=xs) (tk:=tk) ?_ ?_ ?_
 ·obtain⟨X,H,X,oe,V,T',oT,ts,p,⟨I,a⟩,q4,X⟩:=N
  exact⟨oe,V,k _ _ (ZP _ _ H p λJ n q=>by rw[q4] at q;injection q) p,I,q4,a⟩
 ·obtain⟨o,n,p,I,a⟩:=tu7
  exact⟨o,n,k _ _ (ZP _ _ bt p λJ n q=>by rw[a] at q;injection q) p,I,a⟩
 ·refine r.er.own.elim λm z=>wpAny_nameGoes (z.2 _ _ vn.2.2.1).1 z.1 (by rw[r.er.kind];rfl) λh9 m9 hn9 AP=>post xs tk _ xm (T.trans (Tr.heap f h9 _)) (λb o D j H=>(AP.2 b j).trans (k b o (kp b o H) (N.1 b o (k2 b o D j H)))) λb o H hn hbL=>?_
  exact(yP b o (k1 b o (.inl H)) hn).elim λsl e=>⟨sl,(AP.2 b hbL).trans (k b _ (kp b o (.inl H)) e)⟩
end
section
theorem Cj.mono{mk:ia->Args}(h:d<=D)(r:Cj w B d x a mk y m):Cj w B D x a mk y m:=λA R g s z o H=>r A R g s z o (Cc.mono h H)
theorem pS{E:ja}{K:Ad}{Q:ja}(j:ae w B K)(N:Sg w B d F)(O:Wo B)(k:Cj w B d x 172 Bd [.kc (.ref x),.str [112,9],.kc l] kg)(y:Bk B 277 m We.2.2 We.2.1)(p:Params We.2.2 [Ua,Va])(u:ie B m [Ua,Va] Bd id (·=2))(D:We.2.2.isGenerator=Ib)
  (I:Cc (d+1) A)(T:Wb B J U loc hp g s.heap)(Yl:A.frames=Fb [U])(f:U.frame=Fb U.locals)(hh:di (fe g s.heap []) x)
  (post:∀V t Y,V.cps.toList=kg->Wb B J U loc hp g Y.heap->Tr s Y->Q (.str V t) Y):qi (Qb pw w) A (.call (.ref 277) (Bd [.ref x,l])) (λr Y=>match r with|.ok (.ret v)=>Q v Y|.ok _=>False|.error e=>E e Y) s:=by
 have AF:=JB T f (λe he=>absurd he Xd);refine gy y D p u rfl I (Ux T.hr T.base) (T.hr.fe (is:=[]) rfl rfl rfl) (.cons (.kc _) (.cons (.kc _) .nil)) λd7 Zd Rl a ig a8 HN mG=>?_;have G:∀b o,uf (fe g s.heap []) b o->b≠d7.locals:=λb o x q=>by
  unfold uf at x;rw[q,HN] at x;exact x.elim (λx=>by injection x) λx=>by injection x
 have M_:∀{b},b∉Xg [U]↔b≠U.locals:=λ{b}=>by rw[Wp f];exact not_congr om
 refine lS j N O k mG (hh.ext a) Rl (dB Yl) a8 (AF.ext a) (λL C=>?_) λV t Y hx T' k1 k2=>post V t Y hx ?_ (ig.trans T')
 ·refine Option.eq_none_iff_forall_ne_some.mpr λo q=>?_
  rw[Wp f] at C;rw[List.mem_singleton.mp C] at q;exact(T.base _ o q).elim (λz=>by rw[T.er.Ug] at z;injection z) λz=>by rw[T.er.Ug] at z;injection z
 ·have q:=aJ T (λX h=>absurd h Xd) (λX h=>absurd h Xd) (λX X X=>rfl) (λb o X hb H=>k1 b o (M_.mpr hb) (G b o H) (H.ext a)) λo H hnf=>H.elim (λH=>k2 _ o (a.at H ou) hnf (G _ o (.inl H))) λH=>(T.hr.Hc _ T.er.Ug).elim λo' Xq=>by rw[pD T.er.Ug Xq] at H;injection H
  rw[PU] at q;exact q
end
noncomputable abbrev xf:lp:=yc Oa
noncomputable def wS:jd:=sA xf.2.1 17
noncomputable def wB:Expr:=sE wS 0
noncomputable def wC:Expr:=eE wB 0
noncomputable def wF:Expr:=eE wC 0
noncomputable def wT:Expr:=.Name Ua (eP (eE wF 1))
noncomputable def wW:Expr:=.Name (Kb "whole") (eP (eE wF 2))
noncomputable def wM:Expr:=.Constant (.str ⟨kg.toArray⟩) (eN (eE wC 1)) (eP (eE wC 1))
noncomputable def w2:Expr:=eE wB 1
noncomputable abbrev w0:jd:=.If (.BoolOp .Or [.Compare (.Call (.Name Qa (eP (eE wF 0))) [wT,wW] [] (eP wF)) [.NotEq] [wM] (eP wC),w2] (eP wB)) [sB wS 0 0] [] (sP wS)
theorem N6:xf.2.1.drop 17=w0::xf.2.1.drop 18:=by kernel_rfl
theorem M6:qf GT 57 xf.2.2 w2=.fc (.mc .NotEq (.qc (.fn 24) (.Jb 21) []) (.Oc (.Jb 22) .none (.neg (.int 1)) .none)):=by kernel_rfl
theorem sJ:slotIn xf.2.2.names Ua 0=Fb (21,.cell)/\slotIn xf.2.2.names (Kb "whole") 0=Fb (17,.local)/\(∃i,slotIn xf.2.2.names Qa 0=Fb (i,.globalImplicit))/\xf.2.2.names.length=45:=⟨by decide+kernel,by decide+kernel,⟨((slotIn xf.2.2.names Qa 0).getD (0,.local)).1,by decide+kernel⟩,by decide+kernel⟩
theorem VZ:GT.kc.lookup Qa=Fb (.fn 11 (.ref 277)):=by rfl
section
theorem NX(C:Yc w B d e j l h x h)(k:Yc w B d o j l h y h)(N:∀y q,e≠.Starred y q)(z:∀y q,o≠.Starred y q):Tj w B d [e,o] j l h [x,y] h:=by
 intro A T g s E Q f H R post;refine vp (C A T g s E _ H R λv J G r a t V=>?_) (qm N);refine vp (k A T G J E _ H r λp I D L Y U b=>?_) (qm z);exact ir (post [v,p] I D L (a.trans Y) (t.trans U) (.cons (V.ext Y) (.cons b .nil)))
inductive lE(g:Gh)(h:Heap):Value->Prop
 |mk{x:Ub}(q:di (fe g h []) x):lE g h (.ref x)
theorem e7(H:Tb g v (.rc k)):lE g h v:=Md (Tb.inv H) λJ J J J z=>z.1▸⟨.inr (tm _ _ z.2.1),.inr (tm _ _ z.2.2.1),z.2.2.2.1⟩
@[elab_as_elim] theorem dZ{P:ia->Prop}(V:bc g D [p,q])(k:∀a b,Tb g a p->Tb g b q->P [a,b]):P D:=Mc (bc.inv V) λa A z=>Mc (bc.inv z.2.2) λb B y=>z.1▸y.1▸(show B=[] from bc.inv y.2.2)▸k a b z.2.1 y.2.1
theorem W8{K:Ad}(T:ae w B K)(f:Sg w B d F)(I:Cc d A)(R:Wb B xf.2.2 e l H g s.heap)(N:U.cps.toList=kg)(h:∀Y G,Wb B xf.2.2 e l H G Y.heap->Ext g G->Tr s Y->Q Ib Y):
  Pb (Qb pw w) A (eval wM e) (λb J=>Pb (Qb pw w) A (ko .NotEq (.str U D) b) (λc m=>Pb (Qb pw w) A (truthy c) Q E m) E J) E s:=by
 have o:Yc w B d wM xf.2.2 l H (.str kg) H:=(ol T f 60).ok 1 xf.2.2 _ Ib _ _ _ _ rfl;refine o A e g s E _ I R λmv m z r q t V=>CM I r (.str N) V (by show(Fb (decide (kg=kg))).map (λx=>PV.bool (!x))=_;rw[decide_eq_true rfl];rfl) λC j y p a u O=>?_;rw[show C=_ from Tb.inv O];exact zQ (h j y p (q.trans a) (t.trans u))
theorem x6{K:Ad}(U:ae w B K)(f:Sg w B (d+1) F)(N:Sg w B d F')(O:Wo B)(L:∀x t,Cj w B d x 172 Bd [.kc (.ref x),.str [112,9],.kc t] kg)(D:Bk B 277 V We.2.2 We.2.1)(a:Params We.2.2 [Ua,Va])(j:ie B V [Ua,Va] Bd id (·=2))(J:We.2.2.isGenerator=Ib)
  (m:l[21]?=Fb (Fb (.rc k)))(p:l[17]?=Fb (Fb (.str u)))(ht:ud (Yb P0 F 60) l (.fc (.mc .NotEq (.qc (.fn 24) (.Jb 21) []) (.Oc (.Jb 22) .none (.neg (.int 1)) .none))) H=Fb ((Ib,H),Hb))
  (I:Cc (d+1) A)(R:Wb B xf.2.2 T l H g s.heap)(Yl:A.frames=Fb [T])(hf:T.frame=Fb T.locals)(j8:xf.2.1.drop 18=LO)
  (post:∀Y G,Wb B xf.2.2 T l H G Y.heap->Ext g G->Tr s Y->Pb (Qb pw w) A (kf LO T) Q E Y):Pb (Qb pw w) A (kf (xf.2.1.drop 17) T) Q E s:=by
 rw[N6,j8];refine Yj sJ λslt slw zp2 hlen=>zp2.elim λi slf=>?_;have okT:Yc w B (d+1) wT xf.2.2 l H (.rc k) H:=OH slt (by decide+kernel) m;have Lk:Yc w B (d+1) wW xf.2.2 l H (.str u) H:=Gl slw (by decide+kernel) p;refine zj (wpAny_If (wpAny_isTrue_BoolOp (CQ (BQ (jn (uk U.kc slf (by decide+kernel) VZ R ?_)) rfl))));have C:se [wT,wW]:=λe he y q h=>(List.mem_cons.mp he).elim (λz=>by rw[z] at h;injection h) λz=>by rw[List.mem_singleton.mp z] at h;injection h
 refine callWith_of (by rw[ik C];rfl) (keeps_K (U.keep 277 ⟨11,by decide⟩)) ?_;refine gk (NX okT Lk (by intro y q h;injection h) (by intro y q h;injection h)) C I R λvs Zd Mf r Ek ig Tn=>⟨λb o q=>r.stays _ _ (U.hX b o q),pn ?_⟩;refine dZ Tn λvt vw Vt Vw=>Qc λGG kk=>?_;have q:=e7 (h:=Zd.heap) Vt
 induction q using lE.casesOn with|@mk x q=>_
 refine kk ?_;refine pS U N O (L x _) D a j J I r Yl hf q λxs tk jg hxs nf mf=>W8 U f I nf hxs λyz Hz Vl TE Mm=>pq Of ?_;refine CQ (Zp (ol U f 60) 57 w2 (by rw[M6];exact ht) A T Hz yz _ _ I Vl λxw mF qt qF UE=>?_);refine pq Of (wpAny_allTrue_Or_nil (pq Of (mx ?_)));exact post xw mF qt (Ek.trans (TE.trans qF)) (ig.trans (mf.trans (Mm.trans UE)))
end
section
theorem rI{rS:ft}(I:Wm w B d rS)(J:Cc d A):∀(b:List jd){L:Loc}{H:Hp}{g:Gh}{s:Vb},Kc rS (b.map (Se GT k m)) L H=Fb ((.next,o,T),Hb)->Wb B m e L H g s.heap->
  (∀Y G,Wb B m e o T G Y.heap->Ext g G->Tr s Y->Pb (Qb pw w) A (kf r e) Q E Y)->Pb (Qb pw w) A (kf (b++r) e) Q E s
 |[],L,H,g,s,h,R,post=>by
  cases Rm.Gd h
  exact post s g R (Ext.refl g) (Tr.refl s)
 |st::b,L,H,g,s,h,R,post=>by
  obtain⟨x,C,j⟩:=Rm.bind_some h;obtain⟨f,l,V⟩:=x;refine zj (I.ok _ _ _ _ _ _ _ _ C A e g s E _ J R λq u z N a t y=>?_)
  cases y with
  |next=>exact rI I J b j N λY G O p U=>post Y G O (a.trans p) (t.trans U)|brk=>cases Rm.Gd j
  |ret D=>cases Rm.Gd j
theorem Bg{l:List (Nat×Spec)}(h:∀p∈l,Vc w B d p.1 p.2):∀k f,l.lookup k=Fb f->Vc w B d k f:=by
 intro k f e;have:(k,f)∈l:=by
  induction l with
  |nil=>injection e|cons p r I=>
   obtain⟨a,b⟩:=p;rw[FG] at e
   split at e
   ·rename_i q
    refine lg e ?_;rw[eq_of_beq q];exact Fd
   ·exact Ee _ (I (λp H=>h p (Ee _ H)) e)
 exact h _ this
theorem z8(h:F=only PP)(e:ev a C=Fb ((r,b),Hb)):a.length=3/\Hd P0 F 60 Cy 11 a C=Fb ((r,b),Hb):=by
 subst h;unfold ev at e
 split at e
 ·rename_i H
  exact⟨bB H,e⟩
 ·injection e
theorem Q7(h:F=only YE)(e:ss a C=Fb ((r,b),Hb)):a.length=1/\Hd P0 F 60 qv 10 a C=Fb ((r,b),Hb):=by
 subst h;unfold ss at e
 split at e
 ·rename_i H
  exact⟨bB H,e⟩
 ·injection e
theorem M8(e:CD A C=Fb ((r,b),Hb)):A=[]/\C=[]/\r=.rc 0/\b=[(Ib,.Lb [])]:=by
 rcases A with J|⟨a,A⟩
 ·rcases C with J|⟨c,C⟩
  ·have e:=congrArg Tw (jc e)
   exact⟨rfl,rfl,(congrArg Tw e).symm,(congrArg Prod.snd e).symm⟩
  ·exact nn e
 ·exact nn e
theorem Q8(C:At w B h):∀p∈LL,Vc w B 11 p.1 p.2:=by
 have m:Vc w B 4 26 Bm:=A' C (l:=[]) (by decide) (by decide) (Bg (by simp)) rfl λK K K K e=>v7 _ e;have s:Vc w B 4 1 (jh Rd):=sp1 C (l:=[]) (by decide) (by decide) (Bg (by simp)) rfl λK K K K e=>g9 _ e;have a:Vc w B 4 3 (jh Om):=sp3 C (l:=[]) (by decide) (by decide) (Bg (by simp)) rfl λK K K K e=>L9 _ e;have I:Vc w B 4 5 vq:=sp5 C (l:=[]) (by decide) (by decide) (Bg (by simp)) rfl λK K K K e=>L_ _ rfl e;have z:Vc w B 4 8 Us:=sp8 C (l:=[]) (by decide) (by decide) (Bg (by simp)) rfl λK K K K e=>q_ _ e;have E:Vc w B 4 9 nz:=sp9 C (l:=[]) (by decide) (by decide) (Bg (by simp)) rfl λK K K K e=>V9 _ e;have t:Vc w B 4 22 CD:=Z_ C (by decide) (by decide) λK K K K e=>M8 e;have V:Vc w B 4 24 tq:=u_ C (l:=[]) (by decide) (by decide) (Bg (by simp)) rfl λK K K K e=>O8 _ e;have r:Vc w B 4 25 xv:=u9 C (l:=[]) (by decide) (by decide) (Bg (by simp)) rfl λK K K K e=>O7 _ e;have O:Vc w B 5 21 Ey:=v9 C (l:=[(26,Bm)]) (by decide) (by decide) (Bg λp H=>by rw[om] at H;subst H;exact m) rfl λK K K K e=>n8 _ rfl e;have y:Vc w B 5 23 Cm:=C' C (l:=[(26,Bm)]) (by decide) (by decide) (Bg λp H=>by rw[om] at H;subst H;exact m) rfl λK K K K e=>F8 _ rfl e;have s0:Vc w B 5 0 (Ol Rd):=U' C (l:=[(1,jh Rd)]) (by decide) (by decide) (Bg λp H=>by rw[om] at H;subst H;exact s) rfl λK K K K e=>x9 _ rfl e;have x:Vc w B 5 2 (Ol Om):=sp2 C (l:=[(3,jh Om)]) (by decide) (by decide) (Bg λp H=>by rw[om] at H;subst H;exact a) rfl λK K K K e=>O_ _ rfl e;have o:Vc w B 5 6 Nj:=S' C (l:=[(5,vq)]) (by decide) (by decide) (Bg λp H=>by rw[om] at H;subst H;exact I) rfl λK K K K e=>E9 _ rfl rfl e;have D:Vc w B 5 12 ev:=k9 C (by decide) (by decide) (Bg λp H=>by
  simp only [og,Xd,or_false] at H;rcases H with rfl|rfl
  ·exact s
  ·exact a) rfl λK K K K e=>z8 rfl e
 have k:Vc w B 5 15 wv:=d_ C (l:=[(1,jh Rd),(8,Us),(9,nz)]) (by decide) (by decide) (Bg λp H=>by
  simp only [og,Xd,or_false] at H;rcases H with rfl|rfl|rfl
  ·exact s
  ·exact z
  ·exact E) rfl λK K K K e=>K8 _ rfl rfl rfl e
 have q:Vc w B 6 20 Gs:=i9 C (l:=[(26,Bm),(21,Ey)]) (by decide) (by decide) (Bg λp H=>by
  simp only [og,Xd,or_false] at H;rcases H with rfl|rfl
  ·exact m.mono (by decide)
  ·exact O) rfl λK K K K e=>q8 _ rfl rfl e
 have J:Vc w B 6 7 Ms:=sp7 C (l:=[(6,Nj)]) (by decide) (by decide) (Bg λp H=>by rw[om] at H;subst H;exact o) rfl λK K K K e=>X9 _ rfl e;have L:Vc w B 6 14 Es:=N9 C (l:=[(6,Nj)]) (by decide) (by decide) (Bg λp H=>by rw[om] at H;subst H;exact o) rfl λK K K K e=>Y7 _ rfl e;have A:Vc w B 6 13 ss:=g_ C (by decide) (by decide) (Bg λp H=>by
  simp only [og,Xd,or_false] at H;rcases H with rfl|rfl|rfl
  ·exact s0
  ·exact s.mono (by decide)
  ·exact x) rfl λK K K K e=>Q7 rfl e
 have b:Vc w B 7 10 yv:=I9 C (l:=[(20,Gs),(22,CD),(23,Cm)]) (by decide) (by decide) (Bg λp H=>by
  simp only [og,Xd,or_false] at H;rcases H with rfl|rfl|rfl
  ·exact q
  ·exact t.mono (by decide)
  ·exact y.mono (by decide)) rfl λK K K K e=>u7 _ rfl rfl rfl e
 intro p H;simp only [LL,og,Xd,or_false] at H;rcases H with rfl|rfl|rfl|rfl|rfl|rfl|rfl|rfl|rfl|rfl
 ·exact I.mono (by decide)
 ·exact J.mono (by decide)
 ·exact k.mono (by decide)
 ·exact b.mono (by decide)
 ·exact V.mono (by decide)
 ·exact y.mono (by decide)
 ·exact r.mono (by decide)
 ·exact D.mono (by decide)
 ·exact A.mono (by decide)
 ·exact L.mono (by decide)
end
section
theorem xW(C:At w B h)(x:Ub)(t:Value):Cj w B 6 x 172 Bd [.kc (.ref x),.str [112,9],.kc t] kg:=by
 have A:∀d,3<=d->d<=300->Sg w B d (only []):=λd Q b=>C.all Q b (Bg (by simp)) rfl;have N:=WJ C.seen C.keeps;refine(Ff C.seen C.keeps 18 (158,wd na,.none,.none,157,Ra) rfl).elim λf H=>?_;refine(Ff C.seen C.keeps 20 (177,wd ra,.none,.none,176,Kb "Headers.__delitem__") rfl).elim λU V=>?_;refine(Ff C.seen C.keeps 19 (172,wd qa,.none,.none,171,Kb "Headers.__setitem__") rfl).elim λu D=>?_;have r1:Cj w B 4 x 158 Lq [.kc (.ref x),.str [112,9],.bool Hb] kg:=
  mB (H.Lf Xr.2.2 C.lim) Xr.2.1 (Pf Xr.1) (oJ H) rfl (GS C.head (A 3 (by decide) (by decide)) N (.ref x) x)
 have r2:Cj w B 5 x 177 Bd [.kc (.ref x),.str [112,9]] kg:=
  mB (V.Lf Pr.2.2 C.lim) Pr.2.1 (Pf Pr.1) (jJ V) rfl (pU C.head (A 4 (by decide) (by decide)) r1)
 exact mB (D.Lf Ur.2.2 C.lim) Ur.2.1 (Pf Ur.1) (JI D) rfl (kU C.head r2)
theorem S1(C:At w B h)(y:N.length<=63)(H:Cc 11 A)(R:Wb B xf.2.2 e (l0 (.Mb (.ints N))) [] g s.heap)(a:A.frames=Fb [e])(T:e.frame=Fb e.locals)
  (tail:∀{k x j extra:Option PV}{c0 c1 c2 m u d p G I J L O U},∃l h,Kc (uc P0 FL 60) (ai.drop 21) (tt (.Mb (.ints N)) (Kd N) k x (Fb (.str (Nc (ve N)))) j extra (Fb (.str (Ec (ve N)))) (Fb (.id 10)) (Fb (.id 12)) (Fb (.id 14)) (Fb (.id 16))) (Yz c0 c1 c2 m u d (Ib,.strs (ed (ve N))) p G I J L O U (wN N).Lc (Kd N))=Fb ((.ret (.bool Hb),l,h),Hb))
  (post:∀Y,Tr s Y->(∀b o,B.get? b=Fb o->Y.heap.get? b=Fb o)->Q (.ret (.bool Hb)) Y):Pb (Qb pw w) A (kf xf.2.1 e) Q E s:=by
 have f:Sg w B 11 FL:=C.all (by decide) (by decide) (Bg (Q8 C)) rfl;have V:Sg w B 10 (only []):=C.all (by decide) (by decide) (Bg (by simp)) rfl;refine Qc λGG kk=>?_;obtain⟨fr,D⟩:=Ff C.seen C.keeps 11 (277,yc Qa,.none,.none,276,Qa) rfl;refine WP (TV N y) λk x j extra wc e1=>?_;refine kk ?_;rw[<-jH 17 xf.2.1];have t:xf.2.1.map (Se GT 60 xf.2.2)=ai:=KX;refine rI (It C.head f 60) H (xf.2.1.take 17) (by rw[bu,t];exact e1) R λZd Mf Rl Ek ig=>?_;refine x6 C.head f V (WJ C.seen C.keeps) (λx tx=>(xW C x tx).mono (by decide)) (D.Lf WC.2.2 C.lim) (Pf WC.1) (GW D) WC.2.1 rfl rfl (xY N) H Rl a T rfl λjg sd nf Vg mf=>?_;refine Mc (show∃l h,Kc (uc P0 FL 60) (ai.drop 21) (tt (.Mb (.ints N)) (Kd N) k x (Fb (.str (Nc (ve N)))) j extra (Fb (.str (Ec (ve N)))) (Fb (.id 10)) (Fb (.id 12)) (Fb (.id 14)) (Fb (.id 16))) (rP N wc)=Fb ((.ret (.bool Hb),l,h),Hb) from tail) λl hh e3=>?_;refine Qr (It C.head f 60) (xf.2.1.drop 18) (by rw[Zw,t];exact(dY N).trans e3) A e sd jg E Q H nf λfv Mh zh r oh Ve Vv=>?_
 cases Vv with
 |ret hv=>
  refine Jg (Tb.inv hv) ?_;refine post Mh (ig.trans (mf.trans Ve)) λb o q=>?_;rcases r.base b o q with z|z
  ·exact r.hr.out b o z
  ·exact r.hr.Mb b o z
end
noncomputable def Rn(h:Heap)(l:Ub):Gh:=λa=>match h.get? a with
 |none=>.free|some o=>if a=l then .Mb o else .out o
theorem Er(e:Rn h l a=t)(H:t≠.free):∃o,h.get? a=Fb o/\(a=l/\t=.Mb o\/a≠l/\t=.out o):=by
 unfold Rn at e
 cases q:h.get? a with
 |none=>rw[q] at e;exact(H e.symm).elim|some o=>
  rw[q] at e
  by_cases z:a=l
  ·simp only [if_pos z] at e
   exact⟨o,rfl,.inl ⟨z,e.symm⟩⟩
  ·simp only [if_neg z] at e
   exact⟨o,rfl,.inr ⟨z,e.symm⟩⟩
theorem CW(h:Heap)(l:Ub):∀a o,h.get? a=Fb o->Rn h l a=.out o\/Rn h l a=.Mb o:=λa o e=>by
 unfold Rn;rw[e]
 by_cases z:a=l
 ·exact .inr (if_pos z)
 ·exact .inl (if_neg z)
theorem UV(e:h.get? l=Fb o):Rn h l l=.Mb o:=by
 unfold Rn;rw[e];exact if_pos rfl
theorem AZ(h:Heap)(l:Ub):tc h (Rn h l) [] where
 Mb:=λa o e=>by
  obtain⟨O,A,⟨J,H⟩|⟨J,H⟩⟩:=Er e (by intro h;injection h)<;>cases H
  exact A
 out:=λa o e=>by
  obtain⟨O,A,⟨J,H⟩|⟨J,H⟩⟩:=Er e (by intro h;injection h)<;>cases H
  exact A
 it:=λa o e=>by obtain⟨O,A,⟨J,H⟩|⟨J,H⟩⟩:=Er e (by intro h;injection h)<;>injection H
 Hc:=λa e=>by obtain⟨O,A,⟨J,H⟩|⟨J,H⟩⟩:=Er e (by intro h;injection h)<;>injection H
 Xb:=λa i e=>by obtain⟨O,A,⟨J,H⟩|⟨J,H⟩⟩:=Er e (by intro h;cases h)<;>injection H
 all:=λi y=>by simp at y
 inj:=λa b i e=>by obtain⟨O,A,⟨J,H⟩|⟨J,H⟩⟩:=Er e (by intro h;cases h)<;>injection H
theorem SV(g:Gh)(h:IntsAre V N):bc g V (N.map .int):=h.rec .nil (@λi t J J J h=>.cons (.int i t) h)
section
theorem fT(C:At w B h)(y:N.length<=63)(D:s.heap=B)(z:B.get? l=Fb (Rc E n))(G:IntsAre E N)(I:Cc 12 A)(a:A.frames=Fb [])
  (tail:∀{k x j extra:Option PV}{c0 c1 c2 f t d p J L g m u q},∃l h,Kc (uc P0 FL 60) (ai.drop 21) (tt (.Mb (.ints N)) (Kd N) k x (Fb (.str (Nc (ve N)))) j extra (Fb (.str (Ec (ve N)))) (Fb (.id 10)) (Fb (.id 12)) (Fb (.id 14)) (Fb (.id 16))) (Yz c0 c1 c2 f t d (Ib,.strs (ed (ve N))) p J L g m u q (wN N).Lc (Kd N))=Fb ((.ret (.bool Hb),l,h),Hb))
  (post:∀Y,Tr s Y->(∀b o,B.get? b=Fb o->Y.heap.get? b=Fb o)->R (.ok (.ret (.bool Hb))) Y):qi (Qb pw w) A (.call (.ref 306) (Bd [.ref l])) R s:=by
 subst D;obtain⟨fd,H⟩:=Ff C.seen C.keeps 16 (306,yc Oa,.none,.none,305,Oa) rfl;refine gy (as:=[.Mb (.ints N)]) (H.Lf aC.2.2 C.lim) aC.2.1 (Pf aC.1) (BV H) rfl I (CW _ _) (AZ _ _) (.cons (.Mb (UV z) rfl (SV _ G)) .nil) λe O r Ek T U HN Q=>?_;have V:Cg xf.2.2 (id [PV.Mb (.ints N)])=l0 (.Mb (.ints N)):=by
  unfold Cg l0;rw[sJ.2.2.2];rfl
 have r:Wb s.heap xf.2.2 e (l0 (.Mb (.ints N))) [] (Lj (Rn s.heap l) e.locals e.cells) O.heap:=by
  rw[<-V];exact r
 exact S1 C y Q r (dB a) U tail λjg mf hk=>post jg (T.trans mf) hk
end
theorem K1(N:da):∀{k x C extra:Option PV}{c0 c1 c2 f s Y o G D b a u d},∃l h,Kc (uc P0 FL 60) (ai.drop 21) (tt (.Mb (.ints N)) (Kd N) k x (Fb (.str (Nc (ve N)))) C extra (Fb (.str (Ec (ve N)))) (Fb (.id 10)) (Fb (.id 12)) (Fb (.id 14)) (Fb (.id 16))) (Yz c0 c1 c2 f s Y (Ib,.strs (ed (ve N))) o G D b a u d (wN N).Lc (Kd N))=Fb ((.ret (.bool Hb),l,h),Hb):=by
 intro k x C extra c0 c1 c2 f s Y o G D b a u d;have A:Kd N=5\/Kd N=6:=Wr N;have U:=oz (Kd N) (Qe N) (2*Kd N);have B:(ve N).length=2*Kd N:=gv _ _ _;have m:(ve N).map (λp:Pc=>p.1)=(wN N).Lc:=yy _ _ _;have T:(wN N).Lc.length=2*Kd N:=ny _ _ _;have t:(ed (ve N)).length=2*Kd N:=by unfold ed;rw[Uc,B]
 have key:ii (Kd N) (wN N):=by
  have h:=MC (Kd N) (Qe N) (2*Kd N);rcases A with e|e
  ·have H:wN N∈reach 5 10:=by
    have:Kd N=5:=e;rw[this] at h;unfold wN;rw[this];exact h
   rw[show Kd N=5 from e];exact A_ _ H
  ·have H:wN N∈reach 6 12:=by
    have:Kd N=6:=e;rw[this] at h;unfold wN;rw[this];exact h
   rw[show Kd N=6 from e];exact s_ _ H
 have q:=key ⟨.Mb (.ints N),k,x,Fb (.str (Nc (ve N))),C,extra,Fb (.str (Ec (ve N))),Fb (.id 10),Fb (.id 12),Fb (.id 14),Fb (.id 16),c0,c1,c2,f,s,Y,(Ib,.strs (ed (ve N))),o,G,D,b,a,u,d⟩;unfold xF vz at q;rw[<-S7] at q;simp only [Wt] at q;refine we q λQ V r=>?_;clear q;refine wY rfl Q V r ?_ (by rw[t,T]) (by omega) (by omega) ?_
 ·rw[IH U]
  show As ((ve N).map (λp:Pc=>p.1)) _=_;rw[m]
 ·rw[ku]
  intro y g;unfold ed at g;obtain⟨p,w,rfl⟩:=List.mem_map.mp g;obtain⟨E,j⟩:=U p w;have L:p.1.length=1:=by rcases E with e|e<;>rw[e]<;>rfl
  have z:p.2.length<=5:=by
   unfold Nh at j;simp only [og,Xd,or_false] at j;rcases j with e|e|e|e|e|e|e<;>rw[e]<;>decide
  exact decide_eq_true (by rw[Pd];lia)
section
open PySem PySem.W PySem.W.X PySem.Calls PyProof.Rows
set_option maxRecDepth 1000000
set_option maxHeartbeats 0
inductive xE:WData->Prop|mk (i:Int):xE (.int i)
inductive wy:List WData->Prop|mk (ns:da):wy (ns.map .int)
inductive QD:WData->Prop|mk (ns:da):QD (.list (ns.map .int))
inductive yD:List WData->Prop|mk (ns:da) (h:ns.length<=63):yD [.list (ns.map .int)]
theorem lV{x:WData}(h:WShape.has [] x .int=Hb):xE x:=by
 induction x using WData.casesOn with
 |int i=>exact⟨i⟩|_=>exact Zq h
theorem EU{T:List WData}(h:WShape.hasItems [] T .int=Hb):wy T:=by
 induction T with
 |nil=>exact⟨[]⟩|cons x r I=>
  have h:=(Zc _ _).mp h;have a:=lV h.1;have b:=I h.2
  induction a using xE.casesOn with|mk i=>_
  induction b using wy.casesOn with|mk N=>exact⟨i::N⟩
theorem mT{x:WData}(h:WShape.has [] x (.list .int)=Hb):QD x:=by
 induction x using WData.casesOn with
 |list T=>
  have b:=EU ((zR _).symm.trans h)
  induction b using wy.casesOn with|mk N=>exact⟨N⟩
 |_=>exact Zq h
theorem P7{l:List WData}(h:(WTm.not (.lt (.lit (.int 63)) (.len (.arg 0)))).holds [] {args:=[.list l]}=Hb):l.length<=63:=by
 have h:(match Fb (WData.bool (!decide ((63:Int)<(l.length:Int)))) with|some (.bool Hb)=>Hb|_=>Ib)=Hb:=h
 by_cases q:(63:Int)<(l.length:Int)
 ·rw[decide_eq_true q] at h;exact Zq h
 ·exact Int.ofNat_le.mp (Int.not_lt.mp q)
theorem qZ{args:List WData}(h:PySem.Challenge.rw_ta0095_01.row.toRowW.claim.pre args=Hb):yD args:=by
 have h:=pre_splitW h;refine Qc λG k=>?_;obtain⟨d,r,rfl,H,e⟩:=hasAllW_cons (R:=[]) h.1;obtain rfl:=hasAllW_nil (R:=[]) e;refine k ?_;have b:=mT H;have h:=(holds_andW (show(WTm.and (.not (.lt (.lit (.int 63)) (.len (.arg 0)))) _).holds [] _=Hb from h.2)).1
 induction b using QD.casesOn with|mk N=>exact⟨N,(Uc WData.int:(N.map WData.int).length=N.length)▸P7 h⟩
theorem lY{P:PySem.Params}{h:Heap}{v:Value}{d:WData}(q:Well P h v d):∀i,d=.int i->∃t,v=.int i t:=by
 induction q using Well.casesOn with
 |int i t=>intro j e;injection e with e;exact⟨t,by rw[e]⟩
 |_=>intro j e;injection e
theorem ints_of{P:PySem.Params}{h:Heap}{N:da}:∀{w:ia},WellAll P h w (N.map .int)->IntsAre w N:=by
 induction N with
 |nil=>intro w q;cases q;exact .nil
 |cons i r I=>
  intro w q
  cases q with|cons Q T=>exact(lY Q i rfl).elim λt e=>e▸.cons i t (I T)
theorem h7{h:Heap}{a:Ub}{m g:Str->Option Value}(x:h.Ns a m)(y:h.Ns a g):m=g:=by
 refine ge x λo J H x=>ge y λO d C y=>?_;have e:=(congrArg (Fb ·.data) (jc (x.1.symm.trans y.1)));rw[x.2.1,y.2.1] at e;injection e with e;injection e with E p
 funext n
 rw[<-x.2.2.2,<-y.2.2.2,E]
theorem Z2{h B:Heap}{a:Str->Option Value}{f:Ub}(Y:seen h=Mj)(k:∀b o,h.get? b=Fb o->B.get? b=Fb o)(n:B.Ns pi a)(e:a Oa=Fb (.ref f)):f=306:=by
 have j:[Li h pi,Li h qh,Li h ju]=[Hb,Hb,Hb]:=congrArg (·.2.2.2.1) Y;have H:rk h pi Oa=Fb (Fb (.ref 306)):=congrArg (·.2.2.2.2.2.2.2.2.2.2.2.2.2) Y;refine(ds (ck j).1).elim λm z=>?_;rw[z.2] at H;rw[h7 n (z.1.keeps k),jc H] at e;exact(cr (jc e)).symm
set_option tactic.hygienic true in
theorem TX(d:DefRec)(k:List (Str×Expr))(x:d.name=Oa):WalkX q0 aE (XL q0 []) (λs=>seen s.heap) (λ_=>Mj) PySem.Challenge.rw_ta0095_01.row.toRowW d k (λf V=>PySem.call f V):=by
 intro w Q J mg mb G Y j o pm cd doc dV kV z U m p h y args Lb as L I O g q D;rw[x] at h;have E:j=306:=Z2 Y L.keeps G.T.g h;rw[E];clear E;have C:At w J.heap Q.heap:=⟨Y,L.keeps⟩;have a:=qZ I;clear I O g D G h p m U z
 induction a using yD.casesOn with|mk N A=>_
 cases q with|cons r t=>
 cases t
 cases r with|list u B=>
 rename_i l ws
 have hi:=ints_of B;refine enter_call ?_;have post:∀e,Tr J e->(∀b o,J.heap.get? b=Fb o->e.heap.get? b=Fb o)->GoodWG PySem.Challenge.rw_ta0095_01.row.toRowW.claim (classAt Q.heap) (ExcName.means Q.heap) [.list (N.map .int)] J (.ok (.ret (.bool Hb))) e:=λe T H=>
  ⟨.inl ⟨.bool Hb,.bool Hb,[],rfl,λ_=>rfl,.bool Hb,by wrow_post,λ_=>⟨.nil,λa ha=>absurd ha Xd⟩⟩,OldK.of_keep H,T.os,T.bare (AllBare.of_eq y)⟩
 have Ov:Cc 12 callerA:=⟨rfl,by decide+kernel,by decide+kernel⟩;exact fT C A rfl u hi Ov rfl (K1 N) (λe T H=>post e T H)
noncomputable def PO:DefRec×List (Str×Expr):=(defOf q0 Oa).get (by rfl)
end
end Mine
open Mine
open PySem PySem.W PySem.W.X PySem.Calls PyProof.Rows
set_option maxRecDepth 1000000
set_option maxHeartbeats 0
theorem PySem.Challenge.cw_ta0095_01_holds : PySem.Challenge.rw_ta0095_01.Holds := by
 w_on
 refine holds_law (by decide+kernel) λQ=>?_;refine holds_openX (q:=q0) (loose:=aE) (Xt:=λs=>xlAt q0 [] s&&recOk (RowW.records PySem.Challenge.rw_ta0095_01.row.toRowW) s) (XP:=XL q0 []) (Yf:=λs=>seen s.heap) (Ya:=λJ=>Mj) (N:=3452) (d:=PO.1) (kwd:=PO.2) XW (λs e=>xl_of s (Bool.and_eq_true_iff.mp e).1) XL.keeps (by kernel_rfl) (by kernel_rfl) (by kernel_rfl) (λs e=>recFacts_of (Bool.and_eq_true_iff.mp e).2) (by rfl) (by first|assumption|decide+kernel) (by decide+kernel) ⟨rfl,rfl,rfl,rfl,rfl,by decide+kernel⟩ ?hw (TX _ _ (by kernel_rfl))
 case hw=>w_witness2
