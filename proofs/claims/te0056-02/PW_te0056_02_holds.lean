import PyProof.Rows.All
import Wide.All
import OpenK.AllK
import Wide.FinOn
import KE.KIsNot
import PyProof.Rows.Range3
import PyProof.CompUse
import PyProof.Cells
import PyProof.LayNew
import Lean
import PySem.Challenge.RW_te0056_02
open Option renaming some.inj→au,isNone_iff_eq_none→vz,isSome_iff_exists→BJ,some_ne_none→yD,some→O,none→C,rec→pi,isSome→sn,map_eq_some_iff→ab,not_isSome→k9,map→w7
open Nat renaming le_trans→ay,eq_of_beq_eq_true→aK,le_of_ble_eq_true→cw,lt_of_le_of_lt→fQ,le_refl→aU,ble_eq_true_of_le→g8,le_of_eq→cZ,le_add_right→fY,succ_le_succ→eN,zero_le→eG,add_le_add_left→d9,add_right_comm→jI,lt_succ_self→nH,zero_add→hH,le_of_lt→jJ,ne_of_lt→nM,add_le_add→gY,add_comm→hJ,not_lt_zero→BK,le_add_left→nN,lt_trans→qV,mul_le_mul_left→yH,add_assoc→fJ,min_eq_left→yK,add_sub_cancel→Hl,le_succ→iF,le_of_succ_le_succ→vC,sub_le_sub_right→Mc,add_le_add_right→dh,lt_or_eq_of_le→zI,lt_of_lt_of_le→zJ,le_succ_of_le→vF,succ_ne_self→zN,min_le_right→zO,lt_of_not_le→EG,sub_le→EH,mul_succ→Md,sub_le_of_le_add→ahn,not_succ_le_zero→zS,not_lt→zV,mod_lt→eD,min_eq_right→EW,beq→ac,ble→bd,blt→jp,succ→pm,le_of_lt_succ→sB,rec→ul,lt_of_succ_lt_succ→IR,not_lt_of_le→Op,lt_succ_of_le→Wp,ne_of_gt→ed,le_zero→ez,exists_eq_add_of_le→hh,add_sub_cancel_left→hq,zero_mul→hX,ne_of_beq_eq_false→hY,sub_eq_zero_of_le→i0,sub_succ_lt_self→k_,casesOn→k!,sub_add_cancel→m6,succ_le_of_lt→n0,le_of_succ_le→n4,succ_ne_zero→pv,le_of_not_lt→p5,succ_pos→CT,succ_mul→C0,one_mul→H?,mul_add→IA,beq_eq→R4
open _root_ renaming congrArg→ah,of_decide_eq_true→aO,decide_eq_true→cF,decide_eq_false→dQ,if_neg→eH,beq_iff_eq→fZ,beq_self_eq_true→qS,if_pos→eP,beq_false_of_ne→qT,decide_eq_decide→BP,congrFun→qo,decide_eq_true_iff→EM,rfl→Z,Nat→W,Bool→I,List→Y,Int→D,Option→N,absurd→ch,String→ol,False→Ch,Array→XV,Unit→df,DecidableEq→gk,True→mf,congr→vo,ForInStep→C4
open Bool renaming eq_false_iff→d8,false_ne_true→yC,eq_iff_iff→yL,or_eq_true_iff→EL,false→J,true→U,not_eq_true'→im,xor→i!,or_eq_false_iff→i?,and_eq_true_iff→jh,and_false→q_,rec→ø,not→ù
open List renaming length_append→aX,mem_singleton→eC,isEmpty_iff→cO,mem_append→gU,mem_map_of_mem→fm,mem_cons_of_mem→iE,mem_cons_self→gV,cons.inj→fq,map_cons→fR,cons_ne_nil→bN,length_map→i9,lookup_cons→kB,mem_map→eO,nodup_cons→mT,length_drop→ud,map_map→jv,length_tail→aiM,map_eq_nil_iff→vA,length_cons→vB,lookup_append→yE,zip_cons_cons→BN,take_of_length_le→Hm,take_append_drop→BO,dropLast_eq_take→Hn,take_nil→sJ,any_cons→sL,map_append→l9,append_toArray→zG,drop_eq_getElem_cons→zL,nodup_append→zM,nodup_nil→zR,drop_nil→zU,size_toArray→EP,reverse_perm→ES,push_toArray→ET,isEmpty_iff_length_eq_zero→Mf,take_length→EX,mem_reverse→EY,map_reverse→EZ,length_take→Mg,drop_length→zW,all_eq_true→E7,append_assoc→am,rec→bm,not_mem_nil→cr,mem_cons→c?,mem_append_right→db,append_nil→eq,mem_append_left→h?,append_eq_nil_iff→t1,eq_nil_of_length_eq_zero→wE,mem_flatten→AC,casesOn→AT,map_inj_left→Ix,filter_cons→ar,map→b?,dropLast_append_of_ne_nil→eh,length→ey,forIn_cons→eL,find?_cons→eT,drop_drop→e8,extract_eq_drop_take→fD,getElem?_eq_getElem→f?,getLast?_cons_cons→ha,drop_eq_nil_of_le→hs,contains_iff_mem→h_,mem_of_mem_drop→i3,lookup→i',extract_toArray→i_,map_congr_left→k?,filterMap_cons→lx,zip_nil_right→l7,range→l_,getElem?_map→m_,flatten_cons→m?,mem_flatMap→n8,drop→n_,take_left'→p7,length_nil→p8,drop_left'→p_,replicate→q3,forIn_nil→q4,drop_left→q6,all_cons→r5,cons→R'
open PySem renaming wpAny_bind→bR,wpAny_pure→cP,wpAny_mono→jt,Heap.lt_size→pH,wpAny_holding→ue,plainObj_wpAny_Assign_Attribute→Hk,wpAny_execs_cons→yF,wpAny_standAt→uh,wpAny_storeName_local→BM,wpAny_execs_nil→vD,wpAny_Name→qW,wpAny_Call_Name_kw→yM,Heap.size_push→sM,wpAny_evalAll_nil→vE,wpAny_assign_Name→zF,W.looks_findIn→ql,W.plainGet_of→qp,wpAny_Assign_stores→EF,wpAny_load→qq,wpAny_truthy_bool→zP,wpAny_Assign_Name→zQ,codeAny_call_def→EJ,wpAny_call→sP,wpAny_loadName_local→EO,list_getitem_lookup→EU,Value→bv,Shared→ge,wpAny→he,Addr→ii,W.look_both→io,PyData.eqv→kt,Str→lm,mainGlobals→lw,Operator→np,Str.ofString→nw,CmpOp.casesOn→pu,W.boot_heap→py,importedModules→rc,FuncData→sw,W.findIn→sK,World→ty,Heap→t3,CmpOp→ut,Heap.SameBut→u8,treeTable→v1,Around→v2,Params→wf,Keyword→wn,builtinsNs→wp,Pos→ww,Operator.casesOn→wP,callEnvC→xz,Obj→xL,W.specialIn→zn,Program→zs,eval→Db,sysModules→Do,recursionLimit→Fa,starEach→Gc,DictEntry→M2,strKind→No,methodCallForm→Ok,PyData.keyHash→On,Challenge.pw_te0056_02→Re,mem_of_lookup→Sc,callEnv→Tm,W.emptyDict→TD,codeAny→Uf,storeName→UF,model→WF,W.Frag→WP,NameKind→W1,W.topFrame→az,W.handedIn→a4,W.boot_drawn→a5,F.slot_list_iadd→a6,methodCallPos→a7,attributeBase→a8,Stmt→a9,Const.casesOn→a_,Comprehension→a!,wpAt→b5,W.copiedNames→b6,Builtin.Range.rangeSize→b_,W.plainOver→ct,W.hasDictIn→c5,OsState→c6,Scope→c7,W.instObj→c8,wpAt_of_wpAny→c_,keywordEach→dg,call→dn,W.getL→d4,valueAt→d_,wpAny_setItem_pairs→d?,W.takerIn→ee,Value.ref.inj→ef,ExceptHandler→eg,typeLookup→ek,assignEach→el,Result→ep,Challenge.rw_te0056_02→et,wpAny_pyIter_list→eX,execs→e0,TablesWhole.holds→e4,Sem→e5,F.slot_dict_getitem→e6,F.slot_dict_delitem→e7,wpAny_items_cons→e_,getMethod→e!,cellsFrom→e?,backTo→fb,W.putL→fe,Value.ref→ff,F.slot_str_getitem→fg,F.slot_list_insert→fk,F.slot_list_extend→ft,wpAny_of_eq→fN,IsRangeIter→f',wpAny_items_nil→g_,W.get_value→g!,W.boot_toks→g?,F.slot_list_pop→hg,wpAny_seqItems→hF,wpAny_notIn_of→hI,sliceRange→hK,loadName→hN,call_meets→hR,binaryOp→hS,backToKw→hT,Builtin.List.listFitsIndex→hW,wpAny_comprehension_free→j_,swappedStores→j!,W.plainGet→j?,W.openSeen→ki,W.openGood→kn,W.namesBound→kq,Tok→kv,PyData.eqvAll→k5,Data.func.inj→k7,Calls.loadGlobal_builtin→k8,swapsWith→lN,Str.empty→l1,Calls.loadGlobal_global→l2,Builtin.Str.occurrences→l4,Arguments→l5,wpAny_allTrue_And_cons→ml,stored→mm,setAttr→mu,rawInt→mD,pyIter→mE,intKind→mI,bootBuiltins→m4,BindsTo→m5,wpAny_allTrue_Or_cons→nk,exec_Assign_Name_used→nq,W.staticsOk→nr,Heap.get?_update_self→nT,wpAny_in_of→n?,wpAny_AugAssign_Name→oa,subscripted→od,slicePicked→oo,seqIndex_of→ox,lookup_relabel_local→oI,keeperOf→o1,compEnvC→o2,callWith→o_,W.SharedT→o!,Model→o?,IsRange.new→pn,wpAny_loadName_cell→qd,wpAny_evalPart_none→qk,codeAny_forLoop_any→qm,TablesWhole.wModule→qy,KeyKind→qR,Builtin.Range.small→q0,wpAny_pyIter_range→rb,wpAny_isTrue_value→ri,wpAny_getItem_list→rk,wpAny_assign_Tuple→rl,wpAny_List→rn,typeIs_str→rp,closureFor→rq,Walks.list→ru,W.laidKept→rv,W.gensDone→rx,W.findObj_own→r0,Obj.mapSeq→r2,BoolOp→r3,wpAny_truthy_list→vy,wpAny_truthy_dict→v',wpAny_pyIter_dict→v_,getMethod_builtin→v!,foldedSetIterable→v?,allTrue→wo,Walks→wy,Value.noConfusion→wz,UnaryOp→w1,StrLaws.subAt_one→w2,PyData.canLayAll0→w3,Env→w4,Const→w5,wpAny_getItem_of→A?,wpAny_For→Bv,stored_length_le→BB,specialOf→BS,lastMarks→B2,inplaceOp→B_,compareOp→B!,W.ks_loadName_global→B?,DictEntry.refKey→CB,Calls.wpAny_keep→CK,wpAt_bind→H5,typeLookup_type→H6,noFill_list_add→H7,W.takesIn→H',W.makesIn→H_,PyData.depthAll→H!,wpAny_loadPart→Q_,sizeLine→Q!,pick_run→Q?,evalEach→Rm,cLine→Rq,Walks.dictKeys→RE,W.namesMeet→RT,wpAny_UnaryOp→ñ,comprehension→ò,W.looks_specialIn→ó,Value.casesOn→ô,NameKind.cell→õ
open Int renaming natCast_nonneg→eM,le_trans→gM,ofNat_le→ju,add_assoc→ej,add_nonneg→qU,le_add_of_nonneg_right→uf,toNat_of_nonneg→yI,add_le_add_left→yJ,lt_of_lt_of_le→ui,le_refl→pJ,not_lt→qX,natCast_add→fO,zero_add→iO,ofNat_lt→qn,add_zero→aA,not_le→sO,add_comm→nO,add_lt_add_left→EK,sub_add_cancel→qr,lt_add_of_pos_right→o0,ofNat→wv,add_sub_cancel→wS,lt_irrefl→FM,lt_of_le_of_lt→FS,emod→TE,add_right_comm→TW,le_add_of_nonneg_left→gg,add_lt_add_iff_left→hv,add_le_add_iff_left→hA,lt_trans→h!,add_sub_add_left→ly,add_le_add_right→lB,natCast_ne_zero→l!,sub_eq_add_neg→nf,lt_or_eq_of_le→nh,add_sub_assoc→n!,max_eq_right→p!,sub_le_self→q7,sub_nonneg→r6,ofNat.inj→w',ne_of_lt→C1,ne_of_gt→C2,lt_asymm→C3,lt_succ→I',casesOn→I_
open Prod renaming mk.inj→gB,ext→pt,fst→v6,snd→Fk,mk.injEq→UV
open Array renaming toList_append→zH,length_toList→zT,all_eq_true_iff_forall_mem→Me,mk→b!,mem_toList_iff→ic
open Decidable renaming decide→a?
open False renaming elim→pp
open Pure renaming pure→H1
open PyProof renaming noPylong_small→fx,Rows.len_list→f_,Rows.markedEach_of_false→R1,Rows.Subscript_→ö
open Eq renaming trans→l?,symm→I!
open Min renaming min→p6
open And renaming right→p?
open Exists renaming elim→r'
open PySem PySem.W PyProof.Rows
set_option Elab.async false
set_option maxRecDepth 1000000
set_option maxHeartbeats 0
set_option genInjectivity false
set_option genSizeOf false
set_option autoImplicit true
set_option genCtorIdx false
set_option compiler.extract_closed false
set_option linter.all false
local macro_rules (kind:=Lean.Parser.Command.declaration)|s=>do if s[0][4].getNumArgs==0&&(s[1].isOfKind ``Lean.Parser.Command.definition||s[1].isOfKind ``Lean.Parser.Command.abbrev) then return s.setArg 0 (s[0].setArg 4 (Lean.mkNullNode #[Lean.mkNode ``Lean.Parser.Command.noncomputable #[Lean.mkAtom "noncomputable"]])) else Lean.Macro.throwUnsupported
local macro_rules | `($a:term ∧ $b) => do { let mut l := #[a]; let mut r := b; while r.raw.isOfKind ``«term_∧_» do { l := l.push ⟨r.raw[0]⟩; r := ⟨r.raw[2]⟩ }; if l.size < 2 then Lean.Macro.throwUnsupported else return Lean.Syntax.mkApp (Lean.mkIdent (.mkSimple s!"An{l.size + 1}")) (l.push r) }
local macro_rules | `(∃ $x:binderIdent*, $t) => do { if x.size < 2 || x.any (!·.raw[0].isIdent) then Lean.Macro.throwUnsupported else let y : Array (Lean.TSyntax `ident) := x.map (⟨·.raw[0]⟩); `($(Lean.mkIdent (.mkSimple s!"Ex{x.size}")) fun $y* => $t) }
namespace Ev
def il{α:Sort u}{a b c:α}(h:a=b)(k:a=c):b=c:=h.symm.trans k
def aat{α:Type u}{a b:α}{l:List α}:a∈b::a::l:=.tail _ (.head _)
def aau{α:Type u}{a b c:α}{l:List α}:a∈c::b::a::l:=.tail _ aat
def aaw{α:Type u}{a b c d:α}{l:List α}:a∈d::c::b::a::l:=.tail _ aau
def aax{α:Type u}{a b c d e:α}{l:List α}:a∈e::d::c::b::a::l:=.tail _ aaw
abbrev aay{α:Sort u}:α->I:=λ_=>J
abbrev aaz{α:Sort u}:α->I:=λ_=>U
abbrev aaG{α:Sort u}{β:Type v}:α->N β:=λ_=>C
section
abbrev g9:=@PySem.Heap.get?_push_of_some
abbrev gX:=@PySem.Heap.get?_push_size
abbrev jr:=@PySem.Heap.get?_none_of_le
abbrev BL:=@List.getElem?_toArray
abbrev yG:=@List.mem_of_getElem?
abbrev zK:=@List.getElem?_eq_some_iff
abbrev EI:=@Array.getElem?_toList
inductive Ex2{α:Sort u}{β:Sort v}(P:α->β->Prop):Prop|i (a:α) (b:β) (h:P a b)
inductive Ex3{α:Sort u}{β:Sort v}{γ:Sort w}(P:α->β->γ->Prop):Prop|i (a:α) (b:β) (c:γ) (h:P a b c)
inductive Ex4{α:Sort u}{β:Sort v}{γ:Sort w}{δ:Sort x}(P:α->β->γ->δ->Prop):Prop|i (a:α) (b:β) (c:γ) (d:δ) (h:P a b c d)
inductive Ex5{α:Sort u}{β:Sort v}{γ:Sort w}{δ:Sort x}{ε:Sort y}(P:α->β->γ->δ->ε->Prop):Prop|i (a:α) (b:β) (c:γ) (d:δ) (e:ε) (h:P a b c d e)
inductive Ex6{α:Sort u}{β:Sort v}{γ:Sort w}{δ:Sort x}{ε:Sort y}{ζ:Sort z}(P:α->β->γ->δ->ε->ζ->Prop):Prop|i (a:α) (b:β) (c:γ) (d:δ) (e:ε) (f:ζ) (h:P a b c d e f)
structure An3(a b c:Prop):Prop where i::(h1:a) (h2:b) (h3:c)
structure An4(a b c d:Prop):Prop where i::(h1:a) (h2:b) (h3:c) (h4:d)
structure An5(a b c d e:Prop):Prop where i::(h1:a) (h2:b) (h3:c) (h4:d) (h5:e)
structure An6(a b c d e f:Prop):Prop where i::(h1:a) (h2:b) (h3:c) (h4:d) (h5:e) (h6:f)
structure An7(a b c d e f g:Prop):Prop where i::(h1:a) (h2:b) (h3:c) (h4:d) (h5:e) (h6:f) (h7:g)
structure An9(a b c d e f g h i:Prop):Prop where i::(h1:a) (h2:b) (h3:c) (h4:d) (h5:e) (h6:f) (h7:g) (h8:h) (h9:i)
def gq{G:Prop}(H:∀P:Prop,(G->P)->P):G:=H _ id
def br{a:Type}(b:I)(x y:a):a:=ø (motive:=λ_=>a) y x b
def gd{a:Type}(b:I)(x:N a):N a:=ø (motive:=λ_=>N a) C x b
def oc{b a:Type}(o:N b)(f:b->a)(y:a):a:=pi (motive:=λ_=>a) y f o
def bn{b a:Type}(o:N b)(f:b->N a):N a:=pi (motive:=λ_=>N a) C f o
def ax{b c a:Type}(o:N (b×c))(f:b->c->N a):N a:=pi (motive:=λ_=>N a) C (λp=>Prod.rec (motive:=λ_=>N a) f p) o
def mp{b a:Type}(o:N b)(f:b->a):N a:=pi (motive:=λ_=>N a) C (λa=>O (f a)) o
def lc{b a:Type}(l:Y b)(y:a)(f:b->Y b->a):a:=bm (motive:=λ_=>a) y (λa r _=>f a r) l
section
variable{e g i:Type}{P:Prop}
def bW{b:I}(h:gd b x=O r)(k:b->x=O r->P):P:=by cases b with|true=>exact k Z h|false=>exact nomatch h
def bL{f:e->N g}(h:bn o f=O r)(k:∀a,o=O a->f a=O r->P):P:=by cases o with|some a=>exact k a Z h|none=>exact nomatch h
def aQ{f:e->g->N i}(h:ax o f=O r)(k:∀a b,o=O (a,b)->f a b=O r->P):P:=by cases o with|some p=>exact k p.1 p.2 Z h|none=>exact nomatch h
def iH{f:e->g}(h:mp o f=O r)(k:∀a,o=O a->f a=r->P):P:=by cases o with|some a=>exact k a Z (au h)|none=>exact nomatch h
def jg{b:I}(h:br b x y=O r)(k:b->x=O r->P)(l:b=J->y=O r->P):P:=by cases b with|true=>exact k Z h|false=>exact l Z h
def ma{f:e->N g}(h:oc o f y=O r)(k:∀a,o=O a->f a=O r->P)(l:o=C->y=O r->P):P:=by cases o with|some a=>exact k a Z h|none=>exact l Z h
def iu(h:O (a,b)=O (c,d))(k:a=c->b=d->P):P:=k (ah v6 (au h)) (ah Fk (au h))
def ag{a b:I}(h:(a&&b))(k:a->b->P):P:=by cases a with|true=>exact k Z h|false=>exact nomatch h
def bO{a b:I}(h:(a&&b)):a/\b:=ag h λx y=>⟨x,y⟩
end
inductive Sy where
 |off (k:W) (n:D)
 |big (k:W) (n:D)
 |nn
 |le (m:D)
 |old (j:W)
abbrev ae:=Y W
inductive V where
 |none
 |bool (b:I)
 |int (i:D)
 |str (s:ae)
 |tup (vs:Y V)
 |lst (vs:Y V)
 |obj (c:W) (fs:Y (W×V))
 |cls (c:W)
 |fn (f:W)
 |bi (b:W)
 |cd (k:W)
 |av (m:W)
 |par
 |aG
 |sym (p:Sy)
 |buf (l:ae) (e:I)
 |Ho
 |Zc (l:ae)
abbrev aY:=Y (W×V)
abbrev af:=Y V
def dP{a:Type}(v:V)(d:a)(no:a:=d)(bo:I->a:=λ_=>d)(i:D->a:=λ_=>d)(s:ae->a:=λ_=>d)(tu ls:af->a:=λ_=>d)(ob:W->aY->a:=λ_ _=>d)(cl fn bi cd me:W->a:=λ_=>d)(pa ta:a:=d)(sy:Sy->a:=λ_=>d)(bu:ae->I->a:=λ_ _=>d)(un:a:=d)(ws:ae->a:=λ_=>d):a:=V.casesOn (motive_1:=λ_=>a) v no bo i s tu ls ob cl fn bi cd me pa ta sy bu un ws
abbrev fP:=N I
def gH(v:V):fP:=dP v C (bo:=O)
def gb(v:V):N D:=dP v C (i:=O)
def natOf(i:D):N W:=I_ (motive:=λ_=>N W) i O λ_=>C
def asNat(v:V):N W:=dP v C (i:=natOf)
def dW(v:V):N (ae):=dP v C (s:=O)
def uj(v:V):N (af):=dP v C (tu:=O)
def ja(v:V):N (af):=dP v C (ls:=O)
def vG(v:V):N (af):=dP v C (tu:=O) (ls:=O)
def vH(v:V):N W:=dP v C (cl:=O)
def sQ(v:V):N W:=dP v C (bi:=O)
def pb(v:V):N W:=dP v C (cd:=O)
def jw(v:V):I:=dP v J (pa:=U)
def dZ(v:V):I:=dP v J (ta:=U)
def iI(v:V):N Sy:=dP v C (sy:=O)
def mU(v:V):N (ae×I):=dP v C (bu:=λl e=>O (l,e))
def mV(v:V):N (ae):=dP v C (ws:=O)
inductive X where
 |nil
 |cons (x xs:X)
 |pd
 |yN
 |Hp
 |int (n:W)
 |str (s:ae)
 |aR (x:W)
 |bU (e:X) (a:W)
 |nt (e:X)
 |neg (e:X)
 |and (es:X)
 |or (es:X)
 |ite (c a b:X)
 |cmp (l:X) (ops:Y ut) (rs:X)
 |bin (op:np) (a b:X)
 |tup (es:X)
 |yO (es:X)
 |Sk
 |sub (e i:X)
 |cut (e lo hi:X)
 |bF (f:W) (args:X) (ks:ae) (kvs:X)
 |fw (o:X) (m:W) (args:X) (ks:ae) (kvs:X)
 |sup (m:W) (args:X)
 |comp (elt:X) (x:W) (it:X) (cs:ae)
 |bad
inductive S where
 |nil
 |cons (s ss:S)
 |expr (e:X)
 |ret (e:X)
 |brk
 |T?
 |set (xs:ae) (e:X)
 |setC (x:W) (elt:X) (y:W) (it:X) (cs:ae)
 |C' (xs:ae) (e:X)
 |E8 (o:X) (a:W) (e:X)
 |Zd (o i e:X)
 |del (o i:X)
 |aug (x:W) (op:np) (e:X)
 |J2 (o:X) (a:W) (op:np) (e:X)
 |ifs (c:X) (t e:S)
 |uE (c:X) (b:S)
 |x8 (xs:ae) (it:X) (b:S)
 |Ze (e:X)
 |C_ (b:S)
 |bad
inductive LV where
 |val (v:V)
 |own (vs:af)
abbrev eu:=Y (D×V)
inductive PA where
 |val (v:V)
 |lst (vs:af)
 |kU (kvs:eu)
 |vI (kvs:Y (ae×V))
 |Hq (vs:af)
abbrev nQ:=Y (W×PA)
structure PG where
 par:nQ
 aG:af
 bD:W
abbrev cz:=Y (W×LV)
structure St where
 loc:cz
 pg:PG
abbrev jL:=Y (W×N V)
structure XD where
 params:jL
 fields:Y (W×W)
 consts:aY
 mro:ae
abbrev dR:=N (V×PG)
abbrev mc:=N (V×St)
abbrev jM:=W->N V
structure cQ where
 gl:jM
 cls:W->N XD
 du:W->I
 bw:W->I
 cA:W->N (Y (ae×V))
 av:W->af->aY->PG->dR
 func:W->af->aY->PG->dR
 sup:W->af->PG->dR
 dT:W
 dD:W
 qs:W
 ew:W
 lE:W
 ro:I
 comp:X->W->X->ae->ae->St->mc:=λ_ _ _ _ _ _=>C
def aj{a:Type}(b:W)(l:Y (W×a)):N a:=bm (motive:=λ_=>N a) C (λp _ a=>br (ac p.1 b) (O p.2) a) l
def put{a:Type}(b:W)(v:a)(l:Y (W×a)):Y (W×a):=bm (motive:=λ_=>Y (W×a)) [(b,v)] (λp l a=>br (ac p.1 b) ((b,v)::l) (p::a)) l
def aq(l:ae)(x:W):I:=bm (motive:=λ_=>I) J (λy _ a=>br (ac y x) U a) l
def cW(x:ae):ae->I:=bm (motive:=λ_=>ae->I) (λy=>lc y U λ_ _=>J) (λa _ b y=>lc y J λc y=>br (ac a c) (b y) J) x
def vJ(x:ae):ae->I:=bm (motive:=λ_=>ae->I) (λy=>lc y J λ_ _=>U) (λa _ c y=>lc y J λb y=>br (jp a b) U (br (ac a b) (c y) J)) x
abbrev uF:=Y (Y W)
def cat(l:af):N (uF):=bm (motive:=λ_=>N (uF)) (O []) (λv _ a=>bn (dW v) λs=>mp a (s::·)) l
def join(a:ae)(l:uF):ae:=bm (motive:=λ_=>ae) [] (λx l b=>lc l x λ_ _=>x++a++b) l
def uG(c:W)(l:ae):I:=bm (motive:=λ_=>I) J (λd _ a=>br (ac d c) U a) l
def Mh{a:Type}(p:a->I)(l:Y a):I:=bm (motive:=λ_=>I) J (λa _ b=>br (p a) U b) l
def aI{a:Type}(p:a->I)(l:Y a):I:=bm (motive:=λ_=>I) U (λa _ b=>br (p a) b J) l
def eQ(v:V):fP:=dP v C (no:=O J) (bo:=O) (i:=λi=>O (!a? (i=0))) (s:=λl=>O (!l.isEmpty)) (tu:=λl=>O (!l.isEmpty)) (ls:=λl=>O (!l.isEmpty)) (ob:=λ_ _=>O U) (me:=λ_=>O U)
def dat(n:W):V->I:=ul (motive:=λ_=>V->I) (λv=>dP v J U aaz aaz aaz) (λ_ a v=>dP v J U aaz aaz aaz (aI a) (aI a)) n
def qN(n:W):V->PyData:=ul (motive:=λ_=>V->PyData) (λv=>dP v .none .none .bool .int λl=>.str ⟨l.toArray⟩) (λ_ a v=>dP v .none .none .bool .int (λl=>.str ⟨l.toArray⟩) (λl=>.tuple (l.map a)) (λl=>.list (l.map a))) n
def L3(a b:V):fP:=gd (dat 30 a) (gd (dat 30 b) (O (kt (qN 30 a) (qN 30 b))))
def Zf(a b:V):fP:=oc (dW a) (λx=>oc (dW b) (λy=>O (cW x y)) (L3 a b)) (L3 a b)
def ě(s:ae)(a:af):fP:=bm (motive:=λ_=>fP) (O J) (λy _ b=>bn (dW y) λt=>mp b λb=>br (cW s t) U b) a
def inD(x:V)(a:af):fP:=oc (bn (dW x) λs=>ě s a) O (gd (dat 30 x) (gd (aI (dat 29) a) (O (Mh (λy=>kt (qN 29 y) (qN 30 x)) a))))
def uX(a b:V):fP:=dP b C (no:=dP a (O J) (no:=O U) (bi:=λ_=>C) (un:=C)) (bo:=λb=>dP a C (bo:=λc=>O (c==b)) (no:=O J) (i:=λ_=>O J) (s:=λ_=>O J) (tu:=λ_=>O J))
def uH(a b:V)(fi:D->D->I)(c:ae->ae->I):fP:=dP a C (i:=λx=>mp (gb b) λy=>fi x y) (s:=λx=>mp (dW b) λy=>c x y)
def z0(a b:V):fP:=oc (dW b) (λy=>bn (dW a) λx=>lc x C λc r=>lc r (O (uG c y)) λ_ _=>C) (bn (uj b) (inD a))
def kC(c:ut)(a b:V):fP:=pu (motive:=λ_=>fP) c (Zf a b) (mp (Zf a b) (!·)) (uH a b (λx y=>a? (x<y)) vJ) (uH a b (λx y=>a? (x<=y)) λx y=>!vJ y x) (uH a b (λx y=>a? (y<x)) λx y=>vJ y x) (uH a b (λx y=>a? (y<=x)) λx y=>!vJ x y) (uX a b) (mp (uX a b) (!·)) (z0 a b) (mp (z0 a b) (!·))
def qt{a:Type}(p:Sy)(d:a)(off big:W->D->a:=λ_ _=>d)(nn:a:=d)(le:D->a:=λ_=>d)(old:W->a:=λ_=>d):a:=Sy.casesOn (motive:=λ_=>a) p off big nn le old
def six(a:ut)(b c d e f g:fP):fP:=pu (motive:=λ_=>fP) a b c d e f g C C C C
def Mi(k:W):I:=br (ac k 2) U (ac k 5)
def ad5(c:ut)(p q:Sy):fP:=qt p C (off:=λk a=>qt q C (off:=λd b=>br (ac k d) (six c (O (a? (a=b))) (O (!a? (a=b))) (O (a? (a<b))) (O (a? (a<=b))) (O (a? (b<a))) (O (a? (b<=a)))) (br (ac k 5) (gd (ac d 2) (br (a? (b<=a)) (six c (O J) (O U) (O J) C C C) (gd (a? (b<=a+1)) (six c C C (O J) C C C)))) (gd (ac k 2) (gd (ac d 5) (gd (a? (a<=b)) (six c (O J) (O U) (O U) C C C)))))) (big:=λd n=>gd (ac k d) (gd (a? (a<n)) (six c C C C C C (O J)))) (old:=λ_=>gd (Mi k) (gd (a? (0<=a)) (six c (O J) (O U) (O J) C C C)))) (old:=λi=>qt q C (old:=λj=>six c C C (O (jp i j)) C C C) (off:=λk a=>gd (Mi k) (gd (a? (0<=a)) (six c (O J) (O U) (O U) C C C)))) (big:=λk n=>qt q C (off:=λd b=>gd (ac k d) (gd (a? (b<n)) (six c (O J) (O U) (O J) C C C))))
def XE(a:ut)(p:Sy)(m:D):fP:=qt p C (off:=λ_ n=>gd (a? (m<n)) (six a (O J) (O U) (O J) C (O U) C)) (le:=λc=>gd (a? (c<=m)) (six a C C C C (O J) C))
def XF(a:ut)(m:D)(p:Sy):fP:=qt p C (off:=λ_ n=>gd (a? (m<n)) (six a (O J) (O U) (O U) C (O J) C))
def anyS:W:=2097152
def Zg(c:W):ae:=br (ac c 2097153) [10,133] (br (ac c 2097154) [45,107] (br (ac c 2097155) [32,10,58] (br (ac c 2097156) [32,10] (br (ac c 2097157) [97,98,100,39,34,42,38,91,124,62] []))))
def x9(c d:W):I:=br (bd anyS c) (br (ac c anyS) U (uG d (Zg c))) (ac c d)
def Mj(p:ae):ae->I:=bm (motive:=λ_=>ae->I) (λs=>lc s J λ_ _=>U) (λc _ a s=>lc s U λd s=>br (x9 c d) (a s) U) p
def W!(p s:ae):fP:=lc p C λc r=>lc r (gd (!(Zg c).isEmpty) (br (aI (λd=>uG d s) (Zg c)) (O U) (gd (aI (λd=>!uG d s) (Zg c)) (O J)))) λ_ _=>C
def ad6(a:ut)(p s:ae):fP:=pu (motive:=λ_=>fP) a (gd (Mj p s) (O J)) (gd (Mj p s) (O U)) C C C C C C (W! p s) (mp (W! p s) (!·))
def BQ(a:ut)(b c:V):fP:=dP c C (sy:=λq=>dP b C (sy:=λp=>ad5 a p q) (no:=six a (O J) (O U) C C C C) (i:=λm=>XF a m q)) (i:=λm=>bn (iI b) λp=>XE a p m) (s:=λs=>bn (mV b) λp=>ad6 a p s)
def pe(a:ut)(b c:V):fP:=oc (BQ a b c) O (kC a b c)
def rep(s:ae)(n:W):ae:=ul (motive:=λ_=>ae) [] (λ_ a=>s++a) n
def XG(a:np)(b c d mo e:N V):N V:=wP (motive:=λ_=>N V) a b c d C C mo C C C C C C e
def ak{a:Type}(l:Y a):W:=bm (motive:=λ_=>W) 0 (λ_ _ a=>pm a) l
def J3(a b:V):N V:=dP a C (i:=λx=>mp (gb b) λy=>.int (x+y)) (s:=λx=>bn (dW b) λy=>gd (bd (ak x+ak y) 1000000) (O (.str (x++y)))) (ls:=λx=>bn (ja b) λy=>gd (bd (ak x+ak y) 1000000) (O (.lst (x++y))))
def Ml(a b:V):N V:=bn (gb a) λx=>mp (gb b) λy=>.int (x-y)
def gc{a:Type}(n:W)(z:a)(s:W->a):a:=ul (motive:=λ_=>a) z (λk _=>s k) n
def yP(c:np)(a b:V):N V:=XG c (J3 a b) (Ml a b) (bn (dW a) λx=>bn (asNat b) λn=>gd (bd n 1000000) (gd (bd (ak x*n) 1000000) (O (.str (rep x n))))) (bn (gb a) λx=>bn (asNat b) λm=>gc m C λn=>O (.int (TE x (n+1:W)))) (bn (gb a) λx=>bn (asNat b) λm=>gc m C λn=>gd (bd n 1000000) (O (.int (Int.ediv x (n+1:W)))))
def J4(a:np)(b c:V):N V:=bn (iI b) λp=>qt p C (off:=λk n=>dP c C (i:=λm=>XG a (O (.sym (.off k (n+m)))) (O (.sym (.off k (n-m)))) C C C) (sy:=λq=>qt q C (off:=λb m=>XG a (gd (ac k 2) (gd (ac b 6) (O (.sym (.off 5 (n+m)))))) (br (ac k b) (O (.int (n-m))) (gd (ac k 5) (gd (ac b 2) (O (.sym (.off 6 (n-m))))))) C C C) (nn:=XG a C (gd (ac k 0) (O (.sym (.le (900+n))))) C C C)))
def qu(a:np)(b c:V):N V:=oc (J4 a b c) O (yP a b c)
def J5(c:np)(a b:V):N V:=oc (J4 c a b) O (XG c (dP a C (i:=λx=>mp (gb b) λy=>.int (x+y)) (s:=λx=>bn (dW b) λy=>gd (bd (ak x+ak y) 1000000) (O (.str (x++y))))) (Ml a b) C C C)
def jj{a:Type}(l:Y a)(n:W):N a:=bm (motive:=λ_=>W->N a) aaG (λa _ b n=>gc n (O a) b) l n
def E9(o i:V):N V:=bn (asNat i) λn=>dP o C (s:=λs=>mp (jj s n) λc=>.str [c]) (tu:=λa=>jj a n) (ls:=λa=>jj a n)
def Mm(i:V):N W:=bn (iI i) λp=>qt p C (off:=λk n=>gd (ac k 4) (natOf n))
def iJ(o i:V):N V:=oc (mU o) (λb=>bn (Mm i) λn=>bn (jj b.1 n) λc=>br (bd anyS c) (br (ac c anyS) C (O (.Zc [c]))) (O (.str [c]))) (E9 o i)
inductive Pl where
 |loc (x:W)
 |bU (a:W)
inductive Cn where
 |lst (vs:af)
 |kU (kvs:eu)
 |vI (kvs:Y (ae×V))
 |Hq (vs:af)
inductive Fl where
 |next
 |brk
 |ret (v:V)
def LI{a:Type}(p:Pl)(l b:W->a):a:=Pl.casesOn (motive:=λ_=>a) p l b
def J6{a:Type}(l:LV)(v:V->a)(o:af->a):a:=LV.casesOn (motive:=λ_=>a) l v o
def xZ{a:Type}(q:PA)(v:V->a)(b:af->a)(c:eu->a)(d:Y (ae×V)->a)(e:af->a):a:=PA.casesOn (motive:=λ_=>a) q v b c d e
def ya{a:Type}(c:Cn)(d:a)(ls:af->a:=λ_=>d)(di:eu->a:=λ_=>d)(sd:Y (ae×V)->a:=λ_=>d)(lp:af->a:=λ_=>d):a:=Cn.casesOn (motive:=λ_=>a) c ls di sd lp
def vK{a:Type}(f:Fl)(n b:a)(r:V->a):a:=Fl.casesOn (motive:=λ_=>a) f n b r
def LJ{a:Type}(x:X)(d:a)(nil:a:=d)(cons:X->X->a:=λ_ _=>d)(aR:W->a:=λ_=>d)(bU:X->W->a:=λ_ _=>d)(yO:X->a:=λ_=>d)(Sk:a:=d)(bF:W->X->ae->X->a:=λ_ _ _ _=>d)(int:W->a:=λ_=>d):a:=X.casesOn (motive:=λ_=>a) x nil cons d d d int (λ_=>d) aR bU (λ_=>d) (λ_=>d) (λ_=>d) (λ_=>d) (λ_ _ _=>d) (λ_ _ _=>d) (λ_ _ _=>d) (λ_=>d) yO Sk (λ_ _=>d) (λ_ _ _=>d) bF (λ_ _ _ _ _=>d) (λ_ _=>d) (λ_ _ _ _=>d) d
def cq(x:X):I:=LJ x J (nil:=U)
def uk(x:X):I:=LJ x J (yO:=λ_=>U)
def Hr(x:X):I:=LJ x J (Sk:=U)
def um(x:X):X:=LJ x .bad (yO:=id)
def vL(x:X):I:=LJ x J (aR:=λx=>ac x 0)
def cG(x:X):N Pl:=LJ x C (aR:=λx=>O (.loc x)) (bU:=λo a=>gd (vL o) (O (.bU a)))
def yQ(x:X):N X:=LJ x C (cons:=λa r=>gd (cq r) (O a))
def uo(x:X):N (W×X):=LJ x C (bF:=λf a b c=>lc b (gd (cq c) (mp (yQ a) λa=>(f,a))) λ_ _=>C)
def call2(x:X):N (W×X):=LJ x C (bF:=λf a b c=>lc b (gd (cq c) (O (f,a))) λ_ _=>C)
def iP(a:ae)(s:St):I:=br (aq a 0) (oc (aj 0 s.loc) (λl=>J6 l jw λ_=>J) J) J
def Mn(G:cQ)(q:PA):N Cn:=xZ q (λv=>bn (pb v) λk=>mp (G.cA k) .vI) (λl=>O (.lst l)) (λl=>O (.kU l)) (λl=>O (.vI l)) λl=>O (.Hq l)
def iQ(G:cQ)(a:ae)(s:St)(p:Pl):N Cn:=LI p (λx=>gd (aq a x) (bn (aj x s.loc) λl=>J6 l (λv=>gd (dZ v) (O (.lst s.pg.aG))) λb=>O (.lst b))) λb=>gd (iP a s) (oc (aj b s.pg.par) (Mn G) (mp (G.cA b) .vI))
def vM(c:Cn):PA:=Cn.casesOn (motive:=λ_=>PA) c .lst .kU .vI .Hq
def Hs(q:PA):I:=xZ q (λv=>(pb v).isSome) aaz aaz aaz λ_=>U
def BR(q:PA):I:=xZ q aay aaz aaz aaz λ_=>U
def zX(s:St)(a:af):St:=⟨s.loc,⟨s.pg.par,a,s.pg.bD⟩⟩
def aE(s:St)(x:W)(l:LV):St:=⟨put x l s.loc,s.pg⟩
def Fb(s:St)(a:W)(q:PA):St:=⟨s.loc,⟨put a q s.pg.par,s.pg.aG,s.pg.bD⟩⟩
def hM(a:I)(s:St)(p:Pl)(c:Cn):N St:=br a C (LI p (λx=>ya c C (ls:=λa=>bn (aj x s.loc) λl=>J6 l (λv=>gd (dZ v) (O (zX s a))) λ_=>O (aE s x (.own a)))) λa=>bn (aj a s.pg.par) λq=>gd (BR q) (O (Fb s a (vM c))))
def calm(s a:St):I:=ac s.pg.bD a.pg.bD
def oU(c:Cn):I:=ya c U (λl=>!l.isEmpty) (λl=>!l.isEmpty) (λl=>!l.isEmpty)
def vN(c:Cn):N V:=ya c C (ls:=λl=>O (.int (ak l))) (lp:=λl=>O (.sym (.off 6 (ak l))))
def gy(G:cQ)(b:ae)(s:St)(a:N Pl):N (Pl×Cn):=bn a λp=>mp (iQ G b s p) λc=>(p,c)
def zY(k:D)(l:eu):N V:=bm (motive:=λ_=>N V) C (λp _ a=>br (a? (p.1=k)) (O p.2) a) l
def Fc(k:ae)(l:Y (ae×V)):N V:=bm (motive:=λ_=>N V) C (λp _ a=>br (cW p.1 k) (O p.2) a) l
def dput(k:D)(v:V)(l:eu):eu:=bm (motive:=λ_=>eu) [(k,v)] (λp l a=>br (a? (p.1=k)) ((k,v)::l) (p::a)) l
def Mo(k:ae)(v:V)(l:Y (ae×V)):Y (ae×V):=bm (motive:=λ_=>Y (ae×V)) [(k,v)] (λp l a=>br (cW p.1 k) ((k,v)::l) (p::a)) l
def yb(k:D)(l:eu):eu:=bm (motive:=λ_=>eu) [] (λp l a=>br (a? (p.1=k)) l (p::a)) l
def qv(c:Cn)(i:V):N V:=ya c C (ls:=λa=>bn (asNat i) (jj a)) (di:=λa=>bn (gb i) λk=>zY k a) (sd:=λa=>bn (dW i) λk=>Fc k a)
def vO(c:Cn)(i:V):fP:=ya c C (di:=λa=>oc (gb i) (λk=>O (zY k a).isSome) (gd a.isEmpty (mp (dW i) λ_=>J))) (sd:=λa=>mp (dW i) λk=>(Fc k a).isSome)
def yR(c:Cn)(i v:V):N Cn:=ya c C (di:=λa=>oc (gb i) (λk=>gd (bd (ak a) 900000) (O (.kU (dput k v a)))) (gd a.isEmpty (mp (dW i) λs=>.vI [(s,v)]))) (sd:=λa=>bn (dW i) λs=>gd (bd (ak a) 900000) (O (.vI (Mo s v a))))
def pK(n:W)(v:V)(a:af):af:=a.take n++v::a.drop n
def vP(c:Cn):I:=ya c J (ls:=λ_=>U) (lp:=λ_=>U)
def one{a b:Type}(l:Y a)(f:a->N b):N b:=lc l C λa r=>lc r (f a) λ_ _=>C
def two{a b:Type}(l:Y a)(f:a->a->N b):N b:=lc l C λa r=>one r (f a)
def cX(G:cQ)(c:Cn)(m:W)(b:af):N (V×Cn):=ya c C (ls:=λa=>br (ac m G.dT) (one b λv=>gd (bd (ak a) 900000) (O (.none,.lst (a++[v])))) (br (ac m G.dD) (one b λw=>bn (ja w) λc=>gd (bd (ak a+ak c) 900000) (O (.none,.lst (a++c)))) (br (ac m G.qs) (lc b (mp a.getLast? λv=>(v,.lst a.dropLast)) λc r=>lc r (bn (asNat c) λn=>gc n (lc a C λv r=>O (v,.lst r)) λ_=>C) λ_ _=>C) (gd (ac m G.ew) (two b λi v=>bn (asNat i) λn=>gd (bd n (ak a)) (gd (bd (ak a) 900000) (O (.none,.lst (pK n v a))))))))) (lp:=λa=>br (ac m G.dT) (one b λv=>gd (bd (ak a) 800000) (O (.none,.Hq (a++[v])))) (gd (ac m G.ew) (two b λi v=>bn (iI i) λp=>qt p C (off:=λk n=>gd (ac k 6) (bn (natOf n) λn=>gd (bd n (ak a)) (gd (bd (ak a) 800000) (O (.none,.Hq (pK n v a)))))))))
def pL(q:PA):N V:=xZ q O aaG aaG aaG λ_=>C
def jk(G:cQ)(v:V)(a:W)(s:St):N V:=dP v C (pa:=oc (aj a s.pg.par) pL (br (G.du a) (O (.av a)) (mp (G.cA a) λ_=>.cd a))) (ob:=λc b=>oc (aj a b) O (bn (G.cls c) λb=>aj a b.consts)) (cl:=λc=>bn (G.cls c) λb=>aj a b.consts)
def Ht(c:aY)(d:jL):af->N (aY):=bm (motive:=λ_=>af->N (aY)) (λa=>lc a (O []) λ_ _=>C) (λp _ b a=>lc a (bn (oc (aj p.1 c) O p.2) λv=>mp (b []) ((p.1,v)::·)) λv a=>mp (b a) ((p.1,v)::·)) d
def kwOk(a:jL)(b:aY):I:=bm (motive:=λ_=>I) U (λp r c=>oc (aj p.1 a) (λ_=>oc (aj p.1 r) aay c) J) b
def pO(b:jL)(c:af)(a:aY):N (aY):=gd (kwOk (b.drop c.length) a) (Ht a b c)
def fieldsOf(b:aY)(a:Y (W×W)):N (aY):=bm (motive:=λ_=>N (aY)) (O []) (λp _ c=>bn (aj p.2 b) λv=>mp c ((p.1,v)::·)) a
def make(G:cQ)(c:W)(b:af)(d:aY):N V:=bn (G.cls c) λa=>bn (pO a.params b d) λb=>mp (fieldsOf b a.fields) (.obj c ·)
def dF(b n:W):W->af:=ul (motive:=λ_=>W->af) (λ_=>[]) (λ_ c a=>.int a::c (a+b)) n
def Fd(G:cQ)(b:W)(a:af):N V:=br (ac b 0) (one a λv=>dP v C (s:=λl=>O (.int (ak l))) (tu:=λl=>O (.int (ak l))) (ls:=λl=>O (.int (ak l))) (bu:=λl e=>br e (O (.sym (.off 4 (ak l)))) (O (.sym (.big 4 (ak l)))))) (br (ac b 8) (two a λv w=>bn (gb v) λx=>mp (gb w) λy=>.int (br (a? (x<y)) y x)) (gd (ac b 1) (two a λv k=>dP v C (s:=λ_=>bn (sQ k) λz=>gd (ac z 7) (O (.bool U))) (ob:=λc _=>bn (vH k) λk=>mp (G.cls c) λa=>.bool (aq a.mro k)))))
def zZ(b:ae):af->N (aY):=bm (motive:=λ_=>af->N (aY)) (λa=>lc a (O []) λ_ _=>C) (λk _ c a=>lc a C λv a=>mp (c a) ((k,v)::·)) b
def back(s:St)(r:dR):mc:=ax r λv a=>O (v,⟨s.loc,a⟩)
def jN(G:cQ)(f:V)(b:af)(a:aY)(s:St):mc:=dP f C (cl:=λc=>br G.ro C (mp (make G c b a) λv=>(v,s))) (fn:=λf=>br G.ro C (back s (G.func f b a s.pg))) (me:=λm=>br G.ro C (back s (G.av m b a s.pg))) (bi:=λc=>lc a (mp (Fd G c b) λv=>(v,s)) λ_ _=>C)
def Zh(o:N V)(n:W):N W:=oc o asNat (O n)
def Mp(l:ae):I:=bm (motive:=λ_=>I) U (λc _ a=>br (bd anyS c) J a) l
def BU(l:ae):V:=br (Mp l) (.str l) (.Zc l)
def yS(o:V)(c d:N V):N V:=dP o C (s:=λs=>bn (Zh c 0) λa=>mp (Zh d (ak s)) λb=>.str ((s.take b).drop a)) (ls:=λs=>bn (Zh c 0) λa=>mp (Zh d (ak s)) λb=>.lst ((s.take b).drop a))
def Zi(l:ae)(e:I)(a b:N V):N V:=bn (bn a Mm) λa=>bn (bn b Mm) λb=>br e (O (BU ((l.take b).drop a))) (gd (bd b (ak l)) (O (BU ((l.take b).drop a))))
def BV(o:V)(a b:N V):N V:=oc (mU o) (λc=>Zi c.1 c.2 a b) (yS o a b)
def J7(G:cQ)(a:ae)(x:W)(s:St):mc:=br (aq a x) (bn (aj x s.loc) λl=>J6 l (λv=>O (v,s)) λa=>O (.lst a,aE s x (.val (.lst a)))) (mp (G.gl x) λv=>(v,s))
def fin(t:I)(v:V)(s:St):mc:=br t (mp (eQ v) λb=>(.bool b,s)) (O (v,s))
abbrev fc:=I->St->mc
abbrev sR:=St->N (af×St)
section
variable(G:cQ)(lv:ae)
def sS(v:V):fc:=λt s=>fin t v s
def vQ(t:I)(a:N Pl)(s:St)(k:mc):mc:=br t (oc (gy G lv s a) (λa=>O (.bool (oU a.2),s)) k) k
def BW(x:W):fc:=λt s=>vQ G lv t (O (.loc x)) s (ax (J7 G lv x s) λv s=>fin t v s)
def SQ(a:N Pl)(o:fc)(b:W):fc:=λt s=>vQ G lv t a s (ax (o J s) λv s=>bn (jk G v b s) λv=>fin t v s)
def L_(o:fc):fc:=λt s=>ax (o t s) λv s=>mp (eQ v) λb=>(.bool !b,s)
def SU(o:fc):fc:=λt s=>ax (o J s) λv s=>bn (gb v) λi=>fin t (.int (-i)) s
def SV(c a b:fc):fc:=λt s=>ax (c U s) λv s=>bn (gH v) λx=>br x (a t s) (b t s)
def Mq(l:fc)(c:V->Y ut->St->N (I×St))(a:Y ut):fc:=λ_ s=>ax (l J s) λv s=>ax (c v a s) λb s=>O (.bool b,s)
def SX(c:np)(a b:fc):fc:=λt s=>ax (a J s) λv s=>ax (b J s) λw s=>bn (qu c v w) λu=>fin t u s
def SY(a:sR):fc:=λt s=>ax (a s) λa s=>fin t (.tup a) s
def S2(a:sR):fc:=λt s=>ax (a s) λa s=>fin t (.lst a) s
def S4(a:N Pl)(o i:fc):fc:=λt s=>oc (gy G lv s a) (λb=>ax (i J s) λv a=>gd (calm s a) (bn (iQ G lv a b.1) λc=>bn (qv c v) λw=>fin t w a)) (ax (o J s) λx s=>ax (i J s) λv s=>bn (iJ x v) λw=>fin t w s)
variable(nil:I)(po:N Pl)
def vR(e:fc):St->N (N V×St):=λs=>br nil (O (C,s)) (ax (e J s) λv s=>O (O v,s))
def S5(o:fc)(a b:St->N (N V×St)):fc:=λt s=>ax (o J s) λx s=>ax (a s) λa s=>ax (b s) λb s=>bn (BV x a b) λv=>fin t v s
def uI(f:W)(a:ae):I:=br (aq lv f) J (lc a (oc (bn (G.gl f) sQ) (λb=>ac b 0) J) λ_ _=>J)
def vS(f:W)(a:ae)(po:N Pl)(b c:sR):fc:=λt s=>oc (gd (uI G lv f a) (bn (gy G lv s po) λd=>vN d.2)) (λn=>fin t n s) (ax (J7 G lv f s) λd s=>ax (b s) λb s=>ax (c s) λc s=>bn (zZ a c) λa=>ax (jN G d b a s) λv s=>fin t v s)
variable(m:W)
def S6(b:sR)(t:I)(s:St)(a:Pl×Cn):mc:=gd (vP a.2) (ax (b s) λc b=>gd (calm s b) (bn (iQ G lv b a.1) λd=>ax (cX G d m c) λv c=>bn (hM G.ro b a.1 c) λs=>fin t v s))
def Hu(q:N PA)(m:W)(c:I)(a:af)(b:aY)(t:I)(s:St):mc:=oc q (λq=>gd c (bn (pL q) λf=>ax (jN G f a b s) λv s=>fin t v s)) (gd (G.du m) (ax (jN G (.av m) a b s) λv s=>fin t v s))
def Hv(a:ae)(c:af)(b:aY)(t:I)(s:St):mc:=gd (ac m G.lE) (lc b (one c λw=>bn (ja w) λl=>bn (cat l) λl=>gd (bd (ak (join a l)) 900000) (gd (bd (ak a) 1000) (fin t (.str (join a l)) s))) λ_ _=>C)
def z4(b:ae)(e:I)(o:fc)(a d:sR):fc:=λt s=>oc (gy G lv s po) (λc=>lc b (S6 G lv m a t s c) λ_ _=>C) (ax (o J s) λx c=>ax (a c) λa s=>ax (d s) λd s=>bn (zZ b d) λb=>br (jw x) (Hu G (aj m c.pg.par) m e a b t s) (bn (dW x) λc=>Hv G m c a b t s))
def Fe(a:sR):fc:=λt s=>br G.ro C (ax (a s) λa s=>ax (G.sup m a s.pg) λv a=>fin t v ⟨s.loc,a⟩)
def uq(a:X)(y:W)(b:X)(c:ae):fc:=λt s=>br G.ro C (ax (G.comp a y b c lv s) λv s=>fin t v s)
def yc:sR:=λs=>O ([],s)
variable(x:fc)
def BX(a:sR):sR:=λs=>ax (x J s) λv s=>ax (a s) λa s=>O (v::a,s)
def yT(b:I->fc):I->fc:=λa t s=>br nil (x t s) (ax (x t s) λv s=>bn (eQ v) λc=>br (i! c a) (O (v,s)) (b a t s))
def Ff(a:ut)(o:fP):fP:=pu (motive:=λ_=>fP) a C C C C C C C C o (mp o (!·))
abbrev XH:=V->Y ut->St->N (I×St)
def BY(d:XH):XH:=λv a s=>lc a C λc a=>oc (gy G lv s po) (λb=>lc a (gd nil (mp (Ff c (vO b.2 v)) λb=>(b,s))) λ_ _=>C) (ax (x J s) λw s=>bn (pe c v w) λb=>br nil (lc a (O (b,s)) λ_ _=>C) (lc a C λ_ _=>br b (d w a s) (O (J,s))))
structure E4 where
 e:fc
 l:sR
 b:I->fc
 c:XH
def uJ(e:fc):E4:=⟨e,λ_=>C,λ_ _ _=>C,λ_ _ _=>C⟩
def ad7:E4:=uJ λ_ _=>C
def c!(x:X):E4:=X.rec (motive:=λ_=>E4) ⟨λ_ _=>C,yc,λ_ _ _=>C,λ_ _ _=>C⟩ (λx a i j=>⟨λ_ _=>C,BX i.e j.l,yT (cq a) i.e j.b,BY G lv (cq a) (cG x) i.e j.c⟩) (uJ (sS .none)) (uJ (sS (.bool U))) (uJ (sS (.bool J))) (λn=>uJ (sS (.int n))) (λl=>uJ (sS (.str l))) (λx=>uJ (BW G lv x)) (λo a i=>uJ (SQ G lv (cG (.bU o a)) i.e a)) (λ_ i=>uJ (L_ i.e)) (λ_ i=>uJ (SU i.e)) (λ_ i=>uJ (i.b U)) (λ_ i=>uJ (i.b J)) (λ_ _ _ i j k=>uJ (SV i.e j.e k.e)) (λ_ a _ i j=>uJ (Mq i.e j.c a)) (λa _ _ i j=>uJ (SX a i.e j.e)) (λ_ i=>uJ (SY i.l)) (λ_ i=>uJ (S2 i.l)) ad7 (λo _ i j=>uJ (S4 G lv (cG o) i.e j.e)) (λ_ a b i j k=>uJ (S5 i.e (vR (cq a) j.e) (vR (cq b) k.e))) (λf a b _ i j=>uJ (vS G lv f b (bn (yQ a) cG) i.l j.l)) (λo m a b c i j k=>uJ (z4 G lv (cG o) m b (Bool.and (cq a) (cq c)) i.e j.l k.l)) (λm _ i=>uJ (Fe G m i.l)) (λa y b c _ _=>uJ (uq G lv a y b c)) ad7 x
end
def ev(G:cQ)(a:ae)(t:I)(x:X)(s:St):mc:=(c! G a x).e t s
def BC(G:cQ)(a:ae)(x:X)(s:St):N (af×St):=(c! G a x).l s
def oV(v:V)(a:ae):St->St:=bm (motive:=λ_=>St->St) (λs=>s) (λx _ b s=>b (aE s x (.val v))) a
def unpack(b:ae):af->St->N St:=bm (motive:=λ_=>af->St->N St) (λa s=>lc a (O s) λ_ _=>C) (λx _ c a s=>lc a C λv a=>c a (aE s x (.val v))) b
abbrev qY:=N (Fl×St)
abbrev gz:=St->qY
def qZ(s:St)(a:W)(p:PA):W:=br (Hs p) (s.pg.bD+1) (br (oc (aj a s.pg.par) Hs J) (s.pg.bD+1) s.pg.bD)
def hO(b:I)(s:St)(a:W)(p:PA):qY:=br b C (gd (bd (ak s.pg.par) 900000) (O (.next,⟨s.loc,⟨put a p s.pg.par,s.pg.aG,qZ s a p⟩⟩)))
def keysOf(a:eu):af:=a.map λp=>.int p.1
section
variable(G:cQ)(lv:ae)
def nx(s:St):qY:=O (.next,s)
def frc{a:Type}(k:St->a)(s:St):a:=St.rec (motive:=λ_=>a) (λl g=>PG.rec (motive:=λ_=>a) (λp t n=>k ⟨l,⟨p,t,n⟩⟩) g) s
def bh(a b:gz):gz:=λs=>ax (a s) λf s=>vK f (frc b s) (O (.brk,s)) λv=>O (.ret v,s)
def vT(e:fc):gz:=λs=>ax (e J s) λ_ s=>nx s
def sT(a:I)(e:fc):gz:=λs=>br a (O (.ret .none,s)) (ax (e J s) λv s=>O (.ret v,s))
variable(xs:ae)
def Mr(e:fc):gz:=λs=>ax (e J s) λv s=>nx (oV v xs s)
def Hw(l:sR):gz:=λs=>one xs λx=>ax (l s) λa s=>nx (aE s x (.own a))
variable(x:W)
def yU(a:X)(y:W)(b:X)(c:ae):gz:=λs=>br G.ro C (ax (G.comp a y b c lv s) λv s=>nx (aE s x (.val v)))
def S7(e:fc):gz:=λs=>ax (e J s) λv s=>bn (uj v) λa=>bn (unpack xs a s) nx
def vU(a:W)(b c:I)(l:sR)(e:fc):gz:=λs=>gd (iP lv s) (gd (G.bw a) (br b (ax (l s) λb s=>hO G.ro s a (.lst b)) (br c (hO G.ro s a (.kU [])) (ax (e J s) λv s=>hO G.ro s a (.val v)))))
variable(po:N Pl)
def Hx(i e:fc):gz:=λs=>bn po λp=>ax (e J s) λv s=>bn (iQ G lv s p) λ_=>ax (i J s) λk a=>gd (calm s a) (bn (iQ G lv a p) λc=>bn (yR c k v) λb=>bn (hM G.ro a p b) nx)
def nU(c:Cn):N (eu):=ya c C (di:=O)
def S8(i:fc):gz:=λs=>ax (gy G lv s po) λp c=>bn (nU c) λ_=>ax (i J s) λk a=>gd (calm s a) (bn (gb k) λk=>bn (bn (iQ G lv a p) nU) λb=>bn (zY k b) λ_=>bn (hM G.ro a p (.kU (yb k b))) nx)
variable(g:np)
def isAdd:I:=wP (motive:=λ_=>I) g U J J J J J J J J J J J J
def S9(e:fc):gz:=λs=>gd (aq lv x) (bn (aj x s.loc) λl=>J6 l (λv=>ax (e J s) λw s=>bn (J5 g v w) λu=>nx (aE s x (.val u))) λ_=>gd (isAdd g) (ax (e J s) λw a=>gd (calm s a) (bn (iQ G lv a (.loc x)) λc=>ax (cX G c G.dD [w]) λ_ b=>bn (hM G.ro a (.loc x) b) nx)))
def BZ(a:W)(g:np)(e:fc):gz:=λs=>gd (iP lv s) (bn (bn (aj a s.pg.par) pL) λv=>ax (e J s) λw s=>bn (J5 g v w) λu=>hO G.ro s a (.val u))
def BD(c:fc)(a b:gz):gz:=λs=>ax (c U s) λv s=>bn (gH v) λx=>br x (a s) (b s)
def turn(f:Fl)(s:St)(k:gz):qY:=vK f (k s) (nx s) λv=>O (.ret v,s)
def uE(c:fc)(b:gz)(n:W):gz:=ul (motive:=λ_=>gz) aaG (λ_ a s=>ax (c U s) λv s=>bn (gH v) λx=>br x (ax (b s) λf s=>turn f s a) (nx s)) n
def forL(a:V->gz)(b:af):gz:=bm (motive:=λ_=>gz) nx (λv _ c s=>ax (a v s) λf s=>turn f s c) b
def vV(a:W->W->gz)(l:ae):W->gz:=bm (motive:=λ_=>W->gz) (λ_=>nx) (λc _ b i s=>ax (a i c s) λf s=>turn f s (b (i+1))) l
variable(cl:N (W×X))
def q5:N (W×X):=ax cl λf a=>br (aq lv f) C (mp (bn (G.gl f) sQ) λb=>(b,a))
def B1:N X:=ax cl λf a=>br (aq lv f) C (bn (bn (G.gl f) sQ) λb=>gd (ac b 3) (O a))
def source(d:N (W×X))(e:N X)(f:fc):St->N ((I×af)×St):=λs=>oc (gy G lv s po) (λb=>ya b.2 C (di:=λa=>O ((U,keysOf a),s)) (sd:=λ_=>LI b.1 aaG λc=>oc (aj c s.pg.par) aaG (mp (G.cA c) λa=>((J,a.map λp=>.str p.1),s)))) (oc d (λc=>br (ac c.1 3) (ax (ev G lv J c.2 s) λv s=>bn (asNat v) λn=>gd (bd n 1000000) (O ((J,dF 1 n 0),s))) (gd (ac c.1 5) (bn (bn (gy G lv s (cG c.2)) λb=>nU b.2) λa=>O ((J,keysOf a),s)))) (oc e (λa=>ax (BC G lv a s) λa s=>two a λv w=>bn (asNat v) λn=>bn (asNat w) λm=>gd (bd m 1000000) (gd (bd n 1000000) (O ((J,dF 1 (m-n) n),s)))) (ax (f J s) λv s=>bn (vG v) λa=>O ((J,a),s))))
def Ms(a:St->N ((I×af)×St))(q b:gz):gz:=λs=>ax (a s) λr s=>br r.1 (forL (λv s=>q (aE s x (.val v))) r.2 s) (forL (λv s=>b (aE s x (.val v))) r.2 s)
def q8(x y:W)(a:N (W×X))(b:gz):gz:=λs=>ax a λk a=>gd (ac k 4) (ax (ev G lv J a s) λv s=>bn (dW v) λl=>vV (λi c s=>b (aE (aE s x (.val (.int i))) y (.val (.str [c])))) l 0 s)
def x?(b:gz)(x y:W)(v:V):gz:=λs=>bn (uj v) λa=>bn (unpack [x,y] a s) b
def B3(x y:W)(e:fc)(b:gz):gz:=λs=>ax (e J s) λv s=>bn (ja v) λa=>forL (x? b x y) a s
def Hy(e:fc):gz:=λs=>ax (e U s) λv s=>bn (gH v) λb=>gd b (nx s)
end
abbrev D_(G:cQ):cQ:={G with ro:=U}
structure SW where
 f:gz
def s5(a:ae)(n:W)(x:S):cQ->SW:=S.rec (motive:=λ_=>cQ->SW) (λ_=>⟨nx⟩) (λ_ _ i j G=>⟨bh (i G).f (j G).f⟩) (λe G=>⟨vT (ev G a · e)⟩) (λe G=>⟨sT (cq e) (ev G a · e)⟩) (λ_=>⟨λs=>O (.brk,s)⟩) (λ_=>⟨nx⟩) (λc e G=>⟨br (uk e) (Hw c (BC G a (um e))) (Mr c (ev G a · e))⟩) (λx d y b f G=>⟨yU G a x d y b f⟩) (λc e G=>⟨S7 c (ev G a · e)⟩) (λo d e G=>⟨br (vL o) (vU G a d (uk e) (Hr e) (BC G a (um e)) (ev G a · e)) λ_=>C⟩) (λo i e G=>⟨Hx G a (cG o) (ev G a · i) (ev G a · e)⟩) (λo i G=>⟨S8 G a (cG o) (ev G a · i)⟩) (λx f e G=>⟨S9 G a x f (ev G a · e)⟩) (λo d f e G=>⟨br (vL o) (BZ G a d f (ev G a · e)) λ_=>C⟩) (λd _ _ i j G=>⟨BD (ev G a · d) (i G).f (j G).f⟩) (λd _ i G=>⟨uE (ev G a · d) (i G).f n⟩) (λc b _ i G=>⟨lc c aaG λx r=>lc r (Ms x (source G a (cG b) (q5 G a (uo b)) (B1 G a (call2 b)) (ev G a · b)) (i (D_ G)).f (i G).f) λy r=>lc r (λs=>oc (q5 G a (uo b)) (λz=>q8 G a x y (O z) (i G).f s) (B3 x y (ev G a · b) (i G).f s)) λ_ _ _=>C⟩) (λe G=>⟨Hy (ev G a · e)⟩) (λ_ i=>i) (λ_=>⟨λ_=>C⟩) x
def s4(a:ae)(n:W)(x:S)(G:cQ):gz:=(s5 a n x G).f
def pr(G:cQ)(a:ae)(n:W)(x:S):gz:=s4 a n x G
structure Def where
 params:jL
 lv:ae
 gv:ae
 body:S
def yd(b:jM)(a:ae)(x:W):N V:=gd (aq a x) (b x)
def km(f:Fl):V:=vK f .none .none id
def ye(G:cQ)(d:Def):cQ:={G with gl:=yd G.gl d.gv}
def run(G:cQ)(n:W)(d:Def)(a:af)(b:aY)(c:PG):dR:=bn (pO d.params a b) λb=>ax (pr (ye G d) d.lv n d.body ⟨b.map λp=>(p.1,.val p.2),c⟩) λf s=>O (km f,s.pg)
abbrev bM:=Y Expr
def oW{a:Type}(e:Expr)(d:a)(bo:r3->bM->ww->a:=λ_ _ _=>d)(bi:Expr->np->Expr->ww->a:=λ_ _ _ _=>d)(un:w1->Expr->ww->a:=λ_ _ _=>d)(ie:Expr->Expr->Expr->ww->a:=λ_ _ _ _=>d)(di:Y (N Expr)->bM->ww->a:=λ_ _ _=>d)
 (se:a:=d)(lc:Expr->Y a!->c7->ww->a:=λ_ _ _ _=>d)(sc dc:a:=d)(cm:Expr->Y ut->bM->ww->a:=λ_ _ _ _=>d)(ca:Expr->bM->Y wn->ww->a:=λ_ _ _ _=>d)(co:w5->W->ww->a:=λ_ _ _=>d)
 (at':Expr->lm->ww->a:=λ_ _ _=>d)(su:Expr->Expr->ww->a:=λ_ _ _=>d)(sr:a:=d)(na:lm->ww->a:=λ_ _=>d)(li:bM->ww->a:=λ_ _=>d)(tu:bM->W->ww->a:=λ_ _ _=>d)(sl:N Expr->N Expr->N Expr->ww->a:=λ_ _ _ _=>d):a:=
 Expr.casesOn (motive_1:=λ_=>a) e bo (λ_ _ _=>d) bi un (λ_ _ _ _=>d) ie di (λ_ _ _=>se) lc (λ_ _ _ _=>sc) (λ_ _ _ _ _=>dc) (λ_ _ _ _=>d) (λ_ _=>d) (λ_ _=>d) (λ_ _=>d) cm ca (λ_ _ _ _=>d) (λ_ _=>d) co at' su (λ_ _=>sr) na li tu sl
abbrev b9:=Y a9
def l8{a:Type}(s:a9)(d:a)(re:N Expr->ww->a:=λ_ _=>d)(de:bM->ww->a:=λ_ _=>d)(asg:bM->Expr->ww->a:=λ_ _ _=>d)(aug:Expr->np->Expr->ww->a:=λ_ _ _ _=>d)(fo:Expr->Expr->b9->b9->ww->a:=λ_ _ _ _ _=>d)
 (wh ifs:Expr->b9->b9->ww->a:=λ_ _ _ _=>d)(tr:b9->Y eg->b9->b9->ww->a:=λ_ _ _ _ _=>d)(asr:Expr->N Expr->ww->a:=λ_ _ _=>d)(ex:Expr->ww->a:=λ_ _=>d)(pa bk:ww->a:=λ_=>d)
 (fu:lm->l5->b9->c7->ww->a:=λ_ _ _ _ _=>d)(kl:b9->Y lm->ww->a:=λ_ _ _=>d):a:=
 Stmt.casesOn (motive_2:=λ_=>a) s (λn a b _ _ _ c _ _ p=>fu n a b c p) (λ_ _ _ _ _ _ _ _ _ _=>d) (λ_ _ _ b _ _ _ _ _ v p=>kl b v p) re de asg (λ_ _ _ _ _ _ _=>d) aug (λ_ _ _ _ _=>d) fo (λ_ _ _ _ _=>d) wh ifs (λ_ _ _=>d) (λ_ _ _=>d) (λ_ _ _=>d) (λ_ _ _=>d) tr (λ_ _ _ _ _=>d) asr (λ_ _=>d) (λ_ _ _ _=>d) (λ_ _=>d) (λ_ _=>d) ex pa bk λ_=>d
def Zj(e:Expr)(f:r3->bM->I):I:=oW e J (bo:=λa b _=>f a b)
def ad8(e:Expr)(f:Expr->np->Expr->I):I:=oW e J (bi:=λa b c _=>f a b c)
def Zk(e:Expr)(f:w1->Expr->I):I:=oW e J (un:=λa b _=>f a b)
def ad9(e:Expr)(f:Expr->Expr->Expr->I):I:=oW e J (ie:=λa b c _=>f a b c)
def Ű(e:Expr)(f:Y (N Expr)->bM->I):I:=oW e J (di:=λa b _=>f a b)
def Ta(e:Expr)(f:Expr->Y a!->c7->I):I:=oW e J (lc:=λa b c _=>f a b c)
def ů(e:Expr)(f:Expr->Y ut->bM->I):I:=oW e J (cm:=λa b c _=>f a b c)
def J8(e:Expr)(f:Expr->bM->Y wn->ww->I):I:=oW e J (ca:=f)
def Fg(e:Expr)(f:w5->I):I:=oW e J (co:=λa _ _=>f a)
def isAt(e:Expr)(f:Expr->lm->ww->I):I:=oW e J (at':=f)
def Fh(e:Expr)(f:Expr->Expr->I):I:=oW e J (su:=λa b _=>f a b)
def ng(e:Expr)(f:lm->I):I:=oW e J (na:=λa _=>f a)
def Ů(e:Expr)(f:bM->I):I:=oW e J (li:=λa _=>f a)
def Mt(e:Expr)(f:bM->I):I:=oW e J (tu:=λa _ _=>f a)
def Zl(e:Expr)(f:N Expr->N Expr->N Expr->I):I:=oW e J (sl:=λa b c _=>f a b c)
def ao{P:Prop}(h:J):P:=ch h yC
def aV.{u0}{b:Sort u0}{P:(a:b)->Prop}:∀a,J->P a:=λ_=>ao
def iw.{u0,u1}{b:Sort u0}{d:(a:b)->Sort u1}{P:(a:b)->(c:d a)->Prop}:∀a c,J->P a c:=λ_ _=>ao
def pf.{u0,u1,u2}{c:Sort u0}{d:(a:c)->Sort u1}{f:(a:c)->(b:d a)->Sort u2}{P:(a:c)->(b:d a)->(e:f a b)->Prop}:∀a b e,J->P a b e:=λ_ _ _=>ao
def Sl.{u0,u1,u2,u3}{c:Sort u0}{e:(a:c)->Sort u1}{f:(a:c)->(b:e a)->Sort u2}{h:(a:c)->(b:e a)->(d:f a b)->Sort u3}{P:(a:c)->(b:e a)->(d:f a b)->(g:h a b d)->Prop}:∀a b d g,J->P a b d g:=λ_ _ _ _=>ao
def F1.{u0,u1,u2,u3,u4}{d:Sort u0}{e:(a:d)->Sort u1}{g:(a:d)->(b:e a)->Sort u2}{h:(a:d)->(b:e a)->(c:g a b)->Sort u3}{j:(a:d)->(b:e a)->(c:g a b)->(f:h a b c)->Sort u4}{P:(a:d)->(b:e a)->(c:g a b)->(f:h a b c)->(i:j a b c f)->Prop}:∀a b c f i,J->P a b c f i:=λ_ _ _ _ _=>ao
section
variable{e:Expr}
def BoV(f:r3->bM->I)(e:Expr):=∃a b p,e=.BoolOp a b p/\f a b=U
local macro_rules | `(tactic| trivial) => `(tactic| first | exact ao | exact fun h => ⟨_, _, rfl, h⟩ | exact fun h => ⟨_, _, _, rfl, h⟩ | exact fun h => ⟨_, _, _, _, rfl, h⟩)
def XI{f:r3->bM->I}:Zj e f->BoV f e:=by cases e<;>trivial
def BiV(f:Expr->np->Expr->I)(e:Expr):=∃a b c p,e=.BinOp a b c p/\f a b c=U
def aed{f:Expr->np->Expr->I}:ad8 e f->BiV f e:=by cases e<;>trivial
def UnV(f:w1->Expr->I)(e:Expr):=∃a b p,e=.UnaryOp a b p/\f a b=U
def XJ{f:w1->Expr->I}:Zk e f->UnV f e:=by cases e<;>trivial
def IeV(f:Expr->Expr->Expr->I)(e:Expr):=∃a b c p,e=.IfExp a b c p/\f a b c=U
def aee{f:Expr->Expr->Expr->I}:ad9 e f->IeV f e:=by cases e<;>trivial
def DiV(f:Y (N Expr)->bM->I)(e:Expr):=∃a b p,e=.Dict a b p/\f a b=U
def aef{f:Y (N Expr)->bM->I}:Ű e f->DiV f e:=by cases e<;>trivial
def LcV(f:Expr->Y a!->c7->I)(e:Expr):=∃a b c p,e=.ListComp a b c p/\f a b c=U
def Mu{f:Expr->Y a!->c7->I}:Ta e f->LcV f e:=by cases e<;>trivial
def CmV(f:Expr->Y ut->bM->I)(e:Expr):=∃a b c p,e=.Compare a b c p/\f a b c=U
def aeg{f:Expr->Y ut->bM->I}:ů e f->CmV f e:=by cases e<;>trivial
def CaV(f:Expr->bM->Y wn->ww->I)(e:Expr):=∃a b c p,e=.Call a b c p/\f a b c p=U
def ur{f:Expr->bM->Y wn->ww->I}:J8 e f->CaV f e:=by cases e<;>trivial
def CoV(f:w5->I)(e:Expr):=∃a n p,e=.Constant a n p/\f a=U
def aeh{f:w5->I}:Fg e f->CoV f e:=by cases e<;>trivial
def AtV(f:Expr->lm->ww->I)(e:Expr):=∃a b p,e=.Attribute a b p/\f a b p=U
def yV{f:Expr->lm->ww->I}:isAt e f->AtV f e:=by cases e<;>trivial
def SuV(f:Expr->Expr->I)(e:Expr):=∃a b p,e=.Subscript a b p/\f a b=U
def Hz{f:Expr->Expr->I}:Fh e f->SuV f e:=by cases e<;>trivial
def NaV(f:lm->I)(e:Expr):=∃a p,e=.Name a p/\f a=U
def kD{f:lm->I}:ng e f->NaV f e:=by cases e<;>trivial
def LiV(f:bM->I)(e:Expr):=∃a p,e=.List a p/\f a=U
def Mw{f:bM->I}:Ů e f->LiV f e:=by cases e<;>trivial
def TuV(f:bM->I)(e:Expr):=∃a n p,e=.Tuple a n p/\f a=U
def Mx{f:bM->I}:Mt e f->TuV f e:=by cases e<;>trivial
def SlV(f:N Expr->N Expr->N Expr->I)(e:Expr):=∃a b c p,e=.Slice a b c p/\f a b c=U
def aei{f:N Expr->N Expr->N Expr->I}:Zl e f->SlV f e:=by cases e<;>trivial
end
def My(f:Expr)(a:bM)(b:Y wn):I:=br (ng f λ_=>U) (lc a (lc b J λ_ _=>U) λ_ _=>U) U
def dJ(e:Expr):I:=oW e U (ca:=λf a b _=>My f a b)
def jA(e:Expr):I:=oW e U (sl:=λ_ _ _ _=>J)
def plainArg(e:Expr):I:=oW e U (sr:=J)
def d5(e:Expr):I:=oW e U (lc:=λ_ _ _ _=>J) (sc:=J) (dc:=J)
def B4(e:Expr):I:=oW e U (tu:=λ_ _ _=>J)
def nW(e:Expr):I:=oW e U (se:=J)
def cN(c:ut):W:=pu (motive:=λ_=>W) c 0 1 2 3 4 5 6 7 8 9
def oN(o:np):W:=wP (motive:=λ_=>W) o 0 1 2 3 4 5 6 7 8 9 10 11 12
def Mz(a:Y ut):Y ut->I:=bm (motive:=λ_=>Y ut->I) (λb=>lc b U λ_ _=>J) (λx _ c b=>lc b J λy b=>ac (cN x) (cN y)&&c b) a
def EA(s:lm):I:=bd s.length 100000&&PyData.strOk s
def vW(v:V)(c:w5):I:=a_ (motive:=λ_=>I) c (dP v J (no:=U)) (λb=>dP v J (bo:=λa=>b==a)) (λi=>dP v J (i:=λj=>a? (i=j))) aay (λ_ _=>J) (λs=>dP v J (s:=λl=>a? (s.cps.toList=l)&&EA s)) aay J
section
variable(u:W->lm)
def iB(x:W)(s:lm):I:=a? (s=u x)
def bV(b:ae):bM->I:=bm (motive:=λ_=>bM->I) (λa=>a.isEmpty) (λx _ c a=>lc a J λe a=>ng e (iB u x)&&c a) b
def nZ(b:ae):Y wn->I:=bm (motive:=λ_=>Y wn->I) (λa=>a.isEmpty) (λx _ c a=>lc a J λe a=>oc e.arg (iB u x) J&&c a) b
variable(x:X)
def namesOf:ae:=X.rec (motive:=λ_=>ae) [] (λ_ _ i j=>i++j) [] [] [] (λ_=>[]) (λ_=>[]) (λx=>[x]) (λ_ _ i=>i) (λ_ i=>i) (λ_ i=>i) (λ_ i=>i) (λ_ i=>i) (λ_ _ _ i j k=>i++(j++k)) (λ_ _ _ i j=>i++j) (λ_ _ _ i j=>i++j) (λ_ i=>i) (λ_ i=>i) [] (λ_ _ i j=>i++j) (λ_ _ _ i j k=>i++(j++k)) (λf _ _ _ i j=>f::(i++j)) (λ_ _ _ _ _ i j k=>i++(j++k)) (λ_ _ _=>[]) (λ_ _ _ _ _ _=>[]) [] x
def DL(c:X)(y:W)(b:ae)(a:c7):I:=decide (a.kind=.function)&&(aI (λp=>!a? (p.2=.cell)&&(!a? (p.2=.local)||a? (a.names.lookup p.1=O .local))&&(!a? (p.2=.free)||Mh (λz=>a? (u z=p.1)) b)) a.names)&& decide (a.names.lookup (u y)=O .local)&&(aI (λz=>a? (a.names.lookup (u z)=O .free)) b)&&(aI (λz=>ac z y||aq b z||a? (a.names.lookup (u z)=O .globalImplicit)) (namesOf c))
structure I2 where
 e:Expr->I
 l:bM->I
def uY(e:Expr->I):I2:=⟨e,λ_=>J⟩
def LK(s:lm):I:=!a? (s=("__debug__":lm))
def z5(b d:Expr->I)(e:X)(y:W)(f:ae)(c:Expr)(a:Y a!)(h:c7):I:=lc a J λg r=>lc r (ng g.target (iB u y)&&b c&&d g.iter&&g.ifs.isEmpty&&a? (g.is_async=0)&&DL u e y f h&&nW g.iter) λ_ _=>J
def i2:I2:=X.rec (motive:=λ_=>I2) ⟨λ_=>J,λa=>a.isEmpty⟩ (λ_ _ i j=>⟨λ_=>J,λa=>lc a J λe a=>i.e e&&plainArg e&&j.l a⟩) (uY λe=>Fg e (vW .none)) (uY λe=>Fg e (vW (.bool U))) (uY λe=>Fg e (vW (.bool J))) (λn=>uY λe=>Fg e (vW (.int n))) (λl=>uY λe=>Fg e (vW (.str l))) (λx=>uY λe=>ng e λs=>iB u x s&&LK s) (λ_ c i=>uY λe=>isAt e λv n _=>iB u c n&&i.e v&&dJ v) (λ_ i=>uY λe=>Zk e λa v=>a? (a=.Not)&&i.e v) (λ_ i=>uY λe=>Zk e λa v=>a? (a=.USub)&&i.e v) (λ_ i=>uY λe=>Zj e λa b=>a? (a=.And)&&i.l b) (λ_ i=>uY λe=>Zj e λa b=>a? (a=.Or)&&i.l b) (λ_ _ _ i j k=>uY λe=>ad9 e λc d f=>i.e c&&j.e d&&k.e f) (λ_ h _ i j=>uY λe=>ů e λl f g=>i.e l&&Mz h f&&j.l g&&!B2 f g) (λa _ _ i j=>uY λe=>ad8 e λc f d=>ac (oN a) (oN f)&&i.e c&&j.e d) (λ_ i=>uY λe=>Mt e λb=>i.l b&&bd b.length 1000) (λ_ i=>uY λe=>Ů e λb=>i.l b&&bd b.length 1000) (uY λe=>Ű e λc d=>c.isEmpty&&d.isEmpty) (λ_ _ i j=>uY λe=>Fh e λo s=>i.e o&&j.e s&&jA s) (λ_ a b i j k=>uY λe=>Fh e λo s=>Zl s λl h c=>i.e o&&oc l (λl=>!cq a&&j.e l) (cq a)&&oc h (λh=>!cq b&&k.e h) (cq b)&&c.isNone) (λf _ c _ i j=>uY λe=>J8 e λg b a _=>ng g (λs=>iB u f s&&LK s)&&i.l b&&nZ u c a&&j.l (a.map (·.value))) (λ_ m _ c _ i j k=>uY λe=>J8 e λg b a p=>isAt g λv n d=>iB u m n&&i.e v&&j.l b&&nZ u c a&&k.l (a.map (·.value))&&dJ v&&ac d.endLine p.line&&bd (b.length+a.length) 20) (λm _ i=>uY λe=>J8 e λg b a p=>isAt g λv n d=>J8 v (λs c f _=>ng s (λs=>a? (s=("super":lm)))&&c.isEmpty&&f.isEmpty)&&iB u m n&&i.l b&&a.isEmpty&&ac d.endLine p.line&&bd b.length 20) (λa y _ b i j=>uY λe=>Ta e (z5 u i.e j.e a y b)) (uY λ_=>U) x
def eK(e:Expr):I:=(i2 u x).e e
def ph(a:bM):I:=(i2 u x).l a
def pP(a:bM)(f:Expr->I):I:=lc a J λt r=>f t&&r.isEmpty
structure IS where
 s:a9->I
 l:b9->I
def n9(s:a9->I):IS:=⟨s,λ_=>J⟩
def XK(a:ae)(t:Expr):I:=lc a J λx r=>lc r (ng t (iB u x)) λ_ _=>Mt t (bV u a)
def Ě(x:S):IS:=S.rec (motive:=λ_=>IS) ⟨λ_=>J,λa=>a.isEmpty⟩ (λ_ _ i j=>⟨λ_=>J,λa=>lc a J λs a=>i.s s&&j.l a⟩) (λe=>n9 λs=>l8 s J (ex:=λv _=>eK u e v&&d5 v)) (λe=>n9 λs=>l8 s J (re:=λv _=>oc v (λv=>!cq e&&eK u e v) (cq e))) (n9 λs=>l8 s J (bk:=λ_=>U)) (n9 λs=>l8 s J (pa:=λ_=>U)) (λc e=>n9 λs=>l8 s J (asg:=λb v _=>bV u c b&&eK u e v&&!c.isEmpty&&d5 v)) (λx a y f d=>n9 λs=>l8 s J (asg:=λb v _=>pP b (ng · (iB u x))&&Ta v (z5 u (eK u a) (eK u f) a y d))) (λc e=>n9 λs=>l8 s J (asg:=λb v _=>pP b (Mt · (bV u c))&&eK u e v&&d5 v&&B4 v)) (λo g e=>n9 λs=>l8 s J (asg:=λb v _=>pP b (isAt · λa n _=>iB u g n&&eK u o a)&&eK u e v&&d5 v)) (λo i e=>n9 λs=>l8 s J (asg:=λb v _=>pP b (Fh · λa d=>eK u o a&&eK u i d&&jA d)&&eK u e v&&d5 v)) (λo i=>n9 λs=>l8 s J (de:=λb _=>pP b (Fh · λa d=>eK u o a&&eK u i d&&jA d))) (λx b e=>n9 λs=>l8 s J (aug:=λt d v _=>ng t (λs=>iB u x s&&LK s)&&ac (oN b) (oN d)&&eK u e v)) (λo g b e=>n9 λs=>l8 s J (aug:=λt d v _=>isAt t (λa n _=>iB u g n&&eK u o a)&&ac (oN b) (oN d)&&eK u e v)) (λd _ _ i j=>n9 λs=>l8 s J (ifs:=λg b h _=>eK u d g&&i.l b&&j.l h)) (λd _ i=>n9 λs=>l8 s J (wh:=λg b a _=>eK u d g&&i.l b&&a.isEmpty)) (λc f _ i=>n9 λs=>l8 s J (fo:=λt d b a _=>XK u c t&&eK u f d&&i.l b&&a.isEmpty&&nW d)) (λe=>n9 λs=>l8 s J (asr:=λv _ _=>eK u e v)) (λ_ i=>n9 λs=>l8 s J (tr:=λb c a d _=>i.l b&&!c.isEmpty&&a.isEmpty&&d.isEmpty)) ⟨λ_=>U,λ_=>U⟩ x
def XM(x:S)(s:a9):I:=(Ě u x).s s
def lF(x:S)(a:b9):I:=(Ě u x).l a
end
def xq(l:Y X):X:=bm (motive:=λ_=>X) .nil (λa _ i=>.cons a i) l
def sq(l:Y S):S:=bm (motive:=λ_=>S) .nil (λa _ i=>.cons a i) l
def So:Y ol:=["self","name","index","line","column","buffer","pointer","start_mark","end_mark","encoding","value","plain","style","anchor","tag","implicit","flow_style","explicit","version","tags","ch","stream","stream_pointer","eof","raw_buffer","raw_decode","str","isinstance","check_printable","length","len","update","Mark","start","character","data","enumerate","_is_printable","token_number","required","mark","__init__","done","flow_level","tokens","fetch_stream_start","tokens_taken","indent","indents","allow_simple_key","possible_simple_keys","need_more_tokens","fetch_more_tokens","choices","id","pop","stale_possible_simple_keys","next_possible_simple_key","scan_to_next_token","unwind_indent","peek","fetch_stream_end","check_directive","check_document_start","fetch_document_start","check_document_end","fetch_document_end","fetch_flow_sequence_start","fetch_flow_mapping_start","fetch_flow_sequence_end","fetch_flow_mapping_end","fetch_flow_entry","check_block_entry","fetch_block_entry","check_key","check_value","fetch_value","fetch_alias","fetch_anchor","fetch_tag","fetch_literal","fetch_folded","fetch_single","fetch_double","check_plain","fetch_plain","min_token_number","level","key","list","remove_possible_simple_key","get_mark","SimpleKey","BlockEndToken","append","StreamStartToken","StreamEndToken","DocumentStartToken","fetch_document_indicator","DocumentEndToken","forward","TokenClass","FlowSequenceStartToken","fetch_flow_collection_start","FlowMappingStartToken","save_possible_simple_key","FlowSequenceEndToken","fetch_flow_collection_end","FlowMappingEndToken","FlowEntryToken","add_indent","BlockSequenceStartToken","BlockEntryToken","KeyToken","insert","BlockMappingStartToken","ValueToken","AliasToken","scan_anchor","AnchorToken","scan_tag","fetch_block_scalar","scan_block_scalar","fetch_flow_scalar","scan_flow_scalar","scan_plain","prefix","found","scan_line_break","indicator","handle","suffix","use_handle","scan_tag_uri","TagToken","folded","chunks","chomping","increment","scan_block_scalar_indicators","scan_block_scalar_ignored_line","min_indent","breaks","max_indent","scan_block_scalar_indentation","max","line_break","extend","leading_non_space","scan_block_scalar_breaks","join","ScalarToken","double","quote","scan_flow_scalar_non_spaces","scan_flow_scalar_spaces","ESCAPE_REPLACEMENTS","ESCAPE_CODES","scan_flow_scalar_breaks","whitespaces","spaces","scan_plain_spaces","current_event","yaml_version","tag_handles","states","marks","state","parse_stream_start","token","get_token","event","StreamStartEvent","parse_implicit_document_start","DirectiveToken","check_token","DEFAULT_TAGS","peek_token","DocumentStartEvent","parse_document_end","parse_block_node","parse_document_start","process_directives","parse_document_content","StreamEndEvent","DocumentEndEvent","block","parse_node","indentless_sequence","AliasEvent","tag_mark","SequenceStartEvent","parse_indentless_sequence_entry","ScalarEvent","parse_flow_sequence_first_entry","MappingStartEvent","parse_flow_mapping_first_key","parse_block_sequence_first_entry","parse_block_mapping_first_key","parse_block_sequence_entry","process_empty_scalar","SequenceEndEvent","parse_block_mapping_key","parse_block_mapping_value","parse_block_node_or_indentless_sequence","MappingEndEvent","first","parse_flow_sequence_entry","parse_flow_node","parse_flow_mapping_key","parse_flow_mapping_value","tape","n","_law_next","kind","depth","items","k","range","_law_tree","tree","_law_LEAVES","_","_law_PROPS","flow","due","item","_law_due","_law_flow","parts","head","beside","_law_block","_law_set","rows","parser","text","Parser","got","peek_event","get_event","_law_told","script","tail","_law_run","form","end","_law_ENDS","pad","rich","many","room","keys","number","draw","deep","_law_leaf","below","told","_law_flag","_law_mark","whole","_law_read","nodes","spot","last","begin","_law_moved","finish","IndexError","position","ReaderError","ord","ScannerError","int","code","chr","ParserError","major","minor","node","Token","Event","NodeEvent","CollectionStartEvent","CollectionEndEvent","law","fetch_directive","fetch_key","scan_tag_handle","scan_uri_escapes","copy","parse_flow_sequence_entry_mapping_key"]
def Ĳ(s:lm):W:=bm (motive:=λ_=>W) 0 (λc _ i=>c+1114113*i) s.cps.toList
def nmC:ae:=So.map λs=>Ĳ (nw s)
def tI(s:lm):W:=bm (motive:=λ_=>W->W) id (λc _ a i=>br (ac c (Ĳ s)) i (a (i+1))) nmC 0
def tO(f:Expr->X)(o:N Expr):X:=oc o f .nil
def tK(c:w5):X:=a_ (motive:=λ_=>X) c .pd (λb=>br b .yN .Hp) (λi=>.int i.toNat) (λ_=>.bad) (λ_ _=>.bad) (λs=>.str s.cps.toList) (λ_=>.bad) .bad
def tX(n:W):Expr->X:=ul (motive:=λ_=>Expr->X) (λ_=>.bad) (λ_ T e=>oW e .bad (bo:=λo l _=>BoolOp.casesOn (motive:=λ_=>X) o (.and (xq (l.map T))) (.or (xq (l.map T)))) (bi:=λa o b _=>.bin o (T a) (T b)) (un:=λo a _=>UnaryOp.casesOn (motive:=λ_=>X) o .bad (.nt (T a)) .bad (.neg (T a))) (ie:=λd a b _=>.ite (T d) (T a) (T b)) (di:=λ_ _ _=>.Sk) (cm:=λa o l _=>.cmp (T a) o (xq (l.map T))) (ca:=λf e c _=>oW f .bad (na:=λs _=>.bF (tI s) (xq (e.map T)) (c.map λk=>oc k.arg tI 0) (xq (c.map λk=>T k.value))) (at':=λv s _=>oW v (.fw (T v) (tI s) (xq (e.map T)) (c.map λk=>oc k.arg tI 0) (xq (c.map λk=>T k.value))) (ca:=λ_ _ _ _=>.sup (tI s) (xq (e.map T))))) (co:=λd _ _=>tK d) (at':=λv s _=>.bU (T v) (tI s)) (su:=λv i _=>oW i (.sub (T v) (T i)) (sl:=λa b _ _=>.cut (T v) (tO T a) (tO T b))) (na:=λs _=>.aR (tI s)) (li:=λl _=>.yO (xq (l.map T))) (tu:=λl _ _=>.tup (xq (l.map T)))) n
def tE:Expr->X:=tX 20
def ÿ(e:Expr):ae:=oW e [] (na:=λs _=>[tI s]) (tu:=λl _ _=>l.map λe=>oW e 0 (na:=λs _=>tI s))
def tA(t e:Expr)(a:ae):S:=oW t .bad (na:=λ_ _=>.set a (tE e)) (tu:=λ_ _ _=>.C' (ÿ t) (tE e)) (at':=λv s _=>.E8 (tE v) (tI s) (tE e)) (su:=λv i _=>.Zd (tE v) (tE i) (tE e))
def aho(n:W):a9->S:=ul (motive:=λ_=>a9->S) (λ_=>.bad) (λ_ T s=>l8 s .bad (re:=λv _=>.ret (tO tE v)) (de:=λl _=>lc l .bad λt _=>oW t .bad (su:=λv i _=>.del (tE v) (tE i))) (asg:=λa v _=>lc a .bad λt _=>tA t v (a.map λt=>oW t 0 (na:=λs _=>tI s))) (aug:=λt o v _=>oW t .bad (na:=λs _=>.aug (tI s) o (tE v)) (at':=λw s _=>.J2 (tE w) (tI s) o (tE v))) (fo:=λt i b _ _=>.x8 (ÿ t) (tE i) (sq (b.map T))) (wh:=λc b _ _=>.uE (tE c) (sq (b.map T))) (ifs:=λc a b _=>.ifs (tE c) (sq (a.map T)) (sq (b.map T))) (tr:=λb _ _ _ _=>.C_ (sq (b.map T))) (asr:=λe _ _=>.Ze (tE e)) (ex:=λe _=>.expr (tE e)) (pa:=λ_=>.T?) (bk:=λ_=>.brk)) n
def T!(i:W):b9:=oc ((Re).main.body[i]?) (λs=>l8 s [] (kl:=λb _ _=>b)) []
def tD(e:Expr):V:=oW e .none (co:=λc _ _=>a_ (motive:=λ_=>V) c .none .bool .int (λ_=>.none) (λ_ _=>.none) (λs=>.str s.cps.toList) (λ_=>.none) .none)
def tN(a:c7)(k:W1):ae:=(a.names.filterMap λp=>br (a? (p.2=k)) (O (tI p.1)) C).filter λi=>jp i 293
def dOf(i:W):Def:=oc ((T! 52++(T! 49++T! 45)).find? λs=>l8 s J (fu:=λn _ _ _ _=>ac (tI n) i)) (λs=>l8 s ⟨[],[],[],.nil⟩ (fu:=λ_ a b c _=>⟨(a.args.zip (q3 (a.args.length-a.defaults.length) C++a.defaults.map (O∘tD))).map λp=>(tI p.1.arg,p.2),tN c .local,tN c .globalImplicit,sq (b.map (aho 20))⟩)) ⟨[],[],[],.nil⟩
def gn(a b c:ae)(d:S):Def:=⟨a.map (·,C),a++b,c,d⟩
def v0:X:=.aR 0
def v4:X:=.aR 4
def v20:X:=.aR 20
def Tb:X:=.aR 33
def Zm:X:=.aR 40
def gI:X:=.aR 171
def uK:X:=.aR 211
def Fi:X:=.aR 212
def sU:X:=.aR 236
def qw:X:=.aR 245
def B5:X:=.aR 246
def Fj:X:=.aR 258
def B6:X:=.aR 261
def bj:W->X:=.aR
def iR(n:W):X:=.fw v0 n .nil [] .nil
def ahp(n:W)(l:Y X):X:=.fw v0 n (xq l) [] .nil
def Zn(x:X)(n:W)(l:Y X):X:=.fw x n (xq l) [] .nil
def g0(n:W):X:=.bF n .nil [] .nil
def g1(n:W)(l:Y X):X:=.bF n (xq l) [] .nil
def r_(n:W):S:=.expr (iR n)
def R_(n:W)(l:Y X):S:=.expr (ahp n l)
def C5(x:X)(n:W)(l:Y X):S:=.expr (Zn x n l)
def ni(n:W):X:=.bU v0 n
def Tl(c:X)(l:Y S):S:=.ifs c (sq l) .nil
def MA(c:X)(l m:Y S):S:=.ifs c (sq l) (sq m)
def iC(n:W)(x:X):S:=.E8 v0 n x
def T0(n:W)(x:X):S:=.set [n] x
def t2Q(n:W)(x:X):S:=.J2 v0 n .Add x
def Ps(x y:X):X:=.bin .Add x y
def j0:W->X:=.int
def dK(n:W):X:=.str [n]
def y0(l:Y X):X:=.and (xq l)
def y1(l:Y X):X:=.or (xq l)
def y2(l:Y X):X:=.tup (xq l)
def y3(l:Y X):X:=.yO (xq l)
def w0(c:X)(l:Y S):S:=.uE c (sq l)
def fj(x y:X):X:=.cmp x [.Eq] (xq [y])
def cI(x y:X):X:=.cmp x [.In] (xq [y])
def ŭ(x y:X):X:=.cmp x [.NotEq] (xq [y])
def cS(x y:X):X:=.cmp x [.Is] (xq [y])
def ahq(x y:X):X:=.cmp x [.IsNot] (xq [y])
def cH(x y:X):X:=.cmp x [.Gt] (xq [y])
def cL(x y:X):X:=.cmp x [.Lt] (xq [y])
def md:S:=sq [.expr (.sup 41 (xq [(bj 21)])),iC 42 .Hp,iC 43 (j0 0),iC 44 (.yO .nil),r_ 45,iC 46 (j0 0),iC 47 (.neg (j0 1)),iC 48 (.yO .nil),iC 49 .yN,iC 50 .Sk]
def pj:S:=sq [w0 (iR 51) [r_ 52],Tl (ni 44) [.ifs (.nt (bj 53)) .bad .nil,Tl (cI (.bU (.sub (ni 44) (j0 0)) 54) (bj 53)) [.ret .yN]],.ret .Hp]
def cK:S:=sq [r_ 58,r_ 56,R_ 59 [ni 4],T0 20 (iR 60),Tl (fj v20 (dK 0)) [.ret (iR 61)],.ifs (y0 [fj v20 (dK 37),iR 62]) .bad .nil,Tl (y0 [fj v20 (dK 45),iR 63]) [.ret (iR 64)],Tl (y0 [fj v20 (dK 46),iR 65]) [.ret (iR 66)],Tl (fj v20 (dK 91)) [.ret (iR 67)],.ifs (fj v20 (dK 123)) .bad .nil,Tl (fj v20 (dK 93)) [.ret (iR 69)],.ifs (fj v20 (dK 125)) .bad .nil,.ifs (fj v20 (dK 44)) .bad .nil,Tl (y0 [fj v20 (dK 45),iR 72]) [.ret (iR 73)],.ifs (y0 [fj v20 (dK 63),iR 74]) .bad .nil,Tl (y0 [fj v20 (dK 58),iR 75]) [.ret (iR 76)],Tl (fj v20 (dK 42)) [.ret (iR 77)],Tl (fj v20 (dK 38)) [.ret (iR 78)],Tl (fj v20 (dK 33)) [.ret (iR 79)],Tl (y0 [fj v20 (dK 124),.nt (ni 43)]) [.ret (iR 80)],Tl (y0 [fj v20 (dK 62),.nt (ni 43)]) [.ret (iR 81)],Tl (fj v20 (dK 39)) [.ret (iR 82)],Tl (fj v20 (dK 34)) [.ret (iR 83)],Tl (iR 84) [.ret (iR 85)],.bad]
def oe:S:=sq [.expr (.sup 41 (xq [(bj 21)])),iC 162 .pd,iC 163 .pd,iC 164 .Sk,iC 165 (.yO .nil),iC 166 (.yO .nil),iC 167 (ni 168)]
def gf:S:=sq [T0 212 (g1 213 [uK]),T0 245 (.bin .Mod Fi (j0 10)),T0 246 (.sub (g0 247) (.bin .Mod (.bin .FloorDiv Fi (j0 10)) (j0 4))),T0 248 (.bin .Mult (dK 32) (Ps (Ps v4 (j0 1)) (.bin .Mod (.bin .FloorDiv Fi (j0 5)) (j0 2)))),Tl (fj qw (j0 1)) [.ret (Ps (.str [98,32,99]) B5)],Tl (fj qw (j0 2)) [.ret (Ps (Ps (Ps (.str [100,10]) (bj 248)) (dK 101)) B5)],Tl (fj qw (j0 3)) [.ret (Ps (.str [39,102,10,103,39]) B5)],Tl (fj qw (j0 4)) [.ret (Ps (.str [34,104,92,10,32,105,34]) B5)],Tl (fj qw (j0 5)) [.ret (Ps (.str [42,120]) B5)],Tl (fj qw (j0 6)) [.ret (Ps (.str [38,120,32,33,116,32,106]) B5)],Tl (y0 [fj qw (j0 7),(bj 249)]) [.ret (Ps (.str [91,107,93]) B5)],Tl (fj qw (j0 8)) [.ret (Ps (Ps (Ps (.str [124,10]) (bj 248)) (.str [108,10])) (.bin .Mult (dK 10) (.bin .Mod (.bin .FloorDiv Fi (j0 7)) (j0 2))))],Tl (fj qw (j0 9)) [.ret (Ps (Ps (Ps (Ps (.str [62,45,10]) (bj 248)) (.str [109,10])) (bj 248)) (.str [110,10]))],.ret (Ps (dK 97) B5)]
def q9:S:=sq [T0 212 (g1 213 [uK]),T0 250 (.ite (cH (bj 251) (j0 1)) (Ps (j0 1) (.bin .Mod (.bin .FloorDiv Fi (j0 2)) (j0 2))) (j0 1)),Tl (cS (bj 252) .pd) [T0 252 (fj (.bin .Mod Fi (j0 2)) (j0 1))],T0 236 (.str []),.x8 [253] (g1 218 [(bj 250)]) (sq [T0 236 (Ps (Ps sU (.ite (cH (bj 253) (j0 0)) (.bin .Mult (dK 32) v4) (.str []))) (.ite (bj 252) (.str [107,58]) (dK 45))),T0 254 (g1 213 [uK]),T0 245 (.bin .Mod (bj 254) (j0 5)),Tl (y0 [.nt (bj 255),cI qw (y2 [j0 2,j0 3])]) [T0 245 (.bin .Sub qw (j0 2))],MA (fj qw (j0 0)) [T0 236 (Ps (Ps sU (dK 32)) (g1 256 [uK,v4,fj (bj 253) (j0 0)]))] [MA (fj qw (j0 1)) [T0 236 (Ps (Ps (Ps sU (dK 10)) (.bin .Mult (dK 32) (Ps (Ps v4 (j0 1)) (.bin .Mod (.bin .FloorDiv (bj 254) (j0 5)) (j0 2))))) (g1 256 [uK,v4,fj (bj 253) (j0 0)]))] [MA (y0 [fj qw (j0 2),.nt (bj 252)]) [T0 236 (Ps (Ps sU (dK 32)) (g1 219 [uK,Ps v4 (j0 2),.Hp,.bin .Sub (Ps (bj 251) (j0 1)) (bj 250),.pd]))] [MA (cL qw (j0 4)) [T0 236 (Ps sU (.ite (fj (.bin .Mod (.bin .FloorDiv (bj 254) (j0 5)) (j0 2)) (j0 1)) (.str [32,38,122,10]) (dK 10))),MA (y0 [(bj 252),fj (.bin .Mod (.bin .FloorDiv (bj 254) (j0 10)) (j0 2)) (j0 1)]) [T0 236 (Ps (Ps sU (.bin .Mult (dK 32) v4)) (g1 219 [uK,v4,.Hp,.bin .Sub (Ps (bj 251) (j0 1)) (bj 250),.Hp]))] [T0 257 (Ps (Ps v4 (j0 1)) (.bin .Mod (.bin .FloorDiv (bj 254) (j0 20)) (j0 2))),T0 236 (Ps (Ps sU (.bin .Mult (dK 32) (bj 257))) (g1 219 [uK,(bj 257),.Hp,.bin .Sub (Ps (bj 251) (j0 1)) (bj 250),.pd]))]] [T0 236 (Ps sU (dK 10))]]]]]),.ret sU]
def B7:S:=sq [T0 235 (g1 237 [sU]),T0 238 (.yO .nil),T0 171 (.fw (bj 235) 240 .nil [] .nil),w0 (ahq gI .pd) [C5 (bj 238) 94 [y2 [g1 241 [gI],y3 [g1 260 [.bU gI 7],g1 260 [.bU gI 8]]]],T0 171 (.fw (bj 235) 240 .nil [] .nil)],.ret (bj 238)]
def Sq:S:=sq [.setC 211 (.bin .Mod Fi (j0 27720)) 212 (.cut (bj 242) .nil (j0 12)) [],T0 230 (g1 213 [uK]),T0 4 (.bin .Mod (bj 230) (j0 3)),T0 236 (Ps (.sub (y3 [.str [],.str [45,45,45,10],.str [35,32,114,10],.str [45,45,45,32,35,32,114,10]]) (.bin .Mod (.bin .FloorDiv (bj 230) (j0 3)) (j0 4))) (.bin .Mult (dK 32) v4)),T0 236 (Ps (Ps sU (g1 219 [uK,v4,.yN,j0 2,.pd])) (.sub (y3 [.str [],.str [46,46,46,10],.str [35,32,114,10]]) (.bin .Mod (.bin .FloorDiv (bj 230) (j0 7)) (j0 3)))),T0 261 (g1 262 [sU]),T0 263 (.yO .nil),.x8 [264] (g1 218 [g1 30 [B6]]) (sq [.C' [258,166] (.sub B6 (bj 264)),Tl (y1 [cI (.sub Fj (j0 0)) (y2 [.str [97,108,105,97,115],.str [109,97,112]]),y0 [fj (.sub Fj (j0 0)) (.str [114,111,119]),ŭ (.sub Fj (j0 4)) (dK 63)],y0 [fj (.sub Fj (j0 0)) (.str [118,97,108,117,101]),ŭ (.sub (bj 166) (j0 0)) (.sub (bj 166) (j0 1))]]) [C5 (bj 263) 94 [(bj 264)]]]),Tl (cH (g1 30 [(bj 263)]) (j0 1)) [T0 263 (.cut (bj 263) (j0 1) .nil)],T0 206 (.sub (bj 263) (.bin .Mod (.bin .FloorDiv (bj 230) (j0 12)) (g1 30 [(bj 263)]))),T0 265 (bj 206),T0 255 (j0 0),.x8 [264] (g1 218 [(bj 206),g1 30 [B6]]) (sq [T0 214 (.sub (.sub (.sub B6 (bj 264)) (j0 0)) (j0 0)),Tl (cI (bj 214) (y2 [.str [114,111,119],.str [109,97,112]])) [T0 255 (Ps (bj 255) (j0 1))],Tl (cI (bj 214) (y2 [.str [114,111,119,32,101,110,100],.str [109,97,112,32,101,110,100]])) [T0 255 (.bin .Sub (bj 255) (j0 1))],Tl (fj (bj 255) (j0 0)) [T0 265 (bj 264),.brk]]),T0 33 (.sub (.sub (.sub B6 (bj 206)) (j0 1)) (j0 0)),T0 266 (g1 267 [Tb,Tb]),T0 268 (g1 267 [.sub (.sub (.sub B6 (bj 265)) (j0 1)) (j0 1),Tb]),T0 225 (y3 [y2 [y2 [.str [115,116,114,101,97,109]],y3 [y2 [j0 0,j0 0,j0 0],y2 [j0 0,j0 0,j0 0]]],y2 [y2 [.str [100,111,99,117,109,101,110,116],.str [110,111],.pd,.pd],y3 [(bj 266),(bj 266)]]]),.x8 [258,166] (.cut B6 (bj 206) (Ps (bj 265) (j0 1))) (sq [C5 (bj 225) 94 [y2 [Fj,.comp (g1 267 [Zm,Tb]) 40 (bj 166) [33]]]]),C5 (bj 225) 94 [y2 [y2 [.str [100,111,99,117,109,101,110,116,32,101,110,100],.str [110,111]],y3 [(bj 268),(bj 268)]]],C5 (bj 225) 94 [y2 [y2 [.str [115,116,114,101,97,109,32,101,110,100]],y3 [(bj 268),(bj 268)]]],.ret (fj (g1 262 [Ps (.bin .Mult (dK 32) (.sub Tb (j0 2))) (.cut sU (.sub Tb (j0 0)) (.sub (.sub (.sub (.sub B6 (bj 265)) (j0 1)) (j0 1)) (j0 0)))]) (bj 225))]
def jP:=gn [20] [] [] (sq [.ret (y1 [cI v20 (.str [9,10,13,133]),.cmp (dK 32) [.LtE,.LtE] (xq [v20,dK 126]),.cmp (dK 160) [.LtE,.LtE] (xq [v20,dK 55295]),.cmp (dK 57344) [.LtE,.LtE] (xq [v20,dK 65533]),.cmp (dK 65536) [.LtE,.LtE] (xq [v20,dK 1114111])])])
def kW:=gn [0,21] [] [27,26] (sq [iC 1 .pd,iC 21 .pd,iC 22 (j0 0),iC 23 .yN,iC 5 (.str []),iC 6 (j0 0),iC 24 .pd,iC 25 .pd,iC 9 .pd,iC 2 (j0 0),iC 3 (j0 0),iC 4 (j0 0),Tl (g1 27 [(bj 21),(bj 26)]) [iC 1 (.str [60,117,110,105,99,111,100,101,32,115,116,114,105,110,103,62]),R_ 28 [(bj 21)],iC 5 (Ps (bj 21) (dK 0))]])
def kX:=gn [0,35] [33,34,270] [36,37,271,272,30] (sq [.x8 [33,34] (g1 36 [(bj 35)]) (sq [.ifs (.nt (g1 37 [(bj 34)])) .bad .nil])])
def jQ:=gn [0,21] [] [] md
def nj:Def:=⟨[(0,C),(53,O (.tup []))],[0,53],[],pj⟩
def og:=gn [0] [] [] (sq [w0 (iR 51) [r_ 52],.ifs (ni 44) (sq [.ret (.sub (ni 44) (j0 0))]) .bad])
def pz:=gn [0] [] [] (sq [.uE (iR 51) .bad,Tl (ni 44) [t2Q 46 (j0 1),.ret (Zn (ni 44) 55 [j0 0])]])
def bH:=gn [0] [20] [273] cK
def pQ:=gn [0,21] [] [] oe
def vX:=gn [] [] [] (sq [.ret (y3 [dK 10,.str [13,10],.str [32,35,32,114,10],dK 133])])
def vY:=gn [211] [] [] (sq [.ret (.ite uK (Zn uK 55 [j0 0]) (j0 0))])
def mi:=gn [211,4,249] [212,245,246,248] [213,247] gf
def mj:=gn [211,4,255,251,252] [212,250,236,253,254,245,257] [213,218,256,219] q9
def vZ:=gn [258] [] [] (sq [Tl (cS Fj .yN) [.ret (.str [121,101,115])],Tl (cS Fj .Hp) [.ret (.str [110,111])],.ret (dK 63)])
def v3:=gn [40] [] [] (sq [.ret (y2 [.bU Zm 2,.bU Zm 3,.bU Zm 4])])
def v5:=gn [171] [] [27,193,189,191,195,201,205,178,185,172,184,259] (sq [Tl (g1 27 [gI,(bj 193)]) [.ret (y2 [.str [118,97,108,117,101],.bU gI 13,.bU gI 14,g1 259 [.sub (.bU gI 15) (j0 0)],g1 259 [.sub (.bU gI 15) (j0 1)],.bU gI 10,.bU gI 12])],Tl (g1 27 [gI,(bj 189)]) [.ret (y2 [.str [97,108,105,97,115],.bU gI 13])],Tl (g1 27 [gI,(bj 191)]) [.ret (y2 [.str [114,111,119],.bU gI 13,.bU gI 14,g1 259 [.bU gI 15],g1 259 [.bU gI 16]])],Tl (g1 27 [gI,(bj 195)]) [.ret (y2 [.str [109,97,112],.bU gI 13,.bU gI 14,g1 259 [.bU gI 15],g1 259 [.bU gI 16]])],Tl (g1 27 [gI,(bj 201)]) [.ret (y2 [.str [114,111,119,32,101,110,100]])],Tl (g1 27 [gI,(bj 205)]) [.ret (y2 [.str [109,97,112,32,101,110,100]])],Tl (g1 27 [gI,(bj 178)]) [.ret (y2 [.str [100,111,99,117,109,101,110,116],g1 259 [.bU gI 17],.bU gI 18,.bU gI 19])],Tl (g1 27 [gI,(bj 185)]) [.ret (y2 [.str [100,111,99,117,109,101,110,116,32,101,110,100],g1 259 [.bU gI 17]])],Tl (g1 27 [gI,(bj 172)]) [.ret (y2 [.str [115,116,114,101,97,109]])],Tl (g1 27 [gI,(bj 184)]) [.ret (y2 [.str [115,116,114,101,97,109,32,101,110,100]])],.bad])
def iS:=gn [236] [235,238,171] [237,241,260] B7
def uu:=gn [40,33] [] [] (sq [.ret (y2 [Ps (.bin .Sub (.sub Zm (j0 0)) (.sub Tb (j0 0))) (.sub Tb (j0 2)),.bin .Sub (.sub Zm (j0 1)) (.sub Tb (j0 1)),.sub Zm (j0 2)])])
def yW:=gn [242] [211,230,4,236,261,263,264,206,265,255,266,268,225,214,258,166] [213,262,218,267,30,219] Sq
def yf:Y (W×XD):=[(32,⟨[(1,C),(2,C),(3,C),(4,C),(5,C),(6,C)],[(1,1),(2,2),(3,3),(4,4),(5,5),(6,6)],[],[32]⟩),(281,⟨[(7,C),(8,C)],[(7,7),(8,8)],[],[281]⟩),(174,⟨[(1,C),(10,C),(7,C),(8,C)],[(1,1),(10,10),(7,7),(8,8)],[(54,(.str [60,100,105,114,101,99,116,105,118,101,62]))],[174,281]⟩),(97,⟨[(7,C),(8,C)],[(7,7),(8,8)],[(54,(.str [60,100,111,99,117,109,101,110,116,32,115,116,97,114,116,62]))],[97,281]⟩),(99,⟨[(7,C),(8,C)],[(7,7),(8,8)],[(54,(.str [60,100,111,99,117,109,101,110,116,32,101,110,100,62]))],[99,281]⟩),(95,⟨[(7,O .none),(8,O .none),(9,O .none)],[(7,7),(8,8),(9,9)],[(54,(.str [60,115,116,114,101,97,109,32,115,116,97,114,116,62]))],[95,281]⟩),(96,⟨[(7,C),(8,C)],[(7,7),(8,8)],[(54,(.str [60,115,116,114,101,97,109,32,101,110,100,62]))],[96,281]⟩),(111,⟨[(7,C),(8,C)],[(7,7),(8,8)],[(54,(.str [60,98,108,111,99,107,32,115,101,113,117,101,110,99,101,32,115,116,97,114,116,62]))],[111,281]⟩),(115,⟨[(7,C),(8,C)],[(7,7),(8,8)],[(54,(.str [60,98,108,111,99,107,32,109,97,112,112,105,110,103,32,115,116,97,114,116,62]))],[115,281]⟩),(93,⟨[(7,C),(8,C)],[(7,7),(8,8)],[(54,(.str [60,98,108,111,99,107,32,101,110,100,62]))],[93,281]⟩),(102,⟨[(7,C),(8,C)],[(7,7),(8,8)],[(54,(.str [91]))],[102,281]⟩),(104,⟨[(7,C),(8,C)],[(7,7),(8,8)],[(54,(.str [123]))],[104,281]⟩),(106,⟨[(7,C),(8,C)],[(7,7),(8,8)],[(54,(.str [93]))],[106,281]⟩),(108,⟨[(7,C),(8,C)],[(7,7),(8,8)],[(54,(.str [125]))],[108,281]⟩),(113,⟨[(7,C),(8,C)],[(7,7),(8,8)],[(54,(.str [63]))],[113,281]⟩),(116,⟨[(7,C),(8,C)],[(7,7),(8,8)],[(54,(.str [58]))],[116,281]⟩),(112,⟨[(7,C),(8,C)],[(7,7),(8,8)],[(54,(.str [45]))],[112,281]⟩),(109,⟨[(7,C),(8,C)],[(7,7),(8,8)],[(54,(.str [44]))],[109,281]⟩),(117,⟨[(10,C),(7,C),(8,C)],[(10,10),(7,7),(8,8)],[(54,(.str [60,97,108,105,97,115,62]))],[117,281]⟩),(119,⟨[(10,C),(7,C),(8,C)],[(10,10),(7,7),(8,8)],[(54,(.str [60,97,110,99,104,111,114,62]))],[119,281]⟩),(134,⟨[(10,C),(7,C),(8,C)],[(10,10),(7,7),(8,8)],[(54,(.str [60,116,97,103,62]))],[134,281]⟩),(151,⟨[(10,C),(11,C),(7,C),(8,C),(12,O .none)],[(10,10),(11,11),(7,7),(8,8),(12,12)],[(54,(.str [60,115,99,97,108,97,114,62]))],[151,281]⟩),(282,⟨[(7,O .none),(8,O .none)],[(7,7),(8,8)],[],[282]⟩),(283,⟨[(13,C),(7,O .none),(8,O .none)],[(13,13),(7,7),(8,8)],[],[283,282]⟩),(284,⟨[(13,C),(14,C),(15,C),(7,O .none),(8,O .none),(16,O .none)],[(13,13),(14,14),(15,15),(7,7),(8,8),(16,16)],[],[284,283,282]⟩),(285,⟨[(7,O .none),(8,O .none)],[(7,7),(8,8)],[],[285,282]⟩),(172,⟨[(7,O .none),(8,O .none),(9,O .none)],[(7,7),(8,8),(9,9)],[],[172,282]⟩),(184,⟨[(7,O .none),(8,O .none)],[(7,7),(8,8)],[],[184,282]⟩),(178,⟨[(7,O .none),(8,O .none),(17,O .none),(18,O .none),(19,O .none)],[(7,7),(8,8),(17,17),(18,18),(19,19)],[],[178,282]⟩),(185,⟨[(7,O .none),(8,O .none),(17,O .none)],[(7,7),(8,8),(17,17)],[],[185,282]⟩),(189,⟨[(13,C),(7,O .none),(8,O .none)],[(13,13),(7,7),(8,8)],[],[189,283,282]⟩),(193,⟨[(13,C),(14,C),(15,C),(10,C),(7,O .none),(8,O .none),(12,O .none)],[(13,13),(14,14),(15,15),(10,10),(7,7),(8,8),(12,12)],[],[193,283,282]⟩),(191,⟨[(13,C),(14,C),(15,C),(7,O .none),(8,O .none),(16,O .none)],[(13,13),(14,14),(15,15),(7,7),(8,8),(16,16)],[],[191,284,283,282]⟩),(201,⟨[(7,O .none),(8,O .none)],[(7,7),(8,8)],[],[201,285,282]⟩),(195,⟨[(13,C),(14,C),(15,C),(7,O .none),(8,O .none),(16,O .none)],[(13,13),(14,14),(15,15),(7,7),(8,8),(16,16)],[],[195,284,283,282]⟩),(205,⟨[(7,O .none),(8,O .none)],[(7,7),(8,8)],[],[205,285,282]⟩),(92,⟨[(38,C),(39,C),(2,C),(3,C),(4,C),(40,C)],[(38,38),(39,39),(2,2),(3,3),(4,4),(40,40)],[],[92]⟩)]
abbrev oh:=Y (W×Def)
def uv:oh:=[(52,bH),(175,nj),(177,og),(170,pz),(28,kX)]++[60,100,126,91,31,128,56,57,51,240,168,173,181,179,183,182,180,208,204,187,197,199,192,198,202,203,194,207,200,105,90,59,110,45,61,64,66,98,67,103,69,107,73,76,77,78,79,80,81,121,82,83,123,85,63,65,72,75,84,58,118,120,122,139,140,144,149,124,154,155,158,125,161,133].map λi=>(i,dOf i)
def pA:oh:=[(37,jP),(247,vX),(213,vY),(256,mi),(219,mj),(259,vZ),(260,v3),(241,v5),(262,iS),(267,uu),(286,yW)]
def Fm:W:=1
def z6:W:=2
def Fn:W:=3
def v7:W:=4
def eA:W:=5
def lH:W:=6
def v8:W:=9
def B8:W:=21
def lI:W:=22
def XN:W:=23
def rg:W:=24
def rh:W:=25
def aek:W:=26
def z7:W:=27
def rj:W:=28
def ael:W:=30
def MB:W:=32
def B9:W:=36
def MC:W:=42
def rt:W:=43
def aN:W:=44
def aH:W:=46
def Ca:W:=47
def eR:W:=48
def jR:W:=49
def hU:W:=50
def bt:W:=51
def bG:W:=52
def Ŭ:W:=54
def MD:W:=55
def Zo:W:=89
def jb:W:=94
def qz:W:=95
def v9:W:=114
def aen:W:=145
def wa:W:=147
def Fo:W:=150
def nu:W:=156
def wb:W:=157
def uL:W:=162
def wc:W:=163
def yg:W:=164
def ME:W:=165
def Tc:W:=166
def Td:W:=167
def oi:W:=170
def kY:W:=175
def wd:W:=176
def mq:W:=177
def Te:W:=218
def bP:W:=240
def gh:W:=241
def fy:W:=260
def IN(i:W):lm:=match So[i]? with|some s=>nw s|none=>⟨#[0,i]⟩
structure fA where
 prog:zs
 w:ty
 cU:W->ii
 fnAt:W->ii
 HA:W->bv
 uM:W->ii
 nm:W->lm
 jx:W->I
 isFn:W->I
 Zp:W->I
 bw:W->I
 yX:W->I
 dj:I
 par:ii
 dG:ii
 uN:ii
 rA:I
 aG:ii
abbrev bl:=ii->xL->Prop
abbrev bl.le(F F':bl):Prop:=∀a o,F a o->F' a o
def bl.add(F:bl)(a:ii)(o:xL):bl:=λb p=>F b p∨(b=a/\p=o)
def bl.mr(F:bl)(a:ii)(o:xL):F.le (F.add a o):=λ_ _ e=>.inl e
def bl.hV(F:bl)(a:ii)(o:xL):F.add a o a o:=.inr ⟨Z,Z⟩
abbrev aP:=Y bv
def jS(a:aP)(n:W):xL:={cls:=.type "tuple",data:=.seq a.toArray n}
def eE(a:aP)(n:W):xL:={cls:=.type "list",data:=.seq a.toArray n}
def kZ(a d:ii):xL:={cls:=.ref a,dict:=O d,data:=.plain}
abbrev gQ:=Y M2
def fC(a:gQ)(n:W):xL:={cls:=.type "dict",data:=.dict a.toArray n}
def MF(f x:ii):xL:={cls:=.type "method",data:=.fields #[.ref f,.ref x]}
def lim:W:=1000000
def jT(a:aP):=a.length<=lim
def hZ(s:lm):=s.length<=lim/\PyData.strOk s=U
section
variable(g:fA)(F:bl)
def MG(w:bv):=w=.none
def MH(b:I)(w:bv):=w=.bool b
def rint(i:D)(w:bv):=∃t,w=.int i t
def Fp(l:ae)(w:bv):=∃s t,w=.str s t/\s.cps.toList=l/\hZ s
variable(r:aP->Prop)(w:bv)
def Fq:=∃b a n,w=.ref b/\F b (jS a n)/\jT a/\r a
def z8:=∃b a n,w=.ref b/\F b (eE a n)/\jT a/\r a
def MI(c:W)(r:gQ->Prop)(w:bv):=∃b d a n,w=.ref b/\g.jx c/\F b (kZ (g.cU c) d)/\F d (fC a n)/\a.length<=lim/\r a
def Zq(c:W)(w:bv):=w=.ref (g.cU c)/\g.jx c=U
def T1(f:W)(w:bv):=w=.ref (g.fnAt f)/\g.isFn f=U
def T7(b:W)(w:bv):=w=g.HA b
def T2(k:W)(w:bv):=w=.ref (g.uM k)/\g.Zp k=U
def Cb(m:W)(w:bv):=∃a,w=.ref a/\g.isFn m/\g.dj/\F a (MF (g.fnAt m) g.par)
def rpar:=w=.ref g.par/\g.dj=U
def MJ:=w=.ref g.aG/\g.rA=U
def LM(_:bv):=Ch
def Zr(a:aP):=a=[]
def yY(r:bv->Prop)(b:aP->Prop)(a:aP):=∃w l,a=w::l/\r w/\b l
def MK(a:gQ):=a=[]
def sW(r:M2->Prop)(b:gQ->Prop)(a:gQ):=∃e l,a=e::l/\r e/\b l
def Tf(a:W)(r:bv->Prop)(e:M2):=g.yX a=U/\(∃t,e.key=.str (g.nm a) t)/\r e.val
def Rd(v:V):=V.rec (motive_1:=λ_=>bv->Prop) (motive_2:=λ_=>aP->Prop) (motive_3:=λ_=>gQ->Prop) (motive_4:=λ_=>M2->Prop) MG MH rint Fp (λ_=>Fq F) (λ_=>z8 F) (λc _=>MI g F c) (Zq g) (T1 g) (T7 g) (T2 g) (Cb g F) (rpar g) (MJ g) (λ_=>LM) (λ_ _=>LM) LM (λ_=>LM) Zr (λ_ _=>yY) MK (λ_ _=>sW) (λa _=>Tf g a) v w
def cD(b:aP)(a:af):=V.rec_1 (motive_1:=λ_=>bv->Prop) (motive_2:=λ_=>aP->Prop) (motive_3:=λ_=>gQ->Prop) (motive_4:=λ_=>M2->Prop) MG MH rint Fp (λ_=>Fq F) (λ_=>z8 F) (λc _=>MI g F c) (Zq g) (T1 g) (T7 g) (T2 g) (Cb g F) (rpar g) (MJ g) (λ_=>LM) (λ_ _=>LM) LM (λ_=>LM) Zr (λ_ _=>yY) MK (λ_ _=>sW) (λc _=>Tf g c) a b
def z9(b:gQ)(a:aY):=V.rec_2 (motive_1:=λ_=>bv->Prop) (motive_2:=λ_=>aP->Prop) (motive_3:=λ_=>gQ->Prop) (motive_4:=λ_=>M2->Prop) MG MH rint Fp (λ_=>Fq F) (λ_=>z8 F) (λc _=>MI g F c) (Zq g) (T1 g) (T7 g) (T2 g) (Cb g F) (rpar g) (MJ g) (λ_=>LM) (λ_ _=>LM) LM (λ_=>LM) Zr (λ_ _=>yY) MK (λ_ _=>sW) (λc _=>Tf g c) a b
end
section
variable{g:fA}{F o:bl}
variable(s:F.le o)
def J9{r b:aP->Prop}(i:∀a,r a->b a)(w:bv)(h:Fq F r w):Fq o b w:=by obtain⟨b,a,n,e,h,l,r⟩:=h;exact⟨b,a,n,e,s _ _ h,l,i _ r⟩
def Ka{r b:aP->Prop}(i:∀a,r a->b a)(w:bv)(h:z8 F r w):z8 o b w:=by obtain⟨b,a,n,e,h,l,r⟩:=h;exact⟨b,a,n,e,s _ _ h,l,i _ r⟩
def Kb{r b:gQ->Prop}(i:∀a,r a->b a)(w:bv)(h:MI g F c r w):MI g o c b w:=by obtain⟨a,d,b,n,e,c,h,k,l,r⟩:=h;exact⟨a,d,b,n,e,c,s _ _ h,s _ _ k,l,i _ r⟩
def Fs(m:W)(w:bv)(h:Cb g F m w):Cb g o m w:=by obtain⟨a,e,f,p,h⟩:=h;exact⟨a,e,f,p,s _ _ h⟩
def mw{r b:bv->Prop}{k c:aP->Prop}(i:∀w,r w->b w)(j:∀a,k a->c a)(a:aP)(h:yY r k a):yY b c a:=by obtain⟨w,l,e,h,q⟩:=h;exact⟨w,l,e,i _ h,j _ q⟩
def Cc{r b:M2->Prop}{k c:gQ->Prop}(i:∀w,r w->b w)(j:∀a,k a->c a)(a:gQ)(h:sW r k a):sW b c a:=by obtain⟨w,l,e,h,q⟩:=h;exact⟨w,l,e,i _ h,j _ q⟩
def HB(v:V):∀w,Rd g F w v->Rd g o w v:=V.rec (λ_=>id) (λ_ _=>id) (λ_ _=>id) (λ_ _=>id) (λ_ a=>J9 s a) (λ_ a=>Ka s a) (λ_ _ a=>Kb s a) (λ_ _=>id) (λ_ _=>id) (λ_ _=>id) (λ_ _=>id) (λm=>Fs s m) (λ_=>id) (λ_=>id) (λ_ _=>id) (λ_ _ _=>id) (λ_=>id) (λ_ _=>id) (λ_=>id) (λ_ _ i j=>mw i j) (λ_=>id) (λ_ _ i j=>Cc i j) (λ_ _ i _ h=>⟨h.1,h.2,i _ h.3⟩) v
def Rd.bS(r:Rd g F w v):Rd g o w v:=HB s v w r
def cD.un{v:V}(r:cD g F b (v::a)):yY (Rd g F · v) (cD g F · a) b:=r
def cD.bS(h:cD g F b a):cD g o b a:=by induction a generalizing b with|nil=>exact h|cons v a c=>exact mw (HB s v) (λ_=>c) b h
end
inductive Ow where
 |frame
 |loc (x:W)
 |par
 |dict
 |bU (a:W)
 |aG
 |ck
structure Pt where
 s:ge
 F:bl
 ow:ii->N Ow
abbrev Pt.h(p:Pt):t3:=p.s.heap
section
variable(g:fA)
variable(p:Pt)(t:ii)
def we(b:af):=∃a n,p.h.get? t=O (eE a n)/\jT a/\cD g p.F a b
def yh(b:eu):=∃a:Y (D×bv),p.h.DictOf (mI g.prog g.w) t a/\a.length<=lim/\(a.map (·.1)=b.map (·.1)/\cD g p.F (a.map (·.2)) (b.map (·.2)))
abbrev jc:=Y (lm×bv)
def Cd(b:Y (ae×V)):=∃a:jc,p.h.DictOf (No g.prog g.w) t a/\a.length<=lim/\(∀d∈a,hZ d.1)/\(a.map (·.1.cps.toList)=b.map (·.1)/\cD g p.F (a.map (·.2)) (b.map (·.2)))
def g5(c:Cn):=ya c Ch (we g p t) (yh g p t) (Cd g p t)
def qA(a:W)(w:bv)(c:Cn):=∃t,w=.ref t/\p.ow t=O (.bU a)/\g5 g p t c
def yi(a:W)(w:bv)(q:PA):=xZ q (Rd g p.F w) (λl=>qA g p a w (.lst l)) (λl=>qA g p a w (.kU l)) (λl=>qA g p a w (.vI l)) λl=>qA g p a w (.Hq l)
def wg(b:gQ)(a:W)(q:N PA):=oc q (λq=>g.bw a=U/\∃w,d4 (g.nm a) b=O (O w)/\yi g p a w q) (d4 (g.nm a) b=O C)
def iK(a:gQ):=∀e∈a,∃a t,e.key=.str (g.nm a) t
structure pT(p:Pt)(l:nQ)(es:gQ)(n:W):Prop where
 at_:p.h.get? g.dG=O (fC es n)
 len:es.length=l.length
 lim:es.length<=lim
 key:iK g es
 bU:∀a,wg g p es a (aj a l)
structure Own(p:Pt):Prop where
 fz:∀a o,p.F a o->p.h.get? a=O o/\p.ow a=C
 sF:∀a k,p.ow a=O k->∃o,p.h.get? a=O o
 inj:∀a b k,p.ow a=O k->p.ow b=O k->k≠.ck->a=b
structure qO(p:Pt)(pg:PG):Prop where
 own:Own p
 par:g.dj->p.ow g.par=O .par/\p.ow g.dG=O .dict/\p.h.get? g.par=O (kZ g.uN g.dG)/\∃es n,pT g p pg.par es n
 aG:g.rA->p.ow g.aG=O .aG/\we g p g.aG pg.aG
end
structure Cx where
 A:v2
 env:w4
 K:WP
 g:fA
 G:cQ
 B:bl
 L:ii
 lv:ae
abbrev M'(c:Cx):o?:=WF c.g.prog c.g.w
section
variable(c:Cx)
abbrev eU:=N bv
def Zs(p:Pt)(m:lm->eU)(x:W)(l:N LV):=oc l (λl=>J6 l (λv=>∃w,m (c.g.nm x)=O w/\Rd c.g p.F w v) λa=>∃t,m (c.g.nm x)=O (.ref t)/\p.ow t=O (.loc x)/\we c.g p t a) mf
structure bC(p:Pt)(σ:St):Prop where
 pg:qO c.g p σ.pg
 kr:p.ow c.L=O .frame
 loc:∃m,p.h.Ns c.L m/\∀x,Zs c p m x (aj x σ.loc)
 base:c.B.le p.F
end
def kN(q:N PA):N (N W):=oc q (λq=>xZ q (λv=>mp (pb v) O) (λ_=>O C) (λ_=>O C) (λ_=>O C) λ_=>O C) C
def Calm(p:Pt)(c:PG)(d:Pt)(b:PG):=(∀a,kN (aj a b.par)=kN (aj a c.par))/\∀a t,p.ow t=O (.bU a)->d.ow t=O (.bU a)
structure Ext(kp:N Ow->I)(p:Pt)(pg:PG)(p':Pt)(pg':PG):Prop where
 le:p.F.le p'.F
 sh:p'.s={p.s with heap:=p'.s.heap,toks:=p'.s.toks}
 keep:∀a o,p.h.get? a=O o->kp (p.ow a)->p'.h.get? a=O o
 ex:∀a o,p.h.get? a=O o->∃o',p'.h.get? a=O o'
 to:∀a o,p.h.get? a=O o->p'.ow a=p.ow a∨p'.ow a=C
 ck:∀a,p.ow a=O .ck↔p'.ow a=O .ck
 kr:∀a,p.ow a=O .frame↔p'.ow a=O .frame
 bD:pg.bD<=pg'.bD
 calm:pg'.bD=pg.bD->Calm p pg p' pg'
def Ey(a:I)(k:N Ow):I:=oc k (λk=>Ow.casesOn (motive:=λ_=>I) k U (λ_=>a) a a (λ_=>a) a U) U
def k6(a:I)(k:N Ow):I:=oc k (λk=>Ow.casesOn (motive:=λ_=>I) k J aay a a (λ_=>a) a U) U
def Ce{a:I}(h:k6 a k):Ey a k:=by induction k with|none=>rfl|some k=>refine@Ow.casesOn (λk=>k6 a (O k)=U->Ey a (O k)=U) k ?_ ?_ ?_ ?_ ?_ ?_ ?_ h<;>first|exact ao|exact λ_=>ao|exact id|exact λ_=>id
section
variable{g:N Ow->I}{p m j:Pt}{pg f h:PG}
def Ext.refl:Ext g p pg p pg:=⟨λ_ _=>id,Z,λ_ _ e _=>e,λ_ o e=>⟨o,e⟩,λ_ _ _=>.inl Z,λ_=>.rfl,λ_=>.rfl,aU _,λ_=>⟨λ_=>Z,λ_ _=>id⟩⟩
def Ext.trans(b:g C)(x:Ext g p pg m f)(y:Ext g m f j h):Ext g p pg j h where
 le:=λa o e=>y.le a o (x.le a o e)
 sh:=by rw[y.sh,x.sh]
 keep:=λa o e k=>y.keep a o (x.keep a o e k) ((x.to a o e).elim (λq=>q.symm▸k) λq=>q.symm▸b)
 ex:=λa o e=>r' (x.ex a o e) λb=>y.ex a b
 to:=λa o e=>r' (x.ex a o e) λb c=>(y.to a b c).elim (λq=>(x.to a o e).elim (λr=>.inl (q.trans r)) λr=>.inr (q.trans r)) .inr
 ck:=λa=>(x.ck a).trans (y.ck a)
 kr:=λa=>(x.kr a).trans (y.kr a)
 bD:=ay x.bD y.bD
 calm:=λe=>
  have b:=Nat.le_antisymm (e▸y.bD) x.bD;have a:=x.calm b;have c:=y.calm (e.trans b.symm)
  ⟨λi=>(c.1 i).trans (a.1 i),λi t o=>c.2 i t (a.2 i t o)⟩
def Ext.weak{a:N Ow->I}(x:Ext g p pg m f)(w:∀k,a k->g k):Ext a p pg m f:=⟨x.le,x.sh,λa o e k=>x.keep a o e (w _ k),x.ex,x.to,x.ck,x.kr,x.bD,x.calm⟩
def Ext.grow{t:W}(k:∀a o,p.h.get? a=O o->b.get? a=O o)(d:p.F.le c):Ext g p pg ⟨{p.s with heap:=b,toks:=t},c,p.ow⟩ pg:=⟨d,Z,λa o e _=>k a o e,λa o e=>⟨o,k a o e⟩,λ_ _ _=>.inl Z,λ_=>.rfl,λ_=>.rfl,aU _,λ_=>⟨λ_=>Z,λ_ _=>id⟩⟩
end
section
variable{g:fA}{p j:Pt}{pg:PG}{t:ii}
def we.to(x:we g p t a)(k:∀o,p.h.get? t=O o->j.h.get? t=O o)(b:p.F.le j.F):we g j t a:=by obtain⟨a,n,h,l,r⟩:=x;exact⟨a,n,k _ h,l,r.bS b⟩
def Aa{K:Type}[gk K]{d:zs}{w:ty}{b:qR d w K}{h a:t3}{c:Y (K×bv)}(x:h.DictOf b t c)(k:∀o,h.get? t=O o->a.get? t=O o):a.DictOf b t c:=by obtain⟨o,a,b,c,r⟩:=x;exact⟨o,a,b,k o c,r⟩
def yh.to(x:yh g p t a)(k:∀o,p.h.get? t=O o->j.h.get? t=O o)(b:p.F.le j.F):yh g j t a:=by obtain⟨a,h,l,e,r⟩:=x;exact⟨a,Aa h k,l,e,r.bS b⟩
def Cd.to(x:Cd g p t a)(k:∀o,p.h.get? t=O o->j.h.get? t=O o)(b:p.F.le j.F):Cd g j t a:=by obtain⟨a,h,l,z,e,r⟩:=x;exact⟨a,Aa h k,l,z,e,r.bS b⟩
def g5.to(k:∀o,p.h.get? t=O o->j.h.get? t=O o)(a:p.F.le j.F):g5 g p t c->g5 g j t c:=Cn.casesOn c (λ_ x=>we.to x k a) (λ_ x=>yh.to x k a) (λ_ x=>Cd.to x k a) λ_=>id
def qA.to(k:∀t o,p.ow t=O (.bU a)->p.h.get? t=O o->j.h.get? t=O o)(ko:∀t,p.ow t=O (.bU a)->j.ow t=O (.bU a))(b:p.F.le j.F)(x:qA g p a w c):qA g j a w c:=by obtain⟨t,e,o,h⟩:=x;exact⟨t,e,ko t o,h.to (λ_=>k t _ o) b⟩
def yi.to{q:PA}(k:∀t o,p.ow t=O (.bU a)->p.h.get? t=O o->j.h.get? t=O o)(ko:∀t,p.ow t=O (.bU a)->j.ow t=O (.bU a))(b:p.F.le j.F):yi g p a w q->yi g j a w q:=PA.casesOn q (λ_ x=>Rd.bS b x) (λ_=>qA.to k ko b) (λ_=>qA.to k ko b) (λ_=>qA.to k ko b) λ_=>qA.to k ko b
def wg.to{q:N PA}(k:∀t o,p.ow t=O (.bU a)->p.h.get? t=O o->j.h.get? t=O o)(ko:∀t,p.ow t=O (.bU a)->j.ow t=O (.bU a))(c:p.F.le j.F):wg g p b a q->wg g j b a q:=pi id (λq x=>by obtain⟨i,w,h,y⟩:=x;exact⟨i,w,h,y.to k ko c⟩) q
def shared(k:Ow):I:=Ow.casesOn (motive:=λ_=>I) k J aay U U aaz U J
def pT.to{l:nQ}(x:pT g p l b n)(c:p.ow g.dG=O .dict)(k:∀a w o,p.ow a=O w->shared w->p.h.get? a=O o->j.h.get? a=O o)(ko:∀a w,p.ow a=O w->shared w->j.ow a=O w)(d:p.F.le j.F):pT g j l b n:=⟨k _ _ _ c Z x.at_,x.len,x.lim,x.key,λa=>(x.bU a).to (λ_ _ e=>k _ _ _ e Z) (λ_ e=>ko _ _ e Z) d⟩
def qO.to(x:qO g p pg)(b:Own j)(k:∀a w o,p.ow a=O w->shared w->p.h.get? a=O o->j.h.get? a=O o)(ko:∀a w,p.ow a=O w->shared w->j.ow a=O w)(c:p.F.le j.F):qO g j pg:=by refine⟨b,λd=>?_,λe=>?_⟩;obtain⟨a,b,f,h,n,i⟩:=x.par d;exact⟨ko _ _ a Z,ko _ _ b Z,k _ _ _ a Z f,h,n,i.to b k ko c⟩;obtain⟨a,b⟩:=x.aG e;exact⟨ko _ _ a Z,b.to (λ_=>k _ _ _ a Z) c⟩
end
def aa{b:Type}{a:b}{P:Prop}(h:C=O a):P:=ch h (yD a).symm
def bX.{u0}{c:Type}{b:Sort u0}{d:(a:b)->c}{P:(a:b)->Prop}:∀a,C=O (d a)->P a:=λ_=>aa
def gJ.{u0,u1}{e:Type}{c:Sort u0}{d:(a:c)->Sort u1}{f:(a:c)->(b:d a)->e}{P:(a:c)->(b:d a)->Prop}:∀a b,C=O (f a b)->P a b:=λ_ _=>aa
def kE.{u0,u1,u2}{g:Type}{c:Sort u0}{e:(a:c)->Sort u1}{f:(a:c)->(b:e a)->Sort u2}{h:(a:c)->(b:e a)->(d:f a b)->g}{P:(a:c)->(b:e a)->(d:f a b)->Prop}:∀a b d,C=O (h a b d)->P a b d:=λ_ _ _=>aa
def Ft.{u0,u1,u2,u3}{i:Type}{d:Sort u0}{e:(a:d)->Sort u1}{g:(a:d)->(b:e a)->Sort u2}{h:(a:d)->(b:e a)->(c:g a b)->Sort u3}{j:(a:d)->(b:e a)->(c:g a b)->(f:h a b c)->i}{P:(a:d)->(b:e a)->(c:g a b)->(f:h a b c)->Prop}:∀a b c f,C=O (j a b c f)->P a b c f:=λ_ _ _ _=>aa
def Tg.{u0,u1,u2,u3,u4}{k:Type}{e:Sort u0}{f:(a:e)->Sort u1}{g:(a:e)->(b:f a)->Sort u2}{i:(a:e)->(b:f a)->(c:g a b)->Sort u3}{j:(a:e)->(b:f a)->(c:g a b)->(d:i a b c)->Sort u4}{l:(a:e)->(b:f a)->(c:g a b)->(d:i a b c)->(h:j a b c d)->k}{P:(a:e)->(b:f a)->(c:g a b)->(d:i a b c)->(h:j a b c d)->Prop}:∀a b c d h,C=O (l a b c d h)->P a b c d h:=λ_ _ _ _ _=>aa
def cf(a:W):ac a a:=Nat.beq_refl a
def jU(h:a≠b):ac a b=J:=d8.mpr λe=>h (aK e)
section
variable{d:Type}
def dM{b:I}(h:b):br b x y=x:=h▸Z
def dw{b:I}(h:b=J):br b x y=y:=h▸Z
variable{a b:W}{v w:d}{l:Y (W×d)}
def fE(h:ac b a):aj a ((b,v)::l)=O v:=dM h
def dH(h:ac b a=J):aj a ((b,v)::l)=aj a l:=dw h
def Fu(h:ac b a):put a w ((b,v)::l)=(a,w)::l:=dM h
def Ac(h:ac b a=J):put a w ((b,v)::l)=(b,v)::put a w l:=dw h
def dk:aj a (put a w l)=O w:=by induction l with|nil=>exact fE (cf a)|cons p l c=>by_cases h:ac p.1 a=U;exact(ah _ (Fu h)).trans (fE (cf a));exact(ah _ (Ac (d8.mpr h))).trans ((dH (d8.mpr h)).trans c)
def bZ(n:b≠a):aj b (put a w l)=aj b l:=by induction l with|nil=>exact dH (jU n.symm)|cons p l c=>by_cases h:ac p.1 a=U;have e:=aK h;exact(ah _ (Fu h)).trans ((dH (jU n.symm)).trans (dH (jU λq=>n (il q e))).symm);refine(ah _ (Ac (d8.mpr h))).trans ?_;by_cases k:ac p.1 b=U;exact(fE k).trans (fE k).symm;exact(dH (d8.mpr k)).trans (c.trans (dH (d8.mpr k)).symm)
end
abbrev Zt:=ii->N Ow
open Classical in
def mW(k:Ow)(a:Zt):Zt:=λb=>if a b=O k then C else a b
open Classical in
def bQ(t:ii)(k:N Ow)(b:Zt):Zt:=λa=>if a=t then k else b a
section
variable{b:Zt}{k j:Ow}{t a:ii}{q:N Ow}
def dS:bQ t q b t=q:=eP Z
def bp(h:a≠t):bQ t q b a=b a:=eH h
def ML(h:b a=O k):mW k b a=C:=eP h
def wi(h:b a≠O k):mW k b a=b a:=eH h
def MM(h:b a=O j)(n:j≠k):mW k b a=O j:=(wi λe=>n (au (il h e))).trans h
def lJ(h:mW k b a=O j):b a=O j/\j≠k:=by by_cases e:b a=O k;exact aa (il (ML e) h);exact⟨il (wi e) h,λq=>e ((il (wi e) h).trans (ah O q))⟩
def Th:mW k b a=b a∨mW k b a=C:=by by_cases e:b a=O k;exact .inr (ML e);exact .inl (wi e)
def yZ(h:b a=C):mW k b a=C:=(wi λe=>aa (il h e)).trans h
def aJ(h:bQ t q b a=O j):(a=t/\q=O j)∨(a≠t/\b a=O j):=by by_cases e:a=t;exact .inl ⟨e,il (dS) (e▸h)⟩;exact .inr ⟨e,il (bp e) h⟩
end
abbrev Pt.up(p:Pt)(h:t3)(n:W)(F:bl)(ow:Zt):Pt:=⟨{p.s with heap:=h,toks:=n},F,ow⟩
section
variable{p:Pt}{h:t3}{n:W}{F:bl}{t:ii}{k:Ow}
variable(x:Own p)
def Own.free(e:p.h.get? a=C):p.ow a=C:=by by_cases q:p.ow a=C;exact q;obtain⟨k,b⟩:=Option.ne_none_iff_exists'.mp q;obtain⟨o,c⟩:=x.sF a k b;exact aa (il e c)
def Own.new(e:p.h.objs.size<=a):p.ow a=C:=x.free (jr e)
def Own.ū(e:p.h.get? a=C){o:xL}(f:p.F a o):Ch:=aa (il e (x.fz a o f).1)
def Own.grow(k:∀a o,p.h.get? a=O o->h.get? a=O o)(f:∀a o,F a o->p.F a o∨(h.get? a=O o/\p.ow a=C)):Own (p.up h n F p.ow):=⟨λa o e=>(f a o e).elim (λe=>⟨k _ _ (x.fz a o e).1,(x.fz a o e).2⟩) id,λa j e=>by obtain⟨o,b⟩:=x.sF a j e;exact⟨o,k _ _ b⟩,x.inj⟩
def Own.turn(c:u8 t p.h h)(d:p.ow t=O k){b:xL}(f:h.get? t=O b):Own (p.up h n p.F p.ow):=by refine⟨λa o e=>⟨(c.2 a λq=>aa ((x.fz a o e).2.symm.trans (q▸d))).trans (x.fz a o e).1,(x.fz a o e).2⟩,λa j e=>?_,x.inj⟩;by_cases q:a=t;exact⟨b,q▸f⟩;obtain⟨o,b⟩:=x.sF a j e;exact⟨o,(c.2 a q).trans b⟩
def Own.drop(j:Ow):Own {p with ow:=mW j p.ow}:=⟨λa o e=>⟨(x.fz a o e).1,yZ (x.fz a o e).2⟩,λa k e=>x.sF a k (lJ e).1,λa b k e f=>x.inj a b k (lJ e).1 (lJ f).1⟩
def Own.give(e:p.h.get? t=O o)(d:∀o,¬p.F t o)(un:∀a,p.ow a≠O k):Own {p with ow:=bQ t (O k) p.ow}:=by refine⟨λa o e=>?_,λa j f=>?_,λa b j f c n=>?_⟩;have:a≠t:=λq=>d o (q▸e);exact⟨(x.fz a o e).1,(bp this).trans (x.fz a o e).2⟩;exact(aJ f).elim (λq=>⟨o,q.1▸e⟩) λq=>x.sF a j q.2;exact(aJ f).elim (λq=>(aJ c).elim (λr=>q.1.trans r.1.symm) λr=>ch (r.2.trans q.2.symm) (un b)) λq=>(aJ c).elim (λr=>ch (q.2.trans r.2.symm) (un a)) λr=>x.inj a b j q.2 r.2 n
def Own.freeze(e:p.h.get? t=O o):Own {p with F:=p.F.add t o,ow:=bQ t C p.ow}:=by refine⟨λa b f=>?_,λa j f=>?_,λa c j f d n=>?_⟩;by_cases q:a=t;refine⟨f.elim (λf=>(x.fz a b f).1) λr=>?_,q▸dS⟩;rw[r.1,r.2];exact e;exact f.elim (λf=>⟨(x.fz a b f).1,(bp q).trans (x.fz a b f).2⟩) λr=>ch r.1 q;exact(aJ f).elim (λq=>aa q.2) λq=>x.sF a j q.2;exact(aJ f).elim (λq=>aa q.2) λq=>(aJ d).elim (λr=>aa r.2) λr=>x.inj a c j q.2 r.2 n
end
structure kF(T:Ow->Prop)(p p':Pt):Prop where
 own:Own p'
 le:p.F.le p'.F
 sh:p'.s={p.s with heap:=p'.s.heap,toks:=p'.s.toks}
 k:∀a o,p.h.get? a=O o->(∀w,p.ow a=O w->¬T w)->p'.h.get? a=O o
 ko:∀a w,p.ow a=O w->¬T w->p'.ow a=O w
 ex:∀a o,p.h.get? a=O o->∃o',p'.h.get? a=O o'
 to:∀a o,p.h.get? a=O o->p'.ow a=p.ow a∨p'.ow a=C
 ck:∀a,p.ow a=O .ck↔p'.ow a=O .ck
 kr:∀a,p.ow a=O .frame↔p'.ow a=O .frame
section
variable{T:Ow->Prop}{p A:Pt}{pg y:PG}{B:N Ow->I}
def kF.ext(x:kF T p A)(w:∀w,B (O w)->¬T w)(a:pg.bD<=y.bD)(calm:y.bD=pg.bD->Calm p pg A y):Ext B p pg A y:=⟨x.le,x.sh,λb o e k=>x.k b o e λj h=>w j (h▸k),x.ex,x.to,x.ck,x.kr,a,calm⟩
def kF.k'(x:kF T p A){a:ii}{w:Ow}{o:xL}(h:p.ow a=O w)(n:¬T w)(e:p.h.get? a=O o):A.h.get? a=O o:=x.k a o e λ_ a=>(au (il h a))▸n
variable(x:Own p)
def kF.grow{h:t3}(k:∀a o,p.h.get? a=O o->h.get? a=O o)(b:p.F.le F)(f:∀a o,F a o->p.F a o∨(h.get? a=O o/\p.ow a=C)):kF (λ_=>Ch) p (p.up h n F p.ow):=⟨x.grow k f,b,Z,λa o e _=>k a o e,λ_ _ e _=>e,λa o e=>⟨o,k a o e⟩,λ_ _ _=>.inl Z,λ_=>.rfl,λ_=>.rfl⟩
def kF.turn{h:t3}{t:ii}{k:Ow}(b:u8 t p.h h)(c:p.ow t=O k)(e:h.get? t=O o):kF (λw=>w=k) p (p.up h n p.F p.ow):=⟨x.turn b c e,λ_ _=>id,Z,λa o e n=>(b.2 a λq=>n k (q▸c) Z).trans e,λ_ _ e _=>e,λa c d=>by by_cases q:a=t;exact⟨o,q▸e⟩;exact⟨c,(b.2 a q).trans d⟩,λ_ _ _=>.inl Z,λ_=>.rfl,λ_=>.rfl⟩
def kF.freeze{t:ii}{k:Ow}(c:p.ow t=O k)(e:p.h.get? t=O o)(d:k≠.ck)(f:k≠.frame):kF (λw=>w=k) p {p with F:=p.F.add t o,ow:=bQ t C p.ow}:=by have b:∀{a w},p.ow a=O w->w≠k->a≠t:=λe n q=>n (au (il e (q▸c)));have bk:∀{a w},bQ t C p.ow a=O w->p.ow a=O w:=λh=>(aJ h).elim (λq=>aa q.2) p?;exact⟨x.freeze e,p.F.mr t o,Z,λ_ _ e _=>e,λa w e n=>(bp (b e n)).trans e,λ_ o e=>⟨o,e⟩,λa _ _=>by by_cases q:a=t;exact .inr (q▸dS);exact .inl (bp q),λa=>⟨λe=>(bp (b e d.symm)).trans e,bk⟩,λa=>⟨λe=>(bp (b e f.symm)).trans e,bk⟩⟩
def kF.bind{h:t3}{t:ii}{k:Ow}{q:N Ow}(g:∀a o,p.h.get? a=O o->b.get? a=O o)(c:u8 d b h)(u:p.ow d=O j)(e:h.get? d=O o)(f:p.h.get? t=C)(s:∀i,q=O i->i=k/\∃o,b.get? t=O o)
 (l:k≠.ck)(m:k≠.frame):kF (λw=>w=j∨w=k) p (p.up h n p.F (bQ t q (mW k p.ow))):=by
 have i:∀a o,b.get? a=O o->∃b,h.get? a=O b:=λa b r=>by
  by_cases q:a=d
  ·exact⟨o,q▸e⟩
  ·exact⟨b,(c.2 a q).trans r⟩
 have r:∀{a:ii}{w},p.ow a=O w->a≠t:=λe q=>by obtain⟨o,b⟩:=x.sF _ _ e;exact aa (il f (q▸b))
 have d:∀{a w},p.ow a=O w->w≠k->bQ t q _ a=O w:=λe n=>(bp (r e)).trans (MM e n);have bk:∀{a w},bQ t q (mW k p.ow) a=O w->(a=t/\w=k)∨_:=λh=>(aJ h).elim (λr=>.inl ⟨r.1,(s _ r.2).1⟩) λr=>.inr (lJ r.2);have v:∀{a w},w≠k->bQ t q _ a=O w->p.ow a=O w:=λn h=>(bk h).elim (λr=>ch r.2 n) And.left;refine⟨⟨λa o e=>?_,λa w e=>?_,λa k w e h n=>?_⟩,λ_ _=>id,Z,λa o e n=>?_,λa w e n=>d e λz=>n (.inr z),λa o e=>i a o (g a o e),λa o e=>?_,λa=>⟨λe=>d e l.symm,v l.symm⟩,λa=>⟨λe=>d e m.symm,v m.symm⟩⟩
 ·have z:=x.fz a o e
  exact⟨(c.2 a λq=>aa (il z.2 (q▸u))).trans (g a o z.1),(bp λq=>aa (il f (q▸z.1))).trans (yZ z.2)⟩
 ·refine(aJ e).elim (λr=>?_) λr=>?_
  ·obtain⟨_,o,b⟩:=s _ r.2
   exact r.1▸i t o b
  ·obtain⟨o,b⟩:=x.sF a w (lJ r.2).1
   exact i a o (g a o b)
 ·exact(bk e).elim (λr=>(bk h).elim (λb=>r.1.trans b.1.symm) λb=>ch r.2 b.2) λr=>(bk h).elim (λb=>ch b.2 r.2) λb=>x.inj a k w r.1 b.1 n
 ·exact(c.2 a λq=>n j (q▸u) (.inl Z)).trans (g a o e)
 ·have z:a≠t:=λq=>aa (il f (q▸e))
  exact(Th).elim (λr=>.inl ((bp z).trans r)) λr=>.inr ((bp z).trans r)
end
section
variable{T:Ow->Prop}{g:fA}{c:Cx}{p i:Pt}{pg j:PG}{u:St}
variable(x:kF T p i)
def kF.ą(y:qO g p pg)(n:∀w,shared w->¬T w):qO g i pg:=y.to x.own (λ_ w _ h s=>x.k' h (n w s)) (λa w h s=>x.ko a w h (n w s)) x.le
def Zs.to{m b:lm->eU}{l:N LV}(d:b (c.g.nm a)=m (c.g.nm a))(n:¬T (.loc a)):Zs c p m a l->Zs c i b a l:=pi id (λl=>LV.casesOn l (λv h=>by obtain⟨w,e,r⟩:=h;exact⟨w,d.trans e,r.bS x.le⟩) λa h=>by obtain⟨t,e,o,r⟩:=h;exact⟨t,d.trans e,x.ko _ _ o n,r.to (λ_=>x.k' o n) x.le⟩) l
variable(r:bC c p u)
def kF.rel(y:qO c.g i j)(n:∀w,T w->shared w):bC c i ⟨u.loc,j⟩:=by obtain⟨m,b,d⟩:=r.loc;have a:¬T .frame:=λh=>yC (n _ h);exact⟨y,x.ko _ _ r.kr a,⟨m,b.at λ_=>x.k' r.kr a,λa=>(d a).to x Z λh=>yC (n _ h)⟩,λa o e=>x.le a o (r.base a o e)⟩
def kF.MN{m:lm->eU}(n:∀w,shared w->¬T w)(d:i.h.Ns c.L m)(e:∀a,Zs c i m a (aj a b)):bC c i ⟨b,u.pg⟩:=⟨x.ą r.pg n,(x.kr _).mp r.kr,⟨m,d,e⟩,λa o e=>x.le a o (r.base a o e)⟩
def bC.grow{h:t3}(k:∀a o,p.h.get? a=O o->h.get? a=O o)(b:p.F.le F)(f:∀a o,F a o->p.F a o∨(h.get? a=O o/\p.ow a=C)):bC c (p.up h n F p.ow) u:=let s:=kF.grow r.pg.own k b f;s.rel r (s.ą r.pg λ_ _=>id) λ_=>pp
def bC.toks(n:W):bC c (p.up p.h n p.F p.ow) u:=r.grow (λ_ _=>id) (λ_ _=>id) λ_ _=>.inl
end
local macro_rules | `(tactic| trivial) => `(tactic| first | exact aa | exact fun _ => aa | exact fun _ _ => aa | exact ao | exact fun _ => ao | exact fun _ _ => ao | exact id | exact fun _ => id)
structure KF(K:WP)(g:fA)(G:cQ)(B:bl):Prop where
 inj:∀x y,g.nm x=g.nm y->x=y
 bool:∀c,g.jx c->sK K (.ref (g.cU c)) "__bool__"=O none
 len:∀c,g.jx c->sK K (.ref (g.cU c)) "__len__"=O none
 handed:∀b,a4 (g.HA b)=U
 Kc:∀c n,g.jx c->j? K (g.cU c) n=U
 Fv:∀c,g.jx c->c5 K (g.cU c)=U
 Ti:∀c a,g.jx c->g.yX a->sK K (.ref (g.cU c)) (g.nm a)=O none
 Ad:∀c,g.jx c->readsIn K (g.cU c) (.type "type")=U
 const:∀c C a v,G.cls c=O C->aj a C.consts=O v->∃w,sK K (.ref (g.cU c)) (g.nm a)=O (O w)/\zn K w "__get__"=O none/\a4 w/\b6.contains (g.nm a)=J/\
  Rd g B w v/\findCls K (.ref (g.cU c)) (.type "type") (g.nm a)=O (.val w)
 Cf:∀n,g.dj->j? K g.uN n=U
 Cg:g.dj->c5 K g.uN=U
 Ci:∀a,g.dj->g.bw a->sK K (.ref g.uN) (g.nm a)=O none
 KN:g.dj->sK K (.ref g.uN) "__setattr__"=O (O (.builtin "object.__setattr__"))/\ct K g.uN=U
 HC:∀a,g.dj->g.bw a->ee K g.uN (g.nm a)=O none
 Cj:∀m,g.dj->G.du m->g.isFn m/\sK K (.ref g.uN) (g.nm m)=O (O (.ref (g.fnAt m)))/\isFn K (.ref (g.fnAt m))/\
  zn K (.ref (g.fnAt m)) "__get__"=O (O (.builtin "function.__get__"))/\H' K (.ref (g.fnAt m))=O J/\b6.contains (g.nm m)=J
 Tj:∀c,g.jx c->∃o cd,K.lookup (g.cU c)=O o/\o.data=.cls cd/\zn K (.ref (g.cU c)) "__call__"=O (O (.builtin "type.__call__"))
 Fw:∀f,g.isFn f->∃o fd,B (g.fnAt f) o/\o.data=.func fd
 N3:∀b,(∃id,g.HA b=.builtin id)∨∃n,g.HA b=.type n
 G1:g.HA 0=.builtin "len"
 O1:g.HA 1=.builtin "isinstance"
 Zu:g.HA 3=.type "range"
 N?:g.HA 4=.type "enumerate"
 N!:g.HA 5=.type "list"
 N_:g.HA 7=.type "str"
 N':g.HA 8=.builtin "max"
 dT:g.nm G.dT="append"
 dD:g.nm G.dD="extend"
 qs:g.nm G.qs="pop"
 ew:g.nm G.ew="insert"
 lE:g.nm G.lE="join"
 E2:∀c k C,g.jx c->g.jx k->G.cls c=O C->(aq C.mro k->isIn K (.ref (g.cU c)) (g.cU k)=U)/\(aq C.mro k=J->kin_not K (g.cU c) (g.cU k)=U)
 Tn:∀c,g.jx c->sK K (.ref (g.cU c)) "__class__"=O (O (.builtin "object.__class__"))/\mroIn K (g.cU c) (.type "object")=O U
 E1:zn K (.builtin "object.__class__") "__get__"=O (O (.builtin "getset_descriptor.__get__"))/\H' K (.builtin "object.__class__")=O U
 To:∃o,B Do o
 Cm:∀k kvs,G.cA k=O kvs->(g.uM k==Do)=J
 MO:∀k kvs,G.cA k=O kvs->∃o,B (g.uM k) o/\∀p:Pt,B.le p.F->p.h.get? (g.uM k)=O o->Cd g p (g.uM k) kvs
 KX:∀a kvs,g.dj->G.cA a=O kvs->g.Zp a/\sK K (.ref g.uN) (g.nm a)=O (O (.ref (g.uM a)))/\zn K (.ref (g.uM a)) "__get__"=O none/\b6.contains (g.nm a)=J
abbrev aT:=bv->ge->Prop
structure Cx.OK(c:Cx):Prop where
 kf:KF c.K c.g c.G c.B
 jB:∀a o,c.K.lookup a=O o->c.B a o
 locals:c.env.locals=c.L
 kind:c.env.scope.kind=.function
 loc:∀x,aq c.lv x->c.env.kindOf (c.g.nm x)=O .local
 glob:∀x v,aq c.lv x=J->c.G.gl x=O v->∃y,Rd c.g c.B y v/\∀(s:ge)(Q:aT)(E:aT),(∀a o,c.B a o->s.heap.get? a=O o)->Q y s->he (WF c.g.prog c.g.w) c.A (hN c.env (c.g.nm x)) Q E s
 units:c.A.units+100<Rq
 handled:c.A.handled=C
 bw:∀a,c.G.bw a->c.g.bw a=U
 depth:c.A.depth+10<Fa
abbrev dq(F:bl)(h:t3):Prop:=∀a o,F a o->h.get? a=O o
def bC.st{p:Pt}(r:bC c p a):dq p.F p.h:=λa o e=>(r.pg.own.fz a o e).1
def bC.Tp{p:Pt}(r:bC c p a):dq c.B p.h:=λa o e=>r.st a o (r.base a o e)
def Cx.OK.In(b:c.OK){p:Pt}{a:St}(r:bC c p a):c.K.In p.h:=λa o e=>r.Tp a o (b.jB a o e)
def Vc{M:V->Prop}(v:V)(no:M .none:=by trivial)(bo:∀b,M (.bool b):=by trivial)(i:∀i,M (.int i):=by trivial)(s:∀s,M (.str s):=by trivial)(tu:∀l,M (.tup l):=by trivial)(ls:∀l,M (.lst l):=by trivial)(ob:∀c f,M (.obj c f):=by trivial)(cl:∀n,M (.cls n):=by trivial)(fn:∀n,M (.fn n):=by trivial)(bi:∀n,M (.bi n):=by trivial)(cd:∀n,M (.cd n):=by trivial)(me:∀n,M (.av n):=by trivial)(pa:M .par:=by trivial)(ta:M .aG:=by trivial)(sy:∀p,M (.sym p):=by trivial)(bu:∀l e,M (.buf l e):=by trivial)(un:M .Ho:=by trivial)(ws:∀l,M (.Zc l):=by trivial):M v:=V.casesOn (motive_1:=M) v no bo i s tu ls ob cl fn bi cd me pa ta sy bu un ws
section
variable{v:V}
def wj{i:D}:gb v=O i->v=.int i:=Vc (M:=λv=>gb v=O i->v=.int i) v (i:=λ_ h=>ah V.int (au h))
def gj{i:ae}:dW v=O i->v=.str i:=Vc (M:=λv=>dW v=O i->v=.str i) v (s:=λ_ h=>ah V.str (au h))
def Ke{i:I}:gH v=O i->v=.bool i:=Vc (M:=λv=>gH v=O i->v=.bool i) v (bo:=λ_ h=>ah V.bool (au h))
def oj{i:af}:uj v=O i->v=.tup i:=Vc (M:=λv=>uj v=O i->v=.tup i) v (tu:=λ_ h=>ah V.tup (au h))
def rB{i:af}:ja v=O i->v=.lst i:=Vc (M:=λv=>ja v=O i->v=.lst i) v (ls:=λ_ h=>ah V.lst (au h))
def Co{i:W}:vH v=O i->v=.cls i:=Vc (M:=λv=>vH v=O i->v=.cls i) v (cl:=λ_ h=>ah V.cls (au h))
def oX{i:W}:sQ v=O i->v=.bi i:=Vc (M:=λv=>sQ v=O i->v=.bi i) v (bi:=λ_ h=>ah V.bi (au h))
def Tq{i:W}:pb v=O i->v=.cd i:=Vc (M:=λv=>pb v=O i->v=.cd i) v (cd:=λ_ h=>ah V.cd (au h))
def rC:jw v->v=.par:=Vc (M:=λv=>jw v=U->v=.par) v (pa:=λ_=>Z)
def sX:dZ v->v=.aG:=Vc (M:=λv=>dZ v=U->v=.aG) v (ta:=λ_=>Z)
def wk{i:D}{n:W}:natOf i=O n->i=(n:D):=I_ (motive:=λi=>natOf i=O n->i=(n:D)) i (λ_ h=>ah wv (au h)) λ_=>aa
def rD:asNat v=O n->v=.int n:=Vc (M:=λv=>asNat v=O n->v=.int n) v (i:=λ_ h=>ah V.int (wk h))
variable{g:fA}{F:bl}{x:bv}
def Rd.as(e:v=a)(r:Rd g F x v):Rd g F x a:=e▸r
def HD{i:D}(e:gb v=O i)(r:Rd g F x v):rint i x:=Rd.as (wj e) r
def Sr(e:asNat v=O n)(r:Rd g F x v):rint n x:=Rd.as (rD e) r
def HE{l:ae}(e:dW v=O l)(r:Rd g F x v):Fp l x:=Rd.as (gj e) r
def Kn{l:af}(e:ja v=O l)(r:Rd g F x v):z8 F (cD g F · l) x:=Rd.as (rB e) r
def Rd.i{i:D}{t:kv}:Rd g F (.int i t) (.int i):=⟨t,Z⟩
def Rd.s{s:lm}{t:kv}(h:hZ s):Rd g F (.str s t) (.str s.cps.toList):=⟨s,t,Z,Z,h⟩
end
def cD.length(r:cD g F a b):a.length=b.length:=by induction b generalizing a with|nil=>exact ah ey (show a=[]from r)|cons v b c=>obtain⟨w,l,e,_,k⟩:=r.un;exact(ah ey e).trans (ah pm (c k))
def cD.append(e:cD g F a b)(f:cD g F c d):cD g F (a++c) (b++d):=by induction b generalizing a with|nil=>exact(show a=[]from e)▸f|cons v i h=>obtain⟨w,l,a,b,k⟩:=e.un;exact a▸⟨w,l++c,Z,b,h k⟩
def lK{a b:Type}{l:Y a}{m:Y b}(h:l.length=m.length):l.isEmpty=m.isEmpty:=by rw[yL,Mf,Mf,h]
def jl{n:W}(h:n<=lim):(n:D)<2^63:=qn.mpr (fQ h (aO Z))
def oY(z:jT a):(a.toArray.size:D)<2^63:=jl (ay (cZ EP) z)
def len_list(x:lm):x.cps.toList.length=x.length:=zT
def sY(a:aP):a.toArray.isEmpty=a.isEmpty:=List.isEmpty_toArray _
def aB{a:Type}(l:Y a):ak l=l.length:=by induction l with|nil=>rfl|cons c l b=>exact ah pm b
def A5(c:Cx)(p:Pt)(x:bv)(b:I):=∀(Q:I->ge->Prop)(E:aT),(∀t,Q b {p.s with toks:=t})->he (M' c) c.A (truthy x) Q E p.s
section
variable{c:Cx}{p:Pt}{u:St}{x:bv}{v:V}
def wm(b:Looks (M' c) p.h (BS (.ref a) "__bool__") C)(d:Looks (M' c) p.h (BS (.ref a) "__len__") C):A5 c p (.ref a) U:=λQ E q=>by exact bR (bR (b.here (cP (bR (d.here (cP (q p.s.toks)))))))
def uw{M:o?}{h:t3}(e:h.get? a=O o)(c:o.cls=.type "method")(d:ek (.type "method") b=H1 C):Looks M h (BS (.ref a) b) C:=by refine Looks.andThen ((Looks.ld e).andThen .now) ?_;rw[c,d];exact .now
def MP:ek (.type "method") "__bool__"=H1 C:=by rw[H6];kernel_rfl
def Tr:ek (.type "method") "__len__"=H1 C:=by rw[H6];kernel_rfl
def Zv(s:lm):((s.length:D)!=0)=!s.cps.toList.isEmpty:=by rw[<-len_list];cases s.cps.toList<;>rfl
def Fx{h:t3}(f:dq F h){b d a:ii}{e:gQ}{n:W}(g:F b (kZ a d))(i:F d (fC e n)):InstAt h b (kZ a d) a (O (fC e n)):=⟨f _ _ g,Z,Z,f _ _ i⟩
def ux{b d:I}(e:O d=O b)(h:A5 c p x d):A5 c p x b:=au e▸h
def wu(a:c.OK)(r:bC c p u){b:I}:eQ v=O b->Rd c.g p.F x v->A5 c p x b:=Vc (M:=λv=>eQ v=O b->Rd c.g p.F x v->A5 c p x b) v (no:=λe(h)=>h▸ux e λ_ _ q=>truthy_none (q p.s.toks)) (bo:=λd e(h)=>h▸ux e λ_ _ q=>zP (q p.s.toks)) (i:=λd e(h)=>by obtain⟨t,h⟩:=h;exact h▸ux e λ_ _ q=>truthy_int (q p.s.toks)) (s:=λd e(h)=>by obtain⟨s,t,h,b,k⟩:=h;refine h▸ux e λ_ _ q=>P.truthy_str (sO.mpr (jl k.1)) ?_;rw[Zv,b];exact q _) (tu:=λl e(h:Fq p.F (cD c.g p.F · l) x)=>by obtain⟨g,j,n,h,f,z,i⟩:=h;refine h▸ux e λ_ _ q=>ktl_truthy (r.st _ _ f) (sO.mpr (oY z)) ?_;rw[sY,lK i.length];exact q _) (ls:=λl e(h:z8 p.F (cD c.g p.F · l) x)=>by obtain⟨g,j,n,h,f,z,i⟩:=h;refine h▸ux e λ_ _ q=>vy ⟨_,r.st _ _ f,Z,_,Z⟩ (oY z) ?_;rw[sY,lK i.length];exact q _) (ob:=λk l e(h)=>by obtain⟨g,d,d,n,h,f,i,b,_⟩:=h;have d:=(Fx r.st i b).type (M:=M' c);exact h▸ux e (wm (d.andThen (ql (a.In r) (a.kf.bool _ f))) (d.andThen (ql (a.In r) (a.kf.len _ f))))) (me:=λm e(h)=>by obtain⟨g,h,_,_,f⟩:=h;exact h▸ux e (wm (uw (r.st _ _ f) Z MP) (uw (r.st _ _ f) Z Tr)))
end
def Cp(c:Cx)(s:ge)(a:ut)(x y:bv)(b:I):=∀(Q:aT)(E:aT),Q (.bool b) s->he (M' c) c.A (B! a x y) Q E s
section
variable{c:Cx}{s:ge}{x y:bv}{v w:V}{g:fA}{F:bl}{b d:I}
def Cq(h:Cp c s a x y b)(e:b=d):Cp c s a x y d:=e▸h
def XO(x:bv)(b:I):=(x==.none)=b
def Ts:uX v .none=O b->Rd g F x v->XO x b:=Vc (M:=λv=>uX v .none=O b->Rd g F x v->XO x b) v (no:=λe(h)=>h▸au e) (bo:=λd e(h)=>h▸au e) (i:=λd e(h)=>by obtain⟨t,h⟩:=h;exact h▸au e) (s:=λd e(h)=>by obtain⟨s,t,h,_⟩:=h;exact h▸au e) (tu:=λl e(h)=>by obtain⟨a,ws,n,h,_⟩:=h;exact h▸au e) (ls:=λl e(h)=>by obtain⟨a,ws,n,h,_⟩:=h;exact h▸au e) (ob:=λk l e(h)=>by obtain⟨a,d,f,n,h,_⟩:=h;exact h▸au e) (cl:=λn e(h)=>h.1▸au e) (fn:=λn e(h)=>h.1▸au e) (cd:=λn e(h)=>h.1▸au e) (me:=λm e(h)=>by obtain⟨a,h,_⟩:=h;exact h▸au e) (pa:=λe(h)=>h.1▸au e) (ta:=λe(h)=>h.1▸au e) (sy:=λ_ _=>pp) (bu:=λ_ _ _=>pp) (ws:=λ_ _=>pp)
def XQ(x:bv)(d b:I):=plainIs x (.bool d)=U/\(x==.bool d)=b
def bool_no:uX v (.bool d)=O b->Rd g F x v->XQ x d b:=Vc (M:=λv=>uX v _=O b->Rd g F x v->XQ x d b) v (no:=λe(h)=>h▸⟨Z,au e⟩) (bo:=λk e(h)=>h▸⟨Z,.trans (by cases d<;>cases k<;>rfl) (au e)⟩) (i:=λd e(h)=>by obtain⟨t,h⟩:=h;exact h▸⟨Z,au e⟩) (s:=λd e(h)=>by obtain⟨s,t,h,_⟩:=h;exact h▸⟨Z,au e⟩) (tu:=λl e(h)=>by obtain⟨a,a,n,h,_⟩:=h;exact h▸⟨Z,au e⟩)
def HF(a:Rd g F x v):uX v w=O b->Rd g F y w->Cp c s .Is x y b/\Cp c s .IsNot x y !b:=by refine Vc (M:=λw=>uX v w=O b->Rd g F y w->Cp c s .Is x y b/\Cp c s .IsNot x y !b) w (no:=λe(h:y=.none)=>?_) (bo:=λd e(h:y=.bool d)=>?_);have n:(x==.none)=b:=Ts e a;exact h▸⟨λ_ _ q=>is_none (n.symm▸q),λ_ _ q=>isNot_none (n.symm▸q)⟩;have n:=bool_no e a;exact h▸⟨λ_ _ q=>wpAny_is_plain n.1 (n.2.symm▸q),λ_ _ q=>wpAny_isNot_plain n.1 (n.2.symm▸q)⟩
end
def Fy(h:t3)(n:W)(x:bv)(v:V):=(∃a,Reads h x (qN n v) a)/\(qN n v).canLay0=U/\(qN n v).depth<=n
def ahr(h:t3)(n:W)(b:aP)(a:af):=(∃c,ReadsAll h b (a.map (qN n)) c)/\w3 (a.map (qN n))/\H! (a.map (qN n))<=n
section
variable{g:fA}{F:bl}{h:t3}{x y:bv}{v w:V}
def y4(f:∀{x v},dat n v->Rd g F x v->Fy h n x v){a:af}{b:aP}(e:aI (dat n) a=U)(r:cD g F b a):ahr h n b a:=by induction a generalizing b with|nil=>exact(r)▸⟨⟨_,.nil⟩,Z,eG _⟩|cons v a i=>obtain⟨w,l,q,r,j⟩:=r.un;have c:=e;cases d:dat n v with|false=>exact ao (il (dw d) c)|true=> obtain⟨⟨_,a⟩,b,e⟩:=f d r;obtain⟨⟨_,f⟩,k,m⟩:=i (il (dM d) c) j;exact q▸⟨⟨_,.cons a f⟩,by rw[fR,w3,b,k];rfl,by rw[fR];exact Nat.max_le.mpr ⟨e,m⟩⟩
def y5{l:ae}(e:qN n (.str l)=.str ⟨l.toArray⟩)(r:Fp l x):Fy h n x (.str l):=by obtain⟨s,t,a,b,k⟩:=r;have:(⟨l.toArray⟩)=s:=b▸Z;unfold Fy;rw[e,this];exact a▸⟨⟨_,Reads.str s t⟩,k.2,eG _⟩
def uZ(j:dq F h)(n:W):∀{x v},dat n v->Rd g F x v->Fy h n x v:=by induction n with|zero=>exact λ{x v}=>Vc (M:=λv=>dat 0 v=U->Rd g F x v->Fy h 0 x v) v (no:=λ_(e)=>e▸⟨⟨_,.none⟩,Z,eG _⟩) (bo:=λb _(e)=>e▸⟨⟨_,.bool b⟩,Z,eG _⟩) (i:=λi _(e)=>by obtain⟨t,e⟩:=e;exact e▸⟨⟨_,.int i t⟩,Z,eG _⟩) (s:=λl _=>y5 Z)|succ n k=>exact λ{x v}=>Vc (M:=λv=>dat _ v=U->Rd g F x v->Fy h _ x v) v (no:=λ_(e)=>e▸⟨⟨_,.none⟩,Z,eG _⟩) (bo:=λb _(e)=>e▸⟨⟨_,.bool b⟩,Z,eG _⟩) (i:=λi _(e)=>by obtain⟨t,e⟩:=e;exact e▸⟨⟨_,.int i t⟩,Z,eG _⟩) (s:=λl _=>y5 Z) (tu:=λl d(e)=>by obtain⟨m,n,o,e,f,z,r⟩:=e;obtain⟨⟨_,a⟩,b,c⟩:=y4 k d r;exact e▸⟨⟨_,Reads.tuple (j _ _ f) Z Z a⟩,b,eN c⟩) (ls:=λl d(e)=>by obtain⟨m,n,o,e,f,z,r⟩:=e;obtain⟨⟨_,a⟩,b,c⟩:=y4 k d r;exact e▸⟨⟨_,Reads.list (j _ _ f) Z Z a⟩,b,eN c⟩)
def rE(r:Fy h 30 x v):SeqAt.shaped (qN 30 v):=by unfold SeqAt.shaped;rw[r.2];exact cF (ay r.3 (aO Z))
def gR(x:ae):∀y:ae,cW x y=U↔x=y:=by induction x with|nil=>exact λy=>AT y ⟨λ_=>Z,λ_=>Z⟩ λ_ _=>⟨ao,λh=>ch h.symm (bN _ _)⟩|cons a x b=>refine λy=>AT y ⟨ao,λh=>ch h (bN _ _)⟩ λd y=>⟨λh=>?_,λh=>?_⟩;have c:=h;by_cases q:ac a d=U;rw[aK q,(b y).mp (il (dM q) c)];exact ao (il (dw (d8.mpr q)) c);have:=fq h;exact(dM (this.1▸cf a)).trans ((b y).mpr this.2)
def str_beq(x y:ae):((⟨x.toArray⟩:lm)==(⟨y.toArray⟩:lm))=cW x y:=by rw[yL,gR,fZ];exact⟨λh=>ah (λs:lm=>s.cps.toList) h,λh=>h▸Z⟩
def FA{b:I}(e:L3 v w=O b):dat 30 v/\dat 30 w/\kt (qN 30 v) (qN 30 w)=b:=bW e λd e=>bW e λa e=>⟨d,a,au e⟩
def Zw{b:I}(e:Zf v w=O b):dat 30 v/\dat 30 w/\kt (qN 30 v) (qN 30 w)=b:=ma e (λl h e=>ma e (λk a e=>by rw[gj h,gj a];exact⟨Z,Z,(str_beq l k).trans (au e)⟩) λ_=>FA) λ_=>FA
def FC{s:ae}{b:I}(e:ě s a=O b):aI (dat 29) a=U/\(a.map (qN 29)).any (λy=>kt y (.str ⟨s.toArray⟩))=b:=by induction a generalizing b with|nil=>exact⟨Z,au e⟩|cons y a c=>refine bL (e) λt a e=>iH e λd b e=>?_;obtain⟨d,i2⟩:=c b;rw[gj a,fR,sL,i2];refine⟨d,e▸?_⟩;have:kt (qN 29 (.str t)) (.str ⟨s.toArray⟩)=cW t s:=str_beq t s;rw[this];by_cases q:s=t;rw[(gR s t).mpr q,(gR t s).mpr q.symm];rfl;rw[d8.mpr λh=>q ((gR s t).mp h),d8.mpr λh=>q ((gR t s).mp h).symm];rfl
def XR(a b:I):br a U b=(a||b):=by cases a<;>rfl
def any_eq:Mh (λy=>kt (qN 29 y) d) a=(a.map (qN 29)).any λy=>kt y d:=by induction a with|nil=>rfl|cons y a b=> rw[fR,sL,<-b];exact XR _ _
def Zx{b:I}(e:inD v a=O b):dat 30 v/\aI (dat 29) a=U/\(a.map (qN 29)).any (λy=>kt y (qN 30 v))=b:=ma e (λd h e=>bL h λs a h=>by rw[gj a];exact⟨Z,(FC h).1,(FC h).2.trans (au e)⟩) λ_ e=>bW e λd e=>bW e λa e=>⟨d,a,il any_eq (au e)⟩
end
section
variable{c:Cx}{p:Pt}{i:St}{x y:bv}{v w:V}{b:I}
variable(j:c.OK)
def û:c.A.units+64<Rq:=fQ (d9 (aO Z) _) j.units
variable(r:bC c p i)(k:Rd c.g p.F x v)
def Ū(f:Rd c.g p.F y w)(e:Zf v w=O b):Cp c p.s .Eq x y b/\Cp c p.s .NotEq x y !b:=by obtain⟨d,g,e⟩:=Zw e;have a:=uZ r.st 30 d k;have d:=uZ r.st 30 g f;obtain⟨_,f⟩:=a.1;obtain⟨_,g⟩:=d.1;exact⟨λ_ _ q=>eq_dataH f g (rE a) (rE d) (û j) (e.symm▸q),λ_ _ q=>ne_dataH f g (rE a) (rE d) (û j) (e.symm▸q)⟩
def ahs(g:Rd c.g p.F y (.tup a))(e:inD v a=O b):Cp c p.s .In x y b/\Cp c p.s .NotIn x y !b:=by obtain⟨f,h,e⟩:=Zx e;have d:=uZ r.st 30 f k;have f:=uZ r.st 30 (v:=.tup a) h g;obtain⟨_,g⟩:=d.1;obtain⟨_,h⟩:=f.1;have u:c.A.units+1+p6 (H! (a.map (qN 29))) (qN 30 v).depth<Rq:=fQ (d9 (ay (zO _ _) d.3) _) (fQ (ay (cZ (fJ _ 1 30)) (d9 (aO Z) _)) j.units);exact⟨λ_ _ q=>SeqAt.in_tuple_reads h g f.2 d.2 u (e.symm▸q),λ_ _ q=>SeqAt.notIn_tuple_reads h g f.2 d.2 u (e.symm▸q)⟩
end
section
variable{c d:Type}{P:Prop}{l:Y c}{r:d}
def y!{f:c->Y c->N d}:lc l y f=O r->(l=[]->y=O r->P)->(∀a t,l=a::t->f a t=O r->P)->P:=AT l (λh k _=>k Z h) λa t h _ k=>k a t Z h
def lb(h:lc l y (λ_ _=>C)=O r)(k:l=[]->y=O r->P):P:=y! h k λ_ _ _=>aa
def mX{f:c->Y c->N d}(h:lc l C f=O r)(k:∀a t,l=a::t->f a t=O r->P):P:=y! h bX k
def yj{f:c->N d}(h:one l f=O r)(k:∀a,l=[a]->f a=O r->P):P:=mX h λa _ e h=>lb h λq=>k a (q▸e)
def Tt{f:c->c->N d}(h:two l f=O r)(k:∀a b,l=[a,b]->f a b=O r->P):P:=mX h λa _ e h=>yj h λb q=>k a b (q▸e)
end
def MQ(x:ae):∀y:ae,vJ x y=a? (x<y):=by induction x with|nil=>exact λy=>AT y Z λb y=>(cF (List.nil_lt_cons b y)).symm|cons a x c=>refine λy=>AT y (dQ (List.not_lt_nil _)).symm λb y=>?_;show br _ U (br _ (vJ x y) J)=_;rw[yL,EM,List.cons_lt_cons_iff];by_cases q:jp a b=U;rw[dM q];exact⟨λ_=>.inl (cw q),λ_=>Z⟩;rw[dw (d8.mpr q)];have n:=λh=>q (g8 h);by_cases z:ac a b=U;rw[dM z,c y,EM];exact⟨λh=>.inr ⟨aK z,h⟩,λh=>h.elim (λh=>ch h n) p?⟩;rw[dw (d8.mpr z)];exact⟨ao,λh=>h.elim (λh=>ch h n) λh=>ch (h.1▸cf a) z⟩
def Tu(c:W)(l:ae):uG c l=U↔c∈l:=by induction l with|nil=>exact⟨ao,λh=>ch h cr⟩|cons d l a=> have e:uG c (d::l)=(ac d c||uG c l):=XR _ _;rw[e,Bool.or_eq_true,c?,a];exact⟨λh=>h.imp (λh=>(aK h).symm) id,λh=>h.imp (λ(h:c=d)=>h▸cf c) id⟩
def found_one(x:lm)(c:W):(!(l4 x ⟨#[c]⟩ 0 x.length 1).isEmpty)=uG c x.cps.toList:=by rw[yL,StrLaws.found_iff,Tu];refine⟨λh=>h.elim λi h=>yG ((w2 x c i).mp h),λh=>?_⟩;obtain⟨i,a⟩:=List.mem_iff_getElem?.mp h;exact⟨i,(w2 x c i).mpr a⟩
def FD{y:lm}{l:ae}(h:y.cps.toList=l):y=⟨l.toArray⟩:=h▸Z
section
variable{c:Cx}{p:Pt}{s:ge}{A:St}{x y:bv}{v w:V}{g:fA}{F:bl}{b:I}
def HG{fi:D->D->I}{d:ae->ae->I}(m:∀i j t u,Cp c s a (.int i t) (.int j u) (fi i j))(n:∀x y t u,Cp c s a (.str x t) (.str y u) (d x.cps.toList y.cps.toList))(f:Rd g F y w):uH v w fi d=O b->Rd g F x v->Cp c s a x y b:=Vc (M:=λv=>uH v w fi d=O b->Rd g F x v->Cp c s a x y b) v (i:=λi e(h)=>iH e λj a e=>by obtain⟨t,h⟩:=h;obtain⟨u,k⟩:=HD a f;exact h▸k▸Cq (m i j t u) e) (s:=λl e(h)=>iH e λm a e=>by obtain⟨d,t,h,j,_⟩:=h;obtain⟨m,u,k,o,_⟩:=HE a f;exact h▸k▸Cq (n d m t u) (j.symm▸o.symm▸e))
def XS(i:c.OK)(r:bC c p A)(a:Rd c.g p.F x v)(d:Rd c.g p.F y w)(e:z0 v w=O b):Cp c p.s .In x y b/\Cp c p.s .NotIn x y !b:=ma e (λl h e=>bL e λk f e=>yj e λj q e=>by(obtain⟨s,t,k,m,_⟩:=HE f a;obtain⟨z,u,n,o,_⟩:=HE h d;have f:(!(l4 z s 0 z.length 1).isEmpty)=b:=by rw[FD (m.trans q),<-au e,<-o];exact found_one z j);exact k▸n▸⟨λ_ _ q=>PyProof.Rows.in_str (f.symm▸q),λ_ _ q=>PyProof.Rows.notIn_str (f.symm▸q)⟩) λ_ e=>bL e λf h e=>ahs i r a (Rd.as (oj h) d) e
def HH(d:Rd g F x v):BQ a v w=O b->Rd g F y w->Ch:=Vc (M:=λw=>BQ a v w=O b->Rd g F y w->Ch) w (sy:=λ_ _=>id) (i:=λi e _=>bL e λq h _=>no_sym h d) (s:=λi e _=>bL e λq h _=>no_wst h d)
where
 no_sym {q:Sy} (h:iI v=O q) (ra:Rd g F x v):Ch:=(Vc (M:=λv=>iI v=O q->Rd g F x v->Ch) v (sy:=λ_ _=>id):iI v=O q->Rd g F x v->Ch) h ra
 no_wst {q:ae} (h:mV v=O q) (ra:Rd g F x v):Ch:=(Vc (M:=λv=>mV v=O q->Rd g F x v->Ch) v (ws:=λ_ _=>id):mV v=O q->Rd g F x v->Ch) h ra
def HI(a d:ae):a? (a<d)=vJ a d:=(MQ a d).symm
def aeq(i:c.OK)(r:bC c p A){f:ut}(d:Rd c.g p.F x v)(a:Rd c.g p.F y w)(e:pe f v w=O b):Cp c p.s f x y b:=by refine ma e (λ_ h _=>(HH d h a).elim) λ_=>?_;refine pu f (λe=>(Ū i r d a e).1) (λe=>iH e λf h q=>Cq (Ū i r d a h).2 q) ?_ ?_ ?_ ?_ (λe=>(HF d e a).1) (λe=>iH e λf h q=>Cq (HF d h a).2 q) (λe=>(XS i r d a e).1) (λe=>iH e λf h q=>Cq (XS i r d a h).2 q);exact λe=>HG (λ_ _ _ _ _ _=>lt_int) (λh f _ _ _ _ q=>P.lt_str (HI _ _▸q)) a e d;exact λe=>HG (λ_ _ _ _ _ _=>le_int) (λh f _ _ _ _ q=>P.le_str (HI _ _▸q)) a e d;exact λe=>HG (λ_ _ _ _ _ _=>gt_int) (λh f _ _ _ _ q=>P.gt_str (HI _ _▸q)) a e d;exact λe=>HG (λ_ _ _ _ _ _=>ge_int) (λh f _ _ _ _ q=>P.ge_str (HI _ _▸q)) a e d
end
structure Nx(c:Cx)(p:Pt)(pg:PG)(p':Pt)(σ':St):Prop where
 ext:Ext (Ey c.G.ro) p pg p' σ'.pg
 rel:bC c p' σ'
def KW(c:Cx)(p:Pt)(b:PG)(d:St)(v:V)(Q:aT):=∀a x,Nx c p b a d->Rd c.g a.F x v->Q x a.s
def pC(c:Cx)(m:e5 bv)(p:Pt)(a:PG)(b:St)(v:V):=∀(Q:aT)(E:aT),KW c p a b v Q->he (M' c) c.A m Q E p.s
section
variable{c:Cx}{p p1 p2:Pt}{d σ1 σ2:St}{pg:PG}{x:bv}{v w:V}
variable(r:bC c p d)
def Nx.refl:Nx c p d.pg p d:=⟨.refl,r⟩
def Nx.trans(a:Nx c p pg p1 σ1)(b:Nx c p1 σ1.pg p2 σ2):Nx c p pg p2 σ2:=⟨a.ext.trans Z b.ext,b.rel⟩
def Nx.grow{h:t3}(n:W){F:bl}(k:∀a o,p.h.get? a=O o->h.get? a=O o)(b:p.F.le F)(f:∀a o,F a o->p.F a o∨(h.get? a=O o/\p.ow a=C)):Nx c p d.pg (p.up h n F p.ow) d:=⟨.grow k b,r.grow k b f⟩
def Nx.toks(n:W):Nx c p d.pg (p.up p.h n p.F p.ow) d:=.grow r n (λ_ _=>id) (λ_ _=>id) λ_ _=>.inl
def Nx.push(o:xL)(n:W):Nx c p d.pg (p.up (p.h.push o) n p.F p.ow) d:=.grow r n (λ_ _=>g9 o) (λ_ _=>id) λ_ _=>.inl
def Nx.alloc(o:xL)(n:W)(e:o.isFreed=J):Nx c p d.pg (p.up (p.h.push o) n (p.F.add p.h.objs.size o) p.ow) d:=.grow r n (λ_ _=>g9 o) (p.F.mr _ _) λa b(h)=>h.imp id λ(q:a=p.h.objs.size/\b=o)=>⟨by rw[q.1,q.2];exact gX _ e,q.1▸r.pg.own.new (aU _)⟩
def KW.tok(q:KW c p d.pg d v Q)(r:bC c p d)(h:Rd c.g p.F x v)(n:W):Q x {p.s with toks:=n}:=q _ x (Nx.toks r n) h
def KW.lst{l:af}(q:KW c p d.pg d (.lst l) Q)(r:bC c p d){a:aP}(z:jT a)(h:cD c.g p.F a l)(n k:W):Q (.ref p.h.objs.size) {p.s with heap:=p.h.push (eE a k),toks:=n}:=q _ _ (Nx.alloc r _ n Z) ⟨_,a,k,Z,p.F.hV _ _,z,h.bS (p.F.mr _ _)⟩
def KW.tup{l:af}(q:KW c p d.pg d (.tup l) Q)(r:bC c p d){a:aP}(z:jT a)(h:cD c.g p.F a l)(n k:W):Q (.ref p.h.objs.size) {p.s with heap:=p.h.push (jS a k),toks:=n}:=q _ _ (Nx.alloc r _ n Z) ⟨_,a,k,Z,p.F.hV _ _,z,h.bS (p.F.mr _ _)⟩
def jV(h:pC c m p pg d v)(e:v=w):pC c m p pg d w:=e▸h
end
def Kf(a:hZ x)(b:hZ y)(h:x.length+y.length<=lim):hZ (x++y):=⟨ay (cZ Array.size_append) h,(Array.all_append).trans (jh.mpr ⟨a.2,b.2⟩)⟩
def app_list(x y:lm):(x++y).cps.toList=x.cps.toList++y.cps.toList:=zH
def bI:lim<=Q!:=by decide
def MR(c:XV W)(n:W):∀a:XV W,((q3 n c).foldl (·++·) a).toList=a.toList++rep c.toList n:=by induction n with|zero=>exact λa=>(eq _).symm|succ n b=>exact λa=>(b _).trans (by rw[zH,am];rfl)
def Tv(n:W):rep [] n=[]:=by induction n with|zero=>rfl|succ n a=>exact a
def mul_eq(x:lm)(n:W):(Txt.mul x n).cps.toList=rep x.cps.toList n:=by unfold Txt.mul;by_cases h:(n:D)<1;rw[Nat.lt_one_iff.mp (qn.mp h)];rfl;rw[eH h];by_cases k:((n:D)==1||x.length==0)=U;rw[eP k];refine(EL.mp k).elim (λk=>?_) λk=>?_;rw[Int.ofNat_inj.mp (fZ.mp k)];exact(eq _).symm;rw[wE ((len_list x).trans (fZ.mp k)),Tv];rw[eH k];exact MR x.cps n #[]
def Tw(l:ae)(n:W):(rep l n).length=l.length*n:=by induction n with|zero=>rfl|succ n a=>exact(aX (bs:=rep l n)).trans (by rw[a,Md,hJ])
def Tx{l:ae}:c∈rep l n->c∈l:=by induction n with|zero=>exact λh=>ch h cr|succ n a=>exact λh=>(gU.mp h).elim id a
def wx{s:lm}(h:s.cps.toList.length<=lim)(k:∀c∈s.cps.toList,c<0x110000):hZ s:=⟨(len_list s)▸h,Me.mpr λc a=>cF (k c (ic.mpr a))⟩
def oZ{s:lm}(h:hZ s)(c:W)(a:c∈s.cps.toList):c<0x110000:=aO (Me.mp h.2 c (ic.mp a))
def Zy{n:W}(b:n<=lim)(a:x.length*n<=lim):MulOk x (n:D):=⟨i?.mpr ⟨dQ (qX.mpr (gM (aO Z) (eM n))),dQ (sO.mpr (jl b))⟩,λh _=>qX.mpr ((Int.le_ediv_iff_mul_le (qX.mp h)).mpr (Int.natCast_mul _ _▸Int.le_sub_one_of_lt (jl a))),λ_ _=>dQ (zV.mpr (ay a bI))⟩
section
variable{c:Cx}{p:Pt}{B:St}{x y:bv}{u v w:V}{g:fA}{F:bl}
def kH(h:bd n 1000000):n<=lim:=cw h
def XT{m:bv->bv->e5 bv}(j:∀(a b:lm)(t u:kv)(Q:aT)(E:aT),a.length+b.length<=Q!->(∀e k,Q (.str (a++b) e) {p.s with toks:=k})->he (M' c) c.A (m (.str a t) (.str b u)) Q E p.s)(r:bC c p B){l k:ae}(h:Fp l x)(i:Fp k y)(d:bd (ak l+ak k) 1000000):pC c (m x y) p B.pg B (.str (l++k)):=λQ E q=>by obtain⟨a,t,m,f,o⟩:=h;obtain⟨b,e,k,h,n⟩:=i;have d:=kH d;rw[<-f,<-h,aB,aB]at d;rw[m,k];refine j a b t e Q E (ay d bI) λa a=>q.tok r ?_ a;rw[<-f,<-h,<-app_list];exact Rd.s (Kf o n d)
def aer(r:bC c p B)(b:Rd c.g p.F y w):J3 v w=O u->Rd c.g p.F x v->pC c (hS .Add x y) p B.pg B u:=Vc (M:=λv=>J3 v w=O u->Rd c.g p.F x v->pC c _ p B.pg B u) v (i:=λi e(h)=>iH e λj a e=>by obtain⟨t,h⟩:=h;obtain⟨d,k⟩:=HD a b;exact h▸k▸e▸λQ E q=>add_int (q.tok r Rd.i _)) (s:=λl e(h)=>bL e λk d e=>bW e λa e=>jV (XT (λ_ _ _ _ _ _ z q=>PyProof.Rows.add_str q z) r h (HE d b) a) (au e)) (ls:=λl e(h:z8 p.F (cD c.g p.F · l) x)=>bL e λk d e=>bW e λa e=>jV (λQ E q=>by obtain⟨m,n,o,h,f1,f,f⟩:=h;obtain⟨s,t,z,k,A,j,j⟩:=Kn d b;have a:=kH a;rw[aB,aB,<-f.length,<-j.length]at a;have g1:=r.st _ _ f1;have b:=r.st _ _ A;rw[h,k];refine concat_meets ⟨_,g1,Z⟩ ⟨_,b,Z⟩ H7 seq_list_add PySem.F.slot_list_add PySem.F.entry_list_add (PySem.F.args_list_add_2 _ _) (list_addW m s n.toArray t.toArray o z C C #[] #[] (ay a bI)) ⟨g1,b,?_⟩;rw[zG];exact q.lst r (ay (cZ aX) a) (f.append j) _ _) (au e))
def MS(a:D)(k:W):Int.fmod a (wv (k+1))=TE a (wv (k+1)):=Int.fmod_eq_emod_of_nonneg _ (eM _)
def MT(a:D)(k:W):Int.fdiv a (wv (k+1))=Int.ediv a (wv (k+1)):=Int.fdiv_eq_ediv_of_nonneg _ (eM _)
def HJ(b:Rd g F x v)(e:J4 a v w=O z){P:Prop}:P:=bL e λ_ h _=>(HH.no_sym h b).elim
def ũ{a:Type}{f:W->N a}{z:a}{P:Prop}(h:gc n C f=O z)(k:∀m,n=m+1->f m=O z->P):P:=by induction n with|zero=>exact aa h|succ n _=>exact k n Z h
def XU{m:bv->bv->e5 bv}(h:∀(a b:D)(t u:kv)(Q:aT)(E:aT),Q (.int (a-b) p.s.toks) {p.s with toks:=p.s.toks+1}->he (M' c) c.A (m (.int a t) (.int b u)) Q E p.s)(r:bC c p B)(d:Rd c.g p.F x v)(f:Rd c.g p.F y w)(e:Ml v w=O u):pC c (m x y) p B.pg B u:=bL e λi a e=>iH e λj b e=>by obtain⟨t,i⟩:=HD a d;obtain⟨a,k⟩:=HD b f;exact i▸k▸e▸λQ E q=>h _ _ _ _ _ _ (q.tok r Rd.i _)
def aet(r:bC c p B)(f:Rd c.g p.F x v)(h:Rd c.g p.F y w)(e:yP .Mult v w=O u):pC c (hS .Mult x y) p B.pg B u:=bL e λl i e=>bL e λn j e=>bW e λb e=>bW e λa e=>jV (λQ E q=>by obtain⟨d,t,m,d,o⟩:=HE i f;obtain⟨f,k⟩:=Sr j h;have b:=kH b;have a:=kH a;rw[aB,<-d]at a;rw[m,k];refine SB.mul (Zy b a) λf k=>q.tok r ?_ k;rw[<-d,<-mul_eq];refine Rd.s (wx ?_ ?_);rw[mul_eq,Tw];exact a;rw[mul_eq];exact λc a=>oZ o c (Tx a)) (au e)
def aeu(r:bC c p B)(a:Rd c.g p.F x v)(b:Rd c.g p.F y w)(e:yP .Mod v w=O u):pC c (hS .Mod x y) p B.pg B u:=bL e λi d e=>bL e λn f e=>ũ e λm h e=>jV (λQ E q=>by refine gq λP j=>?_;obtain⟨t,k⟩:=HD d a;obtain⟨a,a⟩:=Sr f b;refine j ?_;rw[k,a,h];refine mod_int' (l!.mpr (pv m)) ?_;exact(MS i m).symm▸q.tok r Rd.i _) (au e)
def aev(r:bC c p B)(a:Rd c.g p.F x v)(b:Rd c.g p.F y w)(e:yP .FloorDiv v w=O u):pC c (hS .FloorDiv x y) p B.pg B u:=bL e λi d e=>bL e λn f e=>ũ e λm h e=>bW e λj e=>jV (λQ E q=>by obtain⟨t,k⟩:=HD d a;obtain⟨a,a⟩:=Sr f b;rw[k,a,h];refine floordiv_int (l!.mpr (pv m)) ?_ (.inl (fx (fQ (eN (kH j)) (aO Z))));exact(MT i m).symm▸q.tok r Rd.i _) (au e)
def aew(r:bC c p B){d:np}(a:Rd c.g p.F x v)(b:Rd c.g p.F y w)(e:qu d v w=O u):pC c (hS d x y) p B.pg B u:=ma e (λ_ h _=>HJ a h) λ_=>wP d (λe=>aer r b e a) (λe=>XU (λ_ _ _ _ _ _=>sub_int) r a b e) (aet r a b) aa aa (aeu r a b) aa aa aa aa aa aa (aev r a b)
def Zz(r:bC c p B)(a:Rd c.g p.F y w):dP v C (i:=λx=>mp (gb w) λy=>.int (x+y)) (s:=λx=>bn (dW w) λy=>gd (bd (ak x+ak y) 1000000) (O (.str (x++y))))=O u->Rd c.g p.F x v->pC c (B_ .Add x y) p B.pg B u:=Vc (M:=λv=>dP v C (i:=λx=>mp _ λy=>V.int (x+y)) (s:=λx=>bn _ λy=>gd (bd (ak x+ak y) 1000000) (O (.str (x++y))))=O u->Rd c.g p.F x v->pC c _ p B.pg B u) v (i:=λi e(h)=>iH e λj b e=>by obtain⟨t,h⟩:=h;obtain⟨d,k⟩:=HD b a;exact h▸k▸e▸λQ E q=>iadd_int (q.tok r Rd.i _)) (s:=λl e(h)=>bL e λk b e=>bW e λd e=>jV (XT (λ_ _ _ _ _ _ z q=>iadd_str q z) r h (HE b a) d) (au e))
def XW(r:bC c p B){a:np}(b:Rd c.g p.F x v)(d:Rd c.g p.F y w)(e:J5 a v w=O u):pC c (B_ a x y) p B.pg B u:=ma e (λ_ h _=>HJ b h) λ_=>wP a (λe=>Zz r d e b) (λe=>XU (λ_ _ _ _ _ _=>isub_int) r b d e) aa aa aa aa aa aa aa aa aa aa aa
end
def om{a:Type}(l:Y a):∀n,jj l n=l[n]?:=by induction l with|nil=>exact λn=>Z|cons c l b=>exact λn=>k! n Z b
def cD.get(r:cD g F b a){n:W}{v:V}(e:a[n]?=O v):∃w,b[n]?=O w/\Rd g F w v:=by induction a generalizing b n with|nil=>exact aa e|cons f a c=>obtain⟨w,l,q,r,d⟩:=r.un;rw[q];induction n with|zero=>exact⟨w,Z,au e▸r⟩|succ n _=>exact c d e
def cD.take(r:cD g F a b)(n:W):cD g F (a.take n) (b.take n):=by induction b generalizing a n with|nil=>rw[show a=[]from r,sJ,sJ];exact Z|cons e b c=>obtain⟨w,l,q,r,d⟩:=r.un;rw[q];induction n with|zero=>exact Z|succ n _=>exact⟨w,_,Z,r,c d n⟩
def cD.drop(r:cD g F a b)(n:W):cD g F (a.drop n) (b.drop n):=by induction b generalizing a n with|nil=>rw[show a=[]from r,zU,zU];exact Z|cons e b d=>obtain⟨w,l,q,r,c⟩:=r.un;rw[q];induction n with|zero=>exact⟨w,l,Z,r,c⟩|succ n _=>exact d c n
def MU(c:Cx)(x y:bv)(p:Pt)(a:St)(v:V):=(∃T b,p.s.TypeIs x T/\ek (.type T) "__getitem__"=H1 (O (.builtin b)))/\pC c (getItem x y) p a.pg a v
def sZ(h:hZ x)(l:y.cps.toList.length<=x.cps.toList.length)(m:∀z∈y.cps.toList,z∈x.cps.toList):hZ y:=wx (ay l (ay (cZ (len_list x)) h.1)) λz a=>oZ h z (m z a)
def ZA{n:W}(h:n<=lim):(a? ((n:D)< -2^63)||a? ((n:D)≥2^63))=J:=i?.mpr ⟨dQ (qX.mpr (gM (aO Z) (eM n))),dQ (sO.mpr (jl h))⟩
def wA{a:Type}{l:Y a}{b:a}(h:l[n]?=O b):n<l.length:=(zK.mp h).1
section
variable{c:Cx}{p:Pt}{A:St}{x y:bv}{u v w:V}
def MV(r:bC c p A)(b:Rd c.g p.F y w)(e:iJ v w=O u)(d:Rd c.g p.F x v):MU c x y p A u:=ma e (λa h _=>(no_buf h d).elim) λ_ e=>bL e λn a e=>by obtain⟨t,f⟩:=Sr a b;rw[f];refine(Vc (M:=λv=>dP v C (s:=λs=>mp (jj s n) λc=>V.str [c]) (tu:=λb=>jj b n) (ls:=λb=>jj b n)=O u->Rd c.g p.F x v->MU c x _ p A u) v (s:=λl e(h)=>iH e λb b e=>?_) (tu:=λl e(h)=>?_) (ls:=λl e(h)=>?_)) e d;obtain⟨s,d,h,d,o⟩:=h;rw[om]at b;have a:=len_list s▸d▸wA b;rw[h,<-e];refine⟨⟨"str",_,rp _ _ _,fg.lookup⟩,λQ E q=>getItem_str (ZA (jJ (zJ a o.1))) ?_ (q.tok r (Rd.s (sZ o (n0 (fQ (eG n) ((len_list s).symm▸a))) λz f=>?_)) _)⟩;rw[ox (eM n) (qn.mpr a),Option.bind_some,<-EI,d];exact b;exact(eC.mp f)▸d.symm▸yG b;obtain⟨j,k,m,h,f,z,g⟩:=h;obtain⟨o,b,i⟩:=cD.get g (il (om _ _) e);have a:=wA b;have d:=r.st _ _ f;rw[h];exact⟨⟨"tuple",_,⟨_,d,Z⟩,slot_tuple_getitem.lookup⟩,λQ E q=>PyProof.Rows.getItem_tuple ⟨_,d,Z,_,Z⟩ (gM (aO Z) (eM n)) (jl (jJ (zJ a z))) (ox (eM n) (qn.mpr a)) (BL.trans b) (q _ _ (.refl r) i)⟩;obtain⟨j,k,m,h,f,z,g⟩:=h;obtain⟨o,b,i⟩:=cD.get g (il (om _ _) e);have a:=wA b;have d:=r.st _ _ f;rw[h];exact⟨⟨"list",_,⟨_,d,Z⟩,EU⟩,λQ E q=>rk ⟨_,d,Z,_,Z⟩ (eM n) (jl (jJ (zJ a z))) (BL.trans b) (q _ _ (.refl r) i)⟩
where
 no_buf {b:ae×I} (h:mU v=O b) (ra:Rd c.g p.F x v):Ch:=(Vc (M:=λv=>mU v=O b->Rd c.g p.F x v->Ch) v (bu:=λ_ _ _=>id):mU v=O b->Rd c.g p.F x v->Ch) h ra
end
def Bd(l:N (D×kv))(d n:W):=(l=C/\n=d)∨∃t,l=O ((n:D),t)
def pU(n:W)(v:N D)(d:D):D:=oc v (λi=>max 0 (p6 (if i<0 then i+(n:D)else i) (n:D))) d
def MW(a n:W):max (0:D) (p6 (a:D) (n:D))=((p6 a n:W):D):=by by_cases h:a<=n;rw[yK h,Int.min_eq_left (ju.mpr h),p! (eM _)];have h:=jJ (EG h);rw[EW h,Int.min_eq_right (ju.mpr h),p! (eM _)]
def HK{l:N (D×kv)}(h:Bd l d a)(b:d<=n):pU n (l.map (·.1)) d=((p6 a n:W):D):=by refine h.elim (λh=>?_) λh=>?_;rw[h.1,h.2,yK b];rfl;obtain⟨t,h⟩:=h;rw[h];show max 0 _=_;rw[eH (qX.mpr (eM a)),MW]
def MX(a b:N D)(n:W):Builtin.Str.strSliceIndices a b 1 n=hK (pU n a 0) (pU n b n) 1:=by cases a<;>cases b<;>rfl
def MY(a b:N D)(n:W):sliceBounds a b C n=(pU n a 0,pU n b n,1):=by cases a<;>cases b<;>rfl
def run_eq{l:N (D×kv)}(c:Bd l 0 a)(d:Bd u n b):hK (pU n (l.map (·.1)) 0) (pU n (u.map (·.1)) n) 1=(l_ (p6 b n-p6 a n)).map (p6 a n+·):=by have z:pU n _ 0=_:=HK c (eG n);rw[HK d (aU n),z,sliceRange_one]
def HL{c:Type}(l:Y c)(a b:W):(l.drop (p6 a l.length)).take (p6 b l.length-p6 a l.length)=(l.take b).drop a:=by rw[List.drop_take];by_cases h:a<=l.length;rw[yK h];by_cases k:b<=l.length;rw[yK k];have k:=jJ (EG k);rw[EW k,<-ud,EX,Hm (ud▸Mc k a)];have h:=jJ (EG h);rw[EW h,hs (aU _),hs h,sJ,sJ]
def Tz{a:Type}{l:Y a}{z:a}(h:z∈(l.take b).drop c):z∈l:=List.mem_of_mem_take (i3 h)
def Ae{a:Type}(l:Y a)(c b:W):((l.take b).drop c).length<=l.length:=by rw[ud,Mg];exact ay (EH _ _) (zO _ _)
def whole{a:Type}{l:Y a}(e:l.length=n)(h:p6 b n-m=n)(c:m<=n):(l.drop m).take (p6 b n-m)=l:=by(have z:=by have:n<=n-m:=ay (cZ h.symm) (Mc (zO b n) m);exact ez.mp (Nat.le_of_add_le_add_left (ay (Nat.add_le_of_le_sub c this) (cZ (Nat.add_zero n).symm))));rw[h,z,List.drop_zero,<-e,EX]
def wB(g:fA)(F:bl)(w:bv)(o:N V):=oc o (Rd g F w) (w=.none)
def part_of:wB g F w o->Zh o d=O n->∃l,w=partValue l/\Bd l d n:=Option.casesOn o (λh e=>⟨C,h,.inl ⟨Z,(au e).symm⟩⟩) λv h e=>by obtain⟨t,h⟩:=Sr e h;exact⟨O (n,t),h,.inr ⟨t,Z⟩⟩
def MZ(l:N (D×kv)):IsPart (partValue l) (l.map (·.1)):=by induction l with|none=>exact .none|some p=>exact .int _ _
abbrev Cr(a b:bv):xL:={cls:=.type "slice",data:=.fields #[a,b,.none]}
section
variable{c:Cx}{p:Pt}{L:St}{x y z:bv}{u v:V}{P R:N V}{d:ii}
def aex(r:bC c p L)(B:wB c.g p.F y P)(E:wB c.g p.F z R)(F:p.h.get? d=O (Cr y z))(e:BV v P R=O u)(f:Rd c.g p.F x v):MU c x (.ref d) p L u:=ma e (λb h _=>(MV.no_buf h f).elim) λ_ e=>by refine(Vc (M:=λv=>yS v P R=O u->Rd c.g p.F x v->MU c x (.ref d) p L u) v (s:=λl e(h)=>bL e λa k e=>iH e λb m e=>?_) (ls:=λl e(h)=>bL e λa k e=>iH e λb m e=>?_)) e f;obtain⟨s,t,h,f,o⟩:=h;obtain⟨g,n,t⟩:=part_of B k;obtain⟨i,w,j⟩:=part_of E m;rw[h,<-e,<-f];rw[aB,<-f]at j;have A:oo s g i C=(l_ (p6 b s.length-p6 a s.length)).map (p6 a s.length+·):=(MX _ _ _).trans (run_eq t j);(have G:(oo s g i C).filterMap (s.cps[·]?)=(s.cps.toList.take b).drop a:=by rw[A,Q?];exact HL _ _ _);refine⟨⟨"str",_,rp _ _ _,fg.lookup⟩,λQ H q=>wpAny_getItem_str_slice (st:=C) ⟨_,F,Z,by rw[n,w];rfl⟩ Z ?_⟩;unfold sliceMade;by_cases f:(((w7 (λx:D×kv=>x.1) C).getD 1==1)&&(oo s g i C).length==s.length)=U;rw[eP f];have f:=fZ.mp f;(have K:(s.cps.toList.take b).drop a=s.cps.toList:=by rw[<-G,A,Q?];rw[A,i9,List.length_range]at f;exact whole (len_list s) f (zO _ _));exact q.tok r (K.symm▸Rd.s o) p.s.toks;rw[eH f,G];refine⟨ay (Ae ..) (ay (cZ (len_list s)) (ay o.1 bI)),q.tok r (Rd.s (sZ o (Ae ..) λ_=>Tz)) _⟩;obtain⟨f,f,A,h,G,o,A⟩:=h;obtain⟨g,n,t⟩:=part_of B k;obtain⟨i,w,j⟩:=part_of E m;rw[aB,<-cD.length A]at j;rw[h,<-e];have st:=r.st _ _ G;refine⟨⟨"list",_,⟨_,st,Z⟩,EU⟩,λQ H q=>wpAny_getItem_list_slice ⟨_,st,Z,_,Z⟩ ⟨_,F,Z,Z⟩ (n▸MZ g) (w▸MZ i) .none (λh=>aa h) ?_ (ay o bI)⟩;unfold slicePick;rw[MY];have:hK _ _ 1=_:=run_eq t j;show Q _ {p.s with heap:=p.h.push {cls:=.type "list",data:=.seq (List.filterMap (λx=>f.toArray[x]?) (hK (pU f.length _ 0) (pU f.length _ f.length) 1)).toArray 0} };rw[this,Q?];rw[HL];exact q.lst r (ay (Ae ..) o) (cD.drop (cD.take A b) a) p.s.toks 0
end
def KB(c:Cx)(p:Pt)(d:PG)(e:St)(v:V)(Q:I->ge->Prop):=∀a b,v=.bool b->Nx c p d a e->Q b a.s
def A'(c:Cx)(m:e5 I)(p:Pt)(a:PG)(b:St)(v:V):=∀(Q:I->ge->Prop)(E:aT),KB c p a b v Q->he (M' c) c.A m Q E p.s
def PZ(c:Cx)(t:I)(e:Expr)(p:Pt)(a:PG)(b:St)(v:V):=br t (A' c (isTrue e c.env (Db e c.env)) p a b v) (pC c (Db e c.env) p a b v)
def SE(c:Cx)(f:fc)(e:Expr):=∀t p a v b,f t a=O (v,b)->bC c p a->PZ c t e p a.pg b v
def G?(c:Cx)(f:St->N (N V×St))(e:N Expr):=∀p a v d,f a=O (v,d)->bC c p a->∀(Q:aT)(E:aT),(∀b x,Nx c p a.pg b d->wB c.g b.F x v->Q x b.s)->he (M' c) c.A (evalPart e c.env) Q E p.s
def KL(c:Cx)(p:Pt)(d:PG)(e:St)(f:af)(Q:aP->ge->Prop):=∀a b,Nx c p d a e->cD c.g a.F b f->Q b a.s
def LiW(c:Cx)(m:e5 (aP))(p:Pt)(a:PG)(b:St)(d:af):=∀(Q:aP->ge->Prop)(E:aT),KL c p a b d Q->he (M' c) c.A m Q E p.s
def star(c:Cx)(b:bM)(a:ww):e5 (aP):=spliced (fb a (Gc b c.env))
def aht(c:Cx)(a:bM)(b:ww):e5 (aP):=evalAll (a.map λe=>do let v<-Db e c.env;standAt b;H1 v)
def SL(c:Cx)(f:sR)(e:bM):=(∀a b d,f a=O (b,d)->b.length=e.length)/\∀p a b d,f a=O (b,d)->bC c p a->∀f,LiW c (star c e f) p a.pg d b/\LiW c (aht c e f) p a.pg d b
def FE(c:Cx)(e:Expr):=isTrue e c.env (Db e c.env)=(do let v<-Db e c.env;standAt e.pos;holding [v] (truthy v))
section
variable{c:Cx}{p p1 p2:Pt}{L σ1 σ2 A:St}{pg:PG}{u v w:V}{Q:aT}{t:I}{e ea eb ec:Expr}{f a b d:fc}{B:ww}
def KW.next(q:KW c p pg A v Q)(n:Nx c p pg p1 σ1):KW c p1 σ1.pg A v Q:=λg x h=>q g x (n.trans h)
def KB.next{Q:I->ge->Prop}(q:KB c p pg A v Q)(n:Nx c p pg p1 σ1):KB c p1 σ1.pg A v Q:=λg b h i=>q g b h (n.trans i)
def pC.next(h:pC c m p1 σ1.pg A v)(n:Nx c p pg p1 σ1)(q:KW c p pg A v Q)(E:aT):he (M' c) c.A m Q E p1.s:=h Q E (q.next n)
def A'.next{m:e5 I}{Q:I->ge->Prop}(h:A' c m p1 σ1.pg A v)(n:Nx c p pg p1 σ1)(q:KB c p pg A v Q)(E:aT):he (M' c) c.A m Q E p1.s:=h Q E (q.next n)
def SE.val(h:SE c f e)(g:f J L=O (v,A))(r:bC c p L):pC c (Db e c.env) p L.pg A v:=h J p L v A g r
def SE.yN(h:SE c f e)(g:f U L=O (v,A))(r:bC c p L):A' c (isTrue e c.env (Db e c.env)) p L.pg A v:=h U p L v A g r
def mode(g:c.OK)(i:FE c e)(h:fin t w σ1=O (v,A))(k:pC c (Db e c.env) p pg σ1 w):PZ c t e p pg A v:=by induction t with|false=>exact iu h λq j=>q▸j▸k|true=> refine iH h λb j h=>?_;have l:σ1=A:=ah Fk h;exact λQ E q=>ri (k _ E λk x n r=>wu g n.rel j r _ _ λt=>q _ b (ah v6 h).symm (l▸n.trans (Nx.toks n.rel t))) i
def Af{x y:I}(h:v=.bool x)(e:eQ v=O y):x=y:=by rw[h]at e;exact au e
def ZC(g:c.OK)(h:FE c e)(i:∀(p:Pt)(Q:aT)E,(∀t x,Rd c.g p.F x w->Q x {p.s with toks:=t})->he (M' c) c.A (Db e c.env) Q E p.s):SE c (sS w) e:=λ_ p _ _ _ e r=>mode g h e λQ E q=>i p Q E λt _ g=>q.tok r g t
def aey(k:c.OK)(h:SE c a ea):SE c (L_ a) (.UnaryOp .Not ea B):=λt p L v A e r=>aQ e λg σ1 i e=>iH e λb j e=>iu (ah O e) λq g=>q▸g▸by induction t with|false=>exact λQ E q=>ñ (h.val i r _ _ λp1 x g l=>not_value (wu k g.rel j l _ _ λt=>q _ _ (g.trans (Nx.toks g.rel t)) Z))|true=>exact λQ E q=>wpAny_isTrue_Not (h.yN i r _ _ λp1 x h g=>q p1 _ (ah (λx=>V.bool !x) (Af h j).symm) g)
def ZD(g:c.OK)(h:SE c a ea):SE c (SU a) (.UnaryOp .USub ea B):=λt p L v A e r=>aQ e λi σ1 i e=>bL e λj j e=>mode g Z e λQ E q=>ñ (h.val i r _ _ λp1 x g h=>by obtain⟨k,i⟩:=HD j h;exact i▸neg_int ((q.next g).tok g.rel Rd.i _))
def rF{g:Type}{x:I}{f:I->N g}{r:g}(i:v=.bool x)(h:bn (gH v) f=O r):f x=O r:=by rw[i]at h;exact h
def Kg{Q:I->ge->Prop}{s:ge}(h:he (M' c) c.A (isTrue ea c.env (Db ea c.env)) (λb g=>if b=U then he (M' c) c.A (isTrue eb c.env (Db eb c.env)) Q E g else he (M' c) c.A (isTrue ec c.env (Db ec c.env)) Q E g) E s):he (M' c) c.A (isTrue (.IfExp ea eb ec B) c.env (Db (.IfExp ea eb ec B) c.env)) Q E s:=by exact bR (jt h (λb _ q=>by cases b<;>exact q) λ_ _ x=>x)
def y6{x:I}{P g:Prop}(h:x->P)(k:x=J->g):if x=U then P else g:=by induction x with|true=>exact h Z|false=>exact k Z
def ZE(g:SE c a ea)(j:SE c b eb)(k:SE c d ec):SE c (SV a b d) (.IfExp ea eb ec B):=λt p L v A e r=>aQ e λh σ1 h e=>by
 have H:=g.yN h r
 induction t with
 |false=>exact λQ E q=>wpAny_IfExp (H _ _ λp1 x i g=>y6 (λh=>(j.val (il (dM h) (rF i e)) g.rel).next g q E) λh=>(k.val (il (dw h) (rF i e)) g.rel).next g q E)
 |true=>exact λQ E q=>Kg (H _ _ λp1 x i g=>y6 (λh=>(j.yN (il (dM h) (rF i e)) g.rel).next g q E) λh=>(k.yN (il (dw h) (rF i e)) g.rel).next g q E)
def ZF(h:c.OK){g:np}(i:SE c a ea)(j:SE c b eb):SE c (SX g a b) (.BinOp ea g eb B):=λt p L v A e r=>aQ e λg σ1 g e=>aQ e λk σ2 k e=>bL e λu l e=>mode h Z e λQ E q=>wpAny_BinOp (i.val g r _ _ λp1 x h i=>j.val k h.rel _ _ λp2 y g j=>(aew g.rel (i.bS g.ext.le) j l).next (h.trans g) q E)
def Ag:SL c yc []:=⟨λL g A e=>iu e λq _=>q▸Z,λp L g A e r B=>iu e λq g=>q▸g▸⟨λQ E q=>g_ (q p [] (.refl r) Z),λQ E q=>vE (q p [] (.refl r) Z)⟩⟩
def mx{e:Expr}{h:bM}:plainArg e->Gc (e::h) g=(J,Db e g)::Gc h g:=by apply@Expr.casesOn (λe=>plainArg e=U->Gc (e::h) g=(J,Db e g)::Gc h g) e<;>intros<;>first|rfl|exact ao ‹_›
def TA{h:bM}(k:SE c a ea)(n:plainArg ea)(j:SL c g h):SL c (BX a g) (ea::h):=⟨λL g A e=>aQ e λh σ1 _ e=>aQ e λm σ2 i e=>iu e λq _=>q▸ah pm (j.1 _ _ _ i),λp L g A e r B=>aQ e λh σ1 l e=>aQ e λm σ2 i e=>iu e λq g=>q▸g▸ have H:=λQ q p1 x g h p2 o m s=>q p2 _ (g.trans m) ⟨x,o,Z,h.bS m.ext.le,s⟩;⟨λQ E q=>e_ (k.val l r _ _ λp1 x g h=>(j.2 p1 σ1 _ _ i g.rel B).1 _ _ (H Q q p1 x g h)) (mx n),λQ E q=>wpAny_evalAll_cons (bR (k.val l r _ _ λp1 x g h=>bR (uh (cP ((j.2 p1 σ1 _ _ i g.rel B).2 _ _ (H Q q p1 x g h))))))⟩⟩
def KL.next{Q:aP->ge->Prop}(q:KL c p pg A g Q)(n:Nx c p pg p1 σ1):KL c p1 σ1.pg A g Q:=λg x h=>q g x (n.trans h)
def u5{h:bM}{i:aP}(j:g.length=h.length)(r:cD c.g F i g)(z:bd h.length 1000):jT i:=ay (cZ (r.length.trans j)) (ay (cw z) (aO Z))
def ZG(j:c.OK){h:sR}{g:bM}{k:W}(i:SL c h g)(z:bd g.length 1000):SE c (SY h) (.Tuple g k B):=λt p L v A e r=>aQ e λg σ1 g e=>mode j Z e λQ E q=>wpAny_Tuple ((i.2 p L _ _ g r B).1 _ _ λp1 h h j=>
 have l:=u5 (i.1 _ _ _ g) j z
 ⟨ay l bI,(q.next h).tup h.rel l j _ _⟩)
def ZH(j:c.OK){h:sR}{g:bM}(i:SL c h g)(z:bd g.length 1000):SE c (S2 h) (.List g B):=λt p L v A e r=>aQ e λg σ1 g e=>mode j Z e λQ E q=>rn ((i.2 p L _ _ g r B).1 _ _ λp1 h h j=>
 have l:=u5 (i.1 _ _ _ g) j z
 ⟨ay l bI,(q.next h).lst h.rel l j _ _⟩)
def TB{f:fc}:G? c (vR U f) C:=λp L v A e r Q E q=>iu e λh g=>qk (q p .none (g▸.refl r) (h▸Z))
def TC(h:SE c f ea):G? c (vR J f) (O ea):=λp L v A(e:ax _ (λv s=>O (O v,s))=O _)r Q E q=>aQ e λg σ1 g e=>iu e λi j=>wpAny_evalPart_some (h.val g r _ _ λp1 x g h=>q p1 x (j▸g) (i▸h))
def ZI{iv:bv}{l u:N Expr}{p:ww}:od (.Slice l u C p) J o iv=operate [iv,o] (getItem o iv):=Z
def wB.bS(s:F.le g):wB c.g F x o->wB c.g g x o:=pi id (λ_ r=>Rd.bS s r) o
def ZJ(j:c.OK){g h:St->N (N V×St)}{l u:N Expr}{i:ww}(k:SE c a ea)(m:G? c g l)(n:G? c h u):SE c (S5 a g h) (.Subscript ea (.Slice l u C i) B):=λt p L v A e r=>aQ e λg σ1 g e=>aQ e λh σ2 i e=>aQ e λh h o e=>bL e λh s e=>mode j Z e λQ E q=>ö (k.val g r _ _ λp1 x h k=>wpAny_Slice (m _ _ _ _ i h.rel _ _ λp2 y g m=>n _ _ _ _ o g.rel _ _ λi z n3 n=>qk (by have j:=Nx.push n3.rel (Cr y z) i.s.toks;obtain⟨⟨T,o,o,r⟩,G⟩:=aex j.rel (m.bS n3.ext.le) n (gX i.h Z) s (k.bS (g.trans n3).ext.le);exact tail_any o r (G.next (h.trans (g.trans (n3.trans j))) q E) ZI)))
def Cs(a:I):r3:=br a .And .Or
def XX(c:Cx)(f:I->fc)(g:bM):=∀a p L v A,bC c p L->(f a J L=O (v,A)->∀B,pC c (boolOp B (Cs a) (Rm g c.env)) p L.pg A v)/\(f a U L=O (v,A)->A' c (wo (Cs a) g c.env) p L.pg A v)
def Ah{x:I}{Q:I->ge->Prop}{s:ge}(h:he (M' c) c.A (isTrue ea c.env (Db ea c.env)) Q E s):he (M' c) c.A (wo (Cs x) [ea] c.env) Q E s:=by induction x with|true=>exact ml (jt h (λb g q=>by cases b<;>first|exact q|exact wpAny_allTrue_And_nil q) λ_ _ x=>x)|false=>exact nk (jt h (λb g q=>by cases b<;>first|exact q|exact wpAny_allTrue_Or_nil q) λ_ _ x=>x)
def Ct{x:I}{m n:e5 bv}{h:Y (e5 bv)}{s:ge}
 (k:he (M' c) c.A m (λv i=>he (M' c) c.A (truthy v) (λt g=>br (i! t x) (Q v g) (he (M' c) c.A (boolOp B (Cs x) (n::h)) Q E g)) E i) E s):
  he (M' c) c.A (boolOp B (Cs x) (m::n::h)) Q E s:=by
 cases x<;>exact bR (jt k (λv i h=>bR (uh (bR (ue (jt h (λt g j=>by cases t<;>first|exact cP j|exact j) λ_ _ x=>x))))) λ_ _ x=>x)
def Ai{x:I}{h:bM}{Q:I->ge->Prop}{s:ge}(i:he (M' c) c.A (isTrue ea c.env (Db ea c.env)) (λb g=>br (i! b x) (Q b g) (he (M' c) c.A (wo (Cs x) h c.env) Q E g)) E s):he (M' c) c.A (wo (Cs x) (ea::h) c.env) Q E s:=by induction x with|true=>exact ml (jt i (λb _ q=>by cases b<;>exact q) λ_ _ x=>x)|false=>exact nk (jt i (λb _ q=>by cases b<;>exact q) λ_ _ x=>x)
def XY{b:I}{P g:Prop}(h:b->P)(k:b=J->g):br b P g:=by induction b with|true=>exact h Z|false=>exact k Z
def TF{g:I->fc}(h:SE c a ea):XX c (yT U a g) [ea]:=λ_ p L v A r=>⟨λe B=>h.val e r,λe Q E q=>Ah (h.yN e r Q E q)⟩
def M0(h:c.OK){j:I->fc}{g:bM}(n:SE c a ea)(o:XX c j (eb::g)):XX c (yT J a j) (ea::eb::g):=λx p L v A r=>⟨λ(e:ax _ (λv s=>bn _ λb=>br _ (O (v,s)) _)=O _)B=>aQ e λz σ1 k e=>bL e λb i e=>λQ E q=>Ct (n.val k r _ _ λp1 w g y=>wu h g.rel i y _ _ λt=>XY
   (λh=>iu (il (dM h) e) λl m=>q _ w (m▸g.trans (Nx.toks g.rel t)) (l▸y)) λh=>have y:=Nx.toks g.rel t;((o x _ _ _ _ y.rel).1 (il (dw h) e) B).next (g.trans y) q E),
  λ(e:ax _ (λv s=>bn (eQ v) λb=>br (i! b x) (O (v,s)) (j x U s))=O _)=>aQ e λz σ1 k e=>bL e λb i e=>λQ E q=>Ai (n.yN k r _ _ λp1 w j g=>(Af j i).symm▸XY (λh=>iu (il (dM h) e) λl m=>q p1 _ (l▸(Af j i)▸j) (m▸g)) λh=>((o x _ _ _ _ g.rel).2 (il (dw h) e)).next g q E)⟩
def HM{x:I}{g:I->fc}{h:bM}(i:XX c g h):SE c (g x) (.BoolOp (Cs x) h B):=λt p L v A e r=>by induction t with|false=>exact λQ E q=>by rw[arm_eval_BoolOp];exact(i x p L v A r).1 e B Q E q|true=>exact λQ E q=>wpAny_isTrue_BoolOp ((i x p L v A r).2 e Q E q)
end
def FF(x:lm)(t:kv):(Value.str x t).isStr x=U:=cF Z
def M1{t:kv}(h:x≠y):(Value.str x t).isStr y=J:=dQ h
def HN{g:fA}(c:∀x y,g.nm x=g.nm y->x=y){v:bv}{a b:W}{t:kv}(e:v=.str (g.nm a) t):v.isStr (g.nm b)=ac a b:=by rw[e];by_cases q:a=b;rw[q,FF,cf];rw[M1 λz=>q (c _ _ z),jU q]
def gA{g:fA}(d:∀x y,g.nm x=g.nm y->x=y){e:M2}{es:gQ}{a b:W}{t:kv}(c:e.key=.str (g.nm a) t):d4 (g.nm b) (e::es)=br (ac a b) (O (O e.val)) (d4 (g.nm b) es):=by unfold d4;rw[eT,HN d c,sL,show e.refKey=J by unfold CB;rw[c]];cases ac a b<;>rfl
def Ũ(g:fA)(F:bl)(b:gQ)(a:W)(o:N V):=oc o (λv=>∃w,d4 (g.nm a) b=O (O w)/\g.yX a/\Rd g F w v) (d4 (g.nm a) b=O C)
def z9.get(c:∀x y,g.nm x=g.nm y->x=y){F:bl}{a:aY}(b:W):∀{es:gQ},z9 g F es a->Ũ g F es b (aj b a):=by induction a with|nil=>exact λr=>(r)▸Z|cons p a d=>refine λ{es}(r)=>?_;obtain⟨e,l,q,⟨a,⟨t,f⟩,g⟩,h⟩:=r;have G:=gA c (es:=l) (b:=b) f;rw[q];by_cases z:ac p.1 b=U;rw[dM z]at G;rw[fE z];exact⟨e.val,G,aK z▸a,g⟩;have z:=d8.mpr z;rw[dw z]at G;have H:=d h;unfold Ũ at H ⊢;rw[dH z,G];exact H
def HO(k:Ow):N W:=Ow.casesOn (motive:=λ_=>N W) k C O C C aaG C C
def XZ(k:Ow):N W:=Ow.casesOn (motive:=λ_=>N W) k C aaG C C O C C
def TG(h:Ow.bU a=Ow.loc x):Ch:=aa (ah HO h)
def Aj(h:Ow.loc a=Ow.loc x):a=x:=au (ah HO h)
def HP(h:Ow.bU a=Ow.bU x):a=x:=au (ah XZ h)
def FG(h:shared w)(e:w=.loc x):Ch:=ao (e▸h:shared (.loc x)=U)
section
variable{c:Cx}{p:Pt}{B:St}{x:bv}{v u:V}{a:W}{q:PA}
variable(F:c.OK)
def wD:Rd c.g p.F x v->a4 x:=Vc (M:=λv=>Rd c.g p.F x v->a4 x=U) v (no:=λh=>h▸Z) (bo:=λ_(h)=>h▸Z) (i:=λi(h)=>by obtain⟨_,h⟩:=h;exact h▸Z) (s:=λi(h)=>by obtain⟨_,_,h,_⟩:=h;exact h▸Z) (tu:=λl(h)=>by obtain⟨_,_,_,h,_⟩:=h;exact h▸Z) (ls:=λl(h)=>by obtain⟨_,_,_,h,_⟩:=h;exact h▸Z) (ob:=λk l(h)=>by obtain⟨_,_,_,_,h,_⟩:=h;exact h▸Z) (cl:=λn(h)=>h.1▸Z) (fn:=λn(h)=>h.1▸Z) (bi:=λn(h)=>(h)▸F.kf.handed n) (cd:=λn(h)=>h.1▸Z) (me:=λm(h)=>by obtain⟨_,h,_⟩:=h;exact h▸Z) (pa:=λh=>h.1▸Z) (ta:=λh=>h.1▸Z) (sy:=λ_=>pp) (bu:=λ_ _=>pp) (un:=pp) (ws:=λ_=>pp)
def FH:yi c.g p a x q->a4 x:=
 have b:∀{d},qA c.g p a x d->a4 x:=λh=>by obtain⟨t,h,_⟩:=h;exact h▸Z
 PA.casesOn q (λ_=>wD F) (λ_=>b) (λ_=>b) (λ_=>b) λ_=>b
def Ź(c:Cx)(p:Pt)(B:St)(b:gQ)(n:Nat):=pT c.g p B.pg.par b n/\W.InstAt p.h c.g.par (kZ c.g.uN c.g.dG) c.g.uN (O (fC b n))
variable(r:bC c p B)(H:c.g.dj)
def qB:∃b n,Ź c p B b n:=by obtain⟨_,_,h,b,n,d⟩:=r.pg.par H;exact⟨b,n,d,h,Z,Z,d.at_⟩
def TH(c:Cx)(p:Pt)(a:W)(w:bv):=∀(Q:aT)(E:aT),Q w {p.s with toks:=p.s.toks+1}->he (M' c) c.A (getAttr (.ref c.g.par) (c.g.nm a) U) Q E p.s
def Ak(e:aj a B.pg.par=O q):∃w,yi c.g p a w q/\TH c p a w:=by obtain⟨b,n,d,b⟩:=qB r H;have G:=d.bU a;rw[e]at G;obtain⟨d,w,e,h⟩:=G;exact⟨w,h,λQ E q=>g! (F.In r) b (qp (F.kf.Cf (c.g.nm a) H)).1 (r0 (F.kf.Cg H) (F.kf.Ci a H d) Z e) (FH F h) q⟩
def FI(r:bC c p B){b:gQ}{n:W}(d:Ź c p B b n)(e:aj a B.pg.par=C):lookIn (c.g.nm a) (fC b n)=O C:=by have G:=d.1.bU a;rw[e]at G;exact G
def M3(e:aj a B.pg.par=C){b:Y (ae×V)}(h:c.G.cA a=O b):c.g.Zp a/\TH c p a (.ref (c.g.uM a)):=by obtain⟨d,n,d⟩:=qB r H;obtain⟨f,g,i,j⟩:=F.kf.KX a b H h;exact⟨f,λQ E q=>g! (F.In r) d.2 (qp (F.kf.Cf (c.g.nm a) H)).1 (findObj_cls (F.kf.Cg H) g i Z j (FI r d e)) Z q⟩
def wG:pL q=O u->q=.val u:=PA.casesOn q (λ_ h=>ah PA.val (au h)) bX bX bX λ_=>aa
def aeB:jk c.G v a B=O u->Rd c.g p.F x v->pC c (getAttr x (c.g.nm a) U) p B.pg B u:=by have X:=F.In r;refine Vc (M:=λv=>jk c.G v a B=O u->Rd c.g p.F x v->pC c _ p B.pg B u) v (pa:=λe(h)=>h.1▸ma e (λq d e=>?_) λd e=>jg e (λn e=>?_) λ_ e=>iH e λb o e=>jV (λQ E q=>?_) e) (ob:=λk b e(h)=>?_) (cl:=λk e(h)=>bL e λm g i=>?_);obtain⟨j,b,s,t,h,b,f,w,_,y⟩:=h;have l:=Fx r.st f w;have G:=z9.get F.kf.inj a y;rw[h];refine ma e (λw f e=>?_) λy e=>bL e λm g i=>?_;rw[f]at G;obtain⟨m,z,A,m⟩:=G;exact jV (λQ E q=>g! X l (qp (F.kf.Kc k (c.g.nm a) b)).1 (r0 (F.kf.Fv k b) (F.kf.Ti k a b A) Z z) (wD F m) (q.tok r m _)) (au e);rw[y]at G;obtain⟨w,f1,m,f3,f4,f5,_⟩:=F.kf.const _ _ _ _ g i;exact λQ E q=>g! X l (qp (F.kf.Kc k (c.g.nm a) b)).1 (findObj_cls (F.kf.Fv k b) f1 m f3 f4 G) f3 (q.tok r (f5.bS r.base) _);obtain⟨w,f1,m,f3,f4,f5,f6⟩:=F.kf.const _ _ _ _ g i;exact h.1▸λQ E q=>cls_value X (F.kf.Ad k h.2) f6 f3 (q.tok r (f5.bS r.base) _);obtain⟨w,f,G⟩:=Ak F r h.2 d;rw[wG e]at f;exact λQ E q=>G Q E (q.tok r f _);obtain⟨s,t,j⟩:=qB r h.2;obtain⟨m1,m2,m3,f,g,i⟩:=F.kf.Cj a h.2 n;have b:=qp (F.kf.Cf (c.g.nm a) h.2);refine jV (λQ E q=>?_) (au e);exact get_bind X j.2 b.1 (findObj_fn (F.kf.Cg h.2) m2 f g i (FI r j d)) b.2 (sP (fn_get X (fZ.mp m3) (handed_on Z (q _ _ (Nx.alloc r _ _ Z) ⟨_,Z,m1,h.2,p.F.hV _ _⟩))));have G:=M3 F r h.2 d o;exact G.2 Q E (q.tok r ⟨Z,G.1⟩ _)
end
section
variable{c:Cx}{p p':Pt}{σ σ':St}{x:W}{v u:V}{a:W}{t t':ii}{h:t3}{L:ii}{m m':lm->eU}
def Al(a:h.Ns L m)(b:h.Ns L m'):m=m':=by(refine gq λP d=>?_;obtain⟨o,e,f,g,i,_,j⟩:=a;obtain⟨k,k,l,n,o,_,q⟩:=b;refine d ?_;have b:=au (il g n);have:Data.dict e f=Data.dict k l:=il i (b▸o);injection this with this);funext x;rw[<-j,<-q,this]
def Nx.freeze(r:bC c p σ){b:af}(e:aj x σ.loc=O (.own b)):∃p' w,p'.s=p.s/\Nx c p σ.pg p' (aE σ x (.val (.lst b)))/\(∃m,p.h.Ns c.L m/\m (c.g.nm x)=O w)/\Rd c.g p'.F w (.lst b):=by refine gq λP i=>?_;obtain⟨m,d,f⟩:=r.loc;have H:=f x;rw[e]at H;obtain⟨t,g,j,k,n,l,z,o⟩:=H;refine i ?_;have S:=kF.freeze r.pg.own j l (λh=>aa (ah HO h).symm) (λh=>aa (ah HO h).symm);have R:Rd c.g _ _ (.lst b):=⟨t,k,n,Z,p.F.hV _ _,z,o.bS (p.F.mr _ _)⟩;refine⟨{p with F:=p.F.add t _,ow:=bQ t C p.ow},.ref t,Z,⟨⟨S.le,S.sh,λ_ _ e _=>e,S.ex,S.to,S.ck,S.kr,aU _,λ_=>⟨λ_=>Z,λb t' o=>S.ko t' _ o TG⟩⟩,S.MN r (λw h e=>FG h e) d λb=>?_⟩,⟨m,d,g⟩,R⟩;by_cases q:b=x;rw[q,show aj x _=_ from dk];exact⟨_,g,R⟩;rw[show aj b _=_ from bZ q];exact(f b).to S Z λh=>q (Aj h)
def s6(c:Cx)(x:W):=(c.g.nm x==("__debug__":lm))=J
def jW(b:c.OK)(d:aq c.lv x){w:bv}(e:p.h.Ns c.L m)(f:m (c.g.nm x)=O w){Q:aT}{E:aT}(q:Q w p.s):he (M' c) c.A (hN c.env (c.g.nm x)) Q E p.s:=EO b.kind (b.loc x d) (b.locals▸e) f q
def X3(g:c.OK)(r:bC c p σ)(e:J7 c.G c.lv x σ=O (v,σ')):pC c (hN c.env (c.g.nm x)) p σ.pg σ' v:=by refine jg e (λf e=>bL e λl b=>?_) λf e=>iH e λu n e=>?_;refine LV.casesOn l (λd b e=>?_) (λd b e=>?_) b;obtain⟨m,i,H⟩:=r.loc;have H:=H x;rw[b]at H;obtain⟨w,j,k⟩:=H;exact iu e λq d=>q▸d▸λQ E q=>jW g f i j (q p w (.refl r) k);obtain⟨p',w,o,s,⟨m,i,j⟩,k⟩:=Nx.freeze r b;exact iu e λq d=>q▸d▸λQ E q=>jW g f i j (o▸q p' w s k);obtain⟨y,b,k⟩:=g.glob x u f n;exact iu (ah O e) λq d=>q▸d▸λQ E q=>k p.s Q E (λa o h=>r.Tp a o h) (q p y (.refl r) (b.bS r.base))
def pV(c:Cx)(p:Pt)(x:W)(t:ii):=∃m,p.h.Ns c.L m/\m (c.g.nm x)=O (.ref t)
def pW(c:Cx)(p:Pt)(a:W)(t:ii)(k:N (N W)):=oc k (λk=>oc k (λk=>t=c.g.uM k) (p.ow t=O (.bU a))) (t=c.g.uM a)
def wH(c:Cx)(p:Pt)(σ:St)(b:Pl)(t:ii):=LI b (λx=>pV c p x t) λa=>pW c p a t (kN (aj a σ.pg.par))
def wH.det(r:bC c p σ){b:Pl}:wH c p σ b t->wH c p σ b t'->t=t':=Pl.casesOn b (λx h k=>by obtain⟨m,d,e⟩:=h;obtain⟨m',f,b⟩:=k;rw[Al f d]at b;exact ef (au (il e b))) λa=>pi (motive:=λk=>pW c p a t k->pW c p a t' k->t=t') (λh k=>h.trans k.symm) (pi (λh k=>r.pg.own.inj _ _ _ h k λq=>aa (ah XZ q).symm) λk h k=>h.trans k.symm) _
def wH.step(n:Nx c p σ.pg p' σ')(r:bC c p σ)(k:calm σ σ'):wH c p σ b t->wH c p' σ' b t:=Pl.casesOn b (λx h=>by obtain⟨m,d,e⟩:=h;exact⟨m,d.at λ_ b=>n.ext.keep _ _ b (r.kr▸Z),e⟩) λa h=>by have b:=n.ext.calm (aK k).symm;show pW c p' a t _;rw[b.1 a];exact pi (motive:=λk=>pW c p a t k->pW c p' a t k) id (pi (b.2 a t) λ_=>id) _ h
def A!(c:Cx)(b:Pl)(e:Expr):=LI b (λx=>s6 c x/\∃b,e=.Name (c.g.nm x) b) λa=>s6 c 0/\∃d b,e=.Attribute (.Name (c.g.nm 0) d) (c.g.nm a) b
def AdW(c:Cx)(m:e5 bv)(p:Pt)(t:ii):=∀(Q:aT)(E:aT),(∀k,Q (.ref t) {p.s with toks:=k})->he (M' c) c.A m Q E p.s
structure ZK(c:Cx)(p:Pt)(σ:St)(pl:Pl)(e:Expr)(cn:Cn)(t:ii):Prop where
 is:wH c p σ pl t
 at_:g5 c.g p t cn
 ns:(t==Do)=J
 ev:AdW c (Db e c.env) p t
def M4(b:c.OK)(r:bC c p σ){k:Ow}(h:p.ow t=O k):(t==Do)=J:=qT λq=>by obtain⟨o,d⟩:=b.kf.To;exact aa ((r.pg.own.fz _ _ (r.base _ _ d)).2.symm.trans (q▸h))
def y7(e:iP b σ):aq b 0/\aj 0 σ.loc=O (.val .par):=by cases h:aq b 0 with|false=>exact ao (il (dw h) e)|true=>have e:=il (dM h) e;refine⟨Z,?_⟩;cases k:aj 0 σ.loc with|none=>rw[k]at e;exact ao e|some l=> rw[k]at e;exact LV.casesOn l (λv h=>(rC h)▸Z) aV e
def Am(r:bC c p σ)(e:iP c.lv σ):c.g.dj/\aq c.lv 0/\pV c p 0 c.g.par:=by refine gq λP d=>?_;have h:=y7 e;obtain⟨m,e,H⟩:=r.loc;have H:=H 0;rw[h.2]at H;obtain⟨w,f,b⟩:=H;refine d ?_;exact⟨b.2,h.1,m,e,b.1▸f⟩
def X5(d:c.OK)(r:bC c p σ){k:W}{b:Y (ae×V)}(e:c.G.cA k=O b):g5 c.g p (c.g.uM k) (.vI b):=by obtain⟨o,f,h⟩:=d.kf.MO k b e;exact h p r.base (r.Tp _ _ f)
def ZL(e:c.OK){b d:ww}(g:s6 c 0)(f:aq c.lv 0)(h:pV c p 0 c.g.par)(G:TH c p a (.ref t)):AdW c (Db (.Attribute (.Name (c.g.nm 0) b) (c.g.nm a) d) c.env) p t:=λQ E q=>by obtain⟨m,i,j⟩:=h;exact Attribute_name (qW (jW e f i j (G Q E (q _))) g)
def HQ{q:PA}:Mn c.G q=O d->(∃k b,q=.val (.cd k)/\c.G.cA k=O b/\d=.vI b)∨((∀w,yi c.g p a w q->qA c.g p a w d)/\kN (O q)=O C):=PA.casesOn q (λv e=>bL e λk d e=>iH e λb f e=>.inl ⟨k,b,ah PA.val (Tq d),f,e.symm⟩) (λ_ e=>.inr ⟨λ_ h=>au e▸h,Z⟩) (λ_ e=>.inr ⟨λ_ h=>au e▸h,Z⟩) (λ_ e=>.inr ⟨λ_ h=>au e▸h,Z⟩) λ_ e=>.inr ⟨λ_ h=>au e▸h,Z⟩
def my(f:c.OK)(r:bC c p σ){pl:Pl}{e:Expr}{cn:Cn}:A! c pl e->iQ c.G c.lv σ pl=O cn->∃t,ZK c p σ pl e cn t:=by refine Pl.casesOn pl (λx o e=>?_) λa o e=>?_;obtain⟨s,M,w⟩:=o;refine bW e λP e=>bL e λl y e=>?_;obtain⟨m,j,H⟩:=r.loc;have H:=H x;rw[y]at H;have i:∀{t k},m _=O _->p.ow t=O k->g5 c.g p t cn->∃t,ZK c p σ (.loc x) _ cn t:=λ{t k}b d g=>⟨t,⟨m,j,b⟩,g,M4 f r d,λQ Q q=>w▸qW (jW f P j b (q p.s.toks)) s⟩;refine LV.casesOn l (λv H e=>bW e λP e=>?_) (λj H e=>?_) H e;obtain⟨E,b,j⟩:=H;have j:=Rd.as (sX P) j;have T:=r.pg.aG j.2;exact i (j.1▸b) T.1 (au e▸T.2);obtain⟨t,b,j,d⟩:=H;exact i b j (au e▸d);obtain⟨s,j,M,w⟩:=o;refine bW e λj e=>?_;obtain⟨F,y,o⟩:=Am r j;have i:∀{t},pW c p a t _->g5 c.g p t cn->_=J->TH c p a _->∃t,ZK c p σ (.bU a) _ cn t:=λ{t}b d g G=>⟨t,b,d,g,w▸ZL f s y o G⟩;refine ma e (λq z e=>?_) λK e=>iH e λA B e=>?_;obtain⟨E,n,G⟩:=Ak f r F z;refine(HQ (p:=p) (a:=a) e).elim (λh=>?_) λh=>?_;obtain⟨k,A,b,d,g⟩:=h;have n:=(b▸n);exact i (z▸b▸Z) (g▸X5 f r d) (f.kf.Cm k A d) (n.1▸G);obtain⟨t,b,d,g⟩:=h.1 E n;exact i (z▸h.2▸d) g (M4 f r d) (b▸G);exact i (K▸Z) (e▸X5 f r B) (f.kf.Cm a A B) (M3 f r F K B).2
end
section
variable{g:fA}{F:bl}{K j:Type}[gk K]{f:K->j}{i:Y (K×bv)}{kvs:Y (j×V)}
def rG(g:fA)(F:bl)(f:K->j)(i:Y (K×bv))(kvs:Y (j×V)):=i.map (λd=>f d.1)=kvs.map (·.1)/\cD g F (i.map (·.2)) (kvs.map (·.2))
def rG.cons{d:K×bv}{p:j×V}(h:f d.1=p.1)(r:Rd g F d.2 p.2)(t:rG g F f i kvs):rG g F f (d::i) (p::kvs):=⟨vo (ah R' h) t.1,_,_,Z,r,t.2⟩
def rG.ZM(h:rG g F f i []):i=[]:=vA.mp h.1
def rG.un{p:j×V}(h:rG g F f i (p::kvs)):∃d l,i=d::l/\f d.1=p.1/\Rd g F d.2 p.2/\rG g F f l kvs:=by induction i with|nil=>exact ch h.1.symm (bN _ _)|cons d l _=> have e:=fq h.1;obtain⟨w,m,q,r,a⟩:=h.2.un;have q:=fq q;exact⟨d,l,Z,e.1,(show d.2=w from q.1)▸r,e.2,q.2▸a⟩
def rG.len(h:rG g F f i kvs):i.length=kvs.length:=il (i9 _) ((ah ey h.1).trans (i9 _))
def rG.emp(h:rG g F f i kvs):i.isEmpty=kvs.isEmpty:=lK h.len
def ZN(q:j->I)(l:Y (j×V)):N V:=bm (motive:=λ_=>N V) C (λp _ a=>br (q p.1) (O p.2) a) l
def Kh(g:fA)(F:bl)(o:eU)(v:N V):=oc v (λv=>∃w,o=O w/\Rd g F w v) (o=C)
def Ki{d:K×bv}(e:d.1=k):d_ (d::i) k=O d.2:=by unfold d_;rw[eT,cF e];rfl
def Kj{d:K×bv}(e:d.1≠k):d_ (d::i) k=d_ i k:=by unfold d_;rw[eT,dQ e]
def rG.get{q:j->I}(a:∀x,q (f x)=a? (x=k))(h:rG g F f i kvs):Kh g F (d_ i k) (ZN q kvs):=by induction kvs generalizing i with|nil=>rw[h.ZM];exact Z|cons p l b=>obtain⟨d,m,e,c,r,t⟩:=h.un;have z:ZN q (p::l)=br (a? (d.1=k)) (O p.2) (ZN q l):=ah (br · _ _) (il (ah q c) (a d.1));rw[e,z];by_cases n:d.1=k;rw[dM (cF n),Ki n];exact⟨_,Z,r⟩;rw[dw (dQ n),Kj n];exact b t
end
section
variable{g:fA}{F:bl}{n:Y (D×bv)}{kvs:eu}{k:D}
abbrev LO(g:fA)(F:bl):Y (D×bv)->eu->Prop:=rG g F (id:D->D)
def TJ{a:Type}(q:a->I)(k:a)(v:V)(l:Y (a×V)):Y (a×V):=bm (motive:=λ_=>Y (a×V)) [(k,v)] (λp l a=>br (q p.1) ((k,v)::l) (p::a)) l
def rG.put{K c:Type}[gk K]{f:K->c}{n:Y (K×bv)}{kvs:Y (c×V)}{q:c->I}{k:K}(e:∀x,q (f x)=a? (x=k)){w:bv}{v:V}(r:Rd g F w v)(h:rG g F f n kvs)(b:(n.map (·.1)).Nodup):rG g F f (mm n k w) (TJ q (f k) v kvs):=by induction kvs generalizing n with|nil=>rw[h.ZM];exact rG.cons Z r ⟨Z,Z⟩|cons p l a=>obtain⟨d,m,i,c,j,t⟩:=h.un;rw[i]at b ⊢;have b:=mT.mp b;have z:TJ q (f k) v (p::l)=br (a? (d.1=k)) ((f k,v)::l) (p::TJ q (f k) v l):=ah (br · ((f k,v)::l) (p::TJ q (f k) v l)) (il (ah q c) (e d.1));rw[z];unfold mm;rw[sL];by_cases q:d.1=k;rw[cF q,fR,eP q,map_store_of_not_mem m k w (q▸b.1)];exact rG.cons (ah f q) r t;rw[dQ q,Bool.false_or,fR,eH q];have a:=rG.cons c j (a t b.2);unfold mm at a;by_cases b:(m.any λc=>a? (c.1=k))=U;rw[eP b]at a ⊢;exact a;rw[eH b]at a ⊢;exact a
def LO.put(r:Rd g F w v)(h:LO g F n kvs)(a:(n.map (·.1)).Nodup):LO g F (mm n k w) (dput k v kvs):=rG.put (q:=λi=>a? (i=k)) (λ_=>Z) r h a
def LO.del(h:LO g F n kvs)(a:(n.map (·.1)).Nodup):LO g F (without n k) (yb k kvs):=by induction kvs generalizing n with|nil=>rw[h.ZM];exact⟨Z,Z⟩|cons p l e=>obtain⟨d,m,c,b,f,t⟩:=h.un;rw[c]at a ⊢;have a:=mT.mp a;have z:yb k (p::l)=br (a? (d.1=k)) l (p::yb k l):=ah (λi:D=>br (a? (i=k)) l (p::yb k l)) (b.symm);rw[z];unfold without;rw[ar];by_cases q:d.1=k;rw[dM (cF q),eH λh=>(aO h) q];have c:=without_of_not_mem m k (q▸a.1);unfold without at c;exact c.symm▸t;rw[dw (dQ q),eP (cF q)];exact rG.cons b f (e t a.2)
end
section
variable{prog:zs}{w:ty}{i:D}{s:lm}{t:kv}
def int_is:(mI prog w).is i (.int i t)=U:=cF Z
def str_is:(No prog w).is s (.str s t)=U:=cF Z
def X6(k x:lm):cW x.cps.toList k.cps.toList=a? (x=k):=by rw[yL,gR,EM];exact⟨λh=>(FD h).trans (FD Z).symm,λh=>h▸Z⟩
def An(k:D)(c:LO g F a b):Kh g F (d_ a k) (zY k b):=rG.get (q:=λi=>a? (i=k)) (λ_=>Z) c
abbrev O?(g:fA)(F:bl):jc->Y (ae×V)->Prop:=rG g F λs:lm=>s.cps.toList
def HR(k:lm)(c:O? g F a b):Kh g F (d_ a k) (Fc k.cps.toList b):=rG.get (q:=λl=>cW l k.cps.toList) (X6 k) c
def wI{K:Type}[gk K]{b:qR prog w K}{h:t3}{c:ii}{a:Y (K×bv)}(x:h.DictOf b c a):(a.map (·.1)).Nodup:=by obtain⟨_,_,_,_,_,_,_,_,n⟩:=x;exact n
end
section
variable{c:Cx}{p:Pt}{L:St}{t:ii}{cn H:Cn}{x y:bv}{i v u:V}{b:I}
def M5(d:(t==Do)=J):g5 c.g p t cn->A5 c p (.ref t) (oU cn):=Cn.casesOn cn (λa a Q E q=>by obtain⟨e,n,h,z,r⟩:=a;refine vy ⟨_,h,Z,_,Z⟩ (oY z) ?_;rw[sY,lK r.length];exact q _) (λe a Q E q=>by obtain⟨f,h,z,r⟩:=a;exact v' d h (jl z) (rG.emp (f:=id) r▸q _)) (λe a Q E q=>by obtain⟨f,h,z,_,r⟩:=a;exact v' d h (jl z) (rG.emp (f:=λs:lm=>s.cps.toList) r▸q _)) λ_=>pp
def FJ(h:Kh c.g p.F o (O u)):∃w,o=O w/\Rd c.g p.F w u:=h
def M6{v:N V}:Kh c.g p.F o v->o.isSome=v.isSome:=pi (λh=>(h)▸Z) (λv h=>by obtain⟨w,h,_⟩:=h;exact h▸Z) v
def TK(r:bC c p L)(m:Rd c.g p.F y i):qv cn i=O u->g5 c.g p t cn->MU c (.ref t) y p L u:=Cn.casesOn cn (λa e d=>bL e λn a e=>by obtain⟨f,k,h,z,f⟩:=d;obtain⟨o,g⟩:=Sr a m;obtain⟨s,a,j⟩:=cD.get f (il (om _ _) e);rw[g];exact⟨⟨"list",_,⟨_,h,Z⟩,EU⟩,λQ E q=>rk ⟨_,h,Z,_,Z⟩ (eM n) (jl (jJ (zJ (wA a) z))) (BL.trans a) (q _ _ (.refl r) j)⟩) (λw e d=>bL e λk n e=>by obtain⟨A,h,z,f⟩:=d;obtain⟨o,g⟩:=HD n m;obtain⟨s,a,j⟩:=FJ (e▸An k f);rw[g];exact⟨⟨"dict",_,h.typeIs,e6.lookup⟩,λQ E q=>A? int_is h.mapOf a (q.tok r j _)⟩) (λw e d=>bL e λl n e=>by obtain⟨A,h,z,_,f⟩:=d;obtain⟨k,o,g,d,_⟩:=HE n m;rw[<-d]at e;obtain⟨s,a,j⟩:=FJ (e▸HR k f);rw[g];exact⟨⟨"dict",_,h.typeIs,e6.lookup⟩,λQ E q=>A? str_is h.mapOf a (q.tok r j _)⟩) λ_=>aa
def ï(c:Cx)(p:Pt)(a:ut)(x y:bv)(b:I):=∀(Q:aT)(E:aT),(∀k,Q (.bool b) {p.s with toks:=k})->he (M' c) c.A (B! a x y) Q E p.s
def s7(d:g5 c.g p t (.kU a))(e:a.isEmpty):p.h.DictOf (No c.g.prog c.g.w) t []:=by refine gq λP a=>?_;obtain⟨f,h,_,f,_⟩:=d;have d:=vA.mp (f.trans (ah (b? (·.1)) (cO.mp e)));rw[d]at h;obtain⟨o,d,e,f,g,j,_,k,_⟩:=h;refine a ?_;(have a:=by have z:=k.length;exact Array.eq_empty_of_size_eq_zero (il zT z));exact⟨o,d,e,f,g,j,λx d=>by rw[a]at d;exact ch d (Array.not_mem_empty x),by rw[a];exact .nil,zR⟩
def ZO(a:(t==Do)=J)(j:Rd c.g p.F y i):vO cn i=O b->g5 c.g p t cn->ï c p .In y (.ref t) b/\ï c p .NotIn y (.ref t) !b:=
 Cn.casesOn cn bX (λr e d=>ma e (λk f e=>by
   obtain⟨s,h,z,m⟩:=d;obtain⟨n,g⟩:=HD f j;have G:=(M6 (An k m)).trans (au e);rw[g,<-G];exact⟨λQ E q=>n? int_is a h.mapOf (q _),λQ E q=>hI int_is a h.mapOf (q _)⟩) λ_ e=>bW e λo e=>iH e λl f e=>by
   obtain⟨k,n,g,_,_⟩:=HE f j;rw[g,<-e];exact⟨λQ E q=>n? str_is a (s7 d o).mapOf (q _),λQ E q=>hI str_is a (s7 d o).mapOf (q _)⟩)
  (λr e d=>iH e λl f e=>by obtain⟨s,h,z,_,m⟩:=d;obtain⟨k,n,g,d,_⟩:=HE f j;rw[<-d]at e;have G:=(M6 (HR k m)).trans e;rw[g,<-G];exact⟨λQ E q=>n? str_is a h.mapOf (q _),λQ E q=>hI str_is a h.mapOf (q _)⟩) λ_=>aa
def O5{a:Type}(c:Cx)(m:e5 a)(p:Pt)(t:ii)(H:Cn)(K:a->Prop):=∀(Q:a->ge->Prop)(E:aT),(∀a k x,u8 t p.h a->g5 c.g (p.up a k p.F p.ow) t H->K x->Q x {p.s with heap:=a,toks:=k})->he (M' c) c.A m Q E p.s
def M7(h:bd n 900000):n+1<=lim:=ay (eN (cw h)) (aO Z)
def Kk(j:hZ k)(h:∀d∈e,hZ d.1):∀d∈mm e k x,hZ d.1:=λd a=>by unfold mm at a;by_cases q:(e.any λe=>a? (e.1=k))=U;rw[eP q]at a;obtain⟨f,g,e⟩:=eO.mp a;by_cases z:f.1=k;rw[eP z]at e;exact e▸h f g;rw[eH z]at e;exact e▸h f g;rw[eH q]at a;exact(gU.mp a).elim (h d) λz=>(eC.mp z)▸j
def ZP(s:Rd c.g p.F y i)(w:Rd c.g p.F x v):yR cn i v=O H->g5 c.g p t cn->O5 c (setItem (.ref t) y x) p t H λ_=>mf:=
 Cn.casesOn cn bX (λz e r=>ma e (λk d e=>bW e λf e=>by
   obtain⟨h,j,A,a⟩:=r;obtain⟨E,m⟩:=HD d s;have a:LO c.g p.F h z:=a;rw[aB,<-a.len]at f;rw[m,<-au e];exact λQ F q=>d? int_is j (λn g o=>q n _ _ o ⟨_,g,ay (BB h k x) (M7 f),LO.put w a (wI j)⟩ trivial) (ay A bI)) λ_ e=>bW e λG e=>iH e λl d e=>by
   obtain⟨k,E,m,f,B⟩:=HE d s;rw[m,<-e,<-f];exact λQ F q=>d? str_is (s7 r G) (λn g o=>q n _ _ o ⟨_,g,(show 1<=lim by decide),λG g=>(eC.mp (g))▸B,Z,_,_,Z,w,Z⟩ trivial) (aO Z))
  (λz e r=>bL e λl d e=>bW e λf e=>by obtain⟨h,j,A,G,a⟩:=r;obtain⟨k,E,m,d,B⟩:=HE d s;have a:O? c.g p.F h z:=a;rw[aB,<-a.len]at f;rw[m,<-au e,<-d];exact λQ F q=>d? str_is j (λn g o=>q n _ _ o ⟨_,g,ay (BB h k x) (M7 f),Kk B G,rG.put (q:=λl=>cW l k.cps.toList) (X6 k) w a (wI j)⟩ trivial) (ay A bI)) λ_=>aa
def ZQ(f:zY k a=O v)(e:yh c.g p t a):O5 c (delItem (.ref t) (.int k d)) p t (.kU (yb k a)) λ_=>mf:=λQ E q=>by obtain⟨d,h,z,a⟩:=e;obtain⟨e,e,_⟩:=FJ (f▸An k a);exact wpAny_delItem_slot h.typeIs (aO Z) e7 (call_meetsIn e7 h.typeIs PySem.F.entry_dict_delitem (PySem.F.args_dict_delitem_2 _ _) (meets_dict_delitem_pairs (mI c.g.prog c.g.w) t int_is) ⟨d,h,ay z bI,e▸Z,λd e f=>q d _ _ f ⟨_,e,ay (List.length_filter_le _ _) z,LO.del a (wI h)⟩ trivial⟩)
end
def FK(f:XV bv->XV bv)(b a:aP)(n:W)(e:f b.toArray=a.toArray):∃c,r2 f (eE b n)=eE a c:=by refine⟨if a.toArray.size==b.toArray.size then n else n+1,?_⟩;show({cls:=.type "list",data:=.seq _ _}:xL)=_;rw[e];rfl
def mz{h:t3}{t:ii}{f:XV bv->XV bv}(d:h.get? t=O (eE a n))(e:f a.toArray=b.toArray):u8 t h (h.update t (r2 f))/\∃c,(h.update t (r2 f)).get? t=O (eE b c):=by obtain⟨c,q⟩:=FK f a b n e;exact⟨.update ..,c,by rw[nT _ d (by rw[q];rfl),q]⟩
def cD.dropLast(r:cD g F a b):cD g F a.dropLast b.dropLast:=by rw[Hn,Hn,r.length];exact cD.take r _
def cD.one(r:cD g F a [v]):∃w,a=[w]/\Rd g F w v:=by obtain⟨w,l,e,r,n⟩:=r.un;exact⟨w,e.trans (ah _ n),r⟩
def Cu{e:I}(h:n<=Q!):¬(!e&&Builtin.List.listTooLong n)=U:=λa=>ch (aO (ag a λ_ k=>k:a? _=U)) (zV.mpr h)
def lid(G:cQ)(m:W):N ol:=br (ac m G.dT) (O "list.append") (br (ac m G.dD) (O "list.extend") (br (ac m G.qs) (O "list.pop") (gd (ac m G.ew) (O "list.insert"))))
section
variable{c:Cx}{p:Pt}{F:St}{t:ii}{cn B:Cn}{v:V}{vs as:af}{xs ws:aP}{n m:W}{A:ol}
def wJ(c:Cx)(p:Pt)(t:ii)(xs:aP)(n:W)(vs:af):=p.h.get? t=O (eE xs n)/\jT xs/\cD c.g p.F xs vs
def X7(c:Cx)(p:Pt)(t:ii)(A:ol)(ws:aP)(B:Cn)(v:V):=O5 c (dn (.builtin A) (.ref t::ws)) p t B (Rd c.g p.F · v)
def Kl(b:wJ c p t xs n vs)(d:cD c.g p.F ws [v])(a:bd (ak vs) 900000):X7 c p t "list.append" ws (.lst (vs++[v])) .none:=λQ E q=>by obtain⟨e,z,r⟩:=b;obtain⟨y,b,f⟩:=cD.one d;rw[aB,<-r.length]at a;rw[b];refine append_at e (λd e b=>q d _ _ e ⟨xs++[y],n+1,?_,?_,r.append ⟨y,[],Z,f,Z⟩⟩ Z) (ay z bI);rw[ET]at b;exact b;exact ay (cZ aX) (M7 a)
def Ÿ{vs:af}(r:cD c.g p.F xs vs){b:aP}(e:cD c.g p.F b a)(d:bd (ak vs+ak a) 900000):xs.length+b.length<=lim:=by rw[aB,aB,<-r.length,<-e.length]at d;exact ay (cw d) (aO Z)
def Km(h:dq p.F p.h)(b:wJ c p t xs n vs)(d:cD c.g p.F ws [v]){a:af}(f:ja v=O a)(g:bd (ak vs+ak a) 900000):X7 c p t "list.extend" ws (.lst (vs++a)) .none:=λQ E q=>by obtain⟨a,z,r⟩:=b;obtain⟨y,i,b⟩:=cD.one d;obtain⟨j,d,k,l,o,e,e⟩:=Kn f b;have b:=Ÿ r e g;rw[i,l];refine hR ft ⟨_,a,Z⟩ PySem.F.entry_list_extend (PySem.F.args_list_extend_2 _ _) (AutoSeq1.list_extend_list_list_0 t xs.toArray n j d.toArray k (Cu (ay b bI)) (ay z bI) (vF (ay b bI))) ⟨a,h _ _ o,?_⟩;obtain⟨f,g,g⟩:=mz (f:=λx=>x++d.toArray) a (zG _ _);exact q _ _ _ f ⟨_,_,g,ay (cZ aX) b,r.append e⟩ Z
def ZR(b:wJ c p t xs n vs)(d:cD c.g p.F ws [])(a:vs.getLast?=O v):X7 c p t "list.pop" ws (.lst vs.dropLast) v:=λQ E q=>by obtain⟨e,z,r⟩:=b;rw[List.getLast?_eq_getElem?,<-r.length]at a;obtain⟨y,b,f⟩:=r.get a;rw[show ws=[]from d];refine Copied.pop_at e (BL.trans b) (λb d a=>q b _ _ d ⟨xs.dropLast,n+1,?_,?_,r.dropLast⟩ f) (ay z bI);rw[List.pop_toArray]at a;exact a;exact ay (cZ List.length_dropLast) (ay (EH _ _) z)
def TM(b:wJ c p t xs n (v::vs))(d:cD c.g p.F ws [.int (0:W)]):X7 c p t "list.pop" ws (.lst vs) v:=λQ E q=>by refine gq λP e=>?_;obtain⟨a,z,r⟩:=b;obtain⟨y,b,k,f⟩:=cD.one d;obtain⟨y0,d,g,h,i⟩:=r.un;refine e ?_;rw[b,f];rw[g]at a z;refine hR hg ⟨_,a,Z⟩ PySem.F.entry_list_pop (PySem.F.args_list_pop_2 _ _) (PySem.MeetsSeq.list_pop_at t (y0::d).toArray n (0) k 0 y0 (aO Z) (ox (pJ _) (qn.mpr (CT _))) Z (ay z bI)) ⟨a,?_⟩;obtain⟨b,d,d⟩:=mz (f:=λxs=>xs.eraseIdxIfInBounds 0) a (List.eraseIdxIfInBounds_toArray _ _);exact q _ _ _ b ⟨_,_,d,n4 z,i⟩ h
def M8{n:W}(h:n<=lim):¬(!hW (n:D))=U:=by have:hW (n):=jh.mpr ⟨cF (gM (aO Z) (eM n)),cF (jl h)⟩;rw[this];exact yC
def TN(xs:aP)(y:bv)(k:W)(h:k<=xs.length):((λxs:XV bv=>have k:=if(k:D)<0 then((k:D)+(xs.size:D)).toNat else p6 (k:D).toNat xs.size;(xs.extract 0 k).push y++xs.extract k) xs.toArray)=(xs.take k++y::xs.drop k).toArray:=by have a:p6 (k:D).toNat xs.toArray.size=k:=yK h;show((xs.toArray.extract 0 _).push y++xs.toArray.extract _)=_;rw[eH (qX.mpr (eM k)),a,i_,i_,ET,zG,fD,fD,am];have b:List.take (xs.toArray.size-k) _=n_ k xs:=Hm (cZ ud);rw[b];rfl
def Ko(g:wJ c p t xs n vs){k:W}(b:cD c.g p.F ws [.int k,v])(a:bd k (ak vs))(e:bd (ak vs) 900000):X7 c p t "list.insert" ws (.lst (pK k v vs)) .none:=λQ E q=>by(refine gq λP h=>?_;obtain⟨d,z,r⟩:=g;obtain⟨y,l,g,⟨i,j⟩,b⟩:=b.un;obtain⟨y2,o,s⟩:=cD.one b;refine h ?_;rw[aB,<-r.length]at a e;have a:=cw a;rw[g,j,o];have f:=M8 (ay a z);have b:=TN xs y2 k a;generalize (k:D)=X at f b ⊢;refine hR fk ⟨_,d,Z⟩ PySem.F.entry_list_insert (PySem.F.args_list_insert_3 _ _ _) (AutoSeq1.list_insert_list_int_val_1 t xs.toArray n X i y2 f (ay z bI)) ⟨d,?_⟩;obtain⟨a,g,g⟩:=mz (f:=λxs:XV bv=>have k:=if X<0 then(X+(xs.size)).toNat else p6 X.toNat xs.size;(xs.extract 0 k).push y2++xs.extract k) d b;refine q _ _ _ a ⟨_,_,g,?_,(cD.take r k).append ⟨y2,_,Z,s,cD.drop r k⟩⟩ Z;have a:(xs.take k++y2::xs.drop k).length=xs.length+1:=by rw[aX,vB,<-fJ,<-aX,BO]);exact ay (cZ a) (M7 e)
def TO(x:bC c p F)(b:cD c.g p.F ws as):cX c.G cn m as=O (v,B)->g5 c.g p t cn->∃A,lid c.G m=O A/\X7 c p t A ws B v:=by refine Cn.casesOn cn (λvs e d=>?_) bX bX λ_ _=>pp;obtain⟨xs,n,j,z,u⟩:=d;have d:wJ c p t xs n vs:=⟨j,z,u⟩;have fin:∀{A u w},lid c.G m=O A->O (w,u)=O (v,B)->X7 c p t A ws u w->∃A,lid c.G m=O A/\X7 c p t A ws B v:=λi e j=>iu e λq u=>⟨_,i,q▸u▸j⟩;refine jg e (λf e=>yj e λk a e=>bW e λg e=>fin (dM f) e (Kl d (a▸b) g)) λf e=>?_;refine jg e (λh e=>yj e λk a e=>bL e λj j e=>bW e λg e=>fin ((dw f).trans (dM h)) e (Km x.st d (a▸b) j g)) λh e=>?_;refine jg e (λo e=>?_) λo e=>?_;(have i:lid c.G m=O "list.pop":=(dw f).trans ((dw h).trans (dM o));refine y! e (λa e=>iH e λy j e=>fin i (ah O e) (ZR d (a▸b) j)) λk t a e=>y! e (λj e=>bL e λr s e=>?_) λ_ _ _=>aa;have b:=(rD s▸j▸a▸b);induction r with|succ r _=>exact aa e|zero=>exact y! (e) bX λy l g e=>fin i e (TM (g▸d) b));exact bW e λg e=>Tt e λk i a e=>bL e λr s e=>bW e λi e=>bW e λj e=>fin ((dw f).trans ((dw h).trans ((dw o).trans (g▸Z)))) e (Ko d (rD s▸a▸b) i j)
def TP(b:c.OK)(a:lid c.G m=O A){o:xL}(i:p.h.get? t=O o)(j:o.cls=.type "list")(k:o.dict=C){g:e5 I}{Q:bv×aP->ge->Prop}{E:aT}{s:ge}(h:s.heap=p.h)(q:Q (.builtin A,[.ref t]) s):he (M' c) c.A (e! (.ref t) (c.g.nm m) g) Q E s:=by(have d:∀{n:W}{e f:ol},Slot "list" e f->typeOf _=H1 _->c.g.nm n=(e)->ac m n->O f=O A->he (M' c) c.A (e! (.ref t) (c.g.nm m) g) Q E s:=λ{n e f}f g en l e=>by rw[aK l,en];rw[au e]at f g;exact v! ⟨o,h▸i,j⟩ PySem.F.plainAttrs_list f g (λf e=>⟨o,by rw[<-ef e,h];exact i,k⟩) q);refine jg a (d PySem.F.slot_list_append PySem.F.type_list_append b.kf.dT) λ_ a=>jg a (d ft PySem.F.type_list_extend b.kf.dD) λ_ a=>jg a (d hg PySem.F.type_list_pop b.kf.qs) λ_ a=>bW a (d fk PySem.F.type_list_insert b.kf.ew)
end
section
variable{c:Cx}{g:fA}{p p':Pt}{σ L:St}{pg:PG}{t:ii}{cn cn':Cn}{T:Ow->Prop}{Q:nQ}{R:af}{gen' k:W}{h':t3}{pl:Pl}{q:PA}{a x:W}
def kF.ŷ(X:kF T p p')(y:qO g p pg)(e:¬T .par)(f:¬T .dict)(j:Q.length=pg.par.length)(l:∀b n,pT g p pg.par b n->∀d,wg g p' b d (aj d Q))(m:g.rA->p'.ow g.aG=O .aG/\we g p' g.aG R):qO g p' ⟨Q,R,gen'⟩:=⟨X.own,λo=>by obtain⟨h,i,r,b,n,d⟩:=y.par o;exact⟨X.ko _ _ h e,X.ko _ _ i f,X.k' h e r,b,n,X.k' i f d.at_,d.len.trans j.symm,d.lim,d.key,l b n d⟩,m⟩
def kF.bU(X:kF T p p'){d:gQ}{b:W}{q:N PA}(n:¬T (.bU b))(h:wg g p d b q):wg g p' d b q:=h.to (λ_ _ o=>X.k' o n) (λ_ o=>X.ko _ _ o n) X.le
def kF.aG(X:kF T p p')(y:qO g p pg)(n:¬T .aG)(b:g.rA):p'.ow g.aG=O .aG/\we g p' g.aG pg.aG:=have h:=y.aG b;⟨X.ko _ _ h.1 n,h.2.to (λ_=>X.k' h.1 n) X.le⟩
def HS(k:Ow):W:=Ow.casesOn (motive:=λ_=>W) k 0 (λ_=>1) 2 3 (λ_=>4) 5 6
def bx{k:Ow}(h:ac (HS j) (HS k)=J)(e:j=k):Ch:=ao (il h (e▸cf _))
def g5.ex:g5 g p t cn->∃o,p.h.get? t=O o:=Cn.casesOn cn (λ_ h=>by obtain⟨_,_,h,_⟩:=h;exact⟨_,h⟩) (λ_ h=>by obtain⟨_,h,_⟩:=h;obtain⟨o,_,_,h,_⟩:=h;exact⟨o,h⟩) (λ_ h=>by obtain⟨_,h,_⟩:=h;obtain⟨o,_,_,h,_⟩:=h;exact⟨o,h⟩) λ_=>pp
def kJ{b:Type}{l:Y (W×b)}{v w:b}(e:aj a l=O v):(put a w l).length=l.length:=by induction l with|nil=>exact aa e|cons p l d=>by_cases h:ac p.1 a=U;rw[Fu h];rfl;have h:=d8.mpr h;rw[Ac h];exact ah pm (d (il (dH h) e))
def ZS:BR q->kN (O q)=O C/\∀b,wg g p b a (O q)->g.bw a/\∃t,d4 (g.nm a) b=O (O (.ref t))/\p.ow t=O (.bU a):=
 have d:∀{b:gQ}{cn:Cn},(g.bw a/\∃w,d4 (g.nm a) b=O (O w)/\qA g p a w cn)->g.bw a/\∃t,d4 (g.nm a) b=O (O (.ref t))/\p.ow t=O (.bU a):=λh=>by obtain⟨i,w,h,t,e,o,_⟩:=h;exact⟨i,t,e▸h,o⟩
 PA.casesOn q aV (λ_ _=>⟨Z,λ_=>d⟩) (λ_ _=>⟨Z,λ_=>d⟩) (λ_ _=>⟨Z,λ_=>d⟩) λ_ _=>⟨Z,λ_=>d⟩
def TQ:kN (O (vM cn))=O C:=Cn.casesOn cn (λ_=>Z) (λ_=>Z) (λ_=>Z) λ_=>Z
def HU:qA g p a w cn->yi g p a w (vM cn):=Cn.casesOn cn (λ_=>id) (λ_=>id) (λ_=>id) λ_=>id
def ZT{vs:af}{P:Prop}{f:af->N St}:ya cn C (ls:=f)=O L->(∀vs,cn=.lst vs->f vs=O L->P)->P:=Cn.casesOn cn (λvs e k=>k vs Z e) bX bX λ_=>aa
def aeE{b:I}(h:br b C y=O L):b=J/\y=O L:=jg h bX λh e=>⟨h,e⟩
def M9{b:I}(h:b=J){k:Ow}(n:Ey J (O k)=J)(w:Ow)(e:Ey b (O w))(q:w=k):Ch:=ao (il n (q▸h▸e))
def u6(r:bC c p σ)(d:wH c p σ pl t)(v:u8 t p.h h')(j:g5 c.g (p.up h' k p.F p.ow) t cn')(e:hM c.G.ro σ pl cn'=O L):Nx c p σ.pg (p.up h' k p.F p.ow) L:=by obtain⟨y,e⟩:=aeE e;obtain⟨o,A⟩:=j.ex;refine Pl.casesOn pl (λx d e=>?_) (λa d e=>?_) d e;obtain⟨m,u,m⟩:=d;obtain⟨b,E,H⟩:=r.loc;refine ZT (vs:=[]) e λvs f e=>bL e λl b e=>?_;have h:=H x;rw[b,Al E u]at h;rw[f]at j;refine LV.casesOn l (λb h e=>bW e λf e=>?_) (λb h e=>?_) h e;obtain⟨w,n,b⟩:=h;have b:=Rd.as (sX f) b;have q:=ef (au (il (b.1▸n) m));have T:=r.pg.aG b.2;have S:kF (λw=>w=.aG) p (p.up h' k p.F p.ow):=kF.turn r.pg.own v (q▸T.1) A;rw[<-au e];exact⟨S.ext (M9 y Z) (aU _) λ_=>⟨λ_=>Z,λa s o=>o⟩,S.rel r (S.ŷ r.pg (bx Z) (bx Z) Z (λF G f b=>S.bU (bx Z) (f.bU b)) λ_=>⟨T.1,q▸j⟩) λw B=>B▸Z⟩;obtain⟨s,n,i,_⟩:=h;have q:=ef (au (il n m));have S:kF (λw=>w=.loc x) p (p.up h' k p.F p.ow):=kF.turn r.pg.own v (q▸i) A;rw[<-au e];refine⟨S.ext (M9 y Z) (aU _) λ_=>⟨λ_=>Z,λa s o=>o⟩,S.MN r (λw h e=>FG h e) (u.at λ_=>S.k' r.kr (bx Z)) λb=>?_⟩;by_cases z:b=x;rw[z,show aj x (put x (.own vs) σ.loc)=_ from dk];exact⟨t,m,q▸i,j⟩;rw[show aj b (put x (.own vs) σ.loc)=_ from bZ z];exact(Al E u▸H b).to S Z λh=>z (Aj h);refine bL e λq u e=>bW e λH e=>?_;have E:=@ZS c.g p q a H;(have i:=by have d:pW c p a t (kN (aj a σ.pg.par)):=d;rw[u,E.1]at d;exact d);have S:kF (λw=>w=.bU a) p (p.up h' k p.F p.ow):=kF.turn r.pg.own v i A;rw[<-au e];refine⟨S.ext (M9 y Z) (aU _) λ_=>⟨λb=>?_,λa s o=>o⟩,S.rel r (S.ŷ r.pg (bx Z) (bx Z) (kJ u) (λF G f b=>?_) (S.aG r.pg (bx Z))) λw B=>B▸Z⟩;show kN (aj b (put a (vM cn') σ.pg.par))=_;by_cases z:b=a;rw[z,dk,u,E.1,TQ];rw[bZ z];by_cases z:b=a;rw[z,dk];have f:=f.bU a;rw[u]at f;obtain⟨d,s,m,n⟩:=E.2 F f;have y:=r.pg.own.inj _ _ _ n i (bx Z);exact⟨d,.ref t,y▸m,HU ⟨t,Z,i,j⟩⟩;rw[bZ z];exact S.bU (λh=>z (HP h)) (f.bU b)
end
def Ss(c:Cx)(b:N Pl)(e:Expr):=∀a,b=O a->A! c a e
section
variable{c:Cx}{p p1 p2:Pt}{σ σ1 σ2 L:St}{pg:PG}{u v w:V}{t:I}{e ea eb:Expr}{f o i:fc}{pos:ww}{po:N Pl}{a x:W}{pc:Pl×Cn}
def s8(j:c.OK)(r:bC c p σ)(b:Ss c po e)(h:gy c.G c.lv σ po=O pc):A! c pc.1 e/\∃t,ZK c p σ pc.1 e pc.2 t:=bL h λd g h=>iH h λk k h=>h▸⟨b d g,my j r (b d g) k⟩
def g5.tok{t:ii}(k:W)(h:g5 c.g p t b):g5 c.g (p.up p.h k p.F p.ow) t b:=h.to (λ_=>id) λ_ _=>id
def Na(b:c.OK)(g:FE c e)(d:Ss c po e)(r:bC c p σ){k:mc}(h:vQ c.G c.lv t po σ k=O (v,L))(K:k=O (v,L)->PZ c t e p σ.pg L v):PZ c t e p σ.pg L v:=by induction t with|false=>exact K h|true=>exact ma h (λpc h e=>iu e λq j=>q▸j▸λQ E q=>by obtain⟨_,t,P⟩:=s8 b r d h;exact ri (P.ev _ _ λk=>M5 P.ns (P.at_.tok k) _ _ λj=>q _ _ Z (Nx.toks r j)) g) λ_=>K
def ZU(b:c.OK)(d:s6 c x):SE c (BW c.G c.lv x) (.Name (c.g.nm x) pos):=λt p σ v L e r=>Na b Z (po:=O (.loc x)) (λg h=>(au h)▸(⟨d,pos,Z⟩)) r e λe=>aQ e λg σ1 g e=>mode b Z e λQ E q=>qW (X3 b r g Q E q) d
def wK:dJ e->a8 e b d m=m:=by
 refine@Expr.casesOn (λe=>dJ e=U->a8 e b d m=m) e ?_ ?_ ?_ ?_ ?_ ?_ ?_ ?_ ?_ ?_ ?_ ?_ ?_ ?_ ?_ ?_ (λf g h p=>?_) ?_ ?_ ?_ ?_ ?_ ?_ ?_ ?_ ?_ ?_
 case refine_17=>
  refine@Expr.casesOn (λf=>dJ (.Call f g h p)=U->a8 (.Call f g h p) b d m=m) f ?_ ?_ ?_ ?_ ?_ ?_ ?_ ?_ ?_ ?_ ?_ ?_ ?_ ?_ ?_ ?_ ?_ ?_ ?_ ?_ ?_ ?_ ?_ ?_ ?_ ?_ ?_
  case refine_24=>
   intro s q j
   induction g with
   |cons _ _ _=>rfl
   |nil=>induction h with
    |cons _ _ _=>rfl
    |nil=>exact ao j
  all_goals (intros;rfl)
 all_goals (intros;rfl)
def uO{s:ge}(g:dJ ea)(h:he (M' c) c.A (Db ea c.env) (λo d=>he (M' c) c.A (getAttr o b U) Q E d) E s):he (M' c) c.A (Db (.Attribute ea b pos) c.env) Q E s:=Attribute_any_ h (by rw[arm_eval_Attribute,wK g])
def ZV(b:c.OK)(d:Ss c po (.Attribute ea (c.g.nm a) pos))(g:dJ ea)(h:SE c o ea):SE c (SQ c.G c.lv po o a) (.Attribute ea (c.g.nm a) pos):=λt p σ v L e r=>Na b Z d r e λe=>aQ e λd σ1 d e=>bL e λu j e=>mode b Z e λQ E q=>uO g (h.val d r _ _ λp1 x d g=>(aeB b d.rel j g).next d q E)
def y8{o iv:bv}:jA e->od e J o iv=operate [o,iv] (getItem o iv):=by apply@Expr.casesOn (λe=>jA e=U->od e J o iv=operate [o,iv] _) e<;>intros<;>first|rfl|exact ao ‹_›
def ZK.again(h:c.OK)(r:bC c p σ){b:Pl}{g d:Cn}{t:ii}(P:ZK c p σ b e g t)(j:A! c b e)(n:Nx c p σ.pg p1 σ1)(l:calm σ σ1)(k:iQ c.G c.lv σ1 b=O d):ZK c p1 σ1 b e d t:=by obtain⟨b,b⟩:=my h n.rel j k;exact(wH.det n.rel (P.is.step n r l) b.is)▸b
def ZW(d:c.OK)(b:Ss c po ea)(z:SE c o ea)(n:SE c i eb)(s:jA eb):SE c (S4 c.G c.lv po o i) (.Subscript ea eb pos):=λt p σ v L e r=>
 ma e (λpc k e=>aQ e λA σ1 g e=>bW e λB e=>bL e λh h e=>bL e λw j e=>mode d Z e λQ E q=>by
  obtain⟨F,t,P⟩:=s8 d r b k
  exact ö (P.ev _ _ λl=>n.val g (r.toks l) _ _ λp2 H b k=>by have y:=(Nx.toks r l).trans b;obtain⟨⟨T,K,l,m⟩,G⟩:=TK b.rel k j (P.again d r F y B h).at_;exact tail_any l m (G.next y q E) (y8 s)))
 λ_ e=>aQ e λA σ1 g e=>aQ e λy σ2 h e=>bL e λw j e=>mode d Z e λQ E q=>ö (z.val g r _ _ λp1 x d g=>n.val h d.rel _ _ λp2 H b k=>by obtain⟨⟨T,K,l,m⟩,G⟩:=MV b.rel k j (g.bS b.ext.le);exact tail_any l m (G.next (d.trans b) q E) (y8 s))
def ð(c:Cx)(g:ut)(ea:Expr)(w:bv)(p:Pt)(pg:PG)(L:St)(d:I)(R:Pt->bv->Prop):=∀(Q:bv->bv->ge->Prop)(E:aT),(∀b y,Nx c p pg b L->R b y->Q (.bool d) y b.s)->he (M' c) c.A (Db ea c.env) (λy b=>he (M' c) c.A (B! g w y) (λz d=>Q z y d) E b) E p.s
def P?(c:Cx)(w:bv)(b:Y ut)(d:bM)(p:Pt)(pg:PG)(L:St)(g:I):=∀pos,pC c (compareChain pos w b (Rm d c.env)) p pg L (.bool g)/\A' c (testChain pos w b (Rm d c.env)) p pg L (.bool g)
def Hf(c:Cx)(f:XH)(g:bM):=∀v b p σ d L w,f v b σ=O (d,L)->bC c p σ->Rd c.g p.F w v->P? c w b g p σ.pg L d
def HV{b:I}{w:bv}{R:Pt->bv->Prop}(h:ð c d ea w p pg L b R):P? c w [d] [ea] p pg L b:=λ_=> ⟨λQ E q=>chain_last (h (λz _ s=>Q z s) E λd y n _=>q d _ n Z),λQ E q=>test_last (h (λz _ s=>he _ c.A _ Q E s) E λd y n _=>zP (q d b Z n))⟩
def TR{g j:ut}{l:bM}{d b:I}{w:bv}{R:Pt->bv->Prop}(m:ð c g ea w p pg σ1 d R)(H:d->∀p1 y,Nx c p pg p1 σ1->R p1 y->P? c y (j::k) (eb::l) p1 σ1.pg L b)(h:d=J->J=b/\σ1=L):P? c w (g::j::k) (ea::eb::l) p pg L b:=λpos=>
 ⟨λQ E q=>chain_link (m (λz y s=>he _ c.A _ (λt g=>if t=U then he _ c.A _ Q E g else Q z g) E s) E λp1 y d j=>zP (y6 (λb=>(H b p1 y d j pos).1.next d q E) λb=>q p1 _ ((h b).2▸d) ((h b).1▸b▸Z))),
 λQ E q=>test_link (m (λz y s=>he _ c.A _ (λt g=>if t=U then he _ c.A _ Q E g else Q J g) E s) E λp1 y d j=>zP (y6 (λb=>(H b p1 y d j pos).2.next d q E) λb=>q p1 _ (ah V.bool (h b).1.symm) ((h b).2▸d)))⟩
def aeF(j:c.OK){b:ut}{d:I}{w:bv}(h:SE c f ea)(g:f J σ=O (u,σ1))(r:bC c p σ)(k:Rd c.g p.F w v)(e:pe b v u=O d):ð c b ea w p σ.pg σ1 d λb y=>Rd c.g b.F y u:=λQ E q=>h.val g r _ _ λp1 y b d=>aeq j b.rel (k.bS b.ext.le) d e _ _ (q p1 y b d)
def TS{ob:fP}{g:I}{P:ut->I->Prop}(h:∀d,ob=O d->P .In d/\P .NotIn !d):Ff b ob=O g->P b g:=pu b aa aa aa aa aa aa aa aa (λe=>(h g e).1) λe=>iH e λd b q=>q▸(h d b).2
def Nb(m:c.OK){g:XH}{d:I}{b:bM}(z:Ss c po ea)(A:SE c f ea)(n:d->b=[])(k:d=J->∃eb l,b=eb::l/\Hf c g b):Hf c (BY c.G c.lv d po f g) (ea::b):=λv b p σ B L w e r s=>mX e λy b b e=>b▸ma e (λpc k e=>lb e λd e=>d▸bW e λg e=>iH e λj b e=>iu (ah O e) λq h=>q▸h▸n g▸by obtain⟨_,t,P⟩:=s8 m r z k;exact HV (R:=λ_ _=>mf) λQ E q=>P.ev _ _ λz=>TS (P:=λy j=>ï c (p.up p.h z p.F p.ow) y w _ j) (λj b=>ZO P.ns s b (P.at_.tok z)) b _ _ λy=>q _ _ (Nx.toks r y) trivial) λ_ e=>aQ e λu σ1 y e=>bL e λj j e=>by have H:=aeF m A y r s j;refine jg e (λg e=>lb e λd e=>iu e λq h=>q▸h▸d▸n g▸HV H) λg e=>mX e λj j d e=>?_;obtain⟨eb,l,m,j⟩:=k g;rw[m]at j ⊢;rw[d]at e ⊢;exact TR H (λb p1 y d g=>j u _ p1 σ1 B L y (il (dM b) e) d.rel g) λb=>iu (il (dw b) e) λq h=>⟨q,h⟩
def ZX(j:SE c f ea)(k:Hf c g d)(h:B2 b d=J):SE c (Mq f g b) (.Compare ea b d pos):=λt p σ v L e r=>by
 refine aQ e λu σ1 l e=>aQ e λb σ2 m e=>iu e λq b=>q▸b▸?_
 induction t with
 |false=> refine λQ E q=>?_;rw[arm_eval_Compare,R1 _ _ _ h];exact bR (j.val l r _ _ λp1 w b d=>(k _ _ _ _ _ _ _ m b.rel d pos).1.next b q E)
 |true=> refine λQ E q=>?_;rw[arm_isTrue_Compare,R1 _ _ _ h];exact bR (j.val l r _ _ λp1 w b d=>(k _ _ _ _ _ _ _ m b.rel d pos).2.next b q E)
end
def gK(k:N Ow):I:=oc k (λk=>Ow.casesOn (motive:=λ_=>I) k U aaz J J aay J J) J
open Classical in
def vw(p:Pt):Pt:={p with ow:=λa=>if gK (p.ow a)=U then O .ck else p.ow a}
open Classical in
def bk(p b:Pt):Pt:={b with ow:=λa=>if gK (p.ow a)=U then p.ow a else b.ow a}
def pD(p:Pt):=∀a,gK (p.ow a)=J
section
variable{g:fA}{c:Cx}{p u:Pt}{pg z:PG}{A:St}{a:ii}{k w:Ow}
def TU(h:gK (p.ow a)):(vw p).ow a=O .ck:=eP h
def uP(h:gK (p.ow a)=J):(vw p).ow a=p.ow a:=eH (d8.mp h)
def FL(h:gK (p.ow a)):(bk p u).ow a=p.ow a:=eP h
def Ao(h:gK (p.ow a)=J):(bk p u).ow a=u.ow a:=eH (d8.mp h)
def mY(k:N Ow):gK k=U∨gK k=J:=by cases gK k with|true=>exact .inl Z|false=>exact .inr Z
def wL(h:p.ow a=O k)(n:gK (O k)=J):gK (p.ow a)=J:=h▸n
def oq(h:O .ck=O k):k=.ck:=(au h).symm
def rH(h:shared w):gK (O w)=J/\w≠.ck:=Ow.casesOn w ao aV (λ_=>⟨Z,bx Z⟩) (λ_=>⟨Z,bx Z⟩) (λ_ _=>⟨Z,bx Z⟩) (λ_=>⟨Z,bx Z⟩) ao h
def Nc:pD (vw p):=λa=>(mY _).elim (λh=>(TU h).symm▸Z) λh=>(uP h).symm▸h
def HW(h:(vw p).ow a=O k):k=.ck∨(gK (p.ow a)=J/\p.ow a=O k):=(mY _).elim (λq=>.inl (oq (il (TU q) h))) λq=>.inr ⟨q,il (uP q) h⟩
def TV(h:p.ow a=C):(vw p).ow a=C:=(uP (h▸Z)).trans h
def Nd(x:Own p):Own (vw p):=⟨λa o f=>⟨(x.fz a o f).1,TV (x.fz a o f).2⟩,λa k h=>(mY _).elim (λq=>by cases e:p.ow a with|none=>rw[e]at q;exact ao q|some j=>exact x.sF a j e) λq=>x.sF a k (il (uP q) h),λa b k h d n=>(HW h).elim (λq=>ch q n) λq=>(HW d).elim (λq=>ch q n) λd=>x.inj a b k q.2 d.2 n⟩
def aeG(x:qO g p pg):qO g (vw p) pg:=x.to (Nd x.own) (λ_ _ _ _ _=>id) (λa w h s=>(uP (wL h (rH s).1)).trans h) λ_ _=>id
abbrev uQ(p:Pt)(pg:PG)(u:Pt)(z:PG):Prop:=Ext (k6 J) p pg u z
variable(x:uQ (vw p) pg u z)
def X8(h:gK (p.ow a)):u.ow a=O .ck:=(x.ck a).mp (TU h)
def aeH(h:u.ow a=O w)(s:w≠.ck):gK (p.ow a)=J:=(mY _).elim (λq=>ch (oq (il (X8 x q) h)) s) id
def ZY(o:Own p)(b:Own u)(l:pD u):Own (bk p u):=have d:∀{a k},(bk p u).ow a=O k->(p.ow a=O k/\gK (O k)=U)∨(u.ow a=O k/\gK _=J):=λ{a k}h=>(mY _).elim (λq=>.inl (il (FL q) h|>λe=>⟨e,e▸q⟩)) λq=>.inr (il (Ao q) h|>λe=>⟨e,e▸l a⟩);⟨λa o h=>⟨(b.fz a o h).1,(mY _).elim (λq=>ch (il (X8 x q) (b.fz a o h).2) (yD _)) λq=>(Ao q).trans (b.fz a o h).2⟩,λa k h=>(d h).elim (λq=>by obtain⟨y,e⟩:=o.sF a k q.1;exact x.ex a y e) λq=>b.sF a k q.1,λa e k h f n=>(d h).elim (λq=>(d f).elim (λr=>o.inj a e k q.1 r.1 n) λr=>ao (il r.2 q.2)) λq=>(d f).elim (λr=>ao (il q.2 r.2)) λr=>b.inj a e k q.1 r.1 n⟩
def Ap(h:gK (p.ow a)){o:xL}(e:p.h.get? a=O o):u.h.get? a=O o:=x.keep a o e ((TU h).symm▸Z)
def aeI(o:Own p)(y:qO g u z)(l:pD u):qO g (bk p u) z:=y.to (ZY x o y.own l) (λ_ _ _ _ _=>id) (λa w h s=>(Ao (aeH x h (rH s).2)).trans h) λ_ _=>id
def Ŷ(h:p.ow a=O k)(i:gK (O k)):gK (p.ow a):=h▸i
def Nf(l:pD u):Ext (Ey J) p pg (bk p u) z where
 le:=x.le
 sh:=x.sh
 keep:=λa o e k=>(mY _).elim (λq=>Ap x q e) λq=>x.keep a o e ((uP q).symm▸(by
  cases h:p.ow a with
  |none=>rfl
  |some j=> rw[h]at k q;exact Ow.casesOn j (λ_ h=>ao h.symm) aV ao ao aV ao (λ_ _=>Z) k q))
 ex:=x.ex
 to:=λa o e=>(mY _).elim (λq=>.inl (FL q)) λq=>(x.to a o e).imp (λh=>(Ao q).trans (h.trans (uP q))) λh=>(Ao q).trans h
 ck:=λa=>(mY _).elim (λq=>⟨λh=>ao (show gK (O .ck)from h▸q),λh=>ao (show gK (O .ck)from(il (FL q) h)▸q)⟩) λq=>⟨λh=>(Ao q).trans ((x.ck a).mp ((uP q).trans h)),λh=>il (uP q) ((x.ck a).mpr (il (Ao q) h))⟩
 kr:=λa=>(mY _).elim (λq=>⟨(FL q).trans,il (FL q)⟩) λq=>⟨λh=>ao (il q (h▸Z)),λh=>ao (il (l a) ((il (Ao q) h)▸Z))⟩
 bD:=x.bD
 calm:=λe=>⟨(x.calm e).1,λa t h=>have q:=wL h Z;(Ao q).trans ((x.calm e).2 a t ((uP q).trans h))⟩
def Ng(x:uQ (vw p) A.pg u z)(r:bC c p A)(y:qO c.g u z)(l:pD u):bC c (bk p u) ⟨A.loc,z⟩:=by obtain⟨m,d,e⟩:=r.loc;have b:=Ŷ r.kr Z;refine⟨aeI x r.pg.own y l,(FL b).trans r.kr,⟨m,d.at λ_=>Ap x b,λa=>?_⟩,λa o h=>x.le a o (r.base a o h)⟩;refine pi id (λl=>LV.casesOn l (λv h=>?_) λb h=>?_) (aj a A.loc) (e a);obtain⟨w,e,b⟩:=h;exact⟨w,e,b.bS x.le⟩;obtain⟨t,e,o,h⟩:=h;have q:=Ŷ o Z;exact⟨t,e,(FL q).trans o,h.to (λ_=>Ap x q) x.le⟩
end
def ot(g:fA)(F:bl)(a:jc)(b:aY):=a.map (·.1)=b.map (λk=>g.nm k.1)/\cD g F (a.map (·.2)) (b.map (·.2))
def ot.of:∀{c:aP}{b:af}{d:aY},cD g F c b->zZ a b=O d->ot g F ((a.map g.nm).zip c) d:=by induction a with|nil=>exact λr e=>lb e λh e=>au e▸⟨Z,Z⟩|cons k a f=> refine λ{c b d}r e=>mX (e) λv b h e=>iH e λa a e=>?_;rw[h]at r;obtain⟨w,l,q,r,b⟩:=r.un;rw[q,<-e];have H:=f b a;exact⟨ah _ H.1,w,_,Z,r,H.2⟩
def fS(g:fA)(B:bl)(A:v2)(h:bv)(i:aP)(run:af->aY->PG->dR):=∀a d b v c,run a d b=O (v,c)->∀(p:Pt)e f,pD p->qO g p b->B.le p.F->cD g p.F e a->ot g p.F f d->∀R:ep->ge->Prop,(∀a x,pD a->uQ p b a c->qO g a c->Rd g a.F x v->R (.ok (.ret x)) a.s)->Uf (WF g.prog g.w) A (.call h ⟨i++e,f⟩) R p.s
section
variable{c:Cx}{p:Pt}{g:St}{f:bv}{pre ws:aP}{run:af->aY->PG->dR}{as:af}{ks:aY}{v:V}{d:PG}{kws:jc}
variable(h:c.G.ro=J)(r:bC c p g)(H:fS c.g c.B c.A f pre run)(e:run as ks g.pg=O (v,d))(i:cD c.g p.F ws as)(j:ot c.g p.F kws ks)
def call_K(R:ep->ge->Prop)(q:∀a x,Nx c p g.pg a ⟨g.loc,d⟩->Rd c.g a.F x v->R (.ok (.ret x)) a.s):Uf (M' c) c.A (.call f ⟨pre++ws,kws⟩) R p.s:=H as ks g.pg v d e _ ws kws Nc (aeG r.pg) r.base i j _ λa x l X y b=>q (bk p a) x ⟨h▸Nf X l,Ng X r y l⟩ b
def FN:pC c (dn f (pre++ws) kws) p g.pg ⟨g.loc,d⟩ v:=λQ E q=>sP (call_K h r H e i j _ q)
end
structure Sx(c:Cx)(p:Pt)(pg:PG)(p':Pt)(σ':St):Prop where
 ext:Ext (k6 c.G.ro) p pg p' σ'.pg
 rel:bC c p' σ'
def Nh(g:fA)(F:bl)(a:Flow)(b:Fl):=vK b (a=.next) (a=.brk) λv=>∃w,a=.ret w/\Rd g F w v
abbrev yk:=Flow->ge->Prop
def KS(c:Cx)(p:Pt)(d:PG)(e:St)(f:Fl)(Q:yk):=∀a b,Sx c p d a e->Nh c.g a.F b f->Q b a.s
def O_(c:Cx)(m:e5 Flow)(p:Pt)(a:PG)(b:St)(d:Fl):=∀(Q:yk)(E:aT),KS c p a b d Q->he (M' c) c.A m Q E p.s
def SS(c:Cx)(f:gz)(e:a9):=∀p a b d,f a=O (b,d)->bC c p a->O_ c (exec e c.env) p a.pg d b
structure Cx.Calls(c:Cx):Prop where
 av:∀m,c.g.dj->c.g.isFn m->fS c.g c.B c.A (.ref (c.g.fnAt m)) [.ref c.g.par] (c.G.av m)
 func:∀f,c.g.isFn f->fS c.g c.B c.A (.ref (c.g.fnAt f)) [] (c.G.func f)
 X9:∀k,c.g.jx k->fS c.g c.B c.A (.ref (c.g.cU k)) [] λas ks pg=>mp (make c.G k as ks) (·,pg)
 sup:∀m xs e,eK c.g.nm (.sup m xs) e->SE c (Fe c.G m (c! c.G c.lv xs).l) e
 comp:∀elt y it cs e,eK c.g.nm (.comp elt y it cs) e->SE c (uq c.G c.lv elt y it cs) e
 setC:∀x elt y it cs e,aq c.lv x->XM c.g.nm (.setC x elt y it cs) e->SS c (yU c.G c.lv x elt y it cs) e
section
variable{M:o?}{A:v2}{E:aT}{s:ge}
def Aq{i:bv}{b:Y (I×e5 bv)}{Q:Args->ge->Prop}(j:b.any (·.1)=J)(c:a.all (·.1.isSome))
 (h:he M A (spliced b) (λd g=>he M A (evalAll (a.map (·.2))) (λe f=>Q ⟨d,(a.filterMap (·.1)).zip e⟩ f) E g) E s):he M A (evalArgs i U b a) Q E s:=by
 induction b with
 |nil=>exact evalArgs_kw_nil c λa p b=>h a p b a p b
 |cons k m=>induction k with
  |mk l x=>induction l with
   |true=>exact ao j.symm
   |false=>exact evalArgs_kw c h
def Ni{a:Y (N lm×e5 bv)}(h:a.all (·.1.isSome)):a.any (·.1.isNone)=J:=by induction a with|nil=>rfl|cons k l b=> rw[r5]at h;rw[sL];exact ag h λa c=>by rw[b c,<-k9,a];rfl
def ib{h:aP}{e:Y (I×e5 bv)}(m:e.any (·.1)=J)(n:d.all (·.1.isSome))
 (p:he M A (spliced e) (λi j=>he M A (evalAll (d.map (·.2))) (λl a=>(∃k,∀(g:Keeper->ge->Prop),g k a->he M A (o1 f) g E a)/\he M A (dn f (h++i) ((d.filterMap (·.1)).zip l)) Q E a) E j) E s):
  he M A (o_ o f h e d) Q E s:=by
 refine bR (ue (Aq m n (jt p (λi j f=>jt f (λl a f=>bR (uh ?_)) λ_ _ x=>x) λ_ _ x=>x)));obtain⟨⟨k,g⟩,b⟩:=f;have c:∀{t:e5 bv},he M A t Q E a->he M A (t>>=λr=>holding [r] point>>=λ_=>H1 r) Q E a:=λf=>bR (jt f (λr a a=>bR (ue (wpAny_point (cP a)))) λ_ _ x=>x);have a:(e.any (·.1)||d.any (·.1.isNone))=J:=by rw[m,Ni n];rfl
 refine bR (g _ ?_);rw[a];cases k<;>dsimp only
 ·split
  ·exact c b
  ·exact c (CK b)
 ·split
  ·exact c b
  ·exact c (CK b)
 ·exact c b
 ·exact c (wpAny_operate' b)
end
def wM(c:Cx)(x:bv)(p:Pt):=∃k,∀(E:aT)(a:Keeper->ge->Prop),a k p.s->he (M' c) c.A (o1 x) a E p.s
section
variable{c:Cx}{p:Pt}{G H:St}{x:bv}{f v:V}{as:af}{ks:aY}{ws:aP}{kws:jc}
variable(L:c.OK)(r:bC c p G)
def HX(h:c.g.isFn n):wM c (.ref (c.g.fnAt n)) p:=by obtain⟨o,a,a,b⟩:=L.kf.Fw n h;refine⟨.frame,λE d q=>?_⟩;refine bR (qq (r.Tp _ _ a) ?_);rw[b];exact cP q
def Nj(h:c.g.jx n):wM c (.ref (c.g.cU n)) p:=by obtain⟨o,a,a,b,d⟩:=L.kf.Tj n h;refine⟨.machine,λE e q=>?_⟩;refine bR (qq (L.In r _ _ a) ?_);rw[b];exact bR ((ó (L.In r) d).here (cP q))
def HY(n:W):wM c (c.g.HA n) p:=by refine⟨.machine,λE a q=>?_⟩;exact(L.kf.N3 n).elim (λh=>by obtain⟨a,e⟩:=h;rw[e];exact cP q) λh=>by obtain⟨n,e⟩:=h;rw[e];exact cP q
def TX(h:c.g.isFn n)(b:p.F a (MF (c.g.fnAt n) c.g.par)):wM c (.ref a) p:=by obtain⟨o,a,a,d⟩:=L.kf.Fw n h;refine⟨.boundFrame,λE e q=>?_⟩;refine bR (qq (r.st _ _ b) ?_);refine bR (qq (r.Tp _ _ a) ?_);rw[d];exact cP q
def aeK:dP f C (s:=λl=>O (.int (ak l))) (tu:=λl=>O (.int (ak l))) (ls:=λl=>O (.int (ak l))) (bu:=λl e=>br e (O (.sym (.off 4 (ak l)))) (O (.sym (.big 4 (ak l)))))=O v->Rd c.g p.F x f->pC c (dn (.builtin "len") [x]) p G.pg G v:=Vc (M:=λf=>dP f C (s:=λl=>O (.int (ak l))) (tu:=λl=>O (.int (ak l))) (ls:=λl=>O (.int (ak l))) (bu:=λl e=>br e (O (.sym (.off 4 (ak l)))) (O (.sym (.big 4 (ak l)))))=O v->Rd c.g p.F x f->pC c _ p G.pg G v) f (s:=λl e(h)=>jV (λQ E q=>by obtain⟨s,t,h,a,z⟩:=h;rw[h];refine PyProof.Rows.len_str (sO.mpr (jl z.1)) (q.tok r ?_ _);rw[aB,<-a];exact Rd.i) (au e)) (tu:=λl e(h:Fq p.F (cD c.g p.F · l) x)=>jV (λQ E q=>by obtain⟨b,ws,n,h,f,z,a⟩:=h;rw[h];refine PyProof.Rows.len_tuple ⟨_,r.st _ _ f,Z,_,Z⟩ (oY z) (q.tok r ?_ _);rw[aB,<-a.length];exact Rd.i) (au e)) (ls:=λl e(h:z8 p.F (cD c.g p.F · l) x)=>jV (λQ E q=>by obtain⟨b,ws,n,h,f,z,a⟩:=h;rw[h];refine f_ ⟨_,r.st _ _ f,Z,_,Z⟩ (oY z) (q.tok r ?_ _);rw[aB,<-a.length];exact Rd.i) (au e)) (bu:=λ_ _ _=>pp)
def aeL(a:Rd c.g p.F y k):dP f C (s:=λ_=>bn (sQ k) λz=>gd (ac z 7) (O (.bool U))) (ob:=λn _=>bn (vH k) λk=>mp (c.G.cls n) λb=>.bool (aq b.mro k))=O v->Rd c.g p.F x f->pC c (dn (.builtin "isinstance") [x,y]) p G.pg G v:=Vc (M:=λf=>dP f C (s:=λ_=>bn _ λz=>gd (ac z 7) _) (ob:=λn _=>bn _ λk=>mp (c.G.cls n) λb=>V.bool (aq b.mro k))=O v->Rd c.g p.F x f->pC c _ p G.pg G v) f (s:=λl e(h)=>bL e λz g e=>bW e λm e=>jV (λQ E q=>by obtain⟨s,t,h,_⟩:=h;have a:=Rd.as (oX g) a;rw[h,a,aK m,L.kf.N_];exact IsiPair.str_str (q _ _ (.refl r) Z)) (au e)) (ob:=λn m e(h)=>bL e λz g e=>iH e λb i e=>jV (λQ E q=>by obtain⟨m,m,m,k,h,d,k,m,_⟩:=h;have a:=Rd.as (Co g) a;have j:=Fx r.st k m;rw[h,a.1];cases g:aq b.mro z with|true=>exact isi_call (L.In r) (λM=>j.type) ((L.kf.E2 _ _ _ d a.2 i).1 g) (λh=>wz h) (q _ _ (.refl r) (g▸Z))|false=> have K:=L.kf.Tn _ d;exact kin_callC (L.In r) j ((L.kf.E2 _ _ _ d a.2 i).2 g) (L.kf.Kc _ _ d) (L.kf.Fv _ d) K.1 L.kf.E1.1 L.kf.E1.2 K.2 (q.tok r (g▸Z) _)) e)
def Nl{r:dR}{P:Prop}(h:back G r=O (v,H))(k:∀a,r=O (v,a)->H=⟨G.loc,a⟩->P):P:=aQ h λu a e h=>iu h λq b=>k a (q▸e) b.symm
def FO{a:Type}{b:I}{y:N a}{r:a}{P:Prop}(h:br b C y=O r)(k:b=J->y=O r->P):P:=jg h bX k
def ot.none(h:ot c.g p.F kws []):kws=[]:=vA.mp h.1
def HZ(cl:c.Calls)(r:bC c p G)(a:cD c.g p.F ws as)(j:ot c.g p.F kws ks):jN c.G f as ks G=O (v,H)->Rd c.g p.F x f->wM c x p/\pC c (dn x ws kws) p G.pg H v:=by refine Vc (M:=λf=>jN c.G f as ks G=O _->Rd c.g p.F x f->wM c x p/\pC c _ p G.pg H v) f (cl:=λn e(h)=>FO e λb e=>h.1▸⟨Nj L r h.2,iH e λu d e=>iu (ah O e) λq g=>q▸g▸FN b r (cl.X9 n h.2) (d▸Z) a j⟩) (fn:=λn e(h)=>FO e λb e=>h.1▸⟨HX L r h.2,Nl e λw e q=>q▸FN b r (cl.func n h.2) e a j⟩) (bi:=λn e(h)=>h▸⟨HY L n,lb e λk e=>iH e λu d e=>iu (ah O e) λq g=>q▸g▸?_⟩) (me:=λn e(h)=>FO e λb e=>?_);have g:=k▸j;rw[g.none];refine jg d (λo e=>yj e λm d e=>?_) λ_ e=>jg e (λu e=>Tt e λm g d e=>bL e λz A e=>iH e λn B e=>?_) λ_ e=>bW e λE e=>Tt e λm g d e=>?_;obtain⟨y,g,i⟩:=cD.one (d▸a);rw[g,aK o,L.kf.G1];exact aeK r e i;obtain⟨y,l,g,i,o⟩:=(d▸a).un;obtain⟨y2,s,t⟩:=cD.one o;obtain⟨F,F⟩:=HD A i;obtain⟨A,A⟩:=HD B t;rw[g,s,aK u,L.kf.N',F,A,<-e];refine λQ A u=>max_two_ints L.handled λB B k=>u _ _ (Nx.grow r B k (λ_ _=>id) λ_ _=>.inl) ?_;by_cases q:n>z;rw[eP q,dM (cF q)];exact Rd.i;rw[eH q,dw (dQ q)];exact Rd.i;obtain⟨y,l,g,i,o⟩:=(d▸a).un;obtain⟨y2,s,t⟩:=cD.one o;rw[g,s,aK E,L.kf.O1];exact aeL L r t e i;obtain⟨m,h,d,i,g⟩:=h;exact h▸⟨TX L r d g,Nl e λw e q=>q▸λQ A u=>sP (method_call (r.st _ _ g) (call_K b r (cl.av n i d) e a j _ u))⟩
end
abbrev y?(c:Cx)(kws:Y wn)(pos:ww):Y (N lm×e5 bv):=hT pos (dg kws c.env)
abbrev w?(c:Cx)(es:bM)(pos:ww):Y (I×e5 bv):=fb pos (Gc es c.env)
def H3(c:Cx)(d:ae)(a:Y wn):=∀b,(y? c a b).all (·.1.isSome)=U/\(y? c a b).filterMap (·.1)=d.map c.g.nm/\(y? c a b).map (·.2)=(a.map (·.value)).map λe=>(do let v<-Db e c.env;standAt b;H1 v:e5 bv)
def wN:∀{a:Y wn},nZ c.g.nm b a->H3 c b a:=by
 induction b with
 |nil=>exact λ{a}h d=>(cO.mp h)▸⟨Z,Z,Z⟩
 |cons k b e=>
  intro a h d
  induction a with
  |nil=>exact ao h
  |cons w i=>cases w with
   |mk f v p=>induction f with
    |none=>exact ao h
    |some g=> refine ag h λa b=>?_;obtain⟨f,h,i⟩:=e b d;rw[show g=c.g.nm k from aO a];exact⟨f,ah _ h,ah _ i⟩
def ou(c:Cx)(a:bM):=∀b,(w? c a b).any (·.1)=J/\(w? c a b).all (!·.1)=U
def wO:ou c []:=λ_=>⟨Z,Z⟩
def uy{e:Expr}(h:plainArg e)(t:ou c b):ou c (e::b):=λa=>by have q:w? c _ a=fb a (_::Gc b c.env):=ah _ (mx h);rw[q];exact⟨(t a).1,(t a).2⟩
section
variable{c:Cx}{p p1:Pt}{T σ1 σ2 σ':St}{v u:V}{xs kxs:sR}{es:bM}{ks:ae}{kws:Y wn}{R:ww}{f:bv}{first:aP}{vs kvs:af}{kw:aY}{x:W}{t:I}{o:fc}{po:N Pl}
def qC(g:ou c es)(e:H3 c ks kws)(sa:SL c xs es)(i:SL c kxs (kws.map (·.value)))(h:xs T=O (vs,σ1))(j:kxs σ1=O (kvs,σ2))(l:zZ ks kvs=O kw)(r:bC c p T){Q:aT}{E:aT}
 (k:∀a b d,Nx c p T.pg a σ2->cD c.g a.F b vs->ot c.g a.F d kw->wM c f a/\he (M' c) c.A (dn f (first++b) d) Q E a.s):he (M' c) c.A (o_ R f first (w? c es R) (y? c kws R)) Q E p.s:=by
 obtain⟨a,d,m⟩:=e R;refine ib (g R).1 a ?_;rw[d,m];refine(sa.2 p T _ _ h r R).1 _ _ λp1 b a e=>(i.2 p1 σ1 _ _ j a.rel R).2 _ _ λg d d h=>?_;obtain⟨⟨i,j⟩,H⟩:=k g b _ (a.trans d) (e.bS d.ext.le) (ot.of h l);exact⟨⟨i,j E⟩,H⟩
def ZZ(r:bC c p T){a:Cn}{t:ii}:vN a=O u->g5 c.g p t a->pC c (dn (.builtin "len") [.ref t]) p T.pg T u:=Cn.casesOn a (λvs e a=>jV (λQ E q=>by obtain⟨b,n,h,z,b⟩:=a;refine f_ ⟨_,h,Z,_,Z⟩ (oY z) (q.tok r ?_ _);rw[aB,<-b.length];exact Rd.i) (au e)) bX bX λ_ _=>pp
def TY(h:uI c.G c.lv x ks):aq c.lv x=J/\ks=[]/\c.G.gl x=O (.bi 0):=by cases a:aq c.lv x with|true=>exact ao (il (dM a) h)|false=>have h:=il (dw a) h;induction ks with|cons _ _ _=>exact ao h|nil=>refine⟨Z,Z,?_⟩;cases a:c.G.gl x with|none=>rw[a]at h;exact ao h|some w=>rw[a]at h;cases a:sQ w with|none=>exact ao (il (ah (λo=>oc o (λb=>ac b 0) J) (a)) h)|some b=>rw[oX a,aK (il (ah (λo=>oc o (λb=>ac b 0) J) (a)) h)]
def Nm(a:c.OK)(w:c.Calls){d:ww}(i:s6 c x)(m:∀h,po=O h->∃b,es=[b]/\A! c h b/\plainArg b)(j:ou c es)(l:H3 c ks kws)(n:ks=[]->kws=[])(sa:SL c xs es)(s:SL c kxs (kws.map (·.value))):SE c (vS c.G c.lv x ks po xs kxs) (.Call (.Name (c.g.nm x) d) es kws R):=λt p T v σ' e r=>by
 refine gq λP k=>ma e (λy d e=>bW d λz d=>bL d λg g d=>k (mode a Z e λQ E q=>?_)) λ_ e=>aQ e λA σ1 b e=>aQ e λvs σ2 A e=>aQ e λkvs B B e=>bL e λkw F e=>aQ e λu G G e=>k (mode a Z e λQ E q=>yM (qW (X3 a r b _ _ λp1 H e K=>?_) i))
 ·obtain⟨L,k,M⟩:=TY z
  obtain⟨H,z,H⟩:=a.glob x _ L M;have L:=(z).trans a.kf.G1;refine yM (qW (H p.s _ E (λz o H=>r.Tp z o H) ?_) i);refine bL g λh i g=>iH g λz H g=>?_;obtain⟨b,b,M,Q⟩:=m h i;obtain⟨t0,P⟩:=my a r M H;obtain⟨h,i,m⟩:=l R;refine ib (j R).1 h ?_;rw[i,n k,k,b,L];refine e_ (P.ev _ _ λk=>g_ (vE ⟨⟨.machine,λb b=>cP b⟩,?_⟩)) (mx Q);exact(ZZ (r.toks k) (show vN z=O y by rw[<-g]at d;exact d) (P.at_.tok k)).next (Nx.toks r k) q E
 ·refine qC j l sa s A B F e.rel λb b b b g h=>?_
  have d:=HZ a w b.rel g h G (K.bS b.ext.le);exact⟨d.1,d.2.next (e.trans b) q E⟩
end
def TZ:∀{c:aP}{l:uF},cD g F c b->cat b=O l->∃a:Y lm,StrsAre c a/\a.map (·.cps.toList)=l/\∀y∈a,hZ y:=by induction b with|nil=>exact λr e=>(r)▸⟨[],.nil,au e,λ_ h=>ch h cr⟩|cons v b d=> refine λr e=>bL e λs b e=>iH e λc c e=>?_;obtain⟨w,l,q,r,f⟩:=r.un;obtain⟨x,t,h,g,z⟩:=HE b r;obtain⟨a,b,i,j⟩:=d f c;rw[q,h];exact⟨x::a,.cons _ _ b,by rw[fR,i,g];exact e,λy a=>(c?.mp a).elim (λe=>e▸z) (j y)⟩
def join_cons(a x y:ae)(r:uF):join a (x::y::r)=x++a++join a (y::r):=Z
def Nn(a:ae)(l:uF):(l.map (·.length)).sum+l.length*a.length<=(join a l).length+a.length:=by induction l with|nil=>rw[p8,hX];exact eG _|cons x r b=>rw[fR,List.sum_cons,vB,C0];induction r with|nil=>exact cZ (by rw[p8,hX,hH];rfl)|cons y r _=> rw[join_cons,aX,aX,hJ _ a.length,Nat.add_add_add_comm];exact ay (d9 b _) (cZ (fJ _ _ _).symm)
def Np{l:uF}:z∈join a l->z∈a∨∃x∈l,z∈x:=by induction l with|nil=>exact λh=>ch h cr|cons x r b=>induction r with|nil=>exact λh=>.inr ⟨x,gV,h⟩|cons y r _=>exact λh=>(gU.mp h).elim (λh=>(gU.mp h).elim (λh=>.inr ⟨x,gV,h⟩) .inl) λh=>(b h).imp id λh=>by obtain⟨w,a,h⟩:=h;exact⟨w,iE _ a,h⟩
def Kq(g:XV W)(r:Y lm):∀a:XV W,(r.foldl (λb p=>b++g++p.cps) a).toList=a.toList++(r.map λp=>g.toList++p.cps.toList).flatten:=by induction r with|nil=>exact λa=>(eq _).symm|cons p r c=>exact λa=>(c _).trans (by rw[zH,zH,fR,m?,am,am,am])
def Kr(a:ae)(r:uF):∀x:ae,join a (x::r)=x++(r.map (a++·)).flatten:=by induction r with|nil=>exact λx=>(eq _).symm|cons y r b=>exact λx=>by rw[join_cons,b y,fR,m?,am,am]
def Nq(b:lm)(a:Y lm):(Txt.join b a).cps.toList=join b.cps.toList (a.map (·.cps.toList)):=by induction a with|nil=>rfl|cons x r _=>exact(Kq _ r x.cps).trans (by rw[fR,Kr,jv];rfl)
section
variable{c:Cx}{p p1:Pt}{σ σ1 σ2 σ':St}{v u w:V}{xs kxs:sR}{es:bM}{ks:ae}{kws:Y wn}{pos ap:ww}{f:bv}{first:aP}{vs kvs:af}{kw:aY}{m:W}{t:I}{ea:Expr}{o:fc}{po:N Pl}{q:N PA}
def ig{s:ge}(i:dJ ea)(k:ou c es)(l:H3 c ks kws)(n:bd (es.length+kws.length) 20)(r:ac ap.endLine pos.line)
 (j:he (M' c) c.A (Db ea c.env) (λd e=>∀h,he (M' c) c.A (e! d b h) (λa g=>he (M' c) c.A (o_ pos a.1 a.2 (w? c es pos) (y? c kws pos)) Q E g) E e) E s):
  he (M' c) c.A (Db (.Call (.Attribute ea b ap) es kws pos) c.env) Q E s:=by
 rw[arm_eval_Call,wK i];refine bR (jt j (λd e b=>bR (uh ?_)) λ_ _ x=>x)
 have d:Ok (es.length+kws.length) (w? c es pos) (y? c kws pos):=by unfold Ok;rw[(k pos).2,(l pos).1,Bool.true_and];exact cF (fQ (gY (cw n) (show _<=1 by split<;>decide)) (aO Z))
 have e:a7 U ea c.env ap pos=H1 pos:=by unfold a7;rw[aK r];simp
 unfold methodCall;rw[d];exact bR (ue (jt (b _) (λa g a=>bR (fN e a)) λ_ _ x=>x))
def Z0{t:ii}{P:Prop}:vP a->g5 c.g p t a->(∀vs,a=.lst vs->P)->P:=Cn.casesOn a (λvs _ _ k=>k vs Z) aV aV λ_ _=>pp
def MeG(c:Cx)(p:Pt)(x:bv)(m:W)(K:bv->aP->W->Prop):=∀(a:e5 I)(Q:bv×aP->ge->Prop)(E:aT),(∀y l k,K y l k->Q (y,l) {p.s with toks:=k})->he (M' c) c.A (e! x (c.g.nm m) a) Q E p.s
def FP(a:c.OK)(r:bC c p σ)(b:c.g.dj)(e:aj m σ.pg.par=O (.val w)):MeG c p (.ref c.g.par) m λy l _=>l=[]/\Rd c.g p.F y w:=λd Q E q=>by obtain⟨es,n,g,d⟩:=qB r b;have X:=a.In r;have G:=g.bU m;rw[e]at G;obtain⟨i,y,j,g⟩:=G;have e:=qp (a.kf.Cf (c.g.nm m) b);have h:=a.kf.Ci m b i;refine bR (bR (d.type.here ((ql X e.1).here ?_)));dsimp only;refine bR (bR (d.type.here ((ql X e.2).here ?_)));refine bR (bR (d.type.here ((ql X h).here ?_)));exact bR (g! X d e.1 (r0 (a.kf.Cg b) h Z j) (wD a g) (cP (q y [] _ ⟨Z,g⟩)))
def FQ(b:c.OK)(r:bC c p σ)(a:c.g.dj)(g:aj m σ.pg.par=C)(e:c.G.du m):c.g.isFn m/\MeG c p (.ref c.g.par) m λy l _=>y=.ref (c.g.fnAt m)/\l=[.ref c.g.par]:=by obtain⟨es,n,d⟩:=qB r a;obtain⟨m1,m2,m3,_⟩:=b.kf.Cj m a e;have e:=qp (b.kf.Cf (c.g.nm m) a);have G:d4 _ es=O C:=FI r d g;exact⟨m1,λa Q E q=>method_fn (b.In r) d.2 e.1 e.2 m2 (fZ.mp m3) (show(d4 _ es).map _=_ by rw[G];rfl) (q _ _ p.s.toks ⟨Z,Z⟩)⟩
def Z5(r:bC c p σ){a:ae}{s:lm}{i:kv}(e:s.cps.toList=a)(A:hZ s){h:aP}{g:af}{l:uF}(j:cD c.g p.F h [w])(k:ja w=O g)(n:cat g=O l)(d:bd (ak (join a l)) 900000)(b:bd (ak a) 1000):
  pC c (dn (.builtin "str.join") ([.str s i]++h)) p σ.pg σ (.str (join a l)):=λQ E q=>by
 refine gq λP i=>?_;obtain⟨y,g,x⟩:=cD.one j;obtain⟨h,j,h,h,f,z,B⟩:=Kn k x;obtain⟨ys,y1,y2,y3⟩:=TZ B n;refine i ?_;have T:=Nq s ys;rw[y2,e]at T;rw[aB]at d b;have d:=cw d;have b:=cw b;rw[g,h];refine join_list (items:=j.toArray) (ys:=ys) ⟨_,r.st _ _ f,Z,_,Z⟩ y1 ?_ λi k=>q.tok r ?_ k
 ·have i:=Nn a l
  have a:ys.map ((λx:ae=>x.length)∘λx:lm=>x.cps.toList)=ys.map (·.length):=k? λy _=>len_list y;rw[<-y2,jv,i9,y2,<-e,len_list,a]at i;rw[<-e,len_list]at b;exact ay i (ay (gY (e.symm▸d) b) (aO Z))
 ·rw[<-T]
  refine Rd.s (wx (T.symm▸ay d (aO Z)) λz a=>?_);rw[T]at a;refine(Np a).elim (λh=>oZ A z (e.symm▸h)) λh=>?_;obtain⟨x,a,h⟩:=h;rw[<-y2]at a;obtain⟨y,g,e⟩:=eO.mp a;exact oZ (y3 y g) z (e▸h)
def Ar{a:Type}{b:I}{x:a}{o:N a}(h:∃y,o=O y):∃y,br b (O x) o=O y:=by induction b with|true=>exact⟨x,Z⟩|false=>exact h
def aeM:cX G a m b=O r->∃b,lid G m=O b:=have z:=λh=>Ar (Ar (Ar (h▸⟨_,Z⟩)));Cn.casesOn a (λvs e=>jg e (λh _=>⟨_,dM h⟩) λa e=>jg e (λh _=>⟨_,(dw a).trans (dM h)⟩) λb e=>jg e (λh _=>⟨_,(dw a).trans ((dw b).trans (dM h))⟩) λa e=>bW e λh _=>z h) bX bX λvs e=>jg e (λh _=>⟨_,dM h⟩) λ_ e=>bW e λh _=>z h
def Nr(d:c.OK)(cl:c.Calls){a:I}(g:Ss c po ea)(G:dJ ea)(M:SE c o ea)(h:ou c es)(i:H3 c ks kws)(F:ks=[]->kws=[])(sa:SL c xs es)(R:SL c kxs (kws.map (·.value)))(H:bd (es.length+kws.length) 20)(K:ac ap.endLine pos.line):
  SE c (z4 c.G c.lv po m ks a o xs kxs) (.Call (.Attribute ea (c.g.nm m) ap) es kws pos):=λt p σ v σ' e r=>by
 refine gq λP a=>ma e (λb k e=>lb e λb e=>bW e λA e=>aQ e λvs σ1 s e=>bW e λL e=>bL e λj x e=>aQ e λu j n e=>bL e λσ2 y e=>a (mode d Z e λQ E q=>?_))
  λ_ e=>aQ e λj σ1 s e=>aQ e λvs σ2 x e=>aQ e λkvs j n e=>bL e λkw y e=>jg e (λhpar e=>ma e (λj S e=>bW e λj e=>bL e λf hf e=>aQ e λu z j e=>a (mode d Z e λQ E q=>?_)) λS e=>bW e λT e=>aQ e λu z j e=>a (mode d Z e λQ E q=>?_))
   λ_ e=>bL e λz hsep e=>bW e λhj e=>lb e λhkw e=>yj e λw hw e=>bL e λz h5 e=>bL e λl h6 e=>bW e λh7 e=>bW e λh8 e=>a (mode d Z e λQ E q=>?_)
 ·obtain⟨hE,t0,P⟩:=s8 d r g k
  refine ig G h i H K (P.ev _ _ λk z=>Z0 A P.at_ λa g=>?_);have A:=Nx.toks r k;obtain⟨B,k0,V,_⟩:=(g▸P.at_:g5 c.g p t0 (.lst a));obtain⟨a,B⟩:=aeM n;refine TP (p:=p) d B V Z Z Z ?_;obtain⟨a,g,V⟩:=i pos;refine ib (h pos).1 a ?_;rw[g,V,F b,b];refine(sa.2 _ σ _ _ s A.rel pos).1 _ _ λp1 V a b=>vE ⟨⟨.machine,λQ' X=>cP X⟩,?_⟩;have g:=A.trans a;have A:=P.again d r hE g L x;obtain⟨F,F,L⟩:=TO a.rel b n A.at_;rw[au (il B F)];exact L Q E λB B B F L P=>q _ B (g.trans (u6 g.rel A.is F L y)) P
 ·refine ig G h i H K (M.val s r _ _ λp1 L a b z=>?_)
  have b:rpar c.g L:=Rd.as (rC hpar) b;rw[b.1];refine FP d a.rel b.2 (S.trans (ah O (wG hf))) z _ _ λb' l k A=>?_;rw[A.1];refine qC h i sa R x n y (a.rel.toks k) λP V Q g B F=>?_;have a':=HZ d cl g.rel B F j (A.2.bS g.ext.le);exact⟨a'.1,a'.2.next (a.trans ((Nx.toks a.rel k).trans g)) q E⟩
 ·refine ig G h i H K (M.val s r _ _ λp1 L a b z=>?_)
  have b:rpar c.g L:=Rd.as (rC hpar) b;obtain⟨m1,c'⟩:=FQ d a.rel b.2 S T;rw[b.1];refine c' z _ _ λb' l k A=>?_;rw[A.1,A.2];refine qC (first:=[.ref c.g.par]) h i sa R x n y (a.rel.toks k) λP V Q g B F=>FO j λA j=>Nl j λS j S=>?_;exact⟨HX d g.rel m1,(FN A g.rel (cl.av m b.2 m1) j B F).next (a.trans ((Nx.toks a.rel k).trans g)) (S▸q) E⟩
 ·refine ig G h i H K (M.val s r _ _ λp1 L a b z=>?_)
  obtain⟨s,j,k,r,z⟩:=HE hsep b;have T:c.g.nm m="join":=aK hj▸d.kf.lE;rw[k,T];refine v! (rp _ _ _) PySem.F.plainAttrs_str PySem.F.slot_str_join PySem.F.type_str_join (λb e=>wz e) ?_;refine qC (first:=[.str s j]) h i sa R x n y a.rel λP V Q g B F=>⟨⟨.machine,λE Q' X=>cP X⟩,?_⟩;have b:ot c.g P.F Q []:=hkw▸F;rw[b.none];exact(Z5 g.rel r z (hw▸B) h5 h6 h7 h8).next (a.trans g) q E
end
def T3{a b:I}(h:(a==b)):a=b:=eq_of_beq h
def ŵ(n:W):np:=[Operator.Add,.Sub,.Mult,.MatMult,.Div,.Mod,.Pow,.LShift,.RShift,.BitOr,.BitXor,.BitAnd,.FloorDiv].getD n .Add
def H8(a:np):ŵ (oN a)=a:=wP a Z Z Z Z Z Z Z Z Z Z Z Z Z
def FR(h:ac (oN a) (oN b)):a=b:=il (H8 a) ((ah ŵ (aK h)).trans (H8 b))
def Ŵ(n:W):ut:=[CmpOp.Eq,.NotEq,.Lt,.LtE,.Gt,.GtE,.Is,.IsNot,.In,.NotIn].getD n .Eq
def H9(a:ut):Ŵ (cN a)=a:=pu a Z Z Z Z Z Z Z Z Z Z
def Z6(h:ac (cN a) (cN b)):a=b:=il (H9 a) ((ah Ŵ (aK h)).trans (H9 b))
def Cv:∀{b:Y ut},Mz a b->a=b:=by induction a with|nil=>exact λ{b}=>AT b (λ_=>Z) λ_ _=>ao|cons x a c=>exact λ{b}=>AT b ao λy b h=>ag h λh k=>vo (ah R' (Z6 h)) (c k)
def Nt{s:lm}(h:EA s):hZ s:=ag h λa b=>⟨ay (cw a) (aO Z),b⟩
section
variable{c:Cx}{x xs lo:X}{e ea:Expr}{es:bM}{w:V}{pos:ww}{k:W}{f:fc}{nil:I}
def Nu(c:Cx)(e:Expr)(w:V):=∀(p:Pt)(Q:aT)E,(∀t x,Rd c.g p.F x w->Q x {p.s with toks:=t})->he (M' c) c.A (Db e c.env) Q E p.s
def aeP:vW w d->Nu c (.Constant d k pos) w:=a_ d (Vc (M:=λw=>dP w J (no:=U)=U->Nu c _ w) w (no:=λ_ p Q E q=>wpAny_Constant_none (q p.s.toks _ Z))) (λb=>Vc (M:=λw=>dP w J (bo:=λa=>b==a)=U->Nu c _ w) w (bo:=λa h p Q E q=>wpAny_Constant_bool (q p.s.toks _ (T3 h▸Z)))) (λi=>Vc (M:=λw=>dP w J (i:=λj=>a? (i=j))=U->Nu c _ w) w (i:=λj h p Q E q=>wpAny_Constant_int (q _ _ (aO h▸Rd.i)))) aV iw (λs=>Vc (M:=λw=>dP w J (s:=λl=>a? (s.cps.toList=l)&&EA s)=U->Nu c _ w) w (s:=λl h p Q E q=>ag h λh z=>wpAny_Constant_str (q _ _ (aO h▸Rd.s (Nt z))))) aV ao
def wQ(a:c.OK)(h:Fg e (vW w)):SE c (sS w) e:=by obtain⟨d,n,p,b,h⟩:=aeh h;rw[b];exact ZC a Z (aeP h)
def gZ{s:lm}(h:iB c.g.nm y s):s=c.g.nm y:=aO h
def y9{s:lm}(h:LK s)(q:s=c.g.nm y):s6 c y:=qT λz=>by have:a? (s=("__debug__":lm)):=cF (q.trans z);unfold LK at h;rw[this]at h;exact yC h
def T4(i:c.OK){g:I->fc}(h:SE c f ea)(b:nil->es=[])(d:nil=J->∃a l,es=a::l/\XX c g es):XX c (yT nil f g) (ea::es):=by induction nil with|true=>exact b Z▸TF h|false=> obtain⟨a,l,q,H⟩:=d Z;rw[q]at H ⊢;exact M0 i h H
def Nv{a:Expr->I}{l:N Expr}(H:∀e,a e->SE c f e):oc l (λl=>!nil&&a l) nil=U->G? c (vR nil f) l:=by
 induction l with
 |none=>exact λh=>(show nil from h)▸TB
 |some e=>induction nil with
  |true=>exact ao
  |false=>exact λh=>TC (H e h)
structure ì(c:Cx)(x:X)(es:bM):Prop where
 l:SL c (c! c.G c.lv x).l es
 pl:ou c es
 nil:cq x->es=[]
 bc:cq x=J->∃eb l,es=eb::l/\XX c (c! c.G c.lv x).b es/\Hf c (c! c.G c.lv x).c es
def Good(c:Cx)(x:X):=(∀e,eK c.g.nm x e->SE c (c! c.G c.lv x).e e)/\∀es,ph c.g.nm x es->ì c x es
def As:vL x->x=.aR 0:=X.casesOn x ao iw ao ao ao aV aV (λy h=>ah X.aR (aK h)) iw aV aV aV aV pf pf pf aV aV ao iw pf Sl F1 iw Sl ao
def Ia(h:eK c.g.nm (.aR y) e):s6 c y/\∃p,e=.Name (c.g.nm y) p:=by obtain⟨s,p,b,h⟩:=kD (f:=λs=>iB c.g.nm y s&&LK s) h;exact ag h λa d=>⟨y9 d (gZ a),p,b.trans (ah (Expr.Name · p) (gZ a))⟩
def Yb(h:eK c.g.nm (.bU o a) e):∃v p,e=.Attribute v (c.g.nm a) p/\eK c.g.nm o v/\dJ v:=by obtain⟨v,n,p,b,h⟩:=yV (f:=λv n _=>iB c.g.nm a n&&eK c.g.nm o v&&dJ v) h;exact ag h λh d=>ag h λa h=>⟨v,p,b.trans (ah (Expr.Attribute v · p) (gZ a)),h,d⟩
def rI(h:eK c.g.nm x e):Ss c (cG x) e:=λa b=>X.casesOn (motive:=λx=>eK c.g.nm x e=U->cG x=O a->A! c a e) x bX kE bX bX bX gJ gJ (λy h q=>(au q:.loc y=a)▸Ia h) (λo d h q=>bW q λg q=>(au q:.bU d=a)▸by obtain⟨v,p,a,d,_⟩:=Yb h;obtain⟨i,j,l⟩:=Ia (As g▸d);exact⟨i,j,p,l▸a⟩) gJ gJ gJ gJ Ft Ft Ft gJ gJ bX kE Ft Tg (λ_ _ _ _ _ _=>aa) kE Tg bX h b
def nil_of:cq x->x=.nil:=X.casesOn x (λ_=>Z) iw ao ao ao aV aV aV iw aV aV aV aV pf pf pf aV aV ao iw pf Sl F1 iw Sl ao
def Nw:yQ x=O a->x=.cons a .nil:=X.casesOn x aa (λb t q=>bW q λa q=>vo (ah X.cons (au q)) (nil_of a)) aa aa aa bX bX bX gJ bX bX bX bX kE kE kE bX bX aa gJ kE Ft Tg gJ Ft aa
def Ny{P:Prop}(h:ph c.g.nm (.cons x xs) es)(k:∀e l,es=e::l->eK c.g.nm x e->plainArg e->ph c.g.nm xs l->P):P:=by induction es with|nil=>exact ao h|cons e l _=>exact ag (show(eK c.g.nm x e&&plainArg e&&ph c.g.nm xs l)from h) λh a=>ag h λb d=>k e l Z b d a
def Z7(h:ph c.g.nm x es)(q:yQ x=O a):∃b,es=[b]/\eK c.g.nm a b/\plainArg b:=Ny (show ph c.g.nm (.cons a .nil) es from Nw q▸h) λe l a b d g=>⟨e,a.trans (ah (e::·) (cO.mp g)),b,d⟩
def E0(h:nZ c.g.nm a b)(q:a=[]):b=[]:=by rw[q]at h;exact cO.mp h
def bz(g:c.OK)(G:c.Calls)(x:X):Good c x:=by induction x with|nil=>exact⟨λe h=>ao h,λes h=>(cO.mp h:es=[])▸⟨Ag,wO,λ_=>Z,λh=>ao h.symm⟩⟩|cons x xs i j=>refine⟨λe h=>ao h,λes h=>Ny h λe l d b a m=>d▸?_⟩;have d:=i.1 e b;have T:=j.2 l m;refine⟨TA d a T.l,uy a T.pl,λh=>ao h,λ_=>⟨e,l,Z,T4 g d T.nil λq=>?_,Nb g (rI b) d T.nil λq=>?_⟩⟩;obtain⟨d,l,h,r,_⟩:=T.bc q;exact⟨d,l,h,r⟩;obtain⟨d,l,h,_,r⟩:=T.bc q;exact⟨d,l,h,r⟩|pd=>exact⟨λe h=>wQ g h,λes h=>ao h⟩|yN=>exact⟨λe h=>wQ g h,λes h=>ao h⟩|Hp=>exact⟨λe h=>wQ g h,λes h=>ao h⟩|int z=>exact⟨λe h=>wQ g h,λes h=>ao h⟩|str l=>exact⟨λe h=>wQ g h,λes h=>ao h⟩|aR y=> refine⟨λe h=>?_,λes h=>ao h⟩;obtain⟨n,p,d⟩:=Ia h;exact d▸(ZU g n:)|bU t r i=> refine⟨λe h=>?_,λes h=>ao h⟩;have E:=rI h;obtain⟨v,p,d,n,s⟩:=Yb h;exact d▸(ZV g (d▸E) s (i.1 v n):)|nt y i=> refine⟨λe h=>?_,λes h=>ao h⟩;obtain⟨o,v,p,d,h⟩:=XJ (f:=λo v=>a? (o=.Not)&&eK c.g.nm y v) h;exact ag h λb a=>d▸aO b▸(aey g (i.1 v a):)|neg y i=> refine⟨λe h=>?_,λes h=>ao h⟩;obtain⟨o,v,p,d,h⟩:=XJ (f:=λo v=>a? (o=.USub)&&eK c.g.nm y v) h;exact ag h λb a=>d▸aO b▸(ZD g (i.1 v a):)|and es i=> refine⟨λe h=>?_,λes h=>ao h⟩;obtain⟨o,n,p,d,h⟩:=XI (f:=λo n=>a? (o=.And)&&ph c.g.nm es n) h;exact ag h λb a=>d▸aO b▸(HM (x:=U) (sb_of (i.2 n a)):)|or es i=> refine⟨λe h=>?_,λes h=>ao h⟩;obtain⟨o,n,p,d,h⟩:=XI (f:=λo n=>a? (o=.Or)&&ph c.g.nm es n) h;exact ag h λb a=>d▸aO b▸(HM (x:=J) (sb_of (i.2 n a)):)|ite r F u i j k=> refine⟨λe h=>?_,λes h=>ao h⟩;obtain⟨s,M,P,p,d,h⟩:=aee (f:=λx y Q=>eK c.g.nm r x&&eK c.g.nm F y&&eK c.g.nm u Q) h;exact ag h λh m=>ag h λb a=>d▸(ZE (i.1 s b) (j.1 M a) (k.1 P m):)|cmp l R S i j=> refine⟨λe h=>?_,λes h=>ao h⟩;obtain⟨P,u,Q,p,d,h⟩:=aeg (f:=λx u y=>eK c.g.nm l x&&Mz R u&&ph c.g.nm S y&&!B2 u y) h;exact ag h λh u=>ag h λh m=>ag h λb a=>d▸Cv a▸(ZX (i.1 P b) (sc_of (j.2 Q m)) (Cv a▸im _▸u):)|bin o r F i j=> refine⟨λe h=>?_,λes h=>ao h⟩;obtain⟨s,P,M,p,d,h⟩:=aed (f:=λx P y=>ac (oN o) (oN P)&&eK c.g.nm r x&&eK c.g.nm F y) h;exact ag h λh m=>ag h λb a=>d▸FR b▸(ZF g (i.1 s a) (j.1 M m):)|tup es i=> refine⟨λe h=>?_,λes h=>ao h⟩;obtain⟨n,z,p,d,h⟩:=Mx (f:=λn=>ph c.g.nm es n&&bd n.length 1000) h;exact ag h λb a=>d▸(ZG g (i.2 n b).l a:)|yO es i=> refine⟨λe h=>?_,λes h=>ao h⟩;obtain⟨n,p,d,h⟩:=Mw (f:=λn=>ph c.g.nm es n&&bd n.length 1000) h;exact ag h λb a=>d▸(ZH g (i.2 n b).l a:)|Sk=>exact⟨λe h P p Q v R e=>aa e,λes h=>ao h⟩|sub t y i j=> refine⟨λe h=>?_,λes h=>ao h⟩;obtain⟨n,s,p,d,h⟩:=Hz (f:=λx s=>eK c.g.nm t x&&eK c.g.nm y s&&jA s) h;exact ag h λh m=>ag h λb a=>d▸(ZW g (rI b) (i.1 n b) (j.1 s a) m:)|cut t lo A i j k=> refine⟨λe h=>?_,λes h=>ao h⟩;obtain⟨n,s,p,d,h⟩:=Hz (f:=λx s=>Zl s (λl h o=>eK c.g.nm t x&&oc l (λl=>!cq lo&&eK c.g.nm lo l) (cq lo)&&oc h (λh=>!cq A&&eK c.g.nm A h) (cq A)&&o.isNone)) h;obtain⟨l,M,o,M,S,h⟩:=aei (f:=λl h o=>eK c.g.nm t n&&oc l (λl=>!cq lo&&eK c.g.nm lo l) (cq lo)&&oc h (λh=>!cq A&&eK c.g.nm A h) (cq A)&&o.isNone) h;exact ag h λh u=>ag h λh m=>ag h λb a=>d▸S▸vz.mp u▸(ZJ g (i.1 n b) (Nv j.1 a) (Nv k.1 m):)|bF f B H K i j=>refine⟨λe h=>?_,λes h=>ao h⟩;obtain⟨o,es,n,p,d,h⟩:=ur (f:=λo A n _=>ng o (λs=>iB c.g.nm f s&&LK s)&&ph c.g.nm B A&&nZ c.g.nm H n&&ph c.g.nm K (n.map λk:wn=>k.value)) h;refine ag h λh u=>ag h λh m=>ag h λb a=>?_;obtain⟨s,M,s,b⟩:=kD b;refine ag b λr F=>?_;rw[d,s,gZ r];exact Nm g G (y9 F (gZ r)) (λS E=>bL E λy T E=>by obtain⟨V,r,F,M⟩:=Z7 a T;exact⟨V,r,rI F S E,M⟩) (i.2 es a).pl (wN m) (E0 m) (i.2 es a).l (j.2 _ u).l|fw t L B H K i j k=> refine⟨λe h=>?_,λes h=>ao h⟩;obtain⟨o,es,n,p,d,h⟩:=ur (f:=λo A n p=>isAt o (λv z o=>iB c.g.nm L z&&eK c.g.nm t v&&ph c.g.nm B A&&nZ c.g.nm H n&&ph c.g.nm K (n.map λk:wn=>k.value)&&dJ v&&ac o.endLine p.line&&bd (A.length+n.length) 20)) h;obtain⟨v,z,o,s,h⟩:=yV (f:=λv z o=>iB c.g.nm L z&&eK c.g.nm t v&&ph c.g.nm B es&&nZ c.g.nm H n&&ph c.g.nm K (n.map λk:wn=>k.value)&&dJ v&&ac o.endLine p.line&&bd (es.length+n.length) 20) h;refine ag h λh n=>ag h λh M=>ag h λh F=>ag h λh r=>ag h λh u=>ag h λh m=>ag h λb a=>?_;rw[d,s,gZ b];exact(Nr g G (rI a) F (i.1 v a) (j.2 es m).pl (wN u) (E0 u) (j.2 es m).l (k.2 _ r).l n M:)|sup L B i=>exact⟨λe h=>G.sup L B e h,λes h=>ao h⟩|comp elt y it cs i j=>exact⟨λe h=>G.comp elt y it cs e h,λes h=>ao h⟩|bad=>exact⟨λe h P p Q v R e=>aa e,λes h=>ao h⟩
where
 sb_of {x:X} {es:bM} (h:ì c x es):XX c (c! c.G c.lv x).b es:=by
  cases q:cq x with
  |true=>exact nil_of q▸λa p σ v σ' r=>⟨λe=>aa e,λe=>aa e⟩
  |false=>obtain⟨_,_,_,a,_⟩:=h.bc q;exact a
 sc_of {x:X} {es:bM} (h:ì c x es):Hf c (c! c.G c.lv x).c es:=by
  cases q:cq x with
  |true=>exact nil_of q▸λv ops p σ b σ' w e=>aa e
  |false=>obtain⟨_,_,_,_,a⟩:=h.bc q;exact a
end
def gL(a b:ae):I:=aI (aq a) b
def uR(b:ae)(x:S):I:=S.rec (motive:=λ_=>I) U (λ_ _ i j=>i&&j) aaz aaz U U (λa _=>gL b a) (λx _ _ _ _=>aq b x) (λa _=>gL b a) (λ_ _ _=>U) (λ_ _ _=>U) (λ_ _=>U) (λ_ _ _=>U) (λ_ _ _ _=>U) (λ_ _ _ i j=>i&&j) (λ_ _ i=>i) (λa _ _ i=>gL b a&&i) aaz (λ_ i=>i) U x
def LP(c:Cx)(f:gz)(e:b9):=∀p a b d,f a=O (b,d)->bC c p a->O_ c (e0 e c.env) p a.pg d b
def Au{a:I}(b:k6 a (O j)=J)(c:k6 a (O k)=J)(w:Ow)(e:k6 a (O w))(q:w=j∨w=k):Ch:=q.elim (λq=>ao (il b (q▸e))) λq=>ao (il c (q▸e))
section
variable{c:Cx}{p p1 p2:Pt}{L σ1 σ2 G:St}{pg:PG}{v w:V}{fl:Fl}{e ea:Expr}{es:b9}{a b:gz}{f:fc}{R:ww}{x:W}{s:a9}{T:Flow}
def Sx.of(n:Nx c p pg p1 σ1):Sx c p pg p1 σ1:=⟨n.ext.weak λ_=>Ce,n.rel⟩
def Sx.trans(m:Sx c p pg p1 σ1)(n:Sx c p1 σ1.pg p2 σ2):Sx c p pg p2 σ2:=⟨m.ext.trans Z n.ext,n.rel⟩
def KS.next(q:KS c p pg G fl Q)(n:Sx c p pg p1 σ1):KS c p1 σ1.pg G fl Q:=λd T g r=>q d T (n.trans g) r
def O_.next(h:O_ c m p1 σ1.pg G fl)(n:Sx c p pg p1 σ1)(q:KS c p pg G fl Q)(E:aT):he (M' c) c.A m Q E p1.s:=h Q E (q.next n)
def Z8{f:Fl}{P:Prop}(h:Nh g F T f)(d:f=.next->T=.next->P)(i:f=.brk->T=.brk->P)(j:∀v w,f=.ret v->T=.ret w->Rd g F w v->P):P:=
 (Fl.casesOn (motive:=λf=>Nh g F T f->(f=.next->T=.next->P)->(f=.brk->T=.brk->P)->(∀v w,f=.ret v->T=.ret w->Rd g F w v->P)->P) f (λh k _ _=>k Z h) (λh _ k _=>k Z h) λv h _ _ k=>by obtain⟨w,h,r⟩:=h;exact k v w Z h r) h d i j
def Z9:LP c nx []:=λp L fl G e r Q E q=>iu e λh d=>vD (q p .next (d▸.of (.refl r)) (h▸Z))
def T5(d:SS c a s)(i:LP c b es):LP c (bh a b) (s::es):=λp L fl G e r=>aQ e λf1 σ1 g e=>λQ E q=>yF (d p L f1 σ1 g r _ _ λp1 T h d=>Z8 d
 (λd g=>by rw[g];rw[d]at e;exact(i p1 σ1 fl G e h.rel).next h q E) (λd g=>by rw[g];rw[d]at e;exact iu e λi j=>q p1 _ (j▸h) (i▸Z))
 λv w d g k=>by rw[g];rw[d]at e;exact iu e λi j=>q p1 _ (j▸h) (i▸⟨w,Z,k⟩))
def jd{t:N Expr}{l:W}:d5 e->lN e t l d=H1 J:=by apply@Expr.casesOn (λe=>d5 e=U->lN e t l d=H1 J) e<;>intros<;>first|rfl|exact ao ‹_›
def zb(d:c.OK):interactive c.env=J:=by unfold interactive;rw[d.kind];rfl
def KS.nx(q:KS c p pg G fl Q)(e:Ev.nx σ1=O (fl,G))(n:Sx c p pg p1 σ1):Q .next p1.s:=iu e λh d=>q p1 .next (d▸n) (h▸Z)
def T6(d:c.OK)(h:SE c f ea)(g:d5 ea):SS c (vT f) (.Expr ea R):=λp L fl G e r=>aQ e λi σ1 i e=>λQ E q=>wpAny_Expr_any (h.val i r _ _ λp1 x h i=>q.nx e (.of h)) (zb d) (jd g)
def Cw:SS c (sT U f) (.Return C R):=λp L fl G e r Q E q=>iu e λh d=>wpAny_Return_none (q p _ (d▸.of (.refl r)) (h▸⟨_,Z,Z⟩))
def aaa(h:SE c f ea):SS c (sT J f) (.Return (O ea) R):=λp L fl G(e:ax _ (λv s=>O (.ret v,s))=O (fl,G))r=>aQ e λd σ1 d e=>λQ E q=>wpAny_Return_some (h.val d r _ _ λp1 x d g=>iu e λh i=>q p1 _ (i▸.of d) (h▸⟨x,Z,g⟩))
def aab:SS c (λs=>O (.brk,s)) (.Break R):=λp L fl G e r Q E q=>iu e λh d=>wpAny_Break (q p _ (d▸.of (.refl r)) (h▸Z))
def aac:SS c nx (.Pass R):=λp L fl G e r Q E q=>wpAny_Pass (q.nx e (.of (.refl r)))
def aad(h:SE c f ea)(i:LP c a d)(j:LP c b g):SS c (BD f a b) (.If ea d g R):=λp L fl G e r=>aQ e λd σ1 d e=>λQ E q=>wpAny_If (h.yN d r _ _ λp1 x h d=>y6 (λg=>(i p1 σ1 fl G (il (dM g) (rF h e)) d.rel).next (.of d) q E) λg=>(j p1 σ1 fl G (il (dw g) (rF h e)) d.rel).next (.of d) q E)
def T8(h:SE c f ea):SS c (Hy f) (.Assert ea m R):=λp L fl G e r=>aQ e λd σ1 d e=>λQ E q=>wpAny_Assert_holds (h.yN d r _ _ λp1 x d g=>bW (rF d e) λd e=>⟨d,q.nx e (.of g)⟩)
def aae{d:eg}(h:LP c a es):SS c a (.Try es (d::g) [] [] R):=λp L fl G e r Q E q=>wpAny_Try_except (h p L fl G e r _ _ λp1 T h d=>Z8 d (λd g=>by rw[g];exact vD (q p1 _ h (d▸Z))) (λd g=>by rw[g];exact q p1 _ h (d▸Z)) λv w d g i=>by rw[g];exact q p1 _ h (d▸⟨w,Z,i⟩))
def mA(d:c.OK):(c.env.scope.kind==.class||(c.env.scope.kind==.module&&c.env.locals !=c.env.globals))=J:=by rw[d.kind];rfl
def Ib(g:c.OK)(r:bC c p L)(z:aq c.lv x){h:t3}(n:∀a o,p.h.get? a=O o->h.get? a=O o){t:ii}(A:p.h.get? t=C){q:N Ow}(B:∀j,q=O j->j=.loc x/\∃o,h.get? t=O o){y:bv}{l:LV}(m:W)
 (F:∀d u k,u8 c.L h d->k (c.g.nm x)=O y->Zs c (p.up d u p.F (bQ t q (mW (.loc x) p.ow))) k x (O l)){Q:df->ge->Prop}{E:aT}(K:∀i,Ext (k6 U) p L.pg i L.pg->bC c i (aE L x l)->Q () i.s):
  he (M' c) c.A (UF c.env (c.g.nm x) y) Q E {p.s with heap:=h,toks:=m}:=by
 obtain⟨h,h,H⟩:=r.loc;have i:=h.at λo=>n _ o;refine BM (g.loc x z) (g.locals▸i) (λd i j=>?_) (mA g);rw[g.locals]at i j;have h:=i;obtain⟨o,_,_,k,_⟩:=h;have S:kF (λw=>w=.frame∨w=.loc x) p (p.up d (m+1) p.F _):=kF.bind r.pg.own n j r.kr k A B (bx Z) (bx Z);refine K _ (S.ext (Au Z Z) (aU _) λ_=>⟨λ_=>Z,λa t o=>S.ko t _ o λh=>h.elim (bx Z) (bx Z)⟩) (S.MN r (λw h e=>e.elim (λe=>ao (e▸h:shared .frame=U)) (FG h)) i λa=>?_);by_cases z:a=x
 ·rw[z,show aj x _=_ from dk]
  exact F d _ _ j (eP Z)
 ·rw[show aj a _=_ from bZ z]
  exact(H a).to S (eH λh=>z (g.kf.inj _ _ h)) λh=>h.elim (bx Z) λh=>z (Aj h)
def s9{d:I}(k:N Ow)(h:k6 d k):k6 U k:=by induction d with|true=>exact h|false=>exact pi id (λk=>Ow.casesOn k id (λ_=>id) ao ao aV ao id) k h
def Sx.ofT{l:LV}{x:W}(e:Ext (k6 U) p L.pg p1 L.pg)(r:bC c p1 (aE L x l)):Sx c p L.pg p1 (aE L x l):=⟨e.weak s9,r⟩
def qD(g:c.OK)(r:bC c p L)(h:aq c.lv x){y:bv}(i:Rd c.g p.F y v){Q:df->ge->Prop}{E:aT}(K:∀d,Ext (k6 U) p L.pg d L.pg->bC c d (aE L x (.val v))->Q () d.s):he (M' c) c.A (UF c.env (c.g.nm x) y) Q E p.s:=Ib g r h (l:=.val v) (λ_ _=>id) (jr (aU _)) bX p.s.toks (λ_ _ _ _ h=>⟨y,h,i⟩) K
def iT(g:c.OK)(r:bC c p L)(h:aq c.lv x){y:bv}(i:Rd c.g p.F y v){Q:df->ge->Prop}{E:aT}(K:∀d,Sx c p L.pg d (aE L x (.val v))->Q () d.s):he (M' c) c.A (UF c.env (c.g.nm x) y) Q E p.s:=qD g r h i λd e g=>K d (.ofT e g)
def Ks(j:c.OK)(r:bC c p L)(k:aq c.lv x){d:aP}{h:af}(z:jT d)(l:cD c.g p.F d h){n:W}{Q:df->ge->Prop}{E:aT}(K:∀g,Sx c p L.pg g (aE L x (.own h))->Q () g.s):he (M' c) c.A (UF c.env (c.g.nm x) (.ref p.h.objs.size)) Q E {p.s with heap:=p.h.push (eE d n)}:=have i:=gX p.h Z;Ib j r k (l:=.own h) (λ_ _=>g9 _) (jr (aU _)) (λh h=>⟨(au h).symm,_,i⟩) p.s.toks (λj k j j h=>⟨_,h,dS,d,n,(j.2 _ λq=>by obtain⟨o,d⟩:=r.pg.own.sF _ _ r.kr;exact aa (il (jr (aU _)) (q▸d))).trans i,z,l⟩) λg e d=>K g (.ofT e d)
end
section
variable{g:fA}{es l:gQ}{e:M2}{a b:W}{t:kv}{hsh:D}{y key:bv}
def iK.un(h:iK g (e::es)):(∃a t,e.key=.str (g.nm a) t)/\iK g es:=⟨h e gV,λx c=>h x (iE _ c)⟩
def iK.cons(h:∃a t,e.key=.str (g.nm a) t)(k:iK g es):iK g (e::es):=λx c=>(c?.mp c).elim (λq=>q▸h) (k x)
def lL(c:∀x y,g.nm x=g.nm y->x=y)(d:e.key=.str (g.nm a) t):fe (g.nm b) hsh key y (e::es)=br (ac a b) (⟨e.hash,e.key,y⟩::es) (e::fe (g.nm b) hsh key y es):=by rw[fe,HN c d];cases ac a b<;>rfl
def Cy(c:lm):(fe c hsh key y es).length<=es.length+1:=by induction es with|nil=>exact aU _|cons e es d=>rw[fe];split;exact iF _;exact eN d
def Nz(k:iK g es)(d:∀x y,g.nm x=g.nm y->x=y):iK g (fe (g.nm b) hsh (.str (g.nm b) t) y es):=by induction es with|nil=>exact iK.cons ⟨b,t,Z⟩ k|cons e es f=>obtain⟨⟨a,c,h⟩,k⟩:=k.un;rw[lL d h];cases ac a b with|true=>exact iK.cons ⟨a,c,h⟩ k|false=>exact iK.cons ⟨a,c,h⟩ (f k)
def NA(k:iK g es)(c:∀x y,g.nm x=g.nm y->x=y):d4 (g.nm b) (fe (g.nm b) hsh (.str (g.nm b) t) y es)=O (O y):=by induction es with|nil=>rw[show fe _ hsh _ y []=[⟨hsh,.str _ t,y⟩]from Z,gA c Z,dM (cf b)]|cons e es d=>obtain⟨⟨a,f,h⟩,k⟩:=k.un;rw[lL c h];by_cases z:ac a b=U;rw[dM z,gA c (e:=⟨e.hash,e.key,y⟩) h,dM z];have z:=d8.mpr z;rw[dw z,gA c h,dw z];exact d k
def T9(k:iK g es)(c:∀x y,g.nm x=g.nm y->x=y)(n:a≠b):d4 (g.nm a) (fe (g.nm b) hsh (.str (g.nm b) t) y es)=d4 (g.nm a) es:=by induction es with|nil=>rw[show fe _ hsh _ y []=[⟨hsh,.str _ t,y⟩]from Z,gA c Z,dw (jU n.symm)]|cons e es d=>obtain⟨⟨f,h,h⟩,k⟩:=k.un;rw[lL c h,gA c h];by_cases z:ac f b=U;rw[dM z,gA c (e:=⟨e.hash,e.key,y⟩) h,dw (jU λq=>n (il q (aK z)))];rw[dw (jU λq=>n (il q (aK z)))];rw[dw (d8.mpr z),gA c h,d k]
def ahu(o:N (eU))(n m:W):=oc o (λo=>oc o (λ_=>n=m) (n=m+1)) mf
def Kt(k:iK g es)(c:∀x y,g.nm x=g.nm y->x=y):ahu (d4 (g.nm b) es) (fe (g.nm b) hsh key y es).length es.length:=by induction es with|nil=>exact Z|cons e es d=>obtain⟨⟨a,f,h⟩,k⟩:=k.un;rw[lL c h,gA c h];cases ac a b with|true=>exact Z|false=>exact pi id (pi (λh=>ah pm h) λ_ h=>ah pm h) (d4 _ es) (d k)
def Ua{c:Type}{l:Y (W×c)}{w:c}(e:aj a l=C):(put a w l).length=l.length+1:=by induction l with|nil=>rfl|cons p l d=>by_cases h:ac p.1 a=U;exact ch (il (fE h) e) (yD _);have h:=d8.mpr h;rw[Ac h];exact ah pm (d (il (dH h) e))
def Ub{p:Pt}{q:N PA}(h:d4 (g.nm b) l=d4 (g.nm b) es):wg g p es b q->wg g p l b q:=by unfold wg;rw[h];exact id
def noRef(k:iK g es):es.any (·.refKey)=J:=by induction es with|nil=>rfl|cons e es c=> obtain⟨⟨a,d,h⟩,k⟩:=k.un;rw[sL,c k,show e.refKey=J by unfold CB;rw[h]];rfl
end
section
variable{c:Cx}{p p':Pt}{R σ':St}{a:W}{y:bv}{pa:PA}{es:gQ}{n n' g':W}{hsh:D}{t:kv}{T:Ow->Prop}{v:V}{fl:Fl}
abbrev NB(c:Cx)(a:W)(hsh:D)(t:kv)(y:bv)(es:gQ):gQ:=fe (c.g.nm a) hsh (.str (c.g.nm a) t) y es
variable(ok:c.OK)
def Cz(d:pT c.g p R.pg.par es n)(S:kF T p p')(j:∀b,b≠a->¬T (.bU b))(h:c.g.bw a)(f:p'.h.get? c.g.dG=O (fC (NB c a hsh t y es) n'))(g:(NB c a hsh t y es).length<=lim)(i:yi c.g p' a y pa):pT c.g p' (put a pa R.pg.par) (NB c a hsh t y es) n':=by have e:=ok.kf.inj;refine⟨f,?_,g,Nz d.key e,λb=>?_⟩;(have L:=Kt (hsh:=hsh) (key:=.str (c.g.nm a) t) (y:=y) (b:=a) d.key e;have A:=d.bU a;cases f:aj a R.pg.par with|none=>rw[f]at A;rw[show d4 _ es=_ from A]at L;rw[Ua f,<-d.len];exact L|some q=> rw[f]at A;obtain⟨_,w,g,_⟩:=A;rw[g]at L;rw[kJ f,<-d.len];exact L);by_cases z:b=a;rw[z,dk];exact⟨h,y,NA d.key e,i⟩;rw[bZ z];exact Ub (T9 d.key e z) (S.bU (j b z) (d.bU b))
variable(r:bC c p R)
def Ic(S:kF T p p')(b:∀w,T w->w=.dict∨w=.bU a)(f:c.g.dj)(g:p'.ow c.g.dG=O .dict)(i:pT c.g p' (put a pa R.pg.par) es n):bC c p' ⟨R.loc,⟨put a pa R.pg.par,R.pg.aG,g'⟩⟩:=by have d:∀{w},ac (HS w) 3=J->ac (HS w) 4=J->¬T w:=λh k q=>(b _ q).elim (λe=>ao (il h (e▸Z))) λe=>ao (il k (e▸Z));have sh:∀w,T w->shared w:=λw h=>(b w h).elim (λe=>e▸Z) λe=>e▸Z;refine S.rel r ⟨S.own,λ_=>?_,λb=>S.aG (pg:=R.pg) r.pg (d Z Z) b⟩ sh;obtain⟨b,e,e,_⟩:=r.pg.par f;exact⟨S.ko _ _ b (d Z Z),g,S.k' b (d Z Z) e,es,n,i⟩
def CA{s:ge}{K:WP}(X:K.In s.heap)(f:W.InstAt s.heap x (kZ d e) d (O (fC es n)))(j:sK K (.ref d) "__setattr__"=O (O (.builtin "object.__setattr__"))/\ct K d){b:lm}(m:ee K d b=O C)(o:c5 K d)(u:es.any (·.refKey)=J)(z:es.length+1<=lim){Q:df->ge->Prop}
 (q:∀n' hsh t h l,u8 e s.heap h->h.get? e=O (fC (fe b hsh (.str b t) y es) n')->Q () {s with heap:=h,toks:=l}):he (WF k w) A (mu (.ref x) b y) Q E s:=by
 have i:=f.dict;refine set_plain X f j.1 (osa_open X f j.2 m λd=>?_);obtain⟨d,d,B⟩:=any_some o;have F:=f.at_;have G:=looks_clsIn (M:=WF k w) X d;obtain⟨H,L,M,g,P⟩:=s;refine bR (cP (bR (bR (Q_ F (bR (G.at ?_))))));rw[B];refine cP (bR (cP (bR ?_)));refine bR (bR (wpAny_askSetting (cP (bR (wpAny_mkText (bR (Q_ i ?_)))))));have d:(!es.toArray.any (·.key.isStr b)&&es.toArray.any (·.refKey))=J:=by rw[show es.toArray.any (·.refKey)=J by rw[<-Array.any_toList];exact u,q_]
 show he _ _ (if aRefKeyMayBeTheName b es.toArray=U then _ else _) _ _ _;rw[aRefKeyMayBeTheName_at,d];have h:(fe b (On w.params b) (.str b (g+1)) y es).length<=lim:=ay (Cy _) z;have d:=putName_dict b (On w.params b) (.str b (g+1)) y es n
 have f:(H.update e (Obj.putName b (On w.params b) (.str b (g+1)) y)).get? e=O (fC (fe b (On w.params b) (.str b (g+1)) y es) (putN b es n)):=by rw[nT _ i (by rw[show fC es n=dictOf es n from Z,d];rfl),show fC es n=dictOf es n from Z,d];rfl
 refine wpAny_updatePart i (bR (wpAny_lookBehind f (pastItsLine_dict ?_) (cP (q _ _ _ _ _ (Heap.SameBut.update ..) f))));rw[EP];exact vF (ay h bI)
variable(x:c.g.dj)(A:c.g.bw a)
def CC(h:bd (ak R.pg.par) 900000){d:t3}(g:∀a o,p.h.get? a=O o->d.get? a=O o)(e:pT c.g p R.pg.par es n){k:W}{Q:df->ge->Prop}{E:aT}
 (q:∀n' hsh t b f,u8 c.g.dG d b->b.get? c.g.dG=O (fC (NB c a hsh t y es) n')->(NB c a hsh t y es).length<=lim->Q () {p.s with heap:=b,toks:=f}):he (M' c) c.A (mu (.ref c.g.par) (c.g.nm a) y) Q E {p.s with heap:=d,toks:=k}:=
 have z:=by rw[aB]at h;rw[e.len];exact M7 h
 CA (λa o d=>g _ _ (ok.In r a o d)) ⟨g _ _ (r.pg.par x).3,Z,Z,g _ _ e.at_⟩ (ok.kf.KN x) (ok.kf.HC a x A) (ok.kf.Cg x) (noRef e.key) z λn' hsh t b f d e=>q n' hsh t b f d e (ay (Cy _) z)
def ų{P:Prop}(h:hO c.G.ro R a pa=O (fl,σ'))(k:c.G.ro=J->bd (ak R.pg.par) 900000->.next=fl->⟨R.loc,⟨put a pa R.pg.par,R.pg.aG,qZ R a pa⟩⟩=σ'->P):P:=FO h λb h=>bW h λd h=>iu h λe f=>k b d e f
def Ie(m:c.G.ro=J)(e:bd (ak R.pg.par) 900000){b:t3}(g:∀a o,p.h.get? a=O o->b.get? a=O o){t:ii}(h:p.h.get? t=C){q:N Ow}(l:∀i,q=O i->i=.bU a/\∃o,b.get? t=O o){k:W}(f:qZ R a pa=R.pg.bD+1)
 (s:∀d n,u8 c.g.dG b d->yi c.g (p.up d n p.F (bQ t q (mW (.bU a) p.ow))) a y pa){Q:df->ge->Prop}{E:aT}(K:∀p',Sx c p R.pg p' ⟨R.loc,⟨put a pa R.pg.par,R.pg.aG,qZ R a pa⟩⟩->Q () p'.s):he (M' c) c.A (mu (.ref c.g.par) (c.g.nm a) y) Q E {p.s with heap:=b,toks:=k}:=by
 obtain⟨_,i,_,es,n,b⟩:=r.pg.par x;refine CC ok r x A e g b λn' hsh e d e j k o=>?_;have S:kF (λw=>w=.dict∨w=.bU a) p (p.up d e p.F _):=kF.bind r.pg.own g j i k h l (bx Z) (bx Z);exact K _ ⟨S.ext (λw e=>Au Z Z w (m▸e)) (jJ (Nat.lt_of_lt_of_eq (nH _) f.symm)) λe=>ch (il f e) (zN _),Ic r S (λ_=>id) x ((bp λq=>aa (il h (q▸b.at_))).trans (MM i (bx Z))) (Cz ok b S (λb b h=>h.elim (bx Z) λh=>b (HP h)) A k o (s _ _ j))⟩
def Yc{q:PA}:Hs q=J->kN (O q)=C:=PA.casesOn q (λv h=>(ah (λo=>mp o O) (Option.isSome_eq_false_iff.mp h|>vz.mp))) (λ_ h=>ao h.symm) (λ_ h=>ao h.symm) (λ_ h=>ao h.symm) λ_ h=>ao h.symm
def aaf{q:N PA}:oc q Hs J=J->kN q=C:=pi (λ_=>Z) (λ_=>Yc) q
def CD(g:Rd c.g p.F y v)(e:hO c.G.ro R a (.val v)=O (fl,σ')){Q:df->ge->Prop}{E:aT}(K:∀p',Sx c p R.pg p' σ'->.next=fl->Q () p'.s):he (M' c) c.A (mu (.ref c.g.par) (c.g.nm a) y) Q E p.s:=ų e λh i j b=>by
 rw[<-b]at K;have one:qZ R a (.val v)=R.pg.bD+1->he _ c.A _ Q E p.s:=λf=>Ie ok r x A h i (λ_ _=>id) (jr (aU _)) bX f (λ_ _ _=>g) λp' n=>K p' n j;by_cases b:Hs (.val v)=U
 ·exact one (dM b)
 have b:=d8.mpr b;by_cases d:oc (aj a R.pg.par) Hs J=U
 ·exact one ((dw b).trans (dM d))
 have d:=d8.mpr d;have f:qZ R a _=R.pg.bD:=(dw b).trans (dw d);obtain⟨_,k,_,es,n,l⟩:=r.pg.par x;refine CC ok r x A i (λ_ _=>id) l λn' hsh i m o s i u=>?_;have S:kF (λw=>w=.dict) p (p.up m o p.F p.ow):=kF.turn r.pg.own s k i;refine K _ ⟨S.ext (λw e q=>Au (k:=.dict) Z Z w (h▸e) (.inl q)) (cZ f.symm) λ_=>⟨λe=>?_,λ_ _=>id⟩,Ic r S (λ_=>.inl) x k (Cz ok l S (λe _=>bx Z) A i u g)⟩ j;by_cases z:e=a
 ·rw[z,dk,Yc b,aaf d]
 ·rw[bZ z]
def aag:Hs (vM b):=Cn.casesOn b (λ_=>Z) (λ_=>Z) (λ_=>Z) λ_=>Z
def CE(fo:o.isFreed=J)(f:∀b n d,b.get? p.h.objs.size=O o->g5 c.g (p.up b n p.F d) p.h.objs.size cn)(e:hO c.G.ro R a (vM cn)=O (fl,σ')){Q:df->ge->Prop}{E:aT}(K:∀p',Sx c p R.pg p' σ'->.next=fl->Q () p'.s):
  he (M' c) c.A (mu (.ref c.g.par) (c.g.nm a) (.ref p.h.objs.size)) Q E {p.s with heap:=p.h.push o}:=ų e λd e h i=>
 have g:=gX p.h fo
 Ie ok r x A d e (λ_ _=>g9 o) (jr (aU _)) (λd d=>⟨(au d).symm,o,g⟩) (dM aag)
  (λb n b=>HU ⟨_,Z,dS,f _ _ _ ((b.2 _ λq=>by obtain⟨_,_,_,es,m,b⟩:=r.pg.par x;exact aa (il (jr (aU _)) (q▸b.at_))).trans g)⟩) λp' n=>K p' (i▸n) h
end
section
variable{c:Cx}{p p1 p2:Pt}{B σ1 σ2 F:St}{pg:PG}{v w:V}{fl:Fl}{e ea eo:Expr}{es A:bM}{f:fc}{G H:ww}{x a:W}{xs:ae}{y:bv}{t:ii}
def mC{P:Prop}(h:bV c.g.nm (x::xs) A)(k:∀p es,A=.Name (c.g.nm x) p::es->bV c.g.nm xs es->P):P:=by induction A with|nil=>exact ao h|cons t l _=> refine ag (show(ng t (iB c.g.nm x)&&bV c.g.nm xs l)from h) λb d=>?_;obtain⟨s,p,g,b⟩:=kD b;exact k p l (g▸gZ b▸Z) d
def mF{s:ge}{Q:df->ge->Prop}(h:he (M' c) c.A (UF c.env (c.g.nm x) y) Q E s):he (M' c) c.A (assign (.Name (c.g.nm x) G) c.env y) Q E s:=by exact bR (uh (wpAny_bindName h))
def Ķ(c:Cx)(A:bM):Y (bv->e5 df):=(el A c.env).map (·.2)
def rJ{P:Prop}(h:gL c.lv (x::xs))(k:aq c.lv x->gL c.lv xs->P):P:=by by_cases q:aq c.lv x=U;exact k q (il (dM q) h);exact ao (il (dw (d8.mpr q)) h)
def FT(k:c.OK)(xs:ae):∀(x:W)(A:bM)(p:Pt)(B:St),bV c.g.nm (x::xs) A->gL c.lv (x::xs)->bC c p B->Rd c.g p.F y v->∀(Q:df->ge->Prop)(E:aT),(∀b,Sx c p B.pg b (oV v (x::xs) B)->Q () b.s)->he (M' c) c.A (assignAll y (Ķ c A)) Q E p.s:=by induction xs with|nil=> refine λx A p B g h r d Q E q=>mC g λH es i b=>rJ h λj _=>?_;rw[i,(cO.mp b)];exact mF (iT k r j d q)|cons l xs m=> refine λx A p B g h r d Q E q=>mC g λH es i b=>rJ h λj h=>?_;rw[i];refine mC b λg g g _=>?_;rw[g]at b ⊢;exact bR (ue (mF (iT k r j d λp1 g=>m l _ p1 _ b h g.rel (d.bS g.ext.le) Q E λp2 b=>q p2 (g.trans b))))
def wR(d:bV c.g.nm (x::xs) A):j! A e b=H1 C:=mC d λp es b _=>by rw[b];cases es<;>rfl
def Aw{l:W}(h:d5 e):swapsWithSole A e l b=H1 J:=by
 induction A with
 |nil=>rfl
 |cons t A=>induction A with
  |nil=>exact jd h
  |cons _ _ _=>rfl
def aah(g:c.OK)(h:SE c f ea)(b:bV c.g.nm (x::xs) A)(i:gL c.lv (x::xs))(j:d5 ea):SS c (Mr (x::xs) f) (.Assign A ea G):=λp B fl F e r=>aQ e λd σ1 d e=>λQ E q=>EF (h.val d r _ _ λp1 y d h=>FT g xs x A p1 σ1 b i d.rel h _ E λp2 g=>q.nx e ((Sx.of d).trans g)) (Aw j) (wR b)
def Uc(k:c.OK){l:sR}(h:SL c l es)(z:bd es.length 1000)(b:bV c.g.nm xs A)(d:gL c.lv xs):SS c (Hw xs l) (.Assign A (.List es H) G):=λp B fl F e r=>yj e λx i e=>aQ e λg σ1 g e=>λQ E q=>by rw[i]at b d;refine EF (rn ((h.2 p B _ _ g r H).1 _ _ λp1 i i j=>?_)) (Aw Z) (wR b);have L:=u5 (h.1 _ _ _ g) j z;refine⟨ay L bI,mC b λp2 l b g=>rJ d λd _=>?_⟩;rw[b,(cO.mp g)];exact mF (Ks k i.rel d L j λp2 b=>q.nx e ((Sx.of i).trans b))
def wU:∀{A:bM},bV c.g.nm xs A->(el A b).length=xs.length/\(el A b).findIdx? (·.1)=C:=by induction xs with|nil=>exact λ{A}h=>(cO.mp h)▸⟨Z,Z⟩|cons x xs d=> refine λ{A}h=>mC h λp es g h=>?_;obtain⟨a,i⟩:=d h;rw[g,show el _ b=_::el es b from Z];exact⟨ah pm a,by rw[List.findIdx?_cons,i];rfl⟩
def Ig{P:Prop}(h:unpack (x::xs) b B=O F)(k:∀v l,b=v::l->unpack xs l (aE B x (.val v))=O F->P):P:=mX (h) k
def FU:∀{b:af}{B:St},unpack xs b B=O F->xs.length=b.length:=by induction xs with|nil=>exact λh=>lb h λh _=>h▸Z|cons x xs d=>exact λh=>Ig h λv l b h=>b▸ah pm (d h)
def zd(m:c.OK)(xs:ae):∀(A:bM)(g:aP)(h:af)(p:Pt)(B:St),bV c.g.nm xs A->gL c.lv xs->unpack xs h B=O F->bC c p B->cD c.g p.F g h->∀(Q:df->ge->Prop)(E:aT),(∀b,Sx c p B.pg b F->Q () b.s)->he (M' c) c.A (assignInOrder (Ķ c A) g) Q E p.s:=by induction xs with|nil=> refine λA g h p B i j b r d Q E q=>lb b λk b=>?_;rw[(cO.mp i)];exact cP (q p (au b▸.of (.refl r)))|cons x xs n=> refine λA g h p B i j b r d Q E q=>mC i λH es g h=>rJ j λi j=>Ig b λv l k b=>?_;rw[k]at d;obtain⟨w,k,o,s,d⟩:=d.un;rw[g,o];exact bR (ue (mF (iT m r i s λp1 g=>n es k l p1 _ h j b g.rel (d.bS g.ext.le) Q E λp2 b=>q p2 (g.trans b))))
def wV(g:c.OK)(r:bC c p B){k:W}{b:af}(h:bV c.g.nm xs A)(l:gL c.lv xs)(i:unpack xs b B=O F)(j:Rd c.g p.F y (.tup b)){Q:df->ge->Prop}{E:aT}(q:∀d,Sx c p B.pg d F->Q () d.s):he (M' c) c.A (assign (.Tuple A k H) c.env y) Q E p.s:=by obtain⟨a,m,n,n,f,z,d⟩:=(j);obtain⟨j,o⟩:=wU h;rw[n];refine rl g.handled ⟨_,r.st _ _ f,Z,_,Z⟩ (j.trans ((FU i).trans (cD.length d).symm)) o λn o=>?_;have j:Nx c p B.pg (p.up n p.s.toks p.F p.ow) B:=Nx.grow r _ (λn r e=>o n r (nM (pH e)) e) (λ_ _=>id) λ_ _=>.inl;exact zd g xs A m b _ B h l i j.rel d Q E λp2 b=>q p2 ((Sx.of j).trans b)
def aai:B4 e->j! [.Tuple A k H] e b=H1 C:=by apply@Expr.casesOn (λe=>B4 e=U->j! [.Tuple A k H] e b=H1 C) e<;>intros<;>first|rfl|exact ao ‹_›
def aaj(d:c.OK){k:W}(h:SE c f ea)(g:bV c.g.nm xs A)(i:gL c.lv xs)(j:d5 ea)(l:B4 ea):SS c (S7 xs f) (.Assign [.Tuple A k H] ea G):=λp B fl F e r=>aQ e λb σ1 b e=>bL e λm m e=>bL e λσ2 n e=>λQ E q=>EF (h.val b r _ _ λp1 y b h=>wV (k:=k) d b.rel g i n (oj m▸h) λp2 d=>q.nx e ((Sx.of b).trans d)) (Aw j) (aai l)
def ze(c:Cx)(o:Expr):=s6 c 0/\∃H,o=.Name (c.g.nm 0) H
def pV.step(n:Nx c p pg p1 σ1)(r:bC c p B)(h:pV c p x t):pV c p1 x t:=by obtain⟨m,b,d⟩:=h;exact⟨m,b.at λ_ e=>n.ext.keep _ _ e (r.kr▸Z),d⟩
def u7(d:c.OK)(b:ze c eo)(g:aq c.lv 0)(L:pV c p 0 c.g.par){Q:aT}{E:aT}(q:Q (.ref c.g.par) p.s):he (M' c) c.A (Db eo c.env) Q E p.s:=by obtain⟨h,H,i⟩:=b;obtain⟨m,b,e⟩:=L;exact i▸qW (jW d g b e q) h
def ND{X:I}{P:Prop}(h:gd (iP c.lv B) (gd X k)=O z)(r:bC c p B)(K:c.g.dj->aq c.lv 0->pV c p 0 c.g.par->X->k=O z->P):P:=bW h λb h=>bW h λd h=>have s:=Am r b;K s.1 s.2 s.3 d h
def KS.fin(q:KS c p pg F fl Q)(n:Sx c p pg p1 F)(h:.next=fl):Q .next p1.s:=q p1 .next n (h▸Z)
def Ud(b:c.OK){l:sR}(g:ze c eo)(h:SE c f ea)(i:d5 ea):SS c (vU c.G c.lv a J J l f) (.Assign [.Attribute eo (c.g.nm a) H] ea G):=λp B fl F e r=>ND e r λj k L m(e:ax _ (λv s=>hO c.G.ro s a _)=O _)=>aQ e λd σ1 d e=>λQ E q=> Hk (h.val d r _ _ λp1 y d h=>u7 b g k (L.step d r) (CD b d.rel j (b.bw a m) h e λp2 b=>KS.fin q ((Sx.of d).trans b))) (jd i)
def NF(d:c.OK){l:sR}{b:I}{p2:ww}(n:ze c eo)(h:SL c l es)(z:bd es.length 1000):SS c (vU c.G c.lv a U b l f) (.Assign [.Attribute eo (c.g.nm a) H] (.List es p2) G):=λp B fl F e r=>ND e r λo s L u(e:ax _ (λg b=>hO c.G.ro b a (.lst g))=O _)=>aQ e λg σ1 i e=>λQ E q=>by refine Hk (rn ((h.2 p B _ _ i r p2).1 _ _ λp1 j b k=>?_)) Z;have m:=u5 (h.1 _ _ _ i) k z;have h:=Nx.push b.rel (eE j 0) p1.s.toks;exact⟨ay m bI,u7 d n s ((L.step b r).step h b.rel) (CE (cn:=.lst g) d b.rel o (d.bw a u) Z (λd n d g=>⟨j,0,g,m,k⟩) e λp2 h=>KS.fin q ((Sx.of b).trans h))⟩
def NG(b:c.OK){l:sR}{p2:ww}(d:ze c eo):SS c (vU c.G c.lv a J U l f) (.Assign [.Attribute eo (c.g.nm a) H] (.Dict [] [] p2) G):=λp B fl F e r=>ND e r λg h L i(e)=>λQ E q=> Hk (wpAny_Dict_empty (u7 b d h (L.step (Nx.push r _ p.s.toks) r) (CE (cn:=.kU []) b r g (b.bw a i) Z (λb n b g=>⟨[],Aa (Heap.DictOf.new p.h) (λo e=>(au (il (gX p.h Z) e))▸g),eG _,Z,Z⟩) e λp2 b=>KS.fin q b))) Z
end
section
variable{c:Cx}{p p1 p2:Pt}{σ σ1 σ2 T:St}{v w:V}{fl:Fl}{e ea eo ei:Expr}{f i:fc}{pos ps:ww}{x a:W}{po:N Pl}{t:ii}{R:np}{es:b9}{b:gz}
def č{d:Type}{l:LV}{f:V->N d}{g:af->N d}{r:d}{P:Prop}:J6 l f g=O r->(∀v,l=.val v->f v=O r->P)->(∀d,l=.own d->g d=O r->P)->P:=LV.casesOn l (λv h k _=>k v Z h) λd h _ k=>k d Z h
def ahv{d:Type}{b:I}{x:N d}{r:d}(h:b)(k:x=O r):gd b x=O r:=h▸k
variable(ok:c.OK)(hp:Ss c po eo)(hi:SE c i ei)
def Ue(d:SE c f ea)(l:d5 ea):SS c (Hx c.G c.lv po i f) (.Assign [.Subscript eo ei ps] ea pos):=λp σ fl T e r=>bL e λg h e=>aQ e λj σ1 j e=>bL e λk k e=>aQ e λm σ2 m e=>bW e λo e=>bL e λn s e=>bL e λn u e=>bL e λn y e=>λQ E q=>wpAny_Assign_Subscript (d.val j r _ _ λp1 y1 d r=>by obtain⟨t,P⟩:=my ok d.rel (hp g h) k;exact P.ev _ _ λk=>hi.val m (d.rel.toks k) _ _ λp2 y2 j m=>by have n:=(Nx.toks d.rel k).trans j;have k:=P.again ok d.rel (hp g h) n o s;exact ZP m (r.bS n.ext.le) u k.at_ _ _ λg g _ g h _=>q.nx e (.of (d.trans (n.trans (u6 j.rel k.is g h y))))) (jd l)
def NH:SS c (S8 c.G c.lv po i) (.Delete [.Subscript eo ei ps] pos):=λp σ fl T e r=>aQ e λd d g e=>bL e λd _ e=>aQ e λd σ2 h e=>bW e λk e=>bL e λd l e=>bL e λd d e=>bL e λj m e=>bL e λj o e=>λQ E q=>by obtain⟨s,t,P⟩:=s8 ok r hp g;refine wpAny_Delete (wpAny_deleteEach_cons (wpAny_delete_Subscript (P.ev _ _ λg=>hi.val h (r.toks g) _ _ λp2 y2 h u=>?_)));refine bL d λj y d=>?_;have n:=(Nx.toks r g).trans h;have j:=P.again ok r s n k y;have g:=dic_at d j.at_;obtain⟨d,d⟩:=HD l u;rw[d];exact ZQ m g _ _ λd d _ d g _=>wpAny_deleteEach_nil (q.nx e (.of (n.trans (u6 h.rel j.is d g o))))
where
 dic_at {p:Pt} {cn:Cn} {t:ii} {kvs:eu} (h:nU cn=O kvs) (N:g5 c.g p t cn):yh c.g p t kvs:=
  (Cn.casesOn (motive:=λcn=>nU cn=O kvs->g5 c.g p t cn->yh c.g p t kvs) cn bX (λl h N=>au h▸N) bX bX:nU cn=O kvs->g5 c.g p t cn->yh c.g p t kvs) h N
def Ug{l:aP}{h:af}(d:wJ c p t l n h)(o:p.h.get? k=O (eE g m))(r:cD c.g p.F g j)(s:bd (ak h+ak j) 900000):O5 c (B_ .Add (.ref t) (.ref k)) p t (.lst (h++j)) λx=>x=.ref t:=λQ E q=>by(obtain⟨d,z,j⟩:=d;have h:=Ÿ j r s;have s:isSeqSlot (O (.builtin "list.__iadd__")):=by decide+kernel);(have u:=by show(ek (.type "list") (dunderI "add")>>=λfi=>H1 (fi.isSome&&!isSeqSlot fi))=H1 J;rw[a6.lookup];rfl);refine ue (bR (wpAny_typeOf ⟨_,d,Z⟩ (bR (fN u ?_))));refine bR (wpAny_binaryOp1_none ⟨_,d,Z⟩ ⟨_,o,Z⟩ H7 (bR (fN (PySem.seqSlot_of a6.lookup s) (bR (wpAny_rule ?_)))));refine hR a6 ⟨_,d,Z⟩ PySem.F.entry_list_iadd (PySem.F.args_list_iadd_2 _ _) (AutoSeq1.list___iadd___list_list_0 t l.toArray n k g.toArray m (Cu (ay h bI)) (ay z bI) (vF (ay h bI))) ⟨d,o,?_⟩;obtain⟨k,l,l⟩:=mz (f:=λx=>x++g.toArray) d (zG _ _);exact q _ _ _ k ⟨_,_,l,ay (cZ aX) h,j.append r⟩ Z
def Ku(r:bC c p σ)(g:aq c.lv x)(L:pV c p x t){Q:df->ge->Prop}{E:aT}(K:∀d,Sx c p σ.pg d σ->Q () d.s):he (M' c) c.A (UF c.env (c.g.nm x) (.ref t)) Q E p.s:=by refine gq λP h=>?_;obtain⟨m,d,H⟩:=r.loc;obtain⟨j,j,e⟩:=L;refine h ?_;rw[Al j d]at e;refine BM (ok.loc x g) (ok.locals▸d) (λh d g=>?_) (mA ok);rw[ok.locals]at d g;have j:=d;obtain⟨o,_,_,k,_⟩:=j;have S:kF (λw=>w=.frame) p (p.up h (p.s.toks+1) p.F p.ow):=kF.turn r.pg.own g r.kr k;refine K _ ⟨S.ext (λw e q=>Au (k:=.frame) Z Z w e (.inl q)) (aU _) λ_=>⟨λ_=>Z,λ_ _=>id⟩,S.MN r (λw h e=>ao (e▸h:shared .frame=U)) d λa=>(H a).to S ?_ (bx Z)⟩;by_cases z:c.g.nm a=c.g.nm x;exact(eP z).trans (z▸e.symm);exact eH z
def aeR{h:Cn}{v:V}{P:Prop}(e:cX c.G h c.G.dD [v]=O (u,j))(l:g5 c.g p t h)(k:∀d g,h=.lst d->ja v=O g->.lst (d++g)=j->bd (ak d+ak g) 900000->P):P:=by have m:=jU λq=>ch (il ok.kf.dD ((ah c.g.nm q).trans ok.kf.dT)) (aO Z);refine(Cn.casesOn (motive:=λh=>cX c.G h c.G.dD [v]=O _->g5 c.g p t h->(∀d g,h=.lst d->ja v=O g->.lst (d++g)=j->bd (ak d+ak g) 900000->P)->P) h (λd e _ k=>?_) bX bX λ_ _=>pp) e l k;refine jg e (λh _=>ao (il m h)) λ_ e=>jg e (λ_ e=>?_) λh _=>ao (il h (cf _));exact bL e λg h e=>bW e λj e=>iu e λ_ q=>k d g Z h q j
def aak(y:s6 c x)(u:SE c f ea):SS c (S9 c.G c.lv x R f) (.AugAssign (.Name (c.g.nm x) ps) R ea pos):=λp σ fl T e r=>bW e λg e=>bL e λl z e=>by refine gq λd d=>č e (λv h e=>aQ e λw σ1 j e=>bL e λm k e=>d (λQ E q=>?_)) λA h e=>bW e λB e=>aQ e λw σ1 j e=>bW e λF e=>bL e λcn k e=>aQ e λm m G e=>bL e λσ2 K e=>d (λQ E q=>?_);obtain⟨E,m,H⟩:=r.loc;have H:=H x;rw[z,h]at H;obtain⟨y0,n,s⟩:=H;exact oa (jW ok g m n (u.val j r _ _ λp1 y1 d o=>XW d.rel (s.bS d.ext.le) o k _ _ λp2 s s H=>iT ok s.rel g H λH n3=>q.nx e ((Sx.of (d.trans s)).trans n3)));obtain⟨t,P⟩:=my (pl:=.loc x) (cn:=.lst A) ok r ⟨y,ps,Z⟩ (ahv g (z▸h▸Z));have L:=P.is;obtain⟨E,m,n⟩:=L;refine oa (jW ok g m n (u.val j r _ _ λp1 y1 d o=>?_));have h:=P.again ok r ⟨y,ps,Z⟩ d F k;refine aeR ok G h.at_ λj j j k m n=>?_;rw[j]at h;obtain⟨j,j,g1,j,r⟩:=h.at_;obtain⟨b,u,s,s,u,y,y⟩:=Kn k o;rw[s,add_of B];refine Ug ⟨g1,j,r⟩ (d.rel.st _ _ u) y n _ _ λj k j j k n=>?_;have n3:=u6 d.rel h.is j (m▸k) K;rw[n];exact Ku ok n3.rel g (pV.step n3 d.rel h.is) λg g=>q.nx e ((Sx.of (d.trans n3)).trans g)
where
 add_of {R:np} (h:isAdd R):R=.Add:=(wP (motive:=λR=>isAdd R=U->R=.Add) R (λ_=>Z) ao ao ao ao ao ao ao ao ao ao ao ao:isAdd R->R=.Add) h
def Uh(j:ze c eo)(k:SE c f ea):SS c (BZ c.G c.lv a R f) (.AugAssign (.Attribute eo (c.g.nm a) ps) R ea pos):=λp σ fl T e r=>bW e λl e=>bL e λv0 d e=>bL d λg g d=>aQ e λw σ1 m e=>bL e λu n e=>λQ E q=>by obtain⟨h,o,L⟩:=Am r l;rw[wG d]at g;obtain⟨y0,l,G⟩:=Ak ok r h g;(have s:c.g.bw a:=by obtain⟨_,_,_,es,d,d⟩:=r.pg.par h;have A:=d.bU a;rw[g]at A;exact A.1);have g:=Nx.toks r (p.s.toks+1);refine wpAny_AugAssign_AttributeAny (u7 ok j o L (G _ _ (k.val m g.rel _ _ λp1 y1 d j=>?_)));exact XW d.rel (Rd.bS d.ext.le (l)) j n _ _ λp2 z j k=>CD ok j.rel h s k e λh n3=>KS.fin q ((Sx.of (g.trans (d.trans j))).trans n3)
end
open Classical in
def ck(b:Y ii)(p:Pt):Pt:={p with ow:=λa=>if a∈b then O .ck else p.ow a}
open Classical in
def un(b:Y ii)(p:Pt):Pt:={p with ow:=λa=>if a∈b then C else p.ow a}
section
variable{c:Cx}{p p1 p2:Pt}{σ σ1 σ2 σ':St}{pg pg1 pg2:PG}{pk wr fp:Y ii}{a:ii}{k:Ow}{T:N Ow->I}{h0 h':t3}{n:W}
def Yd(h:a∈pk):(ck pk p).ow a=O .ck:=eP h
def Ih(h:a∉pk):(ck pk p).ow a=p.ow a:=eH h
def wW(h:a∈pk):(un pk p).ow a=C:=eP h
def nv(h:a∉pk):(un pk p).ow a=p.ow a:=eH h
def rK(h:(un pk p).ow a=O k):a∉pk/\p.ow a=O k:=by by_cases q:a∈pk;exact aa (il (wW q) h);exact⟨q,il (nv q) h⟩
def bC.mv(r:bC c p σ)(o:Own (p.up h' n p.F b))(k:∀a w,p.ow a=O w->w≠.ck->b a=O w/\∀o,p.h.get? a=O o->h'.get? a=O o):bC c (p.up h' n p.F b) σ:=by obtain⟨m,b,H⟩:=r.loc;have f:=k _ _ r.kr (bx Z);refine⟨r.pg.to o (λa w o h s=>(k a w h (rH s).2).2 o) (λa w h s=>(k a w h (rH s).2).1) λ_ _=>id,f.1,⟨m,b.at f.2,λa=>?_⟩,r.base⟩;exact pi id (λl=>LV.casesOn l (λ_=>id) λb h=>by obtain⟨t,e,o,h⟩:=h;exact have z:=k _ _ o (bx Z);⟨t,e,z.1,h.to z.2 λ_ _=>id⟩) (aj a σ.loc) (H a)
def Ui(r:bC c p σ)(b:∀a∈pk,p.ow a=C/\(∀o,¬p.F a o)/\∃o,p.h.get? a=O o):bC c (ck pk p) σ:=by(have d:∀{a k},(ck pk p).ow a=O k->(a∈pk/\k=.ck)∨p.ow a=O k:=λ{a k}h=>by by_cases q:a∈pk;exact .inl ⟨q,oq (il (Yd q) h)⟩;exact .inr (il (Ih q) h));exact r.mv ⟨λa o f=>⟨(r.pg.own.fz a o f).1,(Ih λq=>(b a q).2 o f).trans (r.pg.own.fz a o f).2⟩,λa k h=>(d h).elim (λq=>(b a q.1).3) (r.pg.own.sF a k),λa e k h h' n=>(d h).elim (λq=>ch q.2 n) λq=>(d h').elim (λd=>ch d.2 n) λd=>r.pg.own.inj a e k q d n⟩ λa w h _=>⟨(Ih λq=>aa ((b a q).1.symm.trans h)).trans h,λ_=>id⟩
def aal(kf:T (O .ck))(b:∀a∈pk,p1.ow a=O .ck)(x:Ext T p1 pg1 p2 pg2):Ext T (un pk p1) pg1 (un pk p2) pg2 where
 le:=x.le
 sh:=x.sh
 keep:=λa o e h=>x.keep a o e (by
  by_cases q:a∈pk
  ·exact(b a q).symm▸kf
  ·exact nv q▸h)
 ex:=x.ex
 to:=λa o e=>by
  by_cases q:a∈pk
  ·exact .inr (wW q)
  ·exact(x.to a o e).imp (λh=>(nv q).trans (h.trans (nv q).symm)) λh=>(nv q).trans h
 ck:=λa=>by
  by_cases q:a∈pk
  ·rw[wW q,wW q]
  ·rw[nv q,nv q];exact x.ck a
 kr:=λa=>by
  by_cases q:a∈pk
  ·rw[wW q,wW q]
  ·rw[nv q,nv q];exact x.kr a
 bD:=x.bD
 calm:=λe=>⟨(x.calm e).1,λa t h=>have z:=rK h;(nv z.1).trans ((x.calm e).2 a t z.2)⟩
structure oy(c:Cx)(T:N Ow->I)(pk:Y ii)(p:Pt)(pg:PG)(p1:Pt)(σ1:St):Prop where
 rel:bC c p1 σ1
 ext:Ext T p pg (un pk p1) σ1.pg
 ck:∀a∈pk,p1.ow a=O .ck
abbrev BE(c:Cx)(pk:Y ii)(p:Pt)(pg:PG)(p1:Pt)(σ1:St):Prop:=oy c (k6 c.G.ro) pk p pg p1 σ1
def oy.start(r:bC c p σ)(g:∀a o,p.h.get? a=O o->h0.get? a=O o)(b:∀a∈pk,p.h.get? a=C)(d:∀a∈pk,∃o,h0.get? a=O o):oy c T pk p σ.pg (Ev.ck pk (p.up h0 n p.F p.ow)) σ:=by have f:bC c (p.up h0 n p.F p.ow) σ:=r.grow g (λ_ _=>id) λ_ _=>.inl;(have e:∀a,(un pk (Ev.ck pk (p.up h0 n p.F p.ow))).ow a=p.ow a:=λa=>by by_cases q:a∈pk;exact(wW q).trans (r.pg.own.free (b a q)).symm;exact(nv q).trans (Ih q));exact⟨Ui f λa q=>⟨r.pg.own.free (b a q),λo f=>r.pg.own.ū (b a q) f,d a q⟩,⟨λ_ _=>id,Z,λa o h _=>g a o h,λa o h=>⟨o,g a o h⟩,λa o _=>.inl (e a),λa=>by rw[e],λa=>by rw[e],aU _,λ_=>⟨λ_=>Z,λa t h=>(e t).trans h⟩⟩,λa q=>Yd q⟩
variable(x:oy c T pk p pg p1 σ1)(hw:∀a∈wr,a∈pk)(fr:∀a∈pk,p.h.get? a=C)
def oy.ov(b:∀a o,a∉wr->p1.h.get? a=O o->h'.get? a=O o):Ext T p pg (p1.up h' n p1.F (un pk p1).ow) σ1.pg/\bC c (p1.up h' n p1.F (un pk p1).ow) σ1:=by have d:∀{a w},p1.ow a=O w->w≠.ck->a∉pk:=λh n q=>n (au (il h (x.ck _ q)));have g:∀{a o},p.h.get? a=O o->a∉wr:=λh q=>aa (il (fr _ (hw _ q)) h);have nF:∀{a o},p1.F a o->a∉pk:=λf q=>aa ((x.rel.pg.own.fz _ _ f).2.symm.trans (x.ck _ q));refine⟨⟨x.ext.le,ah (λs:ge=>{s with heap:=h',toks:=n}) x.ext.sh,λa o e k=>b a o (g e) (x.ext.keep a o e k),λa o e=>by obtain⟨i,h⟩:=x.ext.ex a o e;exact⟨i,b a i (g e) h⟩,x.ext.to,x.ext.ck,x.ext.kr,x.ext.bD,x.ext.calm⟩,x.rel.mv ⟨λa o f=>⟨b a o (λq=>nF f (hw a q)) (x.rel.pg.own.fz a o f).1,(nv (nF f)).trans (x.rel.pg.own.fz a o f).2⟩,λa k h=>by obtain⟨o,e⟩:=x.rel.pg.own.sF a k (rK h).2;exact⟨o,b a o (λq=>(rK h).1 (hw a q)) e⟩,λa e k h h'=>x.rel.pg.own.inj a e k (rK h).2 (rK h').2⟩ λa w h n=>⟨(nv (d h n)).trans h,λo=>b a o λq=>d h n (hw a q)⟩⟩
def oy.over(x:BE c pk p pg p1 σ1)(hw:∀a∈wr,a∈pk)(fr:∀a∈pk,p.h.get? a=C)(b:∀a o,a∉wr->p1.h.get? a=O o->h'.get? a=O o):Sx c p pg (p1.up h' n p1.F (un pk p1).ow) σ1:=have z:=x.ov hw fr b;⟨z.1,z.2⟩
def oy.done(x:BE c pk p pg p1 σ1)(fr:∀a∈pk,p.h.get? a=C):Sx c p pg (un pk p1) σ1:=x.over (λ_ h=>ch h cr) fr λ_ _ _=>id
def oy.step(e:Ext T p1 σ1.pg p2 σ2.pg)(r:bC c p2 σ2)(b:T C:=by rfl)(kf:T (O .ck):=by rfl):oy c T pk p pg p2 σ2:=⟨r,x.ext.trans b (aal kf x.ck e),λa q=>(e.ck a).mp (x.ck a q)⟩
def oy.iter(b:∀a o,a∉wr->p1.h.get? a=O o->h'.get? a=O o)(f:∀a∈pk,∃o,h'.get? a=O o):oy c T pk p pg (p1.up h' n p1.F p1.ow) σ1:=by(have d:=λa o e=>by by_cases q:a∈wr;exact f a (hw a q);exact⟨o,b a o q e⟩);have S:kF (λw=>w=.ck) p1 (p1.up h' n p1.F p1.ow):=⟨⟨λa o f=>⟨b a o (λq=>aa ((x.rel.pg.own.fz a o f).2.symm.trans (x.ck a (hw a q)))) (x.rel.pg.own.fz a o f).1,(x.rel.pg.own.fz a o f).2⟩,λa k h=>by obtain⟨o,f⟩:=x.rel.pg.own.sF a k h;exact d a o f,x.rel.pg.own.inj⟩,λ_ _=>id,Z,λa o e t=>b a o (λq=>t .ck (x.ck a (hw a q)) Z) e,λ_ _ h _=>h,d,λ_ _ _=>.inl Z,λ_=>.rfl,λ_=>.rfl⟩;obtain⟨m,f,H⟩:=x.rel.loc;have g:∀{a o},p.h.get? a=O o->a∉wr:=λh q=>aa (il (fr _ (hw _ q)) h);refine⟨S.MN x.rel (λw s e=>(rH s).2 e) (f.at λ_=>S.k' x.rel.kr (bx Z)) λa=>(H a).to S Z (bx Z),⟨x.ext.le,ah (λs:ge=>{s with heap:=h',toks:=n}) x.ext.sh,λa o e k=>b a o (g e) (x.ext.keep a o e k),λa o e=>by obtain⟨b,h⟩:=x.ext.ex a o e;exact d a b h,x.ext.to,x.ext.ck,x.ext.kr,x.ext.bD,x.ext.calm⟩,x.ck⟩
def rL(c:Cx)(T:N Ow->I)(b:gz)(f:b9):=∀p σ d σ',b σ=O (d,σ')->bC c p σ->∀(Q:yk)(E:aT),(∀b e,Ext T p σ.pg b σ'.pg->bC c b σ'->Nh c.g b.F e d->Q e b.s)->he (M' c) c.A (e0 f c.env) Q E p.s
def oy.kept{b:N Ow->I}(x:oy c b pk p pg p1 σ1)(kf:T (O .ck))(e:T C)(d:∀a∈fp,a∈pk∨(∃o,p.h.get? a=O o)/\T (p.ow a)):∀a∈fp,T (p1.ow a):=λa b=>by by_cases q:a∈pk;exact(x.ck a q).symm▸kf;refine(d a b).elim (λz=>ch z q) λz=>?_;obtain⟨⟨o,b⟩,h⟩:=z;exact(x.ext.to a o b).elim (λz=>(il (nv q) z).symm▸h) λz=>(il (nv q) z).symm▸e
def Ii{s:St}{k:gz}{P:Prop}(h:turn f s k=O (d,σ'))(r:Nh g F b f)(e:b=.next->k s=O (d,σ')->P)(i:b=.brk->s=σ'->.next=d->P)(j:∀v w,b=.ret w->Rd g F w v->s=σ'->.ret v=d->P):P:=
 (Fl.casesOn (motive:=λf=>turn f s k=O _->Nh g F b f->P) f (λh r=>e r h) (λh r=>iu h λa b=>i r b a) λv h r=>by obtain⟨w,r,d⟩:=r;exact iu h λa b=>j v w r d b a) h r
structure Kp(c:Cx)(T:N Ow->I):Prop where
 ck:T (O .ck)=U
 none:T C=U
 le:∀k,k6 c.G.ro k->T k=U
 tr:∀k,T k->k6 U k=U
def Ye(c:Cx)(pk:Y ii)(p:Pt)(pg:PG)(b:W->t3->Prop)(n:W)(d:W->gz)(r:qY)(k:W)(s:ge):=∃i σ1 p1,s=p1.s/\k=n-i/\i<=n/\BE c pk p pg p1 σ1/\b i p1.h/\d i σ1=r
def Ye.next{b:W->t3->Prop}{i:W}{d:W->gz}{s:ge}(e:i<m)(L:BE c pk p pg p1 σ1)(f:b (i+1) p1.h)(g:d (i+1) σ1=r):∃k,k<m-i/\Ye c pk p pg b m d r k p1.s:=⟨m-_,k_ m i e,i+1,σ1,p1,Z,Z,e,L,f,g⟩
structure Su(c:Cx)(T:N Ow->I)(pk wr fp:Y ii)(p:Pt)(h0:t3)(St':W->t3->Prop):Prop where
 kk:Kp c T
 fp:∀a∈fp,a∈pk∨(∃o,p.h.get? a=O o)/\T (p.ow a)=U
 wr:∀a∈wr,a∈pk
 live:∀i h,St' i h->∀a∈pk,∃o,h.get? a=O o
 grow:∀a o,p.h.get? a=O o->h0.get? a=O o
 fresh:∀a∈pk,p.h.get? a=C
 st:St' 0 h0
section
variable{x:W}{b:gz}{Q:b9}{ps:ww}{I:ii}{items:af}{P:W->bv->Prop}{St':W->t3->Prop}{fl:Fl}{R:ep->ge->Prop}
def Su.turn(w:Su c T pk wr fp p h0 St'){e d:Pt}{g:St}{i:W}{f:N Ow->Bool}(s:∀k,T k->f k)(fr:∀h h',St' i h->(∀b∈fp,∀o,h.get? b=O o->h'.get? b=O o)->St' i h')(m:St' i p1.h)(L:BE c pk p pg p1 σ1)(l:BE c pk p pg e g)(q:Ext f p1 pg1 e pg2)(j:Ext T e g.pg d σ2.pg)(r:bC c d σ2):BE c pk p pg d σ2/\St' i d.h:=⟨l.step (j.weak w.kk.le) r,fr _ _ m λa d o e=>j.keep a o (q.keep a o e (s _ (L.kept w.kk.ck w.kk.none w.fp a d))) (l.kept w.kk.ck w.kk.none w.fp a d)⟩
def lM(m:c.OK)(g:wy c.g.prog c.g.w c.A I fp wr items.length P St')(w:Su c T pk wr fp p h0 St')(E:aq c.lv x)(F:rL c T b Q)(e:∀i v,P i v->∃y,items[i]?=O y/\Rd c.g p.F v y)(r:bC c p σ)(j:∀v,letOwnedTupleGo (.Name (c.g.nm x) ps) (.ref I) v=H1 ())
 (h:forL (λv s=>b (aE s x (.val v))) items σ=O (fl,σ'))(q:∀d f,Sx c p σ.pg d σ'->Nh c.g d.F f fl->R (.ok f) d.s):Uf (M' c) c.A (.forLoop (.Name (c.g.nm x) ps) (.ref I) Q [] c.env) R {p.s with heap:=h0,toks:=n}:=by
 let d:=Ye c pk p σ.pg St' items.length (λi=>forL (λv s=>b (aE s x (.val v))) (items.drop i)) (O (fl,σ'))
 refine codeAny_forLoop d (λk d l=>?_) items.length ⟨0,σ,Ev.ck pk _,Z,Z,eG _,.start r w.grow w.fresh (w.live 0 _ w.st),w.st,h⟩ j;obtain⟨i,σ1,p1,h,j,o,L,r,d⟩:=l;rw[h,j];refine(zI o).elim (λt=>?_) λu=>?_
 ·refine g.item i p1.s _ _ t r λv z A j B h=>?_
  obtain⟨y,l,y⟩:=e i v j;obtain⟨i,j⟩:=zK.mp l;have d:forL (λv s=>b _) _ σ1=O _:=d;rw[zL i,j]at d;refine aQ (show ax _ (λi s=>turn i s _)=O _ from d) λf3 G H i=>?_;have j:BE c pk p σ.pg (p1.up z A p1.F p1.ow) σ1:=L.iter w.wr w.fresh (λa o l=>h a o l) (w.live _ _ B);refine zF (qD m j.rel E (y.bS L.ext.le) λm y E=>F m _ f3 G H E _ _ λm f F G H=>?_);have f:=w.turn w.kk.tr (g.frame _) B j (j.step (σ2:=aE σ1 x _) (y.weak s9) E) y F G;exact Ii i H (λe i=>by rw[e];exact Ye.next (s:=m.s) t f.1 f.2 i) (λe a b=>by rw[e];exact q (un pk m) _ (a▸f.1.done w.fresh) (b▸Z)) λv i e j a b=>by rw[e];exact q (un pk m) _ (a▸f.1.done w.fresh) (b▸⟨i,Z,j⟩)
 ·have d:forL (λv s=>b _) _ σ1=O _:=d
  rw[u,zW]at d;exact g.done p1.s _ _ (u▸r) λz A h=>vD (iu (d) λa b=>q _ _ (b▸L.over w.wr w.fresh λa o l=>h a o l) (a▸Z))
end
end
def cD.at:∀{b:aP},cD g F b a->∀(i:W)(w:bv),b[i]?=O w->∃v,a[i]?=O v/\Rd g F w v:=by induction a with|nil=>exact λr i w e=>aa (by rw[show _=[]from r]at e;exact e)|cons v a c=>intro b r i w e;obtain⟨y,l,q,r,d⟩:=r.un;rw[q]at e;induction i with|zero=>exact⟨v,Z,au e▸r⟩|succ i _=>exact c d i w e
def zf(n:W):∀(a i:W),i<n->(dF b n a)[i]?=O (.int (a+i*b:W)):=by induction n with|zero=>exact λa i h=>ch h (BK _)|succ n c=>intro a i h;induction i with|zero=>rw[hX];rfl|succ i _=> show(dF b n _)[i]?=_;rw[c _ i (IR h),C0,fJ a,hJ b]
def qE(n:W):∀a,(dF b n a).length=n:=by induction n with|zero=>exact λ_=>Z|succ n c=>exact λa=>ah pm (c _)
section
variable{c:Cx}{p:Pt}{A B:St}{x:W}{F:ww}{H:b9}{G:N Ow->I}{y:bv}{v:V}{vs:af}{t:ii}
def Kp.it:Kp c (k6 c.G.ro):=⟨Z,Z,λ_=>id,s9⟩
def Kp.ro:Kp c (k6 U):=⟨Z,Z,s9,λ_=>id⟩
def uz(c:Cx)(G:N Ow->I)(x:W)(F:ww)(H:b9)(y:bv)(p:Pt)(A:St)(a:af):=∀(b:gz)d B,rL c G b H->forL (λv s=>b (aE s x (.val v))) a A=O (d,B)->∀(R:ep->ge->Prop)(E:aT),(∀a b,Sx c p A.pg a B->Nh c.g a.F b d->R (.ok b) a.s)->he (M' c) c.A (mE y) (λa s=>Uf (M' c) c.A (.forLoop (.Name (c.g.nm x) F) a H [] c.env) R s) E p.s
def Su.one(d:Kp c G){b:Y ii}(e:∀a∈b,(∃o,p.h.get? a=O o)/\G (p.ow a)){o:xL}{St':W->t3->Prop}(f:∀i h,St' i h->∃o,h.get? p.h.objs.size=O o)(g:St' 0 (p.h.push o)):Su c G [p.h.objs.size] [p.h.objs.size] (p.h.objs.size::b) p (p.h.push o) St':=⟨d,λa b=>(c?.mp b).elim (λq=>.inl (eC.mpr q)) λq=>.inr (e a q),λ_ h=>h,λi h s a b=>(eC.mp b)▸f i h s,λ_ _=>g9 o,λa b=>(eC.mp b)▸jr (aU _),g⟩
def tb(e:p.h.get? t=O o):t≠p.h.objs.size:=λq=>aa (il (jr (aU _)) (q▸e))
def tc(e:p.h.get? t=O o)(k:G (p.ow t)):∀a∈[t],(∃o,p.h.get? a=O o)/\G (p.ow a):=λa a=>(eC.mp a)▸⟨⟨o,e⟩,k⟩
def Ax{a:aP}{i:W}{w:bv}(h:a.toArray[i]?=O w):a[i]?=O w:=il BL h
variable(L:c.OK)(kk:Kp c G)(hx:aq c.lv x)(r:bC c p A)
def CF(h:p.h.get? t=O (eE a n))(e:G (p.ow t))(d:a.length=vs.length)(f:∀(i:W)(w:bv),a[i]?=O w->∃v,vs[i]?=O v/\Rd c.g p.F w v):uz c G x F H (.ref t) p A vs:=λb b B g j R E q=>by have b:=ru (prog:=c.g.prog) (w:=c.g.w) L.handled p.h.objs.size t (tb h) a.toArray;rw[show a.toArray.size=vs.length from d]at b;exact eX ⟨_,h,Z,_,Z⟩ (lM L b (.one kk (tc h e) (λi h s=>by obtain⟨⟨o,a,_⟩,_⟩:=s;exact⟨o,a⟩) ⟨⟨_,gX _ Z,Z,Z⟩,⟨_,g9 _ h,Z,_,Z⟩⟩) hx g (λi w a=>f i w (Ax a)) r (λ_=>Z) j q)
def NI:vG v=O vs->Rd c.g p.F y v->uz c G x F H y p A vs:=by have z:∀{t o},p.F t o->p.h.get? t=O o/\G _:=λf=>have h:=r.pg.own.fz _ _ f;⟨h.1,h.2.symm▸kk.none⟩;refine@V.casesOn (λv=>vG v=O vs->Rd c.g p.F y v->uz c G x F H y p A vs) v aa bX bX bX (λl e(h)=>?_) (λl e(h)=>?_) gJ bX bX bX bX bX aa aa bX gJ aa bX;obtain⟨d,b,n,h,f,_,a⟩:=h;rw[h];rw[au e]at a;refine λg g B j e R E q=>?_;have g:=Walks.tuple (prog:=c.g.prog) (w:=c.g.w) L.handled p.h.objs.size d (tb (z f).1) b.toArray;rw[show b.toArray.size=vs.length from cD.length a]at g;exact wpAny_pyIter_tuple ⟨_,(z f).1,Z,_,Z⟩ (lM L g (.one kk (tc (z f).1 (z f).2) (λi h s=>by obtain⟨⟨o,g,_⟩,_⟩:=s;exact⟨o,g⟩) ⟨⟨_,gX _ Z,Z,Z⟩,⟨_,g9 _ (z f).1,Z,_,Z⟩⟩) hx j (λi w g=>cD.at a i w (Ax g)) r (λ_=>Z) e q);obtain⟨d,b,n,h,f,_,a⟩:=h;rw[au e]at a;exact h▸CF L kk hx r (z f).1 (z f).2 (cD.length a) (cD.at a)
def NJ(d:LO c.g p.F b a){i:W}{w:bv}(h:∃k,∃x,b[i]?=O (k,x)/\(mI c.g.prog c.g.w).is k w=U):∃v,(keysOf a)[i]?=O v/\Rd c.g p.F w v:=by obtain⟨k,x,e,f⟩:=h;obtain⟨u,g⟩:=Value.isInt_shape f;refine⟨.int k,?_,g▸Rd.i⟩;(have f:keysOf a=b.map λb=>V.int b.1:=by show a.map ((λi=>V.int i)∘_)=_;rw[<-jv,<-d.1,jv];rfl);rw[f,m_,e];rfl
def wY(d:LO c.g p.F a b):a.length=(keysOf b).length:=d.len.trans (i9 _).symm
def aam(r:bC c p A){d:Pl}{b:eu}:iQ c.G c.lv A d=O (.kU b)->wH c p A d t->∃a,p.ow t=O (.bU a):=by have f:∀{l:Y _}{P:Prop},Cn.vI l=.kU b->P:=λh=>ao (ah (λc=>ya c U (di:=λ_=>J)) h).symm;have g:∀{l:af}{P:Prop},Cn.lst l=.kU b->P:=λh=>ao (ah (λc=>ya c U (di:=λ_=>J)) h).symm;refine Pl.casesOn d (λx e _=>bW e λ_ e=>bL e λl _ e=>č e (λv _ e=>bW e λ_ e=>g (au e)) λvs _ e=>g (au e)) λa e b=>bW e λ_ e=>ma e (λq d e=>?_) λ_ e=>iH e λ_ _ e=>f e;refine(HQ (p:=p) (a:=a) e).elim (λh=>by obtain⟨_,_,_,_,h⟩:=h;exact f h.symm) λh=>⟨a,?_⟩;have b:pW c p a t _:=b;rw[d,h.2]at b;exact b
def NK(e:yh c.g p t b)(g:(t==Do)=J){d:W}(a:p.ow t=O (.bU d)):uz c (k6 U) x F H (.ref t) p A (keysOf b):=λb b B h i R E q=>by refine gq λP f=>?_;obtain⟨j,k,b,b⟩:=e;obtain⟨l,d⟩:=k.dictAt;obtain⟨o,e⟩:=r.pg.own.sF _ _ a;refine f ?_;have f:=RE (knd:=mI c.g.prog c.g.w) L.handled p.h.objs.size t (tb e) j l;rw[wY b]at f;exact v_ g d (lM L f (.one .ro (tc e (a▸Z)) (λe f s=>by obtain⟨⟨o,a,_⟩,_⟩:=s;exact⟨o,a⟩) ⟨⟨_,gX _ Z,Z,by rw[wY b];rfl⟩,d.push _⟩) hx h (λe w a=>NJ b a) r (λ_=>Z) i q)
def FV(n m:W):b_ (n:D) (m:D) 1=((m-n:W):D):=by rw[rangeSize_one];by_cases h:n<m;rw[eP (qn.mpr h),Int.ofNat_sub (jJ h)];rw[eH λq=>h (qn.mp q),i0 (p5 h)];rfl
def aan(f:∀d∈a,hZ d.1)(g:O? c.g p.F a b){i:W}{w:bv}(h:∃k,∃x,a[i]?=O (k,x)/\(No c.g.prog c.g.w).is k w=U):∃v,(b.map λp=>V.str p.1)[i]?=O v/\Rd c.g p.F w v:=by obtain⟨k,x,e,i⟩:=h;obtain⟨u,h⟩:=Value.isStrOf_shape i;refine⟨.str k.cps.toList,?_,h▸Rd.s (f _ (yG e))⟩;(have f:(b.map λp=>V.str p.1)=a.map λd=>V.str d.1.cps.toList:=by show b.map ((λl=>V.str l)∘_)=_;rw[<-jv,<-g.1,jv];rfl);rw[f,m_,e];rfl
def NL(f:Cd c.g p t a)(h:(t==Do)=J)(i:k6 c.G.ro (p.ow t)):uz c (k6 c.G.ro) x F H (.ref t) p A (a.map λp=>.str p.1):=λb b B j k R E q=>by refine gq λP l=>?_;obtain⟨d,e,b,m,b⟩:=f;have b:O? c.g p.F d a:=b;have f:d.length=(a.map λp=>V.str p.1).length:=b.len.trans (i9 _).symm;obtain⟨n,a⟩:=e.dictAt;obtain⟨o,_,_,g,_⟩:=e;refine l ?_;have e:=RE (knd:=No c.g.prog c.g.w) L.handled p.h.objs.size t (tb g) d n;rw[f]at e;exact v_ h a (lM L e (.one .it (tc g i) (λi h s=>by obtain⟨⟨o,d,_⟩,_⟩:=s;exact⟨o,d⟩) ⟨⟨_,gX _ Z,Z,by rw[f];rfl⟩,a.push _⟩) hx j (λi w a=>aan m b a) r (λ_=>Z) k q)
def wZ{n m:W}{v:kv}(d:IsRange p.h t (n:D) ((m:W):D) 1 u v w)(b:m<=lim)(a:n<=lim):uz c G x F H (.ref t) p A (dF 1 (m-n) n):=λe e B e f R E q=>by have g:=small_one (gM (aO Z) (eM n)) (FS (ju.mpr a) (aO Z)) (gM (aO Z) (eM m)) (FS (ju.mpr b) (aO Z));refine rb d g ?_;rw[FV];have a:=Walks.range (prog:=c.g.prog) (w:=c.g.w) L.handled p.h.objs.size (n) 1 (m-n);(have d:wy c.g.prog c.g.w c.A p.h.objs.size [p.h.objs.size] [p.h.objs.size] (dF 1 (m-n) n).length (λi v=>i<m-n/\∃t,v=.int (n+i*1) t) (λi h=>f' h p.h.objs.size ((n)+(i)*1) (((m-n:W))-(i)) 1):=by rw[qE];exact⟨a.sub,a.frame,λi s Q E b g k=>a.item i s Q E b g λv g j l=>k v g j ⟨b,l⟩,a.done,a.self⟩);(have a:f' (p.h.push {cls:=.type "range_iterator",data:=.fields #[mD n,mD ((m-n:W)),mD 1]}) p.h.objs.size ((n)+((0))*1) (((m-n:W))-((0))) 1:=by exact gX p.h Z);refine lM L d (.one kk (λd d=>ch d cr) (λi h s=>⟨_,s⟩) a) hx e (λi w a=>?_) r (λ_=>Z) f q;obtain⟨b,t,a⟩:=a;refine⟨_,zf _ n i b,a▸?_⟩;exact Rd.i
def QQ(c:Cx)(a:N (W×X))(d:Expr):=∀k b,a=O (k,b)->∃f F a e,d=.Call (.Name (c.g.nm f) F) [a] [] e/\s6 c f/\aq c.lv f=J/\c.G.gl f=O (.bi k)/\eK c.g.nm b a/\plainArg a=U
def B2E(c:Cx)(b:N X)(d:Expr):=∀a,b=O a->∃f F b e,d=.Call (.Name (c.g.nm f) F) b [] e/\s6 c f/\aq c.lv f=J/\c.G.gl f=O (.bi 3)/\ph c.g.nm a b=U
def Uj(b:wH c p A (.bU a) t)(e:aj a A.pg.par=C)(f:c.G.cA a=O d):k6 c.G.ro (p.ow t):=by have b:pW c p a t _:=b;rw[e]at b;obtain⟨o,e,_⟩:=L.kf.MO a d f;rw[show t=c.g.uM a from b,(r.pg.own.fz _ o (r.base _ _ e)).2];rfl
def Ay(e:s6 c f)(a:aq c.lv f=J)(b:c.G.gl f=O (.bi n))(d:c.g.HA n=.type T)(r:bC c p A){Q:aT}{E:aT}(q:Q (.type T) p.s):he (M' c) c.A (Db (.Name (c.g.nm f) F) c.env) Q E p.s:=by obtain⟨y,g,h⟩:=L.glob f _ a b;have a:=(g).trans d;exact qW (h p.s Q E (λb o h=>r.Tp b o h) (a▸q)) e
def NN(e:s6 c f)(g:aq c.lv f=J)(h:c.G.gl f=O (.bi n))(i:c.g.HA n=.type T)(d:plainArg a)(r:bC c p A){Q:aT}{E:aT}
 (q:he (M' c) c.A (Db a c.env) (λy s=>he (M' c) c.A (dn (.type T) [y]) Q E s) E p.s):he (M' c) c.A (Db (.Call (.Name (c.g.nm f) F) [a] [] b) c.env) Q E p.s:=
 yM (Ay L e g h i r (ib (uy d wO b).1 Z (e_ (jt q (λy s h=>g_ (vE ⟨⟨.machine,λa a=>cP a⟩,h⟩)) λ_ _ x=>x) (mx d))))
end
section
variable{c:Cx}{p p1:Pt}{σ σ1 σ':St}{x y:W}{ps pos:ww}{be:b9}{b bq:gz}{ite:Expr}{f:fc}{po:N Pl}{bo:N (W×X)}{b2:N X}{fl:Fl}{R:ep->ge->Prop}{n k:W}{ts:bM}{l:ae}
def lO:nW ite->∀x,v? ite a x=H1 x:=by apply@Expr.casesOn (λe=>nW e=U->∀x,v? e a x=H1 x) ite<;>intros<;>first|rfl|exact ao ‹_›
def Ij(h:LP c b be):rL c (k6 c.G.ro) b be:=λp σ fl σ' e r Q E q=>h p σ fl σ' e r Q E λa d n=>q a d n.ext n.rel
def csE{a:Type}{f:eu->N a}{g:Y (ae×V)->N a}{r:a}{P:Prop}:ya d C (di:=f) (sd:=g)=O r->(∀a,d=.kU a->f a=O r->P)->(∀a,d=.vI a->g a=O r->P)->P:=Cn.casesOn d bX (λl h k _=>k l Z h) (λl h _ k=>k l Z h) λ_=>aa
def psE{a:Type}{f:W->N a}{r:a}{P:Prop}:LI d aaG f=O r->(∀a,d=.bU a->f a=O r->P)->P:=Pl.casesOn d bX λa h k=>k a Z h
def uz.run{e:N Ow->I}{y:bv}(h:uz c e x ps be y p1 σ1 g)(n:Nx c p σ.pg p1 σ1)(i:rL c e b be)(j:forL (λv s=>b (aE s x (.val v))) g σ1=O (fl,σ')){E:aT}(q:∀a d,Sx c p σ.pg a σ'->Nh c.g a.F d fl->R (.ok d) a.s):he (M' c) c.A (mE y) (λe s=>Uf (M' c) c.A (.forLoop (.Name (c.g.nm x) ps) e be [] c.env) R s) E p1.s:=h b fl σ' i j R E λa d e=>q a d ((Sx.of n).trans e)
def aeS(h:iQ c.G c.lv σ (.bU a)=O (.vI e))(d:aj a σ.pg.par=C):c.G.cA a=O e:=bW h λ_ h=>by rw[d]at h;exact iH (h) λl d h=>d.trans (ah O (ah (λc=>ya c [] (sd:=id)) h))
def wq{P:Type}{M:o?}{m:e5 P}{a:P->ge->Prop}{E:aT}{s:ge}(H:∀(Q:P->ge->Prop)(E:aT),(∀f s,a f s->Q f s)->he M A m Q E s):he M A m a E s:=H _ _ λ_ _ h=>h
def aao(d:c.OK)(T:c.Calls)(F:Ss c po ite)(S:QQ c bo ite)(hb2:B2E c b2 ite)(c':SE c f ite)(o:aq c.lv x)(e:nW ite)(t:rL c (k6 c.G.ro) b be)(Q:rL c (k6 U) bq be):SS c (Ms x (source c.G c.lv po bo b2 f) bq b) (.For (.Name (c.g.nm x) ps) ite be [] pos):=λp σ fl σ' a r=>aQ a λa σ1 a g=>λh E q=>by refine Bv (wq λh h s=>?_) (lO e);refine ma a (λpc e a=>csE a (λE u a=>iu a λh i=>?_) λE u a=>psE a λG v a=>ma a gJ λM a=>iH a λj hcd a=>iu (ah O a) λh i=>?_) λ_ a=>ma a (λw V a=>jg a (λh3 a=>aQ a λj m z a=>bL a λL A a=>bW a λB a=>iu a λh i=>?_) λ_ a=>bW a λh5 a=>bL a λE H a=>iu a λh i=>?_) λ_ a=>ma a (λX has a=>aQ a λP m z a=>Tt a λj K K a=>bL a λn hn a=>bL a λL A a=>bW a λB a=>bW a λhl2 a=>iu a λh i=>?_) λ_ a=>aQ a λj m z a=>bL a λP K a=>iu a λh i=>?_;rw[<-h,<-i]at g;obtain⟨a,j,e⟩:=(bL e λa j e=>iH e λcn m e=>⟨a,j,(u▸e▸m)⟩:∃a,po=O a/\iQ c.G c.lv σ a=O (.kU E));obtain⟨L,P⟩:=my d r (F a j) e;obtain⟨G,ho⟩:=aam r e P.is;exact P.ev _ _ λk=>s _ _ ((NK d o (r.toks k) (P.at_.tok k) P.ns ho).run (Nx.toks r k) Q g q);rw[<-h,<-i]at g;obtain⟨a,j,m,Q⟩:=(bL e λa j e=>iH e λcn m e=>⟨a,j,(u▸e▸m),(ah v6 e).trans v⟩:∃a,po=O a/\iQ c.G c.lv σ a=O (.vI E)/\a=.bU G);have E:=aeS (Q▸m) M;rw[au (il hcd E)]at g;obtain⟨L,P⟩:=my d r (F a j) m;exact P.ev _ _ λk=>s _ _ ((NL d o (r.toks k) (P.at_.tok k) P.ns (show k6 c.G.ro (p.ow L)from Uj d r (Q▸P.is) M E)).run (Nx.toks r k) t g q);rw[<-h,<-i]at g;obtain⟨b',ps',a',pos',E,j,F,m,v,M⟩:=S w.1 w.2 V;rw[aK h3]at m;rw[E];refine NN d j F m d.kf.Zu M r (((bz d T w.2).1 a' v).val z r _ _ λp1 y a G=>?_);obtain⟨d',Q⟩:=Sr A G;rw[Q];exact call_range_1 (s _ _ ((wZ d .it o (Nx.push a.rel _ _).rel (pn ..) (kH B) (eG _)).run (a.trans (Nx.push a.rel _ _)) t g q));rw[<-h,<-i]at g;obtain⟨b',ps',a',pos',E,j,F,m,v,M⟩:=S w.1 w.2 V;rw[aK h5]at m;rw[E];refine NN d j F m d.kf.N! M r ?_;refine bL H λpc e H=>?_;obtain⟨w,L,P⟩:=s8 d r (rI v) e;obtain⟨e,j,B,e⟩:=NH.dic_at H P.at_;obtain⟨v,A⟩:=j.dictAt;refine P.ev _ _ λk=>kdl_call (kdl_dict P.ns) d.handled A (ay B bI) λv w v n u H v=>?_;have a:=Nx.grow r w u (λ_ _=>id) λ_ _=>.inl;refine s _ _ ((CF d .it o a.rel H (r.pg.own.new (aU _)▸Z) ?_ λu w H=>NJ e (v.2 u w ?_)).run a t g q);exact(zT).trans (v.1.trans (wY e));exact il (EI) H;rw[<-h,<-i]at g;obtain⟨b',ps',u,pos',E,j,F,m,v⟩:=hb2 X has;have L:=(bz d T X).2 u v;rw[E];refine yM (Ay d j F m d.kf.Zu r (qC (ks:=[]) L.pl (wN Z) L.l Ag z Z Z r λp1 j j a G j=>⟨d.kf.Zu▸HY d 3,?_⟩));obtain⟨y,l,Q,m,e⟩:=(K▸G).un;obtain⟨y2,u,v⟩:=cD.one e;obtain⟨d',e⟩:=Sr hn m;obtain⟨m,m⟩:=Sr A v;rw[j.none,Q,u,e,m];exact call_range_2 (s _ _ ((wZ d .it o (Nx.push a.rel _ _).rel (pn ..) (kH B) (kH hl2)).run (a.trans (Nx.push a.rel _ _)) t g q));rw[<-h,<-i]at g;exact c'.val z r _ _ λp1 y a G=>s _ _ ((NI d .it o a.rel K G).run a t g q)
def ĥ(b:gz)(x y:W)(i c:W):gz:=λs=>b (aE (aE s x (.val (.int i))) y (.val (.str [c])))
def Kv(F:c.OK){h r t:Y ii}{E:t3}{B:ii}{A:W->XV bv->Prop}{o:W->t3->Prop}{H:W->ii->t3->Prop}(m:WalksT c.g.prog c.g.w c.A B t r l.length A o H)(w:Su c (k6 c.G.ro) h r t p E o)(G:bV c.g.nm [x,y] ts)(X:gL c.lv [x,y])(hb:LP c b be)
 (d:∀(i:W)a,A i a->∃(u v:kv)(e:W),l[i]?=O e/\a=#[Value.int (i:D) u,.str ⟨#[e]⟩ v]/\hZ ⟨#[e]⟩)(K:bC c p σ)(g:vV (ĥ b x y) l 0 σ=O (fl,σ'))(q:∀j z,Sx c p σ.pg j σ'->Nh c.g j.F z fl->R (.ok z) j.s):
  Uf (M' c) c.A (.forLoop (.Tuple ts k ps) (.ref B) be [] c.env) R {p.s with heap:=E,toks:=n}:=by
 let j:=Ye c h p σ.pg o l.length (λi=>vV (ĥ b x y) (l.drop i) i) (O (fl,σ'))
 refine qm j (λk j o=>?_) l.length ⟨0,σ,Ev.ck h _,Z,Z,eG _,.start K w.grow w.fresh (w.live 0 _ w.st),w.st,g⟩;obtain⟨i,σ1,p1,r,t,A,L,H,j⟩:=o;have j:vV _ _ i σ1=O _:=j;rw[r,t];refine(zI A).elim (λK=>?_) λM=>?_
 ·refine m.item i p1.s _ _ K H λT a P r o t tup Q A=>wq λt t t=>?_
  obtain⟨u,v,e,B,S,hch⟩:=d i a o;obtain⟨a,o⟩:=zK.mp B;rw[zL a,o]at j;refine aQ (show ax _ (λf s=>turn f s _)=O _ from j) λf3 σ3 e2 B=>?_;refine m.go ts _ ps i T {p1.s with heap:=P,toks:=r} _ _ Q λa T V=>t _ _ ?_;have E:BE c h p σ.pg (p1.up a r p1.F p1.ow) σ1:=L.iter w.wr w.fresh (λa o t g=>V a o t (A a o t g)) (w.live _ _ T);obtain⟨oT,hT1,hT2⟩:=tup;obtain⟨n1,n2⟩:=wU G;have rs:cD c.g p1.F [.int i u,.str ⟨#[e]⟩ v] [.int i,.str [e]]:=⟨_,_,Z,(Rd.i:Rd c.g p1.F _ _),_,_,Z,(Rd.s hch:Rd c.g p1.F _ _),Z⟩
  refine rl F.handled ⟨oT,V _ _ (m.apart _ _ _ Q) hT1,hT2⟩ (by rw[n1,S];rfl) n2 λe i=>?_;rw[S];have e:=Nx.grow E.rel r (λb o g=>i b o (nM (pH g)) g) (λ_ _=>id) λ_ _=>.inl;refine zd F [x,y] ts _ _ _ σ1 G X Z e.rel rs _ _ λi g=>hb i _ f3 σ3 e2 g.rel _ _ λi z u z=>?_;have v:=(Sx.of e).trans g;have e:=w.turn (λ_=>id) (m.frame _) T E (E.step v.ext g.rel) v.ext u.ext u.rel;exact Ii B z (λd B=>by rw[d];exact Ye.next (s:=i.s) K e.1 e.2 B) (λd a b=>by rw[d];exact q (un h i) _ (a▸e.1.done w.fresh) (b▸Z)) λv z d g a b=>by rw[d];exact q (un h i) _ (a▸e.1.done w.fresh) (b▸⟨z,Z,g⟩)
 ·rw[M,zW]at j
  exact m.done p1.s _ _ (M▸H) λP r A=>vD (iu (j) λa b=>q _ _ (b▸L.over w.wr w.fresh λa o t=>A a o t) (a▸Z))
def FW(d:A.handled=C)(a:ii)(x:lm)(t:kv):Draws prog w A a [a] x.cps.size (λi v=>∃c,∃u,x.cps[i]?=O c/\v=.str ⟨#[c]⟩ u) (λi h=>h.IsStrIter a (strIterType x) x t i):=by unfold strIterType;split;exact Draws.strAscii d a x t;exact Draws.strWide d a x t
def Uk(g:c.OK)(m:c.Calls)(i:QQ c bo ite)(j:nW ite)(t:bV c.g.nm [x,y] ts)(u:gL c.lv [x,y])(v:LP c b be):SS c (q8 c.G c.lv x y bo b) (.For (.Tuple ts k ps) ite be [] pos):=λp σ fl σ' e r=>aQ e λo a s e=>bW e λw e=>aQ e λd σ1 z e=>bL e λA B e=>λQ E q=>by obtain⟨d,d,E,d,F,G,H,h,d,K⟩:=i o a s;rw[aK w]at h;refine Bv ?_ (lO j);rw[F];refine NN g G H h g.kf.N? K r (((bz g m a).1 E d).val z r _ _ λp1 h i h=>?_);obtain⟨j,s,o,m,w⟩:=HE B h;rw[o];refine call_enumerate_str λh o z r B=>wpAny_pyIter_enum o ?_;have h:=FW (prog:=c.g.prog) (w:=c.g.w) (A:=c.A.in1) g.handled p1.h.objs.size j s;have s:=WalksT.enumerateD h _ (zN _) (λh=>zN _ (eC.mp h)) gV;rw[show j.cps.size=A.length from m▸zT.symm]at s;have two:∀{a:ii}{P:Prop},a∈[p1.h.objs.size+1,p1.h.objs.size]->_->(a=p1.h.objs.size->P)->P:=λh j A=>(c?.mp h).elim j λh=>A (eC.mp h);refine Kv g s ⟨.it,λa d=>.inl d,λa d=>d,λg h s a d=>?_,B,λa d=>two d (λq=>q▸jr (iF _)) λq=>q▸jr (aU _),⟨⟨_,o⟩,z⟩⟩ t u v (λg a g=>?_) i.rel e λa e h=>q a e ((Sx.of i).trans h);obtain⟨⟨a,a⟩,e,e,_⟩:=s;exact two d (λq=>q▸⟨_,a⟩) λq=>q▸⟨_,e⟩;obtain⟨e,d,⟨h,u,a,i⟩,j⟩:=g;have d:=EI.trans a;exact⟨e,u,h,m▸d,i▸j,sZ w (n0 (fQ (eG _) (wA d))) λz r=>(eC.mp r)▸yG d⟩
def Kw(v:c.OK)(K:bV c.g.nm [x,y] ts)(M:gL c.lv [x,y])(P:rL c (k6 c.G.ro) b be)(r:bC c p σ){a:aP}{d:af}{t:ii}(h:p.h.get? t=O (eE a n))(m:k6 c.G.ro (p.ow t))(u:cD c.g p.F a d)
 (z:forL (x? b x y) d σ=O (fl,σ'))(q:∀e j,Sx c p σ.pg e σ'->Nh c.g e.F j fl->R (.ok j) e.s){E:aT}:he (M' c) c.A (mE (.ref t)) (λe s=>Uf (M' c) c.A (.forLoop (.Tuple ts k ps) e be [] c.env) R s) E p.s:=by
 have g:=ru (prog:=c.g.prog) (w:=c.g.w) v.handled p.h.objs.size t (tb h) a.toArray;rw[show a.toArray.size=d.length from u.length]at g;have w:Su c _ [p.h.objs.size] [p.h.objs.size] _ p _ _:=.one (o:={cls:=.type "list_iterator",data:=.fields #[.ref t,.int 0 0]}) (St':=λi h=>h.IsListIter p.h.objs.size t i/\h.IsList t a.toArray) .it (tc h m) (λi h s=>by obtain⟨⟨o,e,_⟩,_⟩:=s;exact⟨o,e⟩) ⟨⟨_,gX _ Z,Z,Z⟩,⟨_,g9 _ h,Z,_,Z⟩⟩
 let e:=Ye c [p.h.objs.size] p σ.pg (λi h=>h.IsListIter p.h.objs.size t i/\h.IsList t a.toArray) d.length (λi=>forL (x? b x y) (d.drop i)) (O (fl,σ'))
 refine eX ⟨_,h,Z,_,Z⟩ (qm e (λk a a=>?_) d.length ⟨0,σ,Ev.ck [p.h.objs.size] _,Z,Z,eG _,.start r w.grow w.fresh (w.live 0 _ w.st),w.st,z⟩);obtain⟨i,σ1,p1,e,h,m,L,z,d⟩:=a;have d:forL _ _ σ1=O _:=d;rw[e,h];refine(zI m).elim (λA=>?_) λB=>?_
 ·refine g.item i p1.s _ _ A z λE F G a m r=>?_
  obtain⟨e,e,H⟩:=cD.at u i E (Ax a);obtain⟨a,h⟩:=zK.mp e;rw[zL a,h]at d;refine aQ (show ax _ (λf s=>turn f s _)=O _ from d) λf3 Q e i=>bL e λus S e=>bL e λa T e=>?_;have t:BE c [p.h.objs.size] p σ.pg (p1.up F G p1.F p1.ow) σ1:=L.iter w.wr w.fresh (λa o u=>r a o u) (w.live _ _ m);have h:=oj S▸H.bS L.ext.le;have S:=h;obtain⟨H,_,_,H,_⟩:=(S);refine H▸wpAny_letOwnedTupleGo_listiter m.1 (H▸wV v t.rel K M T h λh n3=>P h _ f3 Q e n3.rel _ _ λv j e j H=>?_);have h:=w.turn (λ_=>id) (g.frame _) m t (t.step n3.ext n3.rel) n3.ext e j;exact Ii i H (λe i=>by rw[e];exact Ye.next (s:=v.s) A h.1 h.2 i) (λe a b=>by rw[e];exact q (un [p.h.objs.size] v) _ (a▸h.1.done w.fresh) (b▸Z)) λE i e j a b=>by rw[e];exact q (un [p.h.objs.size] v) _ (a▸h.1.done w.fresh) (b▸⟨i,Z,j⟩)
 ·rw[B,zW]at d
  exact g.done p1.s _ _ (B▸z) λF G r=>vD (iu (d) λa b=>q _ _ (b▸L.over w.wr w.fresh λa o u=>r a o u) (a▸Z))
def Ul(d:c.OK)(h:SE c f ite)(m:nW ite)(g:bV c.g.nm [x,y] ts)(i:gL c.lv [x,y])(j:rL c (k6 c.G.ro) b be):SS c (B3 x y f b) (.For (.Tuple ts k ps) ite be [] pos):=λp σ fl σ' e r=>aQ e λv σ1 a e=>bL e λo o e=>λQ E q=>Bv (h.val a r _ _ λp1 a a h=>by have r:=rB o▸h;obtain⟨h,h,h,h,o,_,s⟩:=(r);have z:=a.rel.pg.own.fz _ _ o;rw[h];exact Kw d g i j a.rel z.1 (z.2.symm▸Z) s e λd e g=>q d e ((Sx.of a).trans g)) (lO m)
def aap(h:SE c f e)(j:LP c b be):SS c (uE f b n) (.While e be [] pos):=λp σ fl σ' g r Q E q=>by refine wpAny_While (codeAny_whileLoop (λk e=>∃σ1 p1,e=p1.s/\Sx c p σ.pg p1 σ1/\uE f b k σ1=O _) (λk e e=>?_) n ⟨σ,p,Z,.of (.refl r),g⟩);obtain⟨σ1,p1,g,d,a⟩:=e;rw[g];induction k with|zero=>exact aa a|succ k _=> refine aQ (show ax _ (λv s=>bn (gH v) λx=>br x (ax (b s) λe s=>turn e s _) (nx s))=O _ from a) λv m e a=>h.yN e d.rel _ _ λo x h e=>y6 (λg=>?_) λg=>vD (q.nx (il (dw g) (rF h a)) (d.trans (.of e)));refine aQ (il (dM g) (rF h a)) λf3 i g a=>j o m f3 i g e.rel _ _ λg h n3 j=>?_;have h:=(d.trans (.of e)).trans n3;exact Ii a j (λd a=>by rw[d];exact⟨k,nH k,i,g,Z,h,a⟩) (λd a b=>by rw[d];exact q g _ (a▸h) (b▸Z)) λv z d e a b=>by rw[d];exact q g _ (a▸h) (b▸⟨z,Z,e⟩)
end
section
local macro_rules | `(tactic| trivial) => `(tactic| first | exact ao | exact fun _ => ao | exact fun _ _ => ao | exact fun _ _ _ => ao | exact fun _ _ _ _ => ao | exact fun _ _ _ _ _ => ao | exact fun _ _ _ _ _ _ => ao)
def uS{P:Prop}{s:a9}{a:N Expr->ww->I}{d:bM->ww->I}{e:bM->Expr->ww->I}{f:Expr->np->Expr->ww->I}{fo:Expr->Expr->b9->b9->ww->I}{g i:Expr->b9->b9->ww->I}{j:b9->Y eg->b9->b9->ww->I}{k:Expr->N Expr->ww->I}{l:Expr->ww->I}{m bk:ww->I}(h:l8 s J a d e f fo g i j k l m bk=U)
 (kre:∀v p,s=.Return v p->a v p->P:=by trivial)(kde:∀t p,s=.Delete t p->d t p->P:=by trivial)(kas:∀t v p,s=.Assign t v p->e t v p->P:=by trivial)(kau:∀t o v p,s=.AugAssign t o v p->f t o v p->P:=by trivial)(kfo:∀t n b o p,s=.For t n b o p->fo t n b o p->P:=by trivial)
 (kwh:∀c b o p,s=.While c b o p->g c b o p->P:=by trivial)(kif:∀c b o p,s=.If c b o p->i c b o p->P:=by trivial)(ktr:∀b h o q p,s=.Try b h o q p->j b h o q p->P:=by trivial)(kar:∀v r p,s=.Assert v r p->k v r p->P:=by trivial)(kex:∀v p,s=.Expr v p->l v p->P:=by trivial)(kpa:∀p,s=.Pass p->m p->P:=by trivial)(kbk:∀p,s=.Break p->bk p->P:=by trivial):P:=by
 refine@Stmt.casesOn (λb=>s=b->l8 b J a d e f fo g i j k l m bk=U->P) s ?_ ?_ ?_ ?_ ?_ ?_ ?_ ?_ ?_ ?_ ?_ ?_ ?_ ?_ ?_ ?_ ?_ ?_ ?_ ?_ ?_ ?_ ?_ ?_ ?_ ?_ ?_ ?_ Z h
 case refine_4=>exact kre
 case refine_5=>exact kde
 case refine_6=>exact kas
 case refine_8=>exact kau
 case refine_10=>exact kfo
 case refine_12=>exact kwh
 case refine_13=>exact kif
 case refine_18=>exact ktr
 case refine_20=>exact kar
 case refine_25=>exact kex
 case refine_26=>exact kpa
 case refine_27=>exact kbk
 all_goals (intros;exact ao ‹J=U›)
section
variable{s:a9}{P:Prop}
def ahw{f:N Expr->ww->I}(h:l8 s J (re:=f)=U)(k:∀v p,s=.Return v p->f v p->P):P:=uS h (kre:=k)
def ahx{f:bM->ww->I}(h:l8 s J (de:=f)=U)(k:∀t p,s=.Delete t p->f t p->P):P:=uS h (kde:=k)
def rM{f:bM->Expr->ww->I}(h:l8 s J (asg:=f)=U)(k:∀t v p,s=.Assign t v p->f t v p->P):P:=uS h (kas:=k)
def Yg{f:Expr->np->Expr->ww->I}(h:l8 s J (aug:=f)=U)(k:∀t o v p,s=.AugAssign t o v p->f t o v p->P):P:=uS h (kau:=k)
def ahy{f:Expr->Expr->b9->b9->ww->I}(h:l8 s J (fo:=f)=U)(k:∀t i b o p,s=.For t i b o p->f t i b o p->P):P:=uS h (kfo:=k)
def ahz{f:Expr->b9->b9->ww->I}(h:l8 s J (wh:=f)=U)(k:∀c b o p,s=.While c b o p->f c b o p->P):P:=uS h (kwh:=k)
def aeT{f:Expr->b9->b9->ww->I}(h:l8 s J (ifs:=f)=U)(k:∀c b o p,s=.If c b o p->f c b o p->P):P:=uS h (kif:=k)
def ahA{f:b9->Y eg->b9->b9->ww->I}(h:l8 s J (tr:=f)=U)(k:∀b h o u p,s=.Try b h o u p->f b h o u p->P):P:=uS h (ktr:=k)
def aeU{f:Expr->N Expr->ww->I}(h:l8 s J (asr:=f)=U)(k:∀v m p,s=.Assert v m p->f v m p->P):P:=uS h (kar:=k)
def Ų{f:Expr->ww->I}(h:l8 s J (ex:=f)=U)(k:∀v p,s=.Expr v p->f v p->P):P:=uS h (kex:=k)
end
def qF{P:Prop}{f:Expr->I}(h:pP a f)(k:∀t,a=[t]->f t->P):P:=by cases a with|nil=>exact ao h|cons t l=>exact ag (h) λa b=>k t (ah (t::·) (cO.mp b)) a
def NO:uk x->x=.yO (um x):=X.casesOn (motive:=λx=>uk x=U->x=.yO (um x)) x ao iw ao ao ao aV aV aV iw aV aV aV aV pf pf pf aV (λ_ _=>Z) ao iw pf Sl F1 iw Sl ao
def aaq:Hr x->x=.Sk:=X.casesOn (motive:=λx=>Hr x=U->x=.Sk) x ao iw ao ao ao aV aV aV iw aV aV aV aV pf pf pf aV aV (λ_=>Z) iw pf Sl F1 iw Sl ao
def Um:uo x=O (f,a)->x=.bF f (.cons a .nil) [] .nil:=X.casesOn (motive:=λx=>uo x=O (f,a)->x=.bF f (.cons a .nil) [] .nil) x aa gJ aa aa aa bX bX bX gJ bX bX bX bX kE kE kE bX bX aa gJ kE (λg b b b h=>lb h λb h=>bW h λc h=>iH h λd e h=>by rw[b,nil_of c,Nw e,show g=f from ah v6 h,show d=a from ah Fk h]) Tg gJ Ft aa
section
variable{c:Cx}{e:Expr}{es:b9}{n:W}
def ű(h:eK c.g.nm a e):QQ c (q5 c.G c.lv (uo a)) e:=λk m a=>aQ a λf i b a=>FO a λo a=>iH a λq d a=>bL d λw r d=>by rw[Um b]at h;obtain⟨j,es,g,p,t,h⟩:=ur (f:=λj u g _=>ng j (λs=>iB c.g.nm f s&&LK s)&&ph c.g.nm (.cons i .nil) u&&nZ c.g.nm [] g&&ph c.g.nm .nil (g.map λk:wn=>k.value)) h;refine ag h λh _=>ag h λh g=>ag h λb h=>?_;obtain⟨s,j,s,b⟩:=kD b;refine ag b λb u=>Ny h λh l v w x y=>?_;refine⟨f,j,h,p,?_,y9 u (gZ b),o,?_,(show i=m from ah Fk a)▸w,x⟩;rw[t,s,gZ b,E0 g Z,v,(cO.mp y)];rw[r,oX d,show q=k from ah v6 a]
def Un:call2 x=O (f,a)->x=.bF f a [] .nil:=X.casesOn (motive:=λx=>call2 x=O (f,a)->x=.bF f a [] .nil) x aa gJ aa aa aa bX bX bX gJ bX bX bX bX kE kE kE bX bX aa gJ kE (λg b d d h=>lb h λd h=>bW h λi h=>by rw[d,nil_of i,show g=f from ah v6 (au h),show b=a from ah Fk (au h)]) Tg gJ Ft aa
def ahB(h:eK c.g.nm a e):B2E c (B1 c.G c.lv (call2 a)) e:=λa a=>aQ a λf j b a=>FO a λk a=>bL a λd d a=>bL d λw l d=>bW a λm a=>by rw[Un b]at h;obtain⟨i,es,g,p,o,h⟩:=ur (f:=λi q g _=>ng i (λs=>iB c.g.nm f s&&LK s)&&ph c.g.nm j q&&nZ c.g.nm [] g&&ph c.g.nm .nil (g.map λg:wn=>g.value)) h;refine ag h λh _=>ag h λh g=>ag h λb h=>?_;obtain⟨s,i,j,b⟩:=kD b;refine ag b λb q=>⟨f,i,es,p,?_,y9 q (gZ b),k,?_,(au a)▸h⟩;rw[o,j,gZ b,E0 g Z];rw[l,oX d,aK m]
abbrev x!(c:Cx):Cx:={c with G:=D_ c.G}
abbrev chG(G:cQ)(gl:jM)(av func:W->af->aY->PG->dR)(sup:W->af->PG->dR)(ro:I)(comp:X->W->X->ae->ae->St->mc):cQ:={G with gl:=gl,av:=av,func:=func,sup:=sup,ro:=ro,comp:=comp}
def KF.chg{K:WP}(k:KF K g G B){gl av func sup ro comp}:KF K g (chG G gl av func sup ro comp) B:=⟨k.inj,k.bool,k.len,k.handed,k.Kc,k.Fv,k.Ti,k.Ad,k.const,k.Cf,k.Cg,k.Ci,k.KN,k.HC,k.Cj,k.Tj,k.Fw,k.N3,k.G1,k.O1,k.Zu,k.N?,k.N!,k.N_,k.N',k.dT,k.dD,k.qs,k.ew,k.lE,k.E2,k.Tn,k.E1,k.To,k.Cm,k.MO,k.KX⟩
def Cx.OK.ro(a:c.OK):(x! c).OK:=⟨a.kf.chg,a.jB,a.locals,a.kind,a.loc,a.glob,a.units,a.handled,a.bw,a.depth⟩
def Cx.Calls.ro(a:c.Calls):(x! c).Calls:=⟨a.av,a.func,a.X9,λ_ _ _ _ _ _ _ _ _ e=>aa e,λ_ _ _ _ _ _ _ _ _ _ _ e=>aa e,λ_ _ _ _ _ _ _ _ _ _ _ _ e=>aa e⟩
def bC.aeX{p:Pt}(r:bC c p a):bC (x! c) p a:=⟨r.pg,r.kr,r.loc,r.base⟩
def bC.aeY{p:Pt}(r:bC (x! c) p a):bC c p a:=⟨r.pg,r.kr,r.loc,r.base⟩
def Uo(h:LP (x! c) b es):rL c (k6 U) b es:=λp a b d e r Q E q=>h p a b d e r.aeX Q E λa b n=>q a b n.ext n.rel.aeY
def aeZ(c:Cx)(n:W)(x:S):=(∀e,XM c.g.nm x e->SS c (s4 c.lv n x c.G) e)/\∀es,lF c.g.nm x es->LP c (s4 c.lv n x c.G) es
def NP{b:I}{s:a9}(h:b->SS c f s)(k:b=J->SS c g s):SS c (br b f g) s:=by cases b with|true=>exact h Z|false=>exact k Z
def NQ(a:vL x)(h:eK c.g.nm x o):ze c o:=Ia (As a▸h)
def rN{s:a9}:SS c aaG s:=λ_ _ _ _ e=>aa e
def oz(n:W)(x:S):∀c:Cx,c.OK->c.Calls->uR c.lv x->aeZ c n x:=by
 induction x with
 |nil=>exact λc a d i=>⟨λe h=>ao h,λes h=>(cO.mp h:es=[])▸Z9⟩
 |cons x m o a'=>
  refine λc a d i=>⟨λe h=>ao h,λes h=>?_⟩;cases es with
  |nil=>exact ao h
  |cons e es=>exact ag (show(uR c.lv x&&uR c.lv m)from i) λG Q=>ag (show(XM c.g.nm x e&&lF c.g.nm m es)from h) λb f=>(T5 ((o c a d G).1 e b) ((a' c a d Q).2 es f):)
 |expr x=>exact λc a d i=>⟨λs h=>Ų (f:=λv _=>eK c.g.nm x v&&d5 v) h (λv p g h=>ag h λb f=>g▸(T6 a ((bz a d x).1 v b) f:)),λes h=>ao h⟩
 |ret x=>
  refine λc a d i=>⟨λs h=>ahw (f:=λv _=>oc v (λv=>!cq x&&eK c.g.nm x v) (cq x)) h (λv p g h=>g▸?_),λes h=>ao h⟩;show SS c (sT (cq x) _) _;cases v with
  |none=>exact(show cq x from h)▸Cw
  |some v=>exact ag (show(!cq x&&eK c.g.nm x v)from h) λb f=>(im _▸b:cq x=J)▸(aaa ((bz a d x).1 v f):)
 |brk=>exact λc a d i=>⟨λs h=>uS h (kbk:=λp g _=>g▸aab),λes h=>ao h⟩
 |T?=>exact λc a d i=>⟨λs h=>uS h (kpa:=λp g _=>g▸aac),λes h=>ao h⟩
 |set m x=>
  refine λc a d i=>⟨λs h=>rM (f:=λt v _=>bV c.g.nm m t&&eK c.g.nm x v&&!m.isEmpty&&d5 v) h (λt v p g h=>g▸ag h λh H=>ag h λh j=>ag h λb f=>NP (λq=>?_) λ_=>?_),λes h=>ao h⟩
  ·rw[NO q]at f
   obtain⟨A,B,V,f⟩:=Mw (f:=λA=>ph c.g.nm (um x) A&&bd A.length 1000) f;exact ag f λf R=>V▸(Uc a ((bz a d (um x)).2 A f).l R b i:)
  ·cases m with
   |nil=>exact ao j
   |cons E ys=>exact(aah a ((bz a d x).1 v f) b i H:)
 |setC x elt E T cs=>exact λc a d i=>⟨λs h=>d.setC x elt E T cs s i h,λes h=>ao h⟩
 |C' m x=> refine λc a d i=>⟨λs h=>rM (f:=λt v _=>pP t (Mt · (bV c.g.nm m))&&eK c.g.nm x v&&d5 v&&B4 v) h (λt v p g h=>g▸ag h λh H=>ag h λh j=>ag h λb f=>qF b λy r b=>?_),λes h=>ao h⟩;obtain⟨l,g',B,M,b⟩:=Mx b;rw[r,M];exact(aaj a ((bz a d x).1 v f) b i j H:)
 |E8 z L x=>
  refine λc a d i=>⟨λs h=>rM (f:=λt v _=>pP t (isAt · λk n _=>iB c.g.nm L n&&eK c.g.nm z k)&&eK c.g.nm x v&&d5 v) h (λt v p g h=>g▸ag h λh j=>ag h λb f=>qF b λy r b=>NP (λq=>?_) λ_=>rN),λes h=>ao h⟩;obtain⟨k,h',B,M,b⟩:=yV b;refine ag b λF K=>?_;rw[r,M,gZ F];have hE:=NQ q K;cases q1:uk x with
  |true=> rw[NO q1]at f;obtain⟨A,B,V,f⟩:=Mw (f:=λA=>ph c.g.nm (um x) A&&bd A.length 1000) f;exact ag f λf R=>V▸(NF a hE ((bz a d (um x)).2 A f).l R:)
  |false=>cases q2:Hr x with
   |true=> rw[aaq q2]at f;obtain⟨ks,A,B,V,f⟩:=aef (f:=λL u=>L.isEmpty&&u.isEmpty) f;exact ag f λH h5=>by rw[V,(cO.mp H:ks=[]),(cO.mp h5:A=[])];exact(NG a hE:)
   |false=>exact(Ud a hE ((bz a d x).1 v f) j:)
 |Zd z o x=> refine λc a d i=>⟨λs h=>rM (f:=λt v _=>pP t (Fh · λk A=>eK c.g.nm z k&&eK c.g.nm o A&&jA A)&&eK c.g.nm x v&&d5 v) h (λt v p g h=>g▸ag h λh j=>ag h λb f=>qF b λy r b=>?_),λes h=>ao h⟩;obtain⟨k,A,B,M,b⟩:=Hz b;rw[r,M];exact ag b λb _=>ag b λF K=>Ue a (rI F) ((bz a d o).1 A K) ((bz a d x).1 v f) j
 |del z o=> refine λc a d i=>⟨λs h=>ahx (f:=λt _=>pP t (Fh · λk A=>eK c.g.nm z k&&eK c.g.nm o A&&jA A)) h (λt p g h=>g▸qF h λy r b=>?_),λes h=>ao h⟩;obtain⟨k,A,B,M,b⟩:=Hz b;rw[r,M];exact ag b λb _=>ag b λF K=>NH a (rI F) ((bz a d o).1 A K)
 |aug x op E=> refine λc a d i=>⟨λs h=>Yg (f:=λy t v _=>ng y (λs=>iB c.g.nm x s&&LK s)&&ac (oN op) (oN t)&&eK c.g.nm E v) h (λy t v p g h=>g▸ag h λh j=>ag h λb f=>?_),λes h=>ao h⟩;obtain⟨s,B,r,b⟩:=kD b;exact ag b λF K=>by rw[r,gZ F,<-FR f];exact(aak a (y9 K (gZ F)) ((bz a d E).1 v j):)
 |J2 z L op E=> refine λc a d i=>⟨λs h=>Yg (f:=λy t v _=>isAt y (λk n _=>iB c.g.nm L n&&eK c.g.nm z k)&&ac (oN op) (oN t)&&eK c.g.nm E v) h (λy t v p g h=>g▸ag h λh j=>ag h λb f=>NP (λq=>?_) λ_=>rN),λes h=>ao h⟩;obtain⟨k,h',B,r,b⟩:=yV b;exact ag b λF K=>by rw[r,gZ F,<-FR f];exact(Uh a (NQ q K) ((bz a d E).1 v j):)
 |ifs x L u o a'=>exact λc a d i=>⟨λs h=>aeT (f:=λt A F _=>eK c.g.nm x t&&lF c.g.nm L A&&lF c.g.nm u F) h (λv A F p g h=>g▸ag h λh j=>ag h λb f=>ag (show(uR c.lv L&&uR c.lv u)from i) λG Q=>aad ((bz a d x).1 v b) ((o c a d G).2 A f) ((a' c a d Q).2 F j)),λes h=>ao h⟩
 |uE x u o=>exact λc a d i=>⟨λs h=>ahz (f:=λt w k _=>eK c.g.nm x t&&lF c.g.nm u w&&k.isEmpty) h (λv w k p g h=>ag h λh j=>ag h λb f=>by rw[g,(cO.mp j)];exact(aap ((bz a d x).1 v b) ((o c a d i).2 w f):)),λes h=>ao h⟩
 |x8 m T u o=>
  refine λc a d i=>⟨λs h=>ahy (f:=λy P w k _=>XK c.g.nm m y&&eK c.g.nm T P&&lF c.g.nm u w&&k.isEmpty&&nW P) h (λy P w k p g h=>ag h λh h5=>ag h λh H=>ag h λh j=>ag h λb f=>ag (show(gL c.lv m&&uR c.lv u)from i) λG Q=>?_),λes h=>ao h⟩;rw[g,(cO.mp H)];have d':=(o c a d Q).2 w j;cases m with
  |nil=>exact rN
  |cons x m=>cases m with
   |nil=> obtain⟨t,B,r,b⟩:=kD b;rw[r,gZ b];exact rJ G λG _=>aao a d (rI f) (ű f) (ahB f) ((bz a d T).1 P f) G h5 (Ij d') (Uo ((o (x! c) a.ro d.ro Q).2 w j))
   |cons E m=>cases m with
    |cons _ _=>exact rN
    |nil=>
     obtain⟨l,g',B,r,b⟩:=Mx b;rw[r];have B0:=ű f
     have X:∀z,QQ c z P->SS c (λs=>oc z (λR=>q8 c.G c.lv x E (O R) (s4 c.lv n u c.G) s) (B3 x E (ev c.G c.lv · T) (s4 c.lv n u c.G) s)) (.For (.Tuple l g' B) P w [] p):=λz ho=>by
      cases z with
      |none=>exact(Ul a ((bz a d T).1 P f) h5 b G (Ij d'):)
      |some R=>exact(Uk a d ho h5 b G d':)
     exact X _ B0
 |Ze x=>exact λc a d i=>⟨λs h=>aeU (f:=λv _ _=>eK c.g.nm x v) h (λv h' p g h=>g▸(T8 ((bz a d x).1 v h):)),λes h=>ao h⟩
 |C_ u o=>
  refine λc a d i=>⟨λs h=>ahA (f:=λw g k m _=>lF c.g.nm u w&&!g.isEmpty&&k.isEmpty&&m.isEmpty) h (λw hd k m p g h=>ag h λh H=>ag h λh j=>ag h λb f=>?_),λes h=>ao h⟩;rw[g,(cO.mp j),(cO.mp H)];cases hd with
  |nil=>exact ao f
  |cons h0 hd=>exact(aae ((o c a d i).2 w b):)
 |bad=>exact λc a d i=>⟨λe h=>rN,λes h p a a a e=>aa e⟩
end
end
def lP{M:o?}{s:ge}{e b:Type}(d:b->e->b)(l:Y e):∀(a:b)(f:e->b->e5 (C4 b)),(∀c x g,l=c++x::g->f x (c.foldl d a)=H1 (.yield (d (c.foldl d a) x)))->∀Q:b->ge->Prop,Q (l.foldl d a) s->he M A (forIn l a f) Q E s:=by induction l with|nil=>exact λa f _ Q q=>by rw[q4];exact cP q|cons x l i=> refine λa f h Q q=>?_;have b:f x a=H1 _:=h [] x l Z;rw[eL,b];exact bR (cP (i _ f (λc y g e=>h (x::c) y g (ah _ e)) Q q))
def CG{a b:Type}(l:Y a)(X:b):∀S:Y a,l.foldl (λ(t:Y a×b)x=>(t.1++[x],t.2)) (S,X)=(S++l,X):=by induction l with|nil=>exact λS=>by rw[eq];rfl|cons x l c=>exact λS=>(c _).trans (by rw[am];rfl)
def dflt(S:jc)(p:lm×bv):jc:=if(S.lookup p.1).isNone then S++[(p.1,p.2)]else S
def CH(n:lm)(a:jc):∀S:jc,(a.foldl dflt S).lookup n=(S.lookup n).or (a.lookup n):=by induction a with|nil=>exact λS=>(Option.or_none).symm|cons p a b=>refine λS=>(b _).trans ?_;rw[kB];unfold dflt;by_cases h:(S.lookup p.1).isNone=U;(rw[eP h,yE,Option.or_assoc,kB];cases n==p.1<;>rfl);rw[eH h];by_cases q:(n==p.1)=U;(rw[q];rw[<-eq_of_beq q]at h;cases z:S.lookup n with|none=>rw[z]at h;exact ch Z h|some v=>rfl);rw[d8.mpr q]
structure gm(p:l5):Prop where
 po:p.posonlyargs=[]
 ko:p.kwonlyargs=[]
 va:p.vararg=C
 ka:p.kwarg=C
def defaultsOf(o:N (XV bv)):aP:=(o.getD #[]).toList
def FX(b:sw)(s:ge)(a:aP):=∀(M:o?)(A:v2)(E:aT)(Q:N (XV bv)->ge->Prop),(∀o,defaultsOf o=a->Q o s)->he M A (seqItems? b.defaults) Q E s
def Ik(h:gm d.params){a:Y lm}(e:d.params.args.map (·.arg)=a){b:aP}{s:ge}(i:FX d s b)
 (l:b.length<=a.length)(j:args.pos.length<=a.length)
 (g:∀c k v f,args.kw=c++(k,v)::f->a.contains k/\((a.zip args.pos++c).lookup k)=C)(m:∀n∈a.take (a.length-b.length),((a.zip args.pos++args.kw).lookup n).isSome=U):
  m5 s d args (a.filterMap λn=>(((((a.zip args.pos).lookup n).or (args.kw.lookup n)).or (((a.drop (a.length-b.length)).zip b).lookup n)).map (n,·))):=λM A E Q q=>by
 obtain⟨p,r,⟨t,o,u,ko,w,x,y⟩,z,B,F,G,H,K,L,P,R,S⟩:=d;obtain⟨rfl,rfl,rfl,rfl⟩:=h;have d:b? (λx:Arg=>x.arg) []++b? (λx=>x.arg) o=a:=e;have k:=e;unfold bindArgs;dsimp only;rw[d,k];refine bR (lP (λt x=>(t.1++[x],t.2)) _ _ _ (λc x f d=>?_) _ ?_)
 ·obtain⟨k,o⟩:=g c x.1 x.2 f d
  rw[CG];exact(eP (EL.mpr (.inl k))).trans ((eH λz=>yD _ (il (Option.eq_some_of_isSome z) o)).trans rfl)
 ·rw[CG]
  refine bR (i _ _ _ _ λo g=>?_);unfold defaultsOf at g;rw[g];rw[eH (λz=>ch (aO (ag z λg _=>g)) (zV.mpr j))];rw[show n_ _ b=b by rw[i0 l];rfl]
  have g:(a.take (a.length-b.length)).filter (λn=>(i' n (a.zip args.pos++args.kw)).isNone)=[]:=by rw[List.filter_eq_nil_iff];exact λn e z=>by rw[<-k9,m n e]at z;exact ao z
  rw[g];refine bR (lP dflt _ _ _ (λc x f d=>?_) _ (bR ?_))
  ·unfold dflt
   by_cases h:(i' x.1 (c.foldl dflt (a.zip args.pos++args.kw))).isNone=U
   ·exact(eP h).trans (ah (λz=>H1 _) (eP h).symm)
   ·exact(eH h).trans (ah (λz=>H1 _) (eH h).symm)
  ·refine cP ?_
   refine cP ?_;have f:(λn=>w7 (λx=>(n,x)) (i' n (List.foldl dflt (a.zip args.pos++args.kw) ((n_ (a.length-b.length) a).zip b))))=λn=>_:=funext λn=>by rw[CH,yE]
   rw[f,show a++b? (λx:Arg=>x.arg) []=a from eq _];exact q
def lookup_none{l:jc}(h:∀p∈l,p.1≠k):l.lookup k=C:=by induction l with|nil=>rfl|cons p l a=> rw[kB,qT (Ne.symm (h p gV))];exact a λq a=>h q (iE _ a)
def lookup_mem{l:jc}(a:(l.map (·.1)).Nodup){k:lm}{v:bv}(h:(k,v)∈l):l.lookup k=O v:=by induction l with|nil=>exact ch h cr|cons p l b=>rw[fR,mT]at a;rw[kB];refine(c?.mp h).elim (λq=>?_) λh=>?_;rw[<-q,qS];rw[qT λq:k=p.1=>a.1 (q▸fm h)];exact b a.2 h
def Up{b:Y lm}:∀{a:aP}{p:lm×bv},p∈b.zip a->p.1∈b.take a.length:=by induction b with|nil=>exact λh=>ch (List.zip_nil_left▸h) cr|cons n b c=>intro a p h;induction a with|nil=>exact ch (l7▸h) cr|cons w a _=> exact(c?.mp (h)).elim (λq=>by rw[q];exact gV) λh=>iE _ (c h)
section
variable{g:fA}{F F':bl}{kws:jc}{ks b:aY}{T p1 p2:jL}{ws ds:aP}{as:af}{x y:W}{v:V}{w:bv}{k:W×V}{d:N V}
abbrev Inj(g:fA):Prop:=∀x y,g.nm x=g.nm y->x=y
def ot.un(h:ot g F kws (k::ks)):∃w l,kws=(g.nm k.1,w)::l/\Rd g F w k.2/\ot g F l ks:=by induction kws with|nil=>exact ch h.1.symm (bN _ _)|cons q l _=> have e:=fq h.1;obtain⟨w,m,z,r,a⟩:=h.2.un;have z:=fq z;exact⟨q.2,l,ah (·,q.2) e.1▸Z,(show q.2=w from z.1)▸r,e.2,z.2▸a⟩
def ot.cons(r:Rd g F w v)(h:ot g F kws ks):ot g F ((g.nm x,w)::kws) ((x,v)::ks):=⟨ah _ h.1,w,_,Z,r,h.2⟩
def ot.get(a:Inj g)(x:W):∀{kws:jc},ot g F kws ks->Kh g F (kws.lookup (g.nm x)) (aj x ks):=by induction ks with|nil=>exact λr=>(vA.mp r.1)▸Z|cons k ks c=>intro kws r;obtain⟨w,l,q,r,e⟩:=r.un;rw[q,kB];by_cases z:ac k.1 x=U;rw[show aj x _=_ from fE z,<-aK z,qS];exact⟨w,Z,r⟩;have n:g.nm x≠g.nm k.1:=λq=>z ((a _ _ q)▸cf x);rw[show aj x _=_ from dH (d8.mpr z),qT n];exact c e
def names_nodup(e:Inj g){c:Type}{l:Y (W×c)}(a:(l.map (·.1)).Nodup):(l.map λp=>g.nm p.1).Nodup:=by induction l with|nil=>exact zR|cons p l f=> rw[fR,mT]at a ⊢;refine⟨λq=>?_,f a.2⟩;obtain⟨r,c,f⟩:=eO.mp q;exact a.1 ((e _ _ f)▸fm c)
def Kx(g:fA)(F:bl)(T:jL)(ws:aP):=∃a,T.map (·.2)=a.map O/\cD g F ws a
def Kx.bS(s:F.le F')(h:Kx g F T ws):Kx g F' T ws:=by obtain⟨a,e,r⟩:=h;exact⟨a,e,r.bS s⟩
def Kx.len(h:Kx g F T ws):ws.length=T.length:=by obtain⟨a,e,r⟩:=h;exact r.length.trans (il (i9 O) (e▸i9 _))
abbrev iy(g:fA)(T:jL):Y lm:=T.map λp=>g.nm p.1
def Kx.get(f:Inj g):∀{ws:aP},Kx g F T ws->(T.map (·.1)).Nodup->(x,d)∈T->∃v w,d=O v/\((iy g T).zip ws).lookup (g.nm x)=O w/\Rd g F w v:=by induction T with|nil=>exact λ_ _ h=>ch h cr|cons p T i=>intro ws h a j;obtain⟨c,e,r⟩:=h;induction c with|nil=>exact ch e (bN _ _)|cons v c _=>obtain⟨w,l,q,r,h⟩:=r.un;have e:=fq e;rw[fR,mT]at a;rw[q,show(iy g _).zip _=_::(iy g T).zip l from Z,kB];refine(c?.mp j).elim (λz=>?_) λz=>?_;rw[show g.nm x=g.nm p.1 from ah (λp:W×N V=>g.nm p.1) z,qS];exact⟨v,w,(ah Fk z).trans e.1,Z,r⟩;have n:g.nm x≠g.nm p.1:=λq=>a.1 ((f _ _ q)▸fm z);rw[qT n];exact i ⟨c,e.2,h⟩ a.2 z
def slot(a:Y lm)(ws:aP)(kws:jc)(n:lm):eU:=((a.zip ws).lookup n).or (kws.lookup n)
def Il{n:lm}:slot (n::a) (w::ws) kws n=O w:=by unfold slot;rw[BN,kB,qS];rfl
def Im{m:lm}(h:n≠m):slot (m::a) (w::ws) kws n=slot a ws kws n:=by unfold slot;rw[BN,kB,qT h]
def rO:slot a [] kws n=kws.lookup n:=by unfold slot;rw[l7];rfl
structure BpW(g:fA)(F:bl)(T:jL)(ws:aP)(kws dl:jc)(as:af)(b:aY):Prop where
 all:∀p∈b,∃w,(slot (iy g T) ws kws (g.nm p.1)).or (dl.lookup (g.nm p.1))=O w/\Rd g F w p.2
 keys:b.map (·.1)=T.map (·.1)
 len:as.length<=T.length
 miss:∀x,(x,C)∈T->(slot (iy g T) ws kws (g.nm x)).isSome=U
def zg(m:Inj g)(u:ot g F kws ks)(i:jc)(T:jL):∀(as:af)(ws:aP)(b:aY),Ht ks T as=O b->cD g F ws as->(T.map (·.1)).Nodup->(∀x v,(x,O v)∈T->∃w,i.lookup (g.nm x)=O w/\Rd g F w v)->BpW g F T ws kws i as b:=by induction T with|nil=>exact λas ws b e r f o=>lb e λh e=>by rw[h,<-au e];exact⟨λp a=>ch a cr,Z,aU _,λx c=>ch c cr⟩|cons p T A=>refine λas ws b e r f o=>?_;rw[fR,mT]at f;have B:=λx v h=>o x v (iE _ h);have G:∀{x:W}{d:N V},(x,d)∈T->g.nm x≠g.nm p.1:=λh q=>f.1 ((m _ _ q)▸fm h);refine y! (e) (λj e=>bL e λv E e=>iH e λs t e=>?_) λv H j e=>iH e λs t e=>?_;rw[j]at r;rw[show ws=[]from r];have a:=A [] [] s t Z f.2 B;have S:∀n,slot (iy g (p::T)) [] kws n=slot (iy g T) [] kws n:=λn=>rO.trans rO.symm;have K:=u.get m p.1;(have L:∃w,(slot (iy g T) [] kws (g.nm p.1)).or (i.lookup (g.nm p.1))=O w/\Rd g F w v:=by rw[rO];refine ma E (λM h e=>?_) λh e=>?_;rw[h]at K;obtain⟨w,i,u⟩:=K;exact⟨w,by rw[i];rfl,au e▸u⟩;rw[h]at K;obtain⟨w,i,u⟩:=o p.1 v (e▸gV);exact⟨w,by rw[show kws.lookup _=C from K];exact i,u⟩);refine⟨λq o=>?_,?_,j▸eG _,λx c=>?_⟩;rw[S];rw[<-e]at o;exact(c?.mp o).elim (λz=>z▸L) (a.all q);rw[<-e];exact ah _ a.keys;rw[S];refine(c?.mp c).elim (λz=>?_) (a.miss x);rw[rO,show x=p.1 from ah v6 z];refine ma E (λM h _=>?_) λ_ e=>aa ((ah Fk z).trans e);rw[h]at K;obtain⟨w,i,_⟩:=K;exact i▸Z;rw[j]at r ⊢;obtain⟨w,l,q,r,h⟩:=r.un;rw[q];have a:=A H l s t h f.2 B;refine⟨λz h=>?_,?_,eN a.len,λx c=>?_⟩;rw[<-e]at h;refine(c?.mp h).elim (λz=>by rw[z,show iy g _=g.nm p.1::iy g T from Z,Il];exact⟨w,Z,r⟩) λh=>?_;have n:g.nm z.1≠g.nm p.1:=λq=>f.1 (a.keys▸(m _ _ q)▸fm h);rw[show iy g _=g.nm p.1::iy g T from Z,Im n];exact a.all z h;rw[<-e];exact ah _ a.keys;refine(c?.mp c).elim (λz=>?_) λc=>?_;rw[show x=p.1 from ah v6 z,show iy g _=g.nm p.1::iy g T from Z,Il];rfl;rw[show iy g _=g.nm p.1::iy g T from Z,Im (G c)];exact a.miss x c
def cV{a:Type}{l:Y (W×a)}{v:a}(e:aj x l=O v):(x,v)∈l:=by induction l with|nil=>exact aa e|cons p l c=>by_cases z:ac p.1 x=U;rw[show aj x _=_ from fE z]at e;rw[<-aK z,<-au e];exact gV;rw[show aj x _=_ from dH (d8.mpr z)]at e;exact iE _ (c e)
def Uq{a:Type}{l:Y (W×a)}(e:aj x l=C):x∉l.map (·.1):=by induction l with|nil=>exact cr|cons p l c=>by_cases z:ac p.1 x=U;exact ch (il (fE z) e) (yD _);rw[show aj x _=_ from dH (d8.mpr z)]at e;exact λh=>(c?.mp h).elim (λq=>z (q▸cf _)) (c e)
def Ur(h:kwOk T ks):(∀p∈ks,∃d,(p.1,d)∈T)/\(ks.map (·.1)).Nodup:=by
 induction ks with
 |nil=>exact⟨λp c=>ch c cr,zR⟩
 |cons p ks e=>
  have h:oc _ (λ_=>oc _ aay _) J=U:=h;cases a:aj p.1 T with
  |none=>rw[a]at h;exact ao h
  |some d=>cases c:aj p.1 ks with
   |some _=>rw[a,c]at h;exact ao h
   |none=> rw[a,c]at h;obtain⟨f,b⟩:=e h;exact⟨λq e=>(c?.mp e).elim (λz=>z▸⟨d,cV a⟩) (f q),mT.mpr ⟨Uq c,b⟩⟩
def pX{f:lm->eU}(h:∀p∈b,∃w,f (g.nm p.1)=O w/\Rd g F w p.2):ot g F ((b.map λp=>g.nm p.1).filterMap λn=>(f n).map (n,·)) b:=by induction b with|nil=>exact⟨Z,Z⟩|cons p b a=> obtain⟨w,c,e⟩:=h p gV;rw[fR,lx,c];exact ot.cons e (a λq a=>h q (iE _ a))
def keys_eq(e:b.map (·.1)=T.map (·.1)):(b.map λp=>g.nm p.1)=iy g T:=by have:=ah (b? g.nm) e;rwa [jv,jv]at this
def Io(e:Inj g)(c:ot g F kws ks)(i:kwOk (T.drop as.length) ks)(j:(T.map (·.1)).Nodup)(m:ws.length=as.length){a h:jc}{k:lm}(f:kws=a++(k,w)::h):((iy g T).zip ws).lookup k=C/\k∈iy g T/\a.lookup k=C:=by(refine gq λP l=>?_;obtain⟨n,o⟩:=Ur i;have h:(iy g T).Nodup:=names_nodup e j;have j:k∈ks.map λp=>g.nm p.1:=by rw[<-c.1,f];exact fm (db a gV));obtain⟨p,a,i⟩:=eO.mp j;obtain⟨d,j⟩:=n p a;refine l ?_;refine⟨lookup_none λq a z=>?_,i▸fm (i3 j),lookup_none λq a z=>?_⟩;have l:=Up a;(rw[z,m,<-i]at l;have i:g.nm p.1∈(iy g T).drop as.length:=by rw[<-List.map_drop];exact fm j);rw[<-BO as.length (iy g T)]at h;exact(zM.mp h).2.2 _ l _ i Z;(have h:(kws.map (·.1)).Nodup:=by rw[c.1];exact names_nodup e o);rw[f,l9]at h;exact(zM.mp h).2.2 q.1 (fm a) k gV z
def w6(h:Inj g){s:ge}{fd:sw}(f:pO T as ks=O b)(e:(T.map (·.1)).Nodup)(i:cD g F ws as)(o:ot g F kws ks)(t:gm fd.params)(u:fd.params.args.map (·.arg)=iy g T)(a:T=p1++p2)(r:∀p∈p1,p.2=C)(m:Kx g F p2 ds)(A:FX fd s ds):
  ∃c,ot g F c b/\b.map (·.1)=T.map (·.1)/\m5 s fd ⟨ws,kws⟩ c:=bW f λE f=>by
 have c:=m.len;have j:(iy g T).length=p1.length+ds.length:=by rw[i9,a,aX,c]
 have n:=by rw[a,l9]at e;exact(zM.mp e).2.1
 have sp:iy g T=iy g p1++iy g p2:=by rw[a];exact l9
 have G:(iy g T).drop ((iy g T).length-ds.length)=iy g p2:=by rw[j,Hl,sp,p_ (i9 _)]
 have H:(iy g T).take ((iy g T).length-ds.length)=iy g p1:=by rw[j,Hl,sp,p7 (i9 _)]
 have c:=zg h o _ T as ws b f i e λx v f=>by rw[a]at f;refine(gU.mp f).elim (λz=>aa (r _ z).symm) λz=>?_;obtain⟨f,w,q,f,l⟩:=m.get h n z;exact⟨w,f,au q▸l⟩
 refine⟨_,pX (f:=λn=>(slot _ ws kws n).or (((iy g p2).zip ds).lookup n)) c.all,c.keys,?_⟩;have B:=Ik (args:=⟨ws,kws⟩) t u A (j▸nN _ _) (show ws.length<=_ by rw[i9,i.length];exact c.len) (λj k v j m=>?_) λn j=>?_
 ·rw[G]at B
  rw[keys_eq c.keys];exact B
 ·obtain⟨z,f,l⟩:=Io h o E e i.length m
  exact⟨h_.mpr f,by rw[yE,z];exact l⟩
 ·rw[H]at j
  obtain⟨p,e,f⟩:=eO.mp j;have:=c.miss p.1 (by rw[a];exact h? _ ((r p e)▸e));rw[yE,<-f];exact this
def Ky(j:Inj g){s:ge}{c:sw}{a:bv}(h:pO T as ks=O b)(e:(0::T.map (·.1)).Nodup)(m:cD g F ws as)(E:ot g F kws ks)(H:gm c.params)(K:c.params.args.map (·.arg)=g.nm 0::iy g T)(i:T=p1++p2)(G:∀p∈p1,p.2=C)(n:Kx g F p2 ds)(L:FX c s ds):
  ∃f,ot g F f b/\b.map (·.1)=T.map (·.1)/\m5 s c ⟨a::ws,kws⟩ ((g.nm 0,a)::f):=bW h λM h=>by
 obtain⟨u,e⟩:=mT.mp e;have c:=n.len;have o:(g.nm 0::iy g T).length=(p1.length+1)+ds.length:=by rw[vB,i9,i,aX,c,jI]
 have t:=by rw[i,l9]at e;exact(zM.mp e).2.1
 have sp:g.nm 0::iy g T=(g.nm 0::iy g p1)++iy g p2:=by rw[i];exact ah (g.nm 0::·) l9
 have c:(g.nm 0::iy g p1).length=p1.length+1:=ah pm (i9 _);have P:(g.nm 0::iy g T).drop ((g.nm 0::iy g T).length-ds.length)=iy g p2:=by rw[o,Hl,sp,p_ c]
 have Q:(g.nm 0::iy g T).take ((g.nm 0::iy g T).length-ds.length)=g.nm 0::iy g p1:=by rw[o,Hl,sp,p7 c]
 have f:=zg j E ((iy g p2).zip ds) T as ws b h m e λx v c=>by rw[i]at c;refine(gU.mp c).elim (λz=>aa (G _ z).symm) λz=>?_;obtain⟨c,w,q,l,r⟩:=n.get j t z;exact⟨w,l,au q▸r⟩
 have t:∀{x},x∈T.map (·.1)->g.nm x≠g.nm 0:=λh q=>u (j _ _ q▸h)
 have R:∀{n},n∈iy g T->n≠g.nm 0:=λh q=>by obtain⟨p,c,u⟩:=eO.mp h;exact t (fm c) (u.trans q)
 have A:∀{n:lm},n≠g.nm 0->((g.nm 0::iy g T).zip (a::ws)).lookup n=((iy g T).zip ws).lookup n:=λh=>by rw[BN,kB,qT h]
 refine⟨_,pX (f:=λn=>((((g.nm 0::iy g T).zip (a::ws)).lookup n).or (kws.lookup n)).or (((iy g p2).zip ds).lookup n)) (λp c=>by rw[A (t (f.keys▸fm c))];exact f.all p c),f.keys,?_⟩;have B:=Ik (args:=⟨a::ws,kws⟩) H K L (o▸nN _ _) (show(a::ws).length<=_ by rw[vB,vB,i9,m.length];exact eN f.len) (λo k v o o=>?_) λn n=>?_
 ·rw[P,lx]at B
  have H:((((g.nm 0::iy g T).zip (a::ws)).lookup (g.nm 0)).or (kws.lookup (g.nm 0))).or (((iy g p2).zip ds).lookup (g.nm 0))=O a:=by rw[BN,kB,qS];rfl
  dsimp only at B;rw[H]at B;rw[keys_eq f.keys];exact B
 ·obtain⟨z,l,r⟩:=Io j E M e m.length o
  exact⟨h_.mpr (iE _ l),by rw[yE,A (R l),z];exact r⟩
 ·rw[Q]at n
  rw[yE];refine(c?.mp n).elim (λq=>by rw[q,BN,kB,qS];rfl) λh=>?_;obtain⟨p,c,u⟩:=eO.mp h;have a:(p.1,C)∈T:=by rw[i];exact h? _ ((G p c)▸c)
  rw[<-u,A (t (fm a))];exact f.miss p.1 a
def Ip(h:Inj g)(e:(b.map (·.1)).Nodup):∀{a:jc},ot g F a b->∀{m:lm->eU},(∀p∈a,m p.1=O p.2)->∀(c:W->af->Prop)(x:W),oc (aj x (b.map λp=>(p.1,LV.val p.2))) (λl=>J6 l (λv=>∃w,m (g.nm x)=O w/\Rd g F w v) (c x)) mf:=by induction b with|nil=>exact λ_ _ _ _ _=>trivial|cons p b f=>intro a r m a c x;rw[fR,mT]at e;obtain⟨w,l,q,r,h⟩:=r.un;rw[q]at a;by_cases z:ac p.1 x=U;rw[show aj x ((p::b).map λp=>(p.1,LV.val p.2))=O _ from fE z,<-aK z];exact⟨w,a _ gV,r⟩;rw[show aj x ((p::b).map λp=>(p.1,LV.val p.2))=aj x _ from dH (d8.mpr z)];exact f e.2 h (λq e=>a q (iE _ e)) c x
end
def iU(g:fA)(B:bl)(a:jM):=∀x v,a x=O v->∃y,Rd g B y v/\ ((∃a,(∀h,dq B h->h.Ns lw a)/\a (g.nm x)=O y)∨∃a b,(∀h,dq B h->h.Ns lw a)/\a (g.nm x)=C/\(∀h,dq B h->h.Ns wp b)/\b (g.nm x)=O y)
structure ij(k:W)(A:v2):Prop where
 depth:A.depth+10+k<Fa
 units:A.units+100+3*k<Rq
 handled:A.handled=C
def ij.deeper(r:ij (k+1) A)(a:w4):ij k (A.deeper a):=⟨fQ (cZ (show A.depth+1+10+k=A.depth+10+_ by rw[fJ _ 1 k,hJ 1 k])) r.depth,fQ (cZ (show A.units+3+100+3*k=A.units+100+3*_ by rw[Md,fJ _ 3,hJ 3])) r.units,r.handled⟩
structure FnAt(g:fA)(B:bl)(f:ii)(d:Def)(o:xL)(fd:sw)(body:b9):Prop where
 at_:B f o
 data:o.data=.func fd
 A0:fd.body=.stmts body
 is:lF g.nm d.body body=U
 code:∀h,dq B h->h.CodeRec fd.code fd.qualname
 co:fd.scope.isCoroutine=J
 bD:fd.scope.isGenerator=J
 kind:fd.scope.kind=.function
 globals:fd.globals=lw
 builtins:fd.builtins=wp
 cell:∀x∈fd.scope.names,x.2≠.cell
 plain:gm fd.params
 names:fd.params.args.map (·.arg)=iy g d.params
 Z1:∃p1 p2 ds,d.params=p1++p2/\(∀p∈p1,p.2=C)/\Kx g B p2 ds/\((fd.defaults=.none/\ds=[])∨∃T n,fd.defaults=.ref T/\B T (jS ds n))
 lv:∀x,aq d.lv x->fd.scope.names.lookup (g.nm x)=O .local
 gv:∀x,aq d.gv x->fd.scope.names.lookup (g.nm x)=O .globalImplicit
 loc:uR d.lv d.body=U
 par:∀p∈d.params,aq d.lv p.1=U
 nd:(d.params.map (·.1)).Nodup
section
variable{A:v2}{K:WP}{g:fA}{G:cQ}{B:bl}{d:Def}{o:xL}{fd:sw}{body:b9}{f L:ii}{k n:W}{p p1 p2:Pt}{pg pg':PG}{a:ii}{w:Ow}
abbrev Az(A:v2)(K:WP)(g:fA)(G:cQ)(B:bl)(d:Def)(fd:sw)(f L:ii):Cx:={A:=A.deeper (Tm fd L f),env:=Tm fd L f,K:=K,g:=g,G:=ye G d,B:=B,L:=L,lv:=d.lv}
def AA(x7:iU g B b){x:W}{v:V}(e:b x=O v){env:w4}(c:env.scope.kind=.function)(j:env.kindOf (g.nm x)=O .globalImplicit)(i:env.globals=lw)(l:env.builtins=wp):∃y,Rd g B y v/\∀(M:o?)(A:v2)(s:ge)(Q:aT)(E:aT),(∀a o,B a o->s.heap.get? a=O o)->Q y s->he M A (hN env (g.nm x)) Q E s:=by obtain⟨y,r,h⟩:=x7 x v e;refine⟨y,r,λM A s Q E b q=>?_⟩;unfold hN;simp only[Env.blockKind,c,j,ScopeKind.isAnnotationScope,Bool.false_and,Bool.false_eq_true,if_false];refine h.elim (λh=>?_) λh=>?_;obtain⟨j,c,e⟩:=h;exact l2 (i▸c _ b) e q;obtain⟨j,j,c,e,j,m⟩:=h;exact k8 (i▸c _ b) e (l▸j _ b) m q
def Iq(b:FnAt g B f d o fd body)(kf:KF K g G B)(e:∀a o,K.lookup a=O o->B a o)(x7:iU g B G.gl)(i:∀a,G.bw a->g.bw a)(c:ij (k+1) A)(L:ii):(Az A K g G B d fd f L).OK where
 kf:=kf.chg
 jB:=e
 locals:=Z
 kind:=b.kind
 loc:=b.lv
 glob:=λx v _ e=>bW (e) λj e=>by obtain⟨y,r,h⟩:=AA x7 e (env:=Tm fd L f) b.kind (b.gv x j) b.globals b.builtins;exact⟨y,r,h _ _⟩
 units:=fQ (fY _ _) (fQ (cZ (jI _ 100 _)) ((c.deeper _).units|>λh=>(jI _ _ _)▸h))
 handled:=c.handled
 bw:=i
 depth:=fQ (fY _ k) (c.deeper _).depth
open Classical in
def off(p:Pt):Pt:={p with ow:=λa=>if gK (p.ow a)=U then C else p.ow a}
def Yh(h:gK (p.ow a)):(off p).ow a=C:=eP h
def mZ(h:gK (p.ow a)=J):(off p).ow a=p.ow a:=eH (d8.mp h)
def Ir:pD (off p):=λa=>(mY _).elim (λh=>(Yh h).symm▸Z) λh=>(mZ h).symm▸h
def oA(h:(off p).ow a=O w):gK (p.ow a)=J/\p.ow a=O w:=(mY _).elim (λq=>aa (il (Yh q) h)) λq=>⟨q,il (mZ q) h⟩
def AB(x:qO g p pg):qO g (off p) pg:=x.to ⟨λa o f=>⟨(x.own.fz a o f).1,(mZ ((x.own.fz a o f).2▸Z)).trans (x.own.fz a o f).2⟩,λa k h=>x.own.sF a k (oA h).2,λa b k h c=>x.own.inj a b k (oA h).2 (oA c).2⟩ (λ_ _ _ _ _=>id) (λa w h s=>(mZ (wL h (rH s).1)).trans h) λ_ _=>id
def aar{b:I}(k:N Ow)(h:k6 J k):k6 b k:=by induction b with|true=>exact s9 k h|false=>exact h
def enter(x:qO g p pg)(l:pD p){b:t3}{t:W}{o:xL}(c:b.get? p.h.objs.size=O o)(k:∀a o,p.h.get? a=O o->b.get? a=O o):qO g {(p.up b t p.F p.ow)with ow:=bQ p.h.objs.size (O .frame) p.ow} pg:=have b:=x.own.grow k λ_ _=>.inl;have e:=x.own.new (aU _);x.to (b.give c (λo f=>x.own.ū (jr (aU _)) f) λa h=>ao (il (l a) (ah gK h))) (λa _ o _ _=>k a o) (λa w h _=>(bp λq=>aa (il e (q▸h))).trans h) λ_ _=>id
def leave(l:pD p)(h:Own p){b:t3}{t:W}(k:∀a o,p.h.get? a=O o->b.get? a=O o){c:I}(x:Ext (k6 c) {(p.up b t p.F p.ow)with ow:=bQ p.h.objs.size (O .frame) p.ow} pg p2 pg'):uQ p pg (off p2) pg':=by have b:∀{a o},p.h.get? a=O o->a≠p.h.objs.size:=λe q=>aa (il (jr (aU _)) (q▸e));have i:=h.new (aU _);have nL:∀{a w},p.ow a=O w->a≠p.h.objs.size:=λh q=>aa (il i (q▸h));have i:∀{a w},p2.ow a=O w->gK _=J->(off p2).ow a=O w:=λh n=>(mZ (h▸n)).trans h;refine⟨x.le,x.sh.trans Z,λa o e q=>x.keep a o (k a o e) (show k6 c (bQ p.h.objs.size _ p.ow a)=U by rw[bp (b e)];exact aar _ q),λa o e=>x.ex a o (k a o e),λa o e=>?_,λa=>⟨λh=>i ((x.ck a).mp ((bp (nL h)).trans h)) Z,λh=>?_⟩,λa=>⟨λh=>ao (il (l a) (ah gK h)),λh=>ao (il (Ir a) (ah gK h))⟩,x.bD,λe=>⟨(x.calm e).1,λa t h=>i ((x.calm e).2 a t ((bp (nL h)).trans h)) Z⟩⟩;refine(x.to a o (k a o e)).elim (λh=>?_) λh=>.inr ((mZ (h▸Z)).trans h);have h:=h.trans (bp (b e));exact .inl ((mZ (h▸l a)).trans h);have h:=(x.ck a).mpr (oA h).2;exact(aJ h).elim (λq=>ch (au q.2) (bx Z)) p?
def NR(b:FnAt g B f d o fd body)(kf:KF K g G B)(P:∀a o,K.lookup a=O o->B a o)(x7:iU g B G.gl)(Q:∀a,G.bw a->g.bw a)(t:ij (k+1) A)(F:∀h,dq B h->h.NoLimit)(R:∀L,(Az A K g G B d fd f L).OK->(Az A K g G B d fd f L).Calls)(n:W){c:aP}{e:af}(y:cD g B c e):
  fS g B A (.ref f) c λc h pg=>run G n d (e++c) h pg:=λc h pg v pg' e p c c l x c E H h q=>bL e λj S e=>aQ e λT V X h=>iu h λr u=>by
 refine gq λh hP=>?_;have h:=λa o e=>(x.own.fz a o (c _ _ e)).1;obtain⟨p1,p2,i,d1,d2,d3,s⟩:=b.Z1
 have hds:FX fd p.s i:=s.elim (λz M A i s q=>by rw[z.1];exact cP (q C z.2.symm)) λz M A i s q=>by obtain⟨i,m,i,s⟩:=z;rw[i];exact hF (h _ _ s) Z (q _ Z)
 obtain⟨i,s,v,k3⟩:=w6 kf.inj S b.nd ((y.bS c).append E) H b.plain b.names d1 d2 (d3.bS c) hds;refine hP ?_;have E:(j.map (·.1)).Nodup:=by rw[v];exact b.nd
 have S:(i.map (·.1)).Nodup:=by rw[s.1];exact names_nodup kf.inj E
 refine EJ (fQ (ay (fY _ 10) (fY _ _)) t.depth) (h _ _ b.at_) b.data (F _ h) (b.code _ h) b.A0 k3 b.cell (λy hy=>?_) (λh F H=>?_) b.co b.bD b.kind
 ·have hb:y.1∈j.map λp=>g.nm p.1:=by rw[<-s.1];exact fm hy
  obtain⟨z,hz,e⟩:=eO.mp hb;have hz2:z.1∈d.params.map (·.1):=by rw[<-v];exact fm hz
  obtain⟨v,z,e'⟩:=eO.mp hz2;rw[<-e,<-e'];exact b.lv _ (b.par v z)
 ·have e:=Iq b kf P x7 Q t p.h.objs.size
  have t:=F;obtain⟨oL,_,_,z,_⟩:=t
  have P:bC (Az A K g G B d fd f p.h.objs.size) {(p.up h (p.s.toks+i.length) p.F p.ow)with ow:=bQ p.h.objs.size _ p.ow} ⟨j.map λp=>_,pg⟩:=
   ⟨enter x l z H,dS,⟨_,F,λx=>Ip (m:=λy=>i.reverse.lookup y) kf.inj E s (λq j=>lookup_mem (by rw[EZ];exact(ES _).nodup_iff.mpr S) (EY.mpr j)) (λx j=>∃t,i.reverse.lookup _=O (.ref t)/\bQ p.h.objs.size _ p.ow t=O _/\we g {(p.up h _ p.F p.ow)with ow:=bQ p.h.objs.size _ p.ow} t j) x⟩,c⟩
  refine((oz n d.body _ e (R _ e) b.loc).2 body b.is) _ _ T V X P _ _ λb b b c=>?_;have e:=λi h=>q _ i Ir (u▸leave l x.own H b.ext) (u▸AB b.rel.pg) h;refine Z8 c (λb c=>?_) (λb c=>?_) λv y b c h=>?_
  ·rw[c];exact e _ (by rw[<-r,b];exact Z)
  ·rw[c];exact e _ (by rw[<-r,b];exact Z)
  ·rw[c];exact e _ (by rw[<-r,b];exact h)
end
def AD(l:Y (W×W)):S:=bm (motive:=λ_=>S) .nil (λp _ a=>.cons (.E8 (.aR 0) p.1 (.aR p.2)) a) l
section
variable{g:fA}{F:bl}{es:gQ}{i:aY}{a:W}{hsh:D}{t:kv}{w:bv}{v:V}
def z9.un{p:W×V}(r:z9 g F es (p::i)):sW (Tf g p.1 (Rd g F · p.2)) (z9 g F · i) es:=r
def z9.key(r:z9 g F es i):iK g es:=by induction i generalizing es with|nil=>exact(r)▸λ_ h=>ch h cr|cons p i b=> obtain⟨e,l,q,h,c⟩:=r.un;exact q▸iK.cons (h.2.elim λt k=>⟨p.1,t,k⟩) (b c)
def z9.fresh(b:Inj g)(r:z9 g F es i)(e:aj a i=C):fe (g.nm a) hsh (.str (g.nm a) t) w es=es++[⟨hsh,.str (g.nm a) t,w⟩]:=by induction i generalizing es with|nil=>rw[show es=[]from r];rfl|cons p i c=>obtain⟨d,l,q,⟨_,⟨d,d⟩,_⟩,f⟩:=r.un;by_cases z:ac p.1 a=U;exact ch (il (fE z) e) (yD _);have z:=d8.mpr z;rw[q,lL b d,dw z,c f (il (dH z) e)];rfl
def z9.snoc(b:g.yX a)(c:Rd g F w v)(r:z9 g F es i):z9 g F (es++[⟨hsh,.str (g.nm a) t,w⟩]) (i++[(a,v)]):=by induction i generalizing es with|nil=>rw[show es=[]from r];exact⟨⟨hsh,.str _ t,w⟩,[],Z,⟨b,⟨t,Z⟩,c⟩,Z⟩|cons p i d=> obtain⟨b,l,q,h,c⟩:=r.un;exact q▸⟨b,_,Z,h,d c⟩
def z9.ae0(s:F.le b)(r:z9 g F es i):z9 g b es i:=by induction i generalizing es with|nil=>exact r|cons p i c=> obtain⟨d,l,q,h,b⟩:=r.un;exact⟨d,l,q,⟨h.1,h.2,h.3.bS s⟩,c b⟩
def Kz{c:Type}{a:W}{v:c}(n:b≠a)(l:Y (W×c)):aj b (l++[(a,v)])=aj b l:=by induction l with|nil=>exact dH (jU n.symm)|cons p l d=>exact ah (br _ _) d
end
section
variable{prog:zs}{w:ty}{A:v2}{K:WP}{g:fA}{F:bl}{C x dx L:ii}{env:w4}{m:lm->eU}{b:aY}
structure Yi(K:WP)(g:fA)(F:bl)(C x dx L:ii)(env:w4)(m:lm->eU)(b:aY):Prop where
 inj:Inj g
 hk:env.scope.kind=.function
 hL:env.locals=L
 k0:env.kindOf (g.nm 0)=O .local
 m0:m (g.nm 0)=O (.ref x)
 hm:∀y v,aj y b=O v->∃w,m (g.nm y)=O w/\Rd g F w v
 hl:∀y v,aj y b=O v->env.kindOf (g.nm y)=O .local
 sa:sK K (.ref C) "__setattr__"=O (O (.builtin "object.__setattr__"))/\ct K C=U
 has:c5 K C=U
 hKd:∀a o,K.lookup a=O o->a≠dx
 hLd:L≠dx
 hxd:x≠dx
def KA(a:Yi K g F C x dx L env m b)(l:Y (W×W)):∀(n:aY)(c:b9),lF g.nm (AD l) c->fieldsOf b l=O n->(∀p∈l,ee K C (g.nm p.1)=O none/\g.yX p.1=U)->(l.map (·.1)).Nodup->∀(e:gQ)(f:aY)(o:W)(s:ge),
  z9 g F e f->(∀p∈l,aj p.1 f=none)->e.length+l.length<=900000->s.heap.Ns L m->s.heap.get? x=O (kZ C dx)->s.heap.get? dx=O (fC e o)->K.In s.heap->∀Q E,
  (∀i u j v,z9 g F i (f++n)->i.length<=900000->j.get? dx=O (fC i u)->(∀y,y≠dx->j.get? y=s.heap.get? y)->Q .next {s with heap:=j,toks:=v})->he (WF prog w) A (e0 c env) Q E s:=by
 induction l with
 |nil=> refine λn c t d _ _ e f o s r _ h _ _ B _ Q E q=>?_;rw[(cO.mp t)];exact vD (q e o s.heap s.toks (au d▸(eq f).symm▸r) h B λ_ _=>Z)
 |cons p l ih=>
  refine λn c t d H G e f o s r M h P R B X Q E q=>?_
  induction c with
  |nil=>exact ao t
  |cons k c _=>
   refine ag (show(XM g.nm (.E8 (.aR 0) p.1 (.aR p.2)) k&&lF g.nm (AD l) c)from t) λe hs2=>?_;refine rM e λe e e f n=>ag n λn h4=>ag n λe h3=>qF e λo htt e=>?_;obtain⟨o,t,t,hat,e⟩:=yV e;refine ag e λe h2=>bL (d) λS T d=>iH d λfs' hf' d=>?_;obtain⟨t,hwy,ry⟩:=a.hm p.2 S T;obtain⟨tk,ia⟩:=H p gV
   have V:∀{z:W}{k:Expr}{t:bv}{Q:aT},eK g.nm (.aR z) k->env.kindOf _=O .local->m _=O t->Q t s->he (WF prog w) A (Db k env) Q E s:=λ{z k t Q}f t y q=>by obtain⟨k,k,f,n⟩:=kD f;refine ag n λk n=>?_;have k:=aO k;rw[f,k];exact qW (EO a.hk t (a.hL▸P) y q) (qT λy=>yC (il (ah ù (cF (k.trans y))) n))
   rw[f,htt,hat,(aO e)];refine yF (Hk (V h3 (a.hl p.2 S T) hwy (V h2 a.k0 a.m0 ?_)) (jd h4));have f:=ay (cZ (jI _ 1 _)) h;refine CA X ⟨R,Z,Z,B⟩ a.sa tk a.has (noRef r.key) (ay (fY _ _) (ay f (aO Z))) λu e t j v e k=>?_;rw[r.fresh a.inj (M p gV)]at k;rw[fR,mT]at G;refine ih fs' c hs2 hf' (λp c=>H p (iE _ c)) G.2 _ _ u {s with heap:=j,toks:=v} (r.snoc ia ry) (λz h=>?_) (by rw[aX];exact f) (P.sameBut e a.hLd) ((e.2 x a.hxd).trans R) k (λc o f=>(e.2 c (a.hKd c o f)).trans (X c o f)) Q E λi f j k a n o r=>q i f j k (by rw[am]at a;exact d▸a) n o λc a=>(r c a).trans (e.2 c a);rw[Kz λy:z.1=p.1=>G.1 (y▸fm h)];exact M z (iE _ h)
end
structure ClsAt(K:WP)(g:fA)(B:bl)(k:W)(C:XD)(fI:ii)(lv:ae)(o:xL)(fd:sw)(body:b9):Prop where
 cls:g.jx k=U
 makes:H_ K (g.cU k)=U
 init:sK K (.ref (g.cU k)) "__init__"=O (O (.ref fI))
 typ:typeIn K (.ref fI)=O (.type "function")
 fn:FnAt g B fI ⟨(0,none)::C.params,lv,[],AD C.fields⟩ o fd body
 sa:sK K (.ref (g.cU k)) "__setattr__"=O (O (.builtin "object.__setattr__"))/\ct K (g.cU k)=U
 take:∀p∈C.fields,ee K (g.cU k) (g.nm p.1)=O none/\g.yX p.1=U
 ndf:(C.fields.map (·.1)).Nodup
 len:C.fields.length<=1000
def ot.mem(r:ot g F b a){y:W}{v:V}(h:(y,v)∈a):∃w,(g.nm y,w)∈b/\Rd g F w v:=by induction a generalizing b with|nil=>exact ch h cr|cons k a c=> obtain⟨w,l,q,r,a⟩:=r.un;rw[q];refine(c?.mp h).elim (λz=>by rw[<-z]at r ⊢;exact⟨w,gV,r⟩) λh=>?_;obtain⟨w,b,d⟩:=c a h;exact⟨w,iE _ b,d⟩
def FnAt.ahC{g:fA}{B:bl}{k:ii}{e:jL}{l m:ae}{n:S}{o:xL}{d:sw}{r:b9}(t:FnAt g B k ⟨(0,C)::e,l,m,n⟩ o d r):∃a b c,e=a++b/\(∀p∈a,p.2=C)/\Kx g B b c/\∀s:ge,dq B s.heap->FX d s c:=by obtain⟨a,b,c,h,u,i,g⟩:=t.Z1;(have v:∀s:ge,dq B s.heap->FX d s c:=λs d=>g.elim (λz M A E Q q=>by rw[z.1];exact cP (q C z.2.symm)) λz M A E Q q=>by obtain⟨T,m,g,k⟩:=z;rw[g];exact hF (d _ _ k) Z (q _ Z));induction a with|nil=>(obtain⟨j,f,_⟩:=i;rw[<-(show _::e=b from h)]at f;induction j with|nil=>exact ch f (bN _ _)|cons w j _=>exact aa (fq f).1)|cons q a _=>exact⟨a,b,c,(fq h).2,λp a=>u p (iE _ a),i,v⟩
def NS{K:WP}{fI:ii}(d:ClsAt K g B k f fI n o H L)(s:G.cls k=O f)(kf:KF K g G B)(z:∀b o,K.lookup b=O o->B b o)(rm:A.depth+2<Fa)
 (xV:∀h,dq B h->h.NoLimit):fS g B A (.ref (g.cU k)) [] λc e a=>mp (make G k c e) (·,a):=λc e a v t e p c c l y E S T R q=>iH e λu c m=>bL c λj j c=>bL c λr G c=>iH c λfs M c=>by
 have j:=au (il s j);rw[<-j]at G M;rw[<-(show a=t from ah Fk m),<-(show u=v from ah v6 m),<-c]at q;obtain⟨⟨a,t,u,w,x⟩,F,j⟩:=p;have c:=λb o e=>(y.own.fz b o (E _ _ e)).1;have X:=λb o e=>c b o (z b o e);refine make_core (makes_of X d.makes) (ql X d.init) (λm=>bind_fn X m d.typ) (.inl Z) ?_;have z:∀b o,a.get? b=O o->((a.push TD).push (c8 (g.cU k) a.objs.size)).get? b=O o:=λb o e=>g9 _ (g9 _ e);have m:dq B ((a.push TD).push (c8 (g.cU k) a.objs.size)):=λb o e=>z _ _ (c _ _ e)
 have P:=by
  have:=gX (a.push TD) (o:=c8 (g.cU k) a.objs.size) Z
  rwa [sM]at this
 have hd2:((a.push TD).push (c8 (g.cU k) a.objs.size)).get? a.objs.size=O (fC [] 0):=g9 _ (gX a Z);have c:=d.fn;obtain⟨s,s,s,B,d2,d3,hds⟩:=c.ahC;have Q:=c.nd;obtain⟨s,A,R,k3⟩:=Ky (s:=⟨(a.push TD).push (c8 (g.cU k) a.objs.size),t,u,w,x⟩) kf.inj G Q S T c.plain c.names B d2 (d3.bS E) (hds _ m);have È:∀{y:W}{v:V},(y,v)∈r->y∈f.params.map (·.1):=λh=>by rw[<-R];exact fm h
 have S:∀{y:W},y∈f.params.map (·.1)->aq n y:=λh=>by obtain⟨B,E,e⟩:=eO.mp h;exact e▸c.par B (iE _ E)
 have T:=c.par (0,C) gV
 have n:((((g.nm 0,ff (a.objs.size+1))::s)).map (·.1)).Nodup:=by rw[fR,A.1];exact names_nodup kf.inj (l:=(0,V.none)::r) (by rw[fR,R];exact Q)
 have Q:∀{q:lm×bv},q∈((g.nm 0,ff (a.objs.size+1))::s)->((g.nm 0,ff (a.objs.size+1))::s).reverse.lookup q.1=O q.2:=λG=>lookup_mem (by rw[EZ];exact(ES _).nodup_iff.mpr n) (EY.mpr G);refine EJ (qV (nH _) rm) (m _ _ c.at_) c.data (xV _ m) (c.code _ m) c.A0 k3 c.cell (λG n=>?_) (λm R m=>?_) c.co c.bD c.kind
 ·refine(c?.mp n).elim (λq=>q▸c.lv 0 T) λn=>?_
  have hb:G.1∈r.map λp=>g.nm p.1:=by rw[<-A.1];exact fm n
  obtain⟨y,n,e⟩:=eO.mp hb;rw[<-e];exact c.lv _ (S (È n))
 ·have sz:((a.push TD).push (c8 (g.cU k) a.objs.size)).objs.size=a.objs.size+2:=by rw[sM,sM]
  have ne1:a.objs.size+1≠a.objs.size:=zN _;have ne2:a.objs.size+2≠a.objs.size:=ed (Nat.lt_add_of_pos_right (aO Z));rw[sz]at R
  have a':Yi K g F (g.cU k) (a.objs.size+1) a.objs.size (a.objs.size+2) (Tm H ((a.push TD).push (c8 (g.cU k) a.objs.size)).objs.size fI) (λG=>((g.nm 0,ff (a.objs.size+1))::s).reverse.lookup G) r:=
   ⟨kf.inj,c.kind,sz,c.lv 0 T,Q gV,λy v n=>by obtain⟨r,s,G⟩:=A.mem (cV n);exact⟨r,Q (iE _ s),G⟩,λy v n=>c.lv _ (S (È (cV n))),d.sa,kf.Fv k d.cls,λb o e B=>Nat.lt_irrefl _ (B▸pH (X b o e)),ne2,ne1⟩
  refine KA a' f.fields fs L c.is M d.take d.ndf [] [] 0 _ Z (λ_ _=>Z) (ay (cZ (hH _)) (ay d.len (aO Z))) R (m _ _ P) (m _ _ hd2) (λb o e=>m _ _ (z _ _ (X b o e))) _ _ λc f n s A E B v=>?_;have r:∀b o,a.get? b=O o->n.get? b=O o:=λb o e=>(v b (nM (pH e))).trans (m _ _ (z _ _ e));have z:=(v _ ne1).trans (m _ _ P);have m:F.le ((F.add a.objs.size (fC c f)).add (a.objs.size+1) (kZ (g.cU k) a.objs.size)):=λb o e=>.inl (.inl e);have v:∀{i:W},j (a.objs.size+i)=C:=λ{i}=>y.own.new (fY _ _);have G:Own (Pt.up ⟨⟨a,t,u,w,x⟩,F,j⟩ n s ((F.add a.objs.size (fC c f)).add (a.objs.size+1) (kZ (g.cU k) a.objs.size)) j):=y.own.grow r λb o(e)=>e.elim (λe=>e.imp id λe=>⟨by rw[e.1,e.2];exact B,by rw[e.1];exact v (i:=0)⟩) λe=>.inr ⟨by rw[e.1,e.2];exact z,by rw[e.1];exact v⟩;exact⟨Z,q (Pt.up ⟨⟨a,t,u,w,x⟩,F,j⟩ n s ((F.add a.objs.size _).add _ _) j) _ l (Ext.grow r m) (y.to G (λb _ o _ _=>r b o) (λ_ _ h _=>h) m) ⟨_,_,c,f,Z,d.cls,bl.hV _ _ _,.inl (bl.hV _ _ _),ay E (aO Z),z9.ae0 m A⟩⟩
abbrev q?(B:ii)(p:Pt):Pt:={p with ow:=bQ B (O .frame) (vw p).ow}
abbrev fo(B:ii)(p:Pt):Pt:={p with ow:=bQ B (O .ck) (off p).ow}
abbrev Cx.Us(c:Cx)(G':cQ)(env':w4)(B:ii)(lv':ae):Cx:={c with env:=env',G:=G',L:=B,lv:=lv'}
section
variable{c:Cx}{p p1 p2:Pt}{σ1 σ2:St}{pg A:PG}{B a:ii}{w:Ow}{G':cQ}{env':w4}{y:W}
def w8(h:p.ow B=O .ck):(vw p).ow B=O .ck:=(uP (h▸Z)).trans h
def aas(o:Own p)(h:p.ow B=O .ck):Own (q? B p):=have V:=Nd o;⟨λa o f=>⟨(V.fz a o f).1,(bp λq=>aa ((V.fz a o f).2.symm.trans (q▸w8 h))).trans (V.fz a o f).2⟩,λa k e=>(aJ e).elim (λq=>q.1▸V.sF B _ (w8 h)) λq=>V.sF a k q.2,λa b k e d n=>(aJ e).elim (λq=>(aJ d).elim (λr=>q.1.trans r.1.symm) λr=>ao (il (Nc (p:=p) b) ((r.2.trans q.2.symm)▸Z))) λq=>(aJ d).elim (λr=>ao (il (Nc (p:=p) a) ((q.2.trans r.2.symm)▸Z))) λr=>V.inj a b k q.2 r.2 n⟩
def ae1(h:p.ow B=O .ck){k:Ow}(e:p.ow a=O k)(s:shared k):(q? B p).ow a=O k:=(bp λq:a=B=>(rH s).2 (oq (il h (q▸e)))).trans ((uP (wL e (rH s).1)).trans e)
def Ut(r:bC c p σ1)(h:p.ow B=O .ck){m:lm->eU}(b:p.h.Ns B m){x:bv}{v:V}(d:m (c.g.nm y)=O x)(e:Rd c.g p.F x v):bC (c.Us G' env' B [y]) (q? B p) ⟨[(y,.val v)],σ1.pg⟩:=⟨r.pg.to (aas r.pg.own h) (λ_ _ _ _ _=>id) (λ_ _=>ae1 h) λ_ _=>id,dS,⟨m,b,λb=>by by_cases q:ac y b=U;rw[fE q];have q:=aK q;exact q▸⟨x,d,e⟩;rw[dH (d8.mpr q)];exact trivial⟩,r.base⟩
def æ:pD (fo B p):=λa=>by by_cases q:a=B;rw[q];exact ah gK (dS);exact(ah gK (bp q)).trans (Ir a)
def ae2(x:qO c.g p pg)(h:p.ow B=O .frame):qO c.g (fo B p) pg:=have b:=(AB x).own;x.to ⟨λa o f=>⟨(b.fz a o f).1,(bp λq=>aa ((x.own.fz a o f).2.symm.trans (q▸h))).trans (b.fz a o f).2⟩,λa k e=>(aJ e).elim (λq=>q.1▸x.own.sF B _ h) λq=>b.sF a k q.2,λa d k e f n=>(aJ e).elim (λq=>ch (oq q.2) n) λq=>(aJ f).elim (λr=>ch (oq r.2) n) λr=>b.inj a d k q.2 r.2 n⟩ (λ_ _ _ _ _=>id) (λa w e s=>(bp λq=>ao ((ah shared (au (il h (q▸e)))).trans s)).trans ((mZ (wL e (rH s).1)).trans e)) λ_ _=>id
def Uu(h:p1.ow B=O .ck)(b:p2.ow B=O .frame)(x:Ext (Ey J) (q? B p1) pg p2 A):uQ (vw p1) pg (fo B p2) A where
 le:=x.le
 sh:=x.sh
 keep:=λa o e k=>x.keep a o e (by
  by_cases q:a=B
  ·rw[q,show(q? B p1).ow B=O .frame from dS];rfl
  ·rw[show(q? B p1).ow a=_ from bp q];exact Ce k)
 ex:=x.ex
 to:=λa o e=>by
  by_cases q:a=B
  ·rw[q];exact .inl ((dS).trans (w8 h).symm)
  ·have z:(q? B p1).ow a=(vw p1).ow a:=bp q
   exact(x.to a o e).elim (λk=>.inl ((bp q).trans ((mZ (((k.trans z).symm▸Nc a))).trans (k.trans z)))) λk=>.inr ((bp q).trans ((mZ (k▸Z)).trans k))
 ck:=λa=>by
  by_cases q:a=B
  ·rw[q];exact⟨λ_=>dS,λ_=>w8 h⟩
  ·have z:(q? B p1).ow a=(vw p1).ow a:=bp q
   have b:(fo B p2).ow a=(off p2).ow a:=bp q;exact⟨λk=>b.trans (have l:=(x.ck a).mp (z.trans k);(mZ (l▸Z)).trans l),λk=>il z ((x.ck a).mpr (oA (il b k)).2)⟩
 kr:=λa=>⟨λk=>ao (il (Nc (p:=p1) a) (k▸Z)),λk=>ao (il (æ (p:=p2) (B:=B) a) (k▸Z))⟩
 bD:=x.bD
 calm:=λe=>⟨(x.calm e).1,λa t k=>by have n:t≠B:=λq=>ch (oq (il (w8 h) (q▸k))) (bx Z);have l:=(x.calm e).2 a t ((bp n).trans k);exact(bp n).trans ((mZ (l▸Z)).trans l)⟩
def Uv{m:lm->eU}(S:SE (c.Us G' env' B [y]) f e)(k:G'.ro=J)(d:f J ⟨[(y,.val v)],σ1.pg⟩=O (u,σ2))(r:bC c p1 σ1)(h:p1.ow B=O .ck)(g:p1.h.Ns B m)(i:m (c.g.nm y)=O x)(j:Rd c.g p1.F x v)
 (q:∀b z,Ext (Ey J) p1 σ1.pg b σ2.pg->bC c b ⟨σ1.loc,σ2.pg⟩->Rd c.g b.F z u->Q z b.s):he (M' c) c.A (Db e env') Q E p1.s:=
 S J _ _ u σ2 d (Ut r h g i j) Q E λp2 z n b=>have X:=Uu h n.rel.kr (k▸n.ext);q (bk p1 (fo B p2)) z (Nf X æ) (Ng X r (ae2 n.rel.pg n.rel.kr) æ) b
end
def CI(f:V->PG->dR)(b:af):PG->N (af×PG):=bm (motive:=λ_=>PG->N (af×PG)) (λa=>O ([],a)) (λv _ c a=>ax (f v a) λu a=>ax (c a) λr a=>O (u::r,a)) b
def sk(f:fc)(y:W)(v:V)(a:PG):dR:=ax (f J ⟨[(y,.val v)],a⟩) λu s=>O (u,s.pg)
section
variable{c:Cx}{p p1 p2:Pt}{σ σ1:St}{pg pg' pg1:PG}{pk fp:Y ii}{a:ii}{o:xL}{kp:N Ow->I}{h0:t3}{n:W}{E:aT}
variable(x:oy c kp (a::pk) p pg p1 σ1)(na:a∉pk)(fa:p.h.get? a=C)
def oy.rest(e:∀b o,b≠a->p1.h.get? b=O o->h0.get? b=O o):oy c kp pk p pg (p1.up h0 n p1.F (bQ a C p1.ow)) σ1:=by have d:=x.ck a gV;have l:∀{b w},p1.ow b=O w->w≠.ck->b≠a:=λh n q=>n (oq (il d (q▸h)));have m:∀{b o},p.h.get? b=O o->b≠a:=λh q=>aa (il fa (q▸h));have nF:∀{b o},p1.F b o->b≠a:=λf q=>aa ((x.rel.pg.own.fz _ _ f).2.symm.trans (q▸d));have g:∀{b w},bQ a C p1.ow b=O w->b≠a/\p1.ow b=O w:=λh=>(aJ h).elim (λq=>aa q.2) id;(have i:(un pk (p1.up h0 n p1.F (bQ a C p1.ow))).ow=(un (a::pk) p1).ow:=funext λb=>by by_cases q:b∈pk;exact(wW q).trans (wW (iE _ q)).symm;refine(nv q).trans ?_;by_cases z:b=a;rw[z];exact(dS).trans (wW (gV)).symm;exact(bp z).trans (nv λk=>(c?.mp k).elim z q).symm);refine⟨x.rel.mv ⟨λb d f=>⟨e b d (nF f) (x.rel.pg.own.fz b d f).1,(bp (nF f)).trans (x.rel.pg.own.fz b d f).2⟩,λb k h=>by obtain⟨o,f⟩:=x.rel.pg.own.sF b k (g h).2;exact⟨o,e b o (g h).1 f⟩,λb f k h j=>x.rel.pg.own.inj b f k (g h).2 (g j).2⟩ λb w h n=>⟨(bp (l h n)).trans h,λo=>e b o (l h n)⟩,⟨x.ext.le,ah (λs:ge=>{s with heap:=h0,toks:=n}) x.ext.sh,λb o f k=>e b o (m f) (x.ext.keep b o f k),λb o f=>by obtain⟨d,h⟩:=x.ext.ex b o f;exact⟨d,e b d (m f) h⟩,λb o h=>by rw[i];exact x.ext.to b o h,λb=>by rw[i];exact x.ext.ck b,λb=>by rw[i];exact x.ext.kr b,x.ext.bD,λh=>⟨(x.ext.calm h).1,λb t j=>by rw[i];exact(x.ext.calm h).2 b t j⟩⟩,λb d=>(bp λq:b=a=>na (q▸d)).trans (x.ck b (.tail _ d))⟩
def oy.C?(e:p1.h.get? a=O o):oy c kp pk p pg {p1 with F:=p1.F.add a o,ow:=bQ a C p1.ow} σ1:=have y:=x.rest na fa λ_ _ _=>id;⟨y.rel.grow (λ_ _=>id) (p1.F.mr _ _) λb d f=>f.imp id λ(q:b=a/\d=o)=>⟨by rw[q.1,q.2];exact e,q.1▸dS⟩,⟨λb d f=>.inl (y.ext.le b d f),y.ext.sh,y.ext.keep,y.ext.ex,y.ext.to,y.ext.ck,y.ext.kr,y.ext.bD,y.ext.calm⟩,y.ck⟩
structure î(c:Cx)(pk:Y ii)(p:Pt)(pg0:PG)(loc:cz)(St':W->t3->Prop)(items:af)(D B:ii)(f:V->PG->dR)(pg':PG)(rs:af)(i:W)(pg1:PG)(p1:Pt)(ws:aP)(n:W)(m:lm->eU)(done rest:af):Prop where
 L:oy c (Ey J) pk p pg0 p1 ⟨loc,pg1⟩
 st:St' i p1.h
 hD:p1.h.get? D=O (eE ws n)
 rd:cD c.g p1.F ws done
 len:done.length=i
 hB:p1.h.Ns B m
 e:CI f (items.drop i) pg1=O (rest,pg')
 ĝ:rs=done++rest
def P!(c:Cx)(pk:Y ii)(p:Pt)(d:PG)(e:cz)(f:W->t3->Prop)(b:af)(g B:ii)(h:V->PG->dR)(pg':PG)(j:af)(k:W)(s:ge):=∃i pg1 p1 l,∃n m q r,s=p1.s/\k=b.length-i/\i<=b.length/\î c pk p d e f b g B h pg' j i pg1 p1 l n m q r
def P!.ends{h:cz}{j:W->t3->Prop}{f:V->PG->dR}{t:W}{s:ge}{P:Prop}(x:P! c pk p pg h j b k B f pg' e t s)
 (turn:∀i pg1 p1 d n m r u l v g,s=p1.s->t=b.length-i->i<b.length->b[i]?=O v->f v pg1=O (u,g)->î c pk p pg h j b k B f pg' e i pg1 p1 d n m r (u::l)->CI f (b.drop (i+1)) g=O (l,pg')->P)
 (y:∀p1 d n m,s=p1.s->î c pk p pg h j b k B f pg' e b.length pg' p1 d n m e []->P):P:=by
 obtain⟨i,pg1,p1,d,n,m,r,l,w,z,A,S⟩:=x;refine(zI A).elim (λb=>?_) λj=>?_
 ·have e:=S.e
  rw[zL b]at e;exact aQ (show ax _ (λu pg=>ax (CI f _ pg) λf pg=>O (u::f,pg))=O _ from e) λu g k e=>aQ e λf h l e=>iu e λq(h)=>turn i pg1 p1 d n m r u f _ g w z b (f? b) k (q▸S) (h▸l)
 ·have e:=S.e
  rw[j,zW]at e;refine iu (e) λq h=>?_;have z:=S.ĝ;rw[<-q,eq]at z;rw[<-q,<-z,j,h]at S;exact y p1 d n m w S
section
variable{It:ii}{items:af}{P:W->bv->Prop}{St':W->t3->Prop}
def KC(H:c.G.ro=J)(r:wy c.g.prog c.g.w c.A It fp [It] items.length P St')(w:Su c (k6 J) [It] [It] fp p h0 St')(X:items.length<=1000)(F:∀k v,P k v->∃y,items[k]?=O y/\Rd c.g p.F v y)
 {y:W}{i:Expr}{z:ww}{env':w4}(hkind:env'.scope.kind=.function)(hx:env'.kindOf (c.g.nm y)=O .local){h:cQ}(hG:h.ro=J){f:fc}{b B:ii}(G:env'.locals=B)(hin:SE (c.Us h env' B [y]) f i)
 (s:∀a∈[It,b,B],p.h.get? a=C)(t:b≠It)(V:b≠B)(u:It≠B){e:af}{pg':PG}{j:W}{l:ge}(A:P! c [It,b,B] p pg σ.loc St' items b B (sk f y) pg' e j l){R:ep->ge->Prop}
 (q:∀p2 g n m,oy c (Ey J) [b,B] p pg p2 ⟨σ.loc,pg'⟩->p2.h.get? b=O (eE g n)->jT g->cD c.g p2.F g e->p2.h.Ns B m->R (.ok .next) p2.s){d:aT}:
  he (M' c) c.A (pyNext (.ref It)) (λH h=>match H with
   |none=>R (.ok .next) h
   |some v=>he (M' c) c.A (assign (.Name (c.g.nm y) z) env' v) (λ_ z=>he (M' c) c.A (Db i env') (λx i=> he (M' c) c.A (dn (.builtin "list.append") [.ref b,x]) (λ_ H=>∃m,m<j/\P! c [It,b,B] p pg σ.loc St' items b B (sk f y) pg' e m H) d i) d z) d h) d l:=by
 have H:b∈[It,b,B]:=.tail _ gV;have K:It∈[It,b,B]:=.head _;have mB:B∈[It,b,B]:=.tail _ aat;have y:∀{e},e∈[It,b,B]->∀a∈[e],a∈[It,b,B]:=λh a d=>(eC.mp d)▸h;have i:∀{a e:ii},a≠e->a∉[e]:=λn h=>n (eC.mp h)
 have fpn:∀{e},It≠e->e∈[It,b,B]->∀a∈fp,a∉[e]:=λn m a d h=>(w.fp a d).elim (λq=>n (il (eC.mp q) (eC.mp h))) λq=>by obtain⟨⟨o,f⟩,_⟩:=q;exact aa (il (s _ m) ((eC.mp h)▸f))
 have L:∀{h:t3}{o:xL}{m:lm->eU},(∃o,h.get? It=O o)->h.get? b=O o->h.Ns B m->∀a∈[It,b,B],∃o,h.get? a=O o:=λj z l a d=>(c?.mp d).elim (λq=>q▸j) λd=>(c?.mp d).elim (λq=>q▸⟨_,z⟩) λd=>(eC.mp d)▸(by obtain⟨o,_,_,h,_⟩:=l;exact⟨o,h⟩);refine A.ends (λk pg1 p1 g n m done a' rest v pg2 M hk v A e1 S e2=>?_) λp1 g n m M S=>?_
 ·rw[M]
  refine r.item k p1.s _ _ v S.st λx z Q hp R j=>?_;obtain⟨y0,hy,T⟩:=F k x hp;rw[au (il hy A)]at T;have A:=j b _ (i t) S.hD;have F:=S.hB.at λo=>j B o (i u.symm);have L2:=S.L.iter (n:=Q) (y K) s j (L (w.live _ _ R It gV) A F);refine zF (BM hx (G▸F) (λl n3 sb3=>?_) (by rw[hkind];rfl));rw[G]at n3 sb3;have G:∀a o,a∉[B]->z.get? a=O o->l.get? a=O o:=λa o n f=>(sb3.2 a λq=>n (q▸.head _)).trans f;have hD3:=G b _ (i V) A;have st3:=r.frame _ _ l R λa d o=>G a o (fpn u mB a d);have l:=L2.iter (n:=Q+1) (y mB) s G (L (w.live _ _ st3 It gV) hD3 n3);refine aQ e1 λG σ2 G R=>iu R λq1 q2=>?_;refine Uv hin hG G l.rel (l.ck B mB) n3 (eP Z) (T.bS l.ext.le) λR b' G T rz=>?_;have L4:=l.step (σ2:=⟨σ.loc,σ2.pg⟩) G T;have kf:=λ{a o}d f=>G.keep a o f (by rw[l.ck a d];rfl);have T:=kf H hD3;have hB4:=n3.at λo=>kf mB;have st4:=r.frame _ _ R.h st3 λa d o f=>G.keep a o f (Ce (l.kept Z Z (λe l=>(w.fp e l).imp (λq=>y K e q) id) a d));have wl:=S.rd.length.trans S.len;refine append_at T (λh5 sb5 l=>?_) (ay (cZ ((EP).trans wl)) (ay (jJ v) (ay X (aO Z))));have T:∀a o,a∉[b]->R.h.get? a=O o->h5.get? a=O o:=λa o n f=>(sb5.2 a λq=>n (q▸.head _)).trans f;rw[ET]at l;have f:=r.frame _ _ h5 st4 λa d o=>T a o (fpn t.symm H a d);have d:=hB4.at λo=>T B o (i V.symm);have V:=L4.iter (n:=R.s.toks) (y H) s T (L (w.live _ _ f It gV) l d);rw[q2]at V;exact⟨_,hk▸k_ _ _ v,k+1,pg2,_,g++[b'],n+1,_,done++[a'],rest,Z,Z,v,V,f,l,(S.rd.bS G.le).append ⟨b',[],Z,q1▸rz,Z⟩,by rw[aX,S.len];rfl,d,e2,S.ĝ.trans (am done [a'] rest).symm⟩
 ·rw[M]
  refine r.done p1.s _ _ S.st λz Q j=>?_;have A:=j b _ (i t) S.hD;have F:=S.hB.at λo=>j B o (i u.symm);exact q _ g n m (S.L.rest (λh=>(c?.mp h).elim t.symm λh=>u (eC.mp h)) (s _ K) λe o h=>j e o (i h)) A (ay (cZ (S.rd.length.trans S.len)) (ay X (aO Z))) S.rd F
def w9(L:c.G.ro=J)(l:wy c.g.prog c.g.w c.A It fp [It] items.length P St')(w:Su c (k6 J) [It] [It] fp p h0 St')(M:items.length<=1000)(Q:∀g v,P g v->∃y,items[g]?=O y/\Rd c.g p.F v y)(K:bC c p σ)
 {y:W}{i u:Expr}{t z:ww}{d:c7}{j:Y (lm×ii)}(F:∀s∈d.names,s.2≠.cell)(A:d.kind=.function)(R:d.names.lookup (c.g.nm y)=O .local){G':cQ}(S:G'.ro=J){h:fc}(T:∀B,SE (c.Us G' (o2 d j B c.env) B [y]) h i)
 {k:af}{pg':PG}(e:CI (sk h y) items σ.pg=O (k,pg')){r:bv->ii->ep->ge->Prop}
 (q:∀b B p2 f n m,oy c (Ey J) [b,B] p σ.pg p2 ⟨σ.loc,pg'⟩->p.h.get? b=C->p.h.get? B=C->b≠B->p2.h.get? b=O (eE f n)->jT f->cD c.g p2.F f k->p2.h.Ns B m->r (.ref b) B (.ok .next) p2.s):
  he (M' c) c.A (newList []) (λb h=>he (M' c) c.A (newFunctionEnv d c.env.globals j [] c.env.qual C .none (O c.env)) (λg s=> Uf (M' c) c.A (.compStart (.ListComp i [⟨.Name (c.g.nm y) t,u,[],0⟩] d z) 0 (.ref It) b {g with scope:=relabel d c.env}) (r b g.locals) s) E h) E {p.s with heap:=h0,toks:=n}:=by
 refine wpAny_newObj_type (wpAny_newFunctionEnv F (λ_ r=>ch r cr) (λs v B=>?_) A);have g:h0.objs.size<(h0.push (eE [] 0)).objs.size:=by rw[sM];exact nH _
 have y:=nM g;have h:=λb o e=>B.extBut b o (nM (pH e)) (g9 _ e);have B:=λb o e=>h b o (g9 _ e);have F:=h _ _ (gX _ Z);have h:=λ{b}G=>Option.eq_none_iff_forall_not_mem.mpr λo e=>zV.mpr G (pH (w.grow b o e));obtain⟨G,H⟩:=w.live 0 _ w.st It gV;have G:=pH H;have V:∃o,s.get? (h0.push (eE [] 0)).objs.size=O o:=by obtain⟨o,_,_,r,_⟩:=v;exact⟨o,r⟩
 have r:=l.frame _ _ _ w.st λb _ o=>B b o;have H:∀a∈[It,h0.objs.size,(h0.push _).objs.size],p.h.get? a=C:=λa b=>(c?.mp b).elim (λq=>q▸w.fresh It gV) λb=>(c?.mp b).elim (λq=>q▸h (aU _)) λb=>(eC.mp b)▸h (jJ g);have X:oy c (Ey J) [It,h0.objs.size,(h0.push _).objs.size] p σ.pg (Ev.ck [It,h0.objs.size,(h0.push _).objs.size] (p.up s n p.F p.ow)) σ:=.start K (λa o e=>B a o (w.grow a o e)) H λa b=>(c?.mp b).elim (λq=>q▸w.live 0 _ r It gV) λb=>(c?.mp b).elim (λq=>q▸⟨_,F⟩) λb=>(eC.mp b)▸V
 have b:Uf _ c.A (.compLoop (.ListComp i [⟨.Name _ t,u,[],0⟩] d z) 0 _ _ _) _ {p.s with heap:=s,toks:=n}:=
  codeAny_compLoop_list _ (λi i i=>KC L l w M Q (env':=o2 d j (h0.push _).objs.size c.env) A (oI R) S Z (T _) H (ed G) y (nM (qV G g)) i λp2 f n m L=>q _ _ p2 f n m L (h (aU _)) (h (jJ g)) y) items.length ⟨0,σ.pg,_,[],0,_,[],k,Z,Z,eG _,X,r,F,Z,Z,v,e,Z⟩
 exact codeAny_compStart_list b (l.self 0 _ _ _ r b)
end
end
def FY{a b:Type}(f:lm×a->lm×b)(c:∀p,(f p).1=p.1){n:lm}{k:a}{l:Y (lm×a)}(h:l.lookup n=O k):(l.map f).lookup n=O (f (n,k)).2:=by induction l with|nil=>exact aa h|cons p l d=>have e:f p=(p.1,(f p).2):=pt (c _) Z;rw[fR,e,kB];rw[show(p::l).lookup n=_ from kB]at h;cases q:n==p.1 with|true=> rw[q]at h;have:p=(n,k):=pt (fZ.mp q).symm (au h);rw[this]|false=>rw[q]at h;exact d h
def NT(h:b.names.lookup n=O k):(relabel b a).names.lookup n=O (if(k==.free&&a.scope.kind==.function&&a.kindOf n==O .cell)then .cell else k):=by have:=FY (λp:lm×W1=>if(p.2==.free&&a.scope.kind==.function&&a.kindOf p.1==O .cell)then(p.1,õ)else _) (λp=>by by_cases q:(p.2==.free&&a.scope.kind==.function&&a.kindOf p.1==O .cell)=U<;>simp only[q]<;>rfl) h;refine l? (l? Z this) (ah O ?_);by_cases q:(k==.free&&a.scope.kind==.function&&a.kindOf n==O .cell)=U<;>simp only[q]<;>rfl
def mem_lookup{a:Type}{l:Y (lm×a)}{b:a}(h:(n,b)∈l):∃b,l.lookup n=O b:=by induction l with|nil=>exact ch h cr|cons p l c=>rw[show(p::l).lookup n=_ from kB];cases q:n==p.1 with|true=>exact⟨p.2,Z⟩|false=>exact(c?.mp h).elim (λe=>ao (il q (fZ.mpr (ah v6 e)))) c
def AE(e:w4)(i:lm×W1->Y (lm×ii)->e5 (C4 (Y (lm×ii))))(f:∀p h,i p h=if p.2==.free then(cellOf e p.1>>=λb=>H1 (.yield ((p.1,b)::h)))else H1 (.yield h))(l:Y (lm×W1)):
  ∀(c:Y (lm×ii)),(∀p∈l,p.2=.free->∃b,e.cells.lookup p.1=O b)->(∀p∈c,e.cells.lookup p.1=O p.2)->∃d,forIn l c i=H1 d/\(∀p∈d,e.cells.lookup p.1=O p.2)/\(∀p∈c,p∈d)/\∀p∈l,p.2=.free->∃b,(p.1,b)∈d:=by
 induction l with
 |nil=>exact λc _ g=>⟨c,q4,g,λ_ h=>h,λ_ h=>ch h cr⟩
 |cons p l m=>
  intro c j g;have n:=λq a=>j q (iE _ a);cases h:p.2==NameKind.free with
  |true=> obtain⟨b,o⟩:=j p gV (fZ.mp h);obtain⟨d,e,j,i,k⟩:=m ((p.1,b)::c) n λq r=>(c?.mp r).elim (λe=>e▸o) (g q);refine⟨d,?_,j,λq a=>i q (iE _ a),λq a f=>(c?.mp a).elim (λe=>e▸⟨b,i _ gV⟩) λa=>k q a f⟩;rw[eL,f,h];unfold cellOf;rw[o];exact e
  |false=> obtain⟨d,e,j,i,k⟩:=m c n g;refine⟨d,?_,j,i,λq a f=>(c?.mp a).elim (λe=>ao (il h (fZ.mpr (e▸f)))) λa=>k q a f⟩;rw[eL,f,h];exact e
def FZ(a:c7)(b:w4):rq a b=forIn a.names [] (λ(p:lm×W1)(a:Y (lm×ii))=>(if p.2==.free then(cellOf b p.1>>=λb=>H1 (.yield ((p.1,b)::a)))else H1 (.yield a):e5 (C4 (Y (lm×ii))))):=by unfold rq;simp only[bind_pure]
def xa(h:∀p∈a.names,p.2=.free->∃d,b.cells.lookup p.1=O d):∃c,rq a b=H1 c/\∀n,a.names.lookup n=O .free->c.lookup n=b.cells.lookup n:=by obtain⟨c,e,f,_,g⟩:=AE b _ (λp i=>Z) a.names [] h (λ_ h=>ch h cr);refine⟨c,(FZ a b).trans e,λn a=>?_⟩;obtain⟨d,b⟩:=g _ (Sc a) Z;obtain⟨a,a⟩:=mem_lookup b;exact a.trans (f _ (Sc a)).symm
def fT{l:ae}(h:aq l x):x∈l:=by
 induction l with
 |nil=>exact ao h
 |cons y l a=>cases q:ac y x with
  |true=>exact aK q▸.head _
  |false=>exact .tail _ (a (il (dw q) h))
def o3{l:ae}(h:x∈l):aq l x:=by
 induction l with
 |nil=>exact ch h cr
 |cons y l a=>cases q:ac y x with
  |true=>exact dM q
  |false=>exact(dw q).trans ((c?.mp h).elim (λe=>ao (il q (e▸cf x))) a)
def ai{a:Type}{f:a->I}{l:Y a}(h:aI f l=U){b:a}(m:b∈l):f b:=by
 induction l with
 |nil=>exact ch m cr
 |cons c l d=>cases q:f c with
  |true=>exact(c?.mp m).elim (λe=>e▸q) (d (il (dM q) h))
  |false=>exact ao (il (dw q) h)
def Uw{b:Type}{f:b->I}{l:Y b}(h:Mh f l=U):∃a∈l,f a:=by
 induction l with
 |nil=>exact ao h
 |cons c l d=>cases q:f c with
  |true=>exact⟨c,.head _,q⟩
  |false=>obtain⟨a,m,e⟩:=d (il (dw q) h);exact⟨a,.tail _ m,e⟩
def NU{a b:I}(h:(!a||b))(e:a):b:=by rw[e]at h;exact h
def Ć{P:Prop}{a b:I}(h:(a||b))(k:a->P)(l:b->P):P:=(EL.mp h).elim k l
structure ae3(nm:W->lm)(elt:X)(y:W)(cs:ae)(sc:c7):Prop where
 kind:sc.kind=.function
 cell:∀p∈sc.names,p.2≠.cell
 names:∀p∈sc.names,p.2=.local->sc.names.lookup p.1=O .local
 free:∀p∈sc.names,p.2=.free->∃z∈cs,nm z=p.1
 SG:sc.names.lookup (nm y)=O .local
 lg:∀z∈cs,sc.names.lookup (nm z)=O .free
 uses:∀z∈namesOf elt,z=y∨z∈cs∨sc.names.lookup (nm z)=O .globalImplicit
def NV{a:W->lm}(h:DL a b y c d):ae3 a b y c d:=ag h λh c=>ag h λh d=>ag h λh f=>ag h λa e=>have H:=λp(b)=>ai e b;⟨aO a,λp b=>ag (H p b) λh _=>ag h λa _ e=>ao (il (ah (!·) (cF e)) a),λp b e=>ag (H p b) λh _=>ag h λ_ a=>aO (NU a (cF e)),λp b e=>ag (H p b) λ_ a=>by obtain⟨z,m,q⟩:=Uw (NU a (cF e));exact⟨z,m,aO q⟩,aO f,λz b=>aO (ai d b),λz b=>Ć (ai c b) (λh=>Ć h (λa=>.inl (aK a)) λa=>.inr (.inl (fT a))) λa=>.inr (.inr (aO a))⟩
def x5(G:cQ):cQ:={G with comp:=λ_ _ _ _ _ _=>C}
def Ux(G:cQ)(a:jM)(b:X):cQ:={G with gl:=yd a (namesOf b),sup:=λ_ _ _=>C,comp:=λ_ _ _ _ _ _=>C}
def Iu(x:X):N (X×X):=LJ x C (cons:=λa r=>O (a,r))
def isInt(n:W)(x:X):I:=LJ x J (int:=λm=>ac m n)
def NX(x:X):N (W×X):=LJ x C (bF:=λf a b c=>lc b (gd (cq c) (O (f,a))) λ_ _=>C)
def Yj(x:X):N (W×X):=ax (NX x) λf a=>ax (Iu a) λa r=>ax (Iu r) λb r=>ax (Iu r) λd r=>gd (cq r) (gd (isInt 0 a) (gd (isInt 2 d) (O (f,b))))
def ae4(G:cQ)(a:ae)(c:X)(s:St):N (af×St):=oc (Yj c) (λb=>br (aq a b.1) C (bn (bn (G.gl b.1) sQ) λk=>gd (ac k 3) (ax (ev G a J b.2 s) λv s=>bn (asNat v) λn=>gd (bd n 1000) (O (dF 2 ((n+1)/2) 0,s))))) (ax (ev G a J c s) λv s=>bn (ja v) λa=>gd (bd (ak a) 1000) (O (a,s)))
def ae5(c:jM)(a b:ae)(d:X):I:=aI (λz=>aq a z&&(c z).isSome) b&&aI (λz=>!aq a z||aq b z) (namesOf d)
def rP(G:cQ)(b:jM)(c:ae)(a:X)(y:W)(f:X)(d e:ae)(s:St):mc:=gd (ae5 b c d a) (ax (ae4 (x5 G) e f s) λc s=>ax (CI (sk (ev (Ux G b a) [y] · a) y) c s.pg) λa b=>O (.lst a,⟨s.loc,b⟩))
abbrev Cx.x5(c:Cx):Cx:={c with G:=Ev.x5 c.G}
def Cx.OK.x5{c:Cx}(a:c.OK):c.x5.OK:=⟨a.kf.chg,a.jB,a.locals,a.kind,a.loc,a.glob,a.units,a.handled,a.bw,a.depth⟩
structure Cx.eV(c:Cx):Prop where
 av:∀m,c.g.dj->c.g.isFn m->fS c.g c.B c.A (.ref (c.g.fnAt m)) [.ref c.g.par] (c.G.av m)
 func:∀f,c.g.isFn f->fS c.g c.B c.A (.ref (c.g.fnAt f)) [] (c.G.func f)
 X9:∀k,c.g.jx k->fS c.g c.B c.A (.ref (c.g.cU k)) [] λas ks pg=>mp (make c.G k as ks) (·,pg)
def CJ(h:c.G.sup=λ_ _ _=>C){m:W}{a:X}{e:Expr}:SE c (Fe c.G m (c! c.G c.lv a).l) e:=λt p a v a a _=>by unfold Fe at a;rw[h]at a;exact FO a λ_ a=>aQ a λ_ _ _ a=>aQ a λ_ _ a _=>aa a
def Cx.eV.calls{c:Cx}(x:c.eV)(a:c.G.sup=λ_ _ _=>C)(b:c.G.comp=λ_ _ _ _ _ _=>C):c.Calls:=
 ⟨x.av,x.func,x.X9,λ_ _ _ _=>CJ a,λ_ _ _ _ _ _ t p c v d a _=>by
  unfold uq at a;rw[b]at a;exact FO a λ_ a=>aa a,λ_ _ _ _ _ _ _ _ p c v d a _=>by
  unfold yU at a;rw[b]at a;exact FO a λ_ a=>aa a⟩
def Cx.eV.x5{c:Cx}(x:c.eV)(a:c.G.sup=λ_ _ _=>C):c.x5.Calls:=Cx.eV.calls ⟨x.av,x.func,x.X9⟩ a Z
def Cx.eV.Us{c:Cx}(x:c.eV){a:jM}{b:X}{d:w4}{B:ii}{y:W}:(c.Us (Ux c.G a b) d B [y]).Calls:=Cx.eV.calls ⟨x.av,x.func,x.X9⟩ Z Z
structure kL(c:Cx)(cv:ae)(gi gl1:jM):Prop where
 cell:∀z v,aq cv z->gi z=O v->∃a w,c.env.cells.lookup (c.g.nm z)=O a/\c.env.kindOf (c.g.nm z)=O .cell/\(∃o,c.B a o/\o.data=.cell (O w))/\Rd c.g c.B w v
 glob:∀z v,aq cv z=J->gi z=O v->gl1 z=O v
 x7:iU c.g c.B gl1
 X4:c.env.globals=lw
 blt:c.env.builtins=wp
section
variable{c:Cx}{v:V}{E:aT}{A:ae}{gi z:jM}
def NY(a:c.OK)(e:kL c A gi z){f:X}{y:W}{i:ae}{d:c7}{g:Y (lm×ii)}(b:ae3 c.g.nm f y i d)(h:ae5 gi A i f)(m:∀n,d.names.lookup n=O .free->g.lookup n=c.env.cells.lookup n)(B:ii):
  (c.Us (Ux c.G gi f) (o2 d g B c.env) B [y]).OK where
 kf:=a.kf.chg
 jB:=a.jB
 locals:=Z
 kind:=b.kind
 loc:=λx j=>(eC.mp (fT j)).symm▸oI b.SG
 glob:=λx v j f=>bW f λf k=>ag h λn o=>by
  have f:=fT f;have l:∀{h:W1},d.names.lookup (c.g.nm x)=O h->(o2 d g B c.env).kindOf _=O _:=λh=>NT h;by_cases d:x∈i
  ·obtain⟨g,w,p,r,⟨t,l3,u⟩,i⟩:=e.cell x v (ag (ai n d) λg _=>g) k
   refine⟨w,i,λs Q E g q=>?_⟩;have i:=b.lg x d;refine qd b.kind ?_ ((m _ i).trans p) ⟨t,g _ _ l3,u⟩ q;rw[l i,r,a.kind];rfl
  ·have i:=(b.uses x f).elim (λh=>ao ((il (o3 (h▸eC.mpr Z)) j).symm)) λh=>h.elim (λh=>ch h d) id
   have j:=d8.mpr λq=>d (fT (NU (ai o f) q));obtain⟨w,r,h⟩:=AA e.x7 (e.glob x v j k) b.kind (l i) e.X4 e.blt;exact⟨w,r,λs Q E g q=>h _ _ s Q E g q⟩
 units:=a.units
 handled:=a.handled
 bw:=a.bw
 depth:=a.depth
theorem yl(n:W):b_ 0 (n:D) 2=((n+1)/2:W):=by unfold b_;split<;>lia
def KD:((l_ 1001).all λn=>q0 0 (n:D) 2):=by decide+kernel
def KG{n:W}(h:n<=1000):q0 0 (n:D) 2:=E7.mp KD n (List.mem_range.mpr (Wp h))
end
def xb:Iu x=O (a,b)->x=.cons a b:=X.casesOn x aa (λc d h=>iu h λq(a)=>q▸a▸Z) aa aa aa bX bX bX gJ bX bX bX bX kE kE kE bX bX aa gJ kE Ft Tg gJ Ft aa
def CL:isInt n x->x=.int n:=X.casesOn x ao iw ao ao ao (λm h=>ah X.int (aK h)) aV aV iw aV aV aV aV pf pf pf aV aV ao iw pf Sl F1 iw Sl ao
def KH:NX x=O (f,a)->x=.bF f a [] .nil:=X.casesOn x aa gJ aa aa aa bX bX bX gJ bX bX bX bX kE kE kE bX bX aa gJ kE (λg a a a h=>lb h λa h=>bW h λb h=>iu h λq(c)=>by rw[a,nil_of b,q,c]) Tg gJ Ft aa
def NZ(h:Yj x=O (f,b)):x=.bF f (.cons (.int 0) (.cons b (.cons (.int 2) .nil))) [] .nil:=aQ h λg a a h=>aQ h λb r b h=>aQ h λc c c h=>aQ h λd d d h=>bW h λe h=>bW h λf h=>bW h λg h=>iu h λq(h)=>by rw[KH a,xb b,xb c,xb d,nil_of e,CL f,CL g,q,h]
def Nx.N4{p:Pt}(n:Nx c.x5 p a b d):Nx c p a b d:=⟨n.ext,n.rel.pg,n.rel.kr,n.rel.loc,n.rel.base⟩
def F0(c:Cx)(p:Pt)(f:t3)(b:af)(a:ii):=∃d P e,wy c.g.prog c.g.w c.A a d [a] b.length P e/\Su c (k6 J) [a] [a] d p f e/\∀i v,P i v->∃y,b[i]?=O y/\Rd c.g p.F v y
section
variable{c:Cx}{p p1:Pt}{R σ1:St}{v:V}{vs:af}{E:aT}{K:aT}
def Kp.no(a:c.G.ro=J):Kp c (k6 J):=a▸Kp.it
variable(ok:c.OK)(T:c.G.ro=J)
def Uy(r:bC c p R)(e:Rd c.g p.F y (.lst vs))(q:∀b n a,F0 c p b vs a->K (.ref a) {p.s with heap:=b,toks:=n}):he (M' c) c.A (mE y) K E p.s:=by obtain⟨t,b,k,a,f,z,d⟩:=(e);rw[a];have h:=r.st _ _ f;have e:=ru (prog:=c.g.prog) (w:=c.g.w) ok.handled p.h.objs.size t (tb h) b.toArray;rw[show b.toArray.size=vs.length from cD.length d]at e;exact eX ⟨_,h,Z,_,Z⟩ (q _ _ _ ⟨_,_,_,e,.one (.no T) (tc h ((r.pg.own.fz _ _ f).2.symm▸Z)) (λi h s=>by obtain⟨⟨o,b,_⟩,_⟩:=s;exact⟨o,b⟩) ⟨⟨_,gX _ Z,Z,Z⟩,⟨_,g9 _ h,Z,_,Z⟩⟩,λi w a=>cD.at d i w (Ax a)⟩)
def N5{n:W}(g:n<=1000){t:ii}{t0 d e:kv}(f:IsRange p.h t 0 (n:D) 2 t0 d e)(q:∀b k a,F0 c p b (dF 2 ((n+1)/2) 0) a->K (.ref a) {p.s with heap:=b,toks:=k}):he (M' c) c.A (mE (.ref t)) K E p.s:=by refine rb f (KG g) ?_;rw[yl];have a:=Walks.range (prog:=c.g.prog) (w:=c.g.w) ok.handled p.h.objs.size 0 2 ((n+1)/2);(have d:wy c.g.prog c.g.w c.A p.h.objs.size [p.h.objs.size] [p.h.objs.size] (dF 2 ((n+1)/2) 0).length (λi v=>i<(n+1)/2/\∃t,v=.int (0+i*2) t) (λi h=>f' h p.h.objs.size (0+(i)*2) ((((n+1)/2))-(i)) 2):=by rw[qE];exact⟨a.sub,a.frame,λi s Q E b e k=>a.item i s Q E b e λv e f g=>k v e f ⟨b,g⟩,a.done,a.self⟩);(have a:f' (p.h.push {cls:=.type "range_iterator",data:=.fields #[mD 0,mD (((n+1)/2)),mD 2]}) p.h.objs.size (0+((0))*2) ((((n+1)/2))-((0))) 2:=by exact gX p.h Z);refine q _ _ _ ⟨_,_,_,d,.one (.no T) (λd d=>ch d cr) (λi h s=>⟨_,s⟩) a,λi w a=>?_⟩;obtain⟨b,t,a⟩:=a;refine⟨_,zf _ 0 i b,a▸?_⟩;exact Rd.i
def CM(w:c.x5.Calls)(T:c.G.ro=J){i:X}{j:Expr}(e:ae4 c.x5.G c.lv i R=O (vs,σ1))(m:eK c.g.nm i j)(r:bC c p R)(q:∀p1 a f b,Nx c p R.pg p1 σ1->F0 c p1 a vs b->vs.length<=1000->K (.ref b) {p1.s with heap:=a,toks:=f}):
  he (M' c) c.A (Db j c.env) (λx d=>he (M' c) c.A (mE x) K E d) E p.s:=by
 have n:=ok.x5;have o:bC c.x5 p R:=⟨r.pg,r.kr,r.loc,r.base⟩;refine ma e (λd h e=>FO e λr e=>bL e λk A e=>bW e λB e=>aQ e λy z t e=>bL e λf F e=>bW e λg e=>iu e λf u=>?_) λ_ e=>aQ e λy z t e=>bL e λl r e=>bW e λg e=>iu e λf u=>?_
 ·rw[NZ h]at m
  obtain⟨e,G,e,h,H,h⟩:=ur (f:=λs L e p=>ng s (λs=>iB c.g.nm d.1 s&&LK s)&&ph c.g.nm (.cons (.int 0) (.cons d.2 (.cons (.int 2) .nil))) L&&nZ c.g.nm [] e&&ph c.g.nm .nil (e.map (λk:wn=>k.value))) m;refine ag h λh _=>ag h λh L=>ag h λe h=>?_;obtain⟨s,M,M,e⟩:=kD e;refine ag e λe P=>?_;rw[H,M,gZ e,E0 L Z];have H:c.x5.G.gl d.1=O _:=bL A λA L M=>by rw[L,oX M,aK B]
  have GL:=(bz n w (.cons (.int 0) (.cons d.2 (.cons (.int 2) .nil)))).2 G h
  have B:=by have L:∀x h s,(c! c.x5.G c.x5.lv (.cons x h)).l s=ax (ev c.x5.G c.lv J x s) λv s=>ax ((c! c.x5.G c.x5.lv h).l s) λvs s=>O (v::vs,s):=λ_ _ _=>Z;exact(ah (λh:N _=>ax h λvs s=>O (V.int 0::vs,s)) ((L _ _ _).trans (t▸Z)):ax ((c! c.x5.G c.x5.lv (.cons d.2 (.cons (.int 2) .nil))).l R) (λvs s=>O _)=ax (O ([y,.int 2],z)) λvs s=>O _)
  refine yM (Ay n (y9 P (gZ e)) r H ok.kf.Zu o ?_);refine ib (GL.pl _).1 Z ((GL.l.2 p R _ _ B o _).1 _ _ λd d n3 e=>vE ⟨⟨.machine,λd d=>cP d⟩,?_⟩);obtain⟨w0,d,k0,h,e⟩:=e.un;obtain⟨d,d,x,d,e⟩:=e.un;obtain⟨s,y,s⟩:=cD.one e;obtain⟨t0,h⟩:=(h);obtain⟨e,d⟩:=Sr F d;obtain⟨e,s⟩:=(s);rw[k0,x,y,h,d,s];have n3:=n3.N4;refine call_range_3 (aO Z) ?_ (Or.inl (fx (aO Z)));exact N5 ok T (cw g) (pn ..) λa k b H=>q _ a k b (u▸n3.trans (Nx.push n3.rel _ _)) (f▸H) (by rw[<-f,qE];exact Nat.div_le_of_le_mul (ay (eN (cw g)) (aO Z)))
 ·refine(((bz n w i).1 j m).val t o) _ _ λp1 A e d=>?_
  rw[rB r,f]at d;have e:=e.N4;exact Uy ok T e.rel d λa k b H=>q p1 a k b (u▸e) H (f▸(aB l)▸cw g)
end
def AG{b:W->lm}{e g:Expr->I}{i:X}{P:Prop}(h:z5 b e g i y j f c k)(m:∀d a,c=[⟨.Name (b y) d,a,[],0⟩]->e f->g a->DL b i y j k->nW a->P):P:=by
 induction c with
 |nil=>exact ao h
 |cons n l=>induction l with
  |cons _ _ _=>exact ao h
  |nil=>cases n with
   |mk t a o p=> refine ag h λh e=>ag h λh f=>ag h λh g=>ag h λh i=>ag h λh j=>ag h λc h=>?_;obtain⟨s,d,k,c⟩:=kD c;refine m d a ?_ h j f e;rw[show t=_ from k,show s=b y from aO c,show o=[]from cO.mp i,show p=0 from aO g]
section
variable{c:Cx}{p p1 p2:Pt}{σ σ1 σ':St}{pg:PG}{pk:Y ii}{v:V}{E:aT}{cv:ae}{gi T:jM}{R it:X}{y x:W}{cs:ae}
variable(ok:c.OK)(c0:c.eV)
def CN(o:c.G.sup=λ_ _ _=>C)(k:kL c cv gi T)(f:c.G.ro=J){g a:Expr}{d:c7}{h i:ww}(e:rP c.G gi cv R y it cs c.lv σ=O (v,σ1))(t:eK c.g.nm R g)(r:eK c.g.nm it a)(l:DL c.g.nm R y cs d)(n:nW a)
 (s:bC c p σ){j:N (bv->e5 df)}{Q:aT}(q:∀p1 b B p2 x m,Nx c p σ.pg p1 b->oy c (Ey J) [B] p1 b.pg p2 σ1->p1.h.get? B=C->Rd c.g p2.F x v->p2.h.Ns B m->compPost (M' c) c.A E j Q x B (.ok .next) p2.s):
  he (M' c) c.A (ò (.ListComp g [⟨.Name (c.g.nm y) h,a,[],0⟩] d i) d c.env (firstIterPos [⟨.Name (c.g.nm y) h,a,[],0⟩] i) (newList []) J (Db a c.env) j) Q E p.s:=
 bW e λg e=>aQ e λa b i e=>aQ e λa a j e=>iu e λu z=>by
  have a:=NV l
  obtain⟨d,e,l⟩:=xa λp h w=>by obtain⟨A,d,F⟩:=a.free p h w;refine ag g λh _=>ag (ai h d) λG H=>?_;obtain⟨w,K⟩:=BJ.mp H;obtain⟨H,_,L,_⟩:=k.cell A w G K;exact⟨H,F▸L⟩
  refine j_ Z (lO n) e a.kind a.names (CM ok (c0.x5 o) f i r s λp1 e n e e i o=>?_);obtain⟨r,P,r,r,w,s⟩:=i;refine w9 f r w o s e.rel a.cell a.kind a.SG (G':=Ux c.G gi R) f (λB=>(bz (NY ok k a g l B) c0.Us R).1 _ t) j λa B p2 f n m L g fB i j d k l=>?_;exact q p1 b B {p2 with F:=p2.F.add a _,ow:=bQ a C p2.ow} _ m e (z▸L.C? (λh=>i (eC.mp h)) g j) fB (u▸⟨a,f,n,Z,p2.F.hV _ _,d,k.bS (p2.F.mr _ _)⟩) l
def oy.weak{a b:N Ow->I}(x:oy c a pk p pg p1 σ1)(w:∀k,b k->a k):oy c b pk p pg p1 σ1:=⟨x.rel,x.ext.weak w,x.ck⟩
def oy.out{b:N Ow->I}(x:oy c b [B] p pg p1 σ1)(fB:p.h.get? B=C)(d:u8 B p1.h a):Ext b p pg (p1.up a p1.s.toks p1.F (un [B] p1).ow) σ1.pg/\bC c (p1.up a p1.s.toks p1.F (un [B] p1).ow) σ1:=x.ov (λ_ h=>h) (λa h=>eC.mp h▸fB) λa o n e=>(d.2 a λq=>n (q▸.head _)).trans e
def Iv(f:c.G.sup=λ_ _ _=>C)(g:kL c cv gi T)(d:c.G.comp=rP c.G gi cv){e:Expr}(h:Ta e (z5 c.g.nm (eK c.g.nm R) (eK c.g.nm it) R y cs)):SE c (uq c.G c.lv R y it cs) e:=λt p σ v σ' a r=>FO a λb a=>aQ a λv0 σ1 a e=>by rw[d]at a;obtain⟨d,d,d,d,d,h⟩:=Mu h;refine AG h λh h h i j k l=>?_;rw[d,h];refine mode ok Z e λQ E q=>?_;refine CN ok c0 f g b a i j k l r λp1 a B p2 x m a L fB d e=>?_;exact⟨m,e,λe e=>have z:=L.out fB e;q _ x (a.trans ⟨b.symm▸z.1,z.2⟩) d⟩
def Uz(i:c.G.sup=λ_ _ _=>C)(j:kL c cv gi T)(g:c.G.comp=rP c.G gi cv){e:a9}(k:aq c.lv x)(h:XM c.g.nm (.setC x R y it cs) e):SS c (yU c.G c.lv x R y it cs) e:=λp σ a σ' a r Q E q=>FO a λb a=>aQ a λv0 σ1 d l=>by refine rM h λa w o s h=>ag h λa m=>qF a λt t a=>?_;obtain⟨u,p0,u,a⟩:=kD a;rw[s,t,u,gZ a];have S:=Iv ok c0 i j g m;(have z:uq c.G c.lv R y it cs J σ=O (v0,σ1):=by unfold uq;rw[dw b,d];rfl);obtain⟨s,a,t,u,a,h⟩:=Mu m;refine AG h λh m A B F G H=>?_;rw[A]at a;rw[a]at S ⊢;obtain⟨f,n⟩:∃f,lN (.ListComp s [⟨.Name (c.g.nm y) h,m,[],0⟩] t u) (O (.Name (c.g.nm x) p0)) o.line c.env=H1 f:=⟨_,Z⟩;induction f with|false=>exact zQ (S.val z r _ _ λp1 w a f=>iT ok a.rel k f λp2 f=>q.nx l ((Sx.of a).trans f)) n|true=> rw[g]at d;rw[nq _ _ _ _ n];refine bR (uh (bR ?_));refine bR (jt (CN ok c0 i j b d B F G H r λp1 d B p2 w m a L fB d f=>?_) (λ_ g g=>cP (cP g)) λ_ _ e=>e);refine zF (qD ok L.rel k d λd d g=>?_);have h:=(L.weak λ_=>Ce).step (σ2:=aE σ1 x _) (d.weak s9) g;exact⟨m,f.at λo e=>d.keep B o e (by rw[L.ck B gV];rfl),λd d=>have z:=h.out fB d;q.nx l ((Sx.of a).trans ⟨b.symm▸z.1,z.2⟩)⟩
def Cx.eV.comp(ok:c.OK)(a:c.G.sup=λ_ _ _=>C)(b:kL c cv gi T)(d:c.G.comp=rP c.G gi cv):c.Calls:=⟨c0.av,c0.func,c0.X9,λ_ _ _ _=>CJ a,λ_ _ _ _ _ h=>Iv ok c0 a b d h,λ_ _ _ _ _ _ e h=>Uz ok c0 a b d e h⟩
end
section
variable{prog:zs}{w:ty}{A:v2}{s:ge}
def call_cells{R:ep->ge->Prop}{fd:sw}
 (j:A.depth<Fa)(k:s.heap.get? a=O o)(l:o.data=.func fd)(z:s.heap.NoLimit)(q:s.heap.CodeRec fd.code fd.qualname)
 (p:fd.body=.stmts body)(r:m5 s fd g c)(t:fd.closure=[])
 (y:∀x∈c,fd.scope.names.lookup x.1=O .local∨(fd.scope.names.lookup x.1=O .cell/\((e? (s.heap.objs.size+1) fd.scope.names []).lookup x.1).isSome=U))
 (B:∀f,InCallC s (xz fd s.heap.objs.size a).locals (bindL (xz fd s.heap.objs.size a).kindOf c λ_=>C) (xz fd s.heap.objs.size a).cells
    (bindC (xz fd s.heap.objs.size a).kindOf c λ_=>C) f->
   he (WF prog w) (A.deeper (xz fd s.heap.objs.size a)) (e0 body (xz fd s.heap.objs.size a)) (λh b=>R (.ok (.ret (match h with|.ret v=>v|_=>.none))) b)
    (λe b=>he (WF prog w) (A.deeper (xz fd s.heap.objs.size a)) (leaving (xz fd s.heap.objs.size a) e) (λ_ d=>R (.error e) d) (λi d=>R (.error i) d) b) f)
 (m:fd.scope.isCoroutine=J)(n:fd.scope.isGenerator=J)(u:fd.scope.kind=.function):
  Uf (WF prog w) A (.call (.ref a) g) R s:=by
 refine codeAny_call_function j k l m n p q (r _ _ _ _ ?_);rw[t];refine wpAny_newFunctionEnv_cells u y λa a b x=>?_;rw[a];rw[a]at x;exact⟨z.keeps x.toInCall.keep,codeAny_func (B b x)⟩
end
def KI:∀{n:W}{a:Y (lm×ii)},((x,õ)∈b∨∃c,(x,c)∈a)->∃c,(x,c)∈e? n b a:=by induction b with|nil=>exact λh=>h.elim (λh=>ch h cr) id|cons p r d=>intro n a h;have H:∀{f b},(∀c,_∈a->∃c,_∈b)->(_=p->∃c,_∈b)->∃c,_∈e? f r b:=λa b=>d (h.elim (λh=>(c?.mp h).elim (λe=>.inr (b e)) .inl) λh=>.inr (by obtain⟨c,h⟩:=h;exact a c h));induction p with|mk m k=>unfold e?;split;exact H (λc h=>⟨c,.tail _ h⟩) λe=>⟨n,by rw[show x=m from ah v6 e];exact .head _⟩;rename_i a;exact H (λc h=>⟨c,h⟩) λe=>ch (fZ.mpr ((ah Fk e).symm)) a
def F3(h:a.lookup x=O .cell):∃c,(e? n a []).lookup x=O c:=by obtain⟨_,a⟩:=KI (.inl (Sc h));exact mem_lookup a
structure í(g:fA)(B:bl)(f:ii)(params lv gv cv:ae)(o:xL)(fd:sw)(body:b9):Prop where
 at_:B f o
 data:o.data=.func fd
 A0:fd.body=.stmts body
 code:∀h,dq B h->h.CodeRec fd.code fd.qualname
 co:fd.scope.isCoroutine=J
 bD:fd.scope.isGenerator=J
 kind:fd.scope.kind=.function
 globals:fd.globals=lw
 builtins:fd.builtins=wp
 Z3:fd.closure=[]
 plain:gm fd.params
 names:fd.params.args.map (·.arg)=params.map g.nm
 nod:fd.defaults=.none
 lv:∀x,aq lv x->fd.scope.names.lookup (g.nm x)=O .local
 gv:∀x,aq gv x->fd.scope.names.lookup (g.nm x)=O .globalImplicit
 cv:∀x,aq cv x->fd.scope.names.lookup (g.nm x)=O .cell
def KJ(a:jM)(z:W)(v:V)(k:W):N V:=br (ac k z) (O v) (a k)
def Ž(G:cQ)(a:jM)(b:ae)(z:W)(v:V):cQ:={G with gl:=KJ G.gl z v,comp:=rP {G with gl:=KJ G.gl z v} (KJ a z v) b}
abbrev Cx.lg(c:Cx)(gi:jM)(cv:ae)(z:W)(v:V)(B':bl):Cx:={c with B:=B',G:=Ž c.G gi cv z v}
def å{P:Prop}(e:KJ a z v x=O u)(k:x=z->v=u->P)(l:a x=O u->P):P:=jg e (λh e=>k (aK h) (au e)) λ_=>l
def KF.bS{K:WP}(k:KF K g G B)(a:B.le b):KF K g G b:=⟨k.inj,k.bool,k.len,k.handed,k.Kc,k.Fv,k.Ti,k.Ad,λg h b v c d=>by obtain⟨w,e,f,i,j,m,n⟩:=k.const g h b v c d;exact⟨w,e,f,i,j,m.bS a,n⟩,k.Cf,k.Cg,k.Ci,k.KN,k.HC,k.Cj,k.Tj,λg h=>by obtain⟨o,i,e,f⟩:=k.Fw g h;exact⟨o,i,a _ _ e,f⟩,k.N3,k.G1,k.O1,k.Zu,k.N?,k.N!,k.N_,k.N',k.dT,k.dD,k.qs,k.ew,k.lE,k.E2,k.Tn,k.E1,by obtain⟨o,h⟩:=k.To;exact⟨o,a _ _ h⟩,k.Cm,λb e h=>by obtain⟨o,c,d⟩:=k.MO b e h;exact⟨o,a _ _ c,λp l=>d p λb c e=>l b c (a b c e)⟩,k.KX⟩
def iU.bS(x7:iU g B a)(b:B.le F):iU g F a:=λx v e=>by obtain⟨y,r,h⟩:=x7 x v e;have S:∀{h},dq F h->dq B h:=λa c o e=>a _ _ (b _ _ e);exact⟨y,r.bS b,h.imp (λz=>by obtain⟨b,c,d⟩:=z;exact⟨b,λh a=>c h (S a),d⟩) λz=>by obtain⟨b,e,c,d,f,g⟩:=z;exact⟨b,e,λh a=>c h (S a),d,λh a=>f h (S a),g⟩⟩
def fS.bS{run:af->aY->PG->dR}(h:fS g B A f b run)(c:B.le a):fS g a A f b run:=λa b d v f e p g i l x j=>h a b d v f e p g i l x λa o e=>j a o (c a o e)
section
variable{c:Cx}{p p0:Pt}{T:St}{R:PG}{v:V}{E:aT}{G:ae}{gi H:jM}{z:W}{a:ii}{P:bl}{o:xL}{w:bv}
def UA(b:c.OK)(g:kL c G gi H)(B:aq G z)(m:c.env.cells.lookup (c.g.nm z)=O a)(n:c.env.kindOf (c.g.nm z)=O .cell)(d:c.B.le P)(r:P a o)(s:o.data=.cell (O w))(t:Rd c.g P w v):(c.lg gi G z v P).OK/\kL (c.lg gi G z v P) G (KJ gi z v) H:=
 ⟨⟨(b.kf.bS d).chg,λy o e=>d _ _ (b.jB y o e),b.locals,b.kind,b.loc,λx u f e=>å e (λh i=>by
   rw[h,<-i];exact⟨w,t,λA Q E j q=>qd b.kind n m ⟨o,j _ _ r,s⟩ q⟩) λe=>by
   obtain⟨F,k,l⟩:=b.glob x u f e;exact⟨F,k.bS d,λA Q E j q=>l A Q E (λy p e=>j _ _ (d _ _ e)) q⟩,b.units,b.handled,b.bw,b.depth⟩,
 ⟨λx u f e=>å e (λh i=>by
   rw[h,<-i];exact⟨a,w,m,n,⟨o,r,s⟩,t⟩) λe=>by
   obtain⟨b,i,k,l,⟨j,m,n⟩,r⟩:=g.cell x u f e;exact⟨b,i,k,l,⟨j,d _ _ m,n⟩,r.bS d⟩,λx u f e=>å e (λh _=>ao (il f (h▸B))) (g.glob x u f),g.x7.bS d,g.X4,g.blt⟩⟩
def Cx.eV.lg(b:c.eV)(d:c.B.le P):(c.lg gi G z v P).eV:=⟨λm h e=>(b.av m h e).bS d,λf h=>(b.func f h).bS d,λk h=>(b.X9 k h).bS d⟩
def lQ{d:W->lm}(h:lF d (.cons x xs) b):∃e f,b=e::f/\XM d x e/\lF d xs f:=by induction b with|nil=>exact ao h|cons e b _=>exact ag (show(XM d x e&&lF d xs b)from h) λa d=>⟨e,b,Z,a,d⟩
def F5(h:c.OK)(s:kL c G gi H)(t:aq G z){e:Y ii}{u:eU}(i:c.env.cells.lookup (c.g.nm z)=O a)(j:c.env.kindOf (c.g.nm z)=O .cell)(f:a∉e)(g:∀b∈a::e,p0.h.get? b=C)(r:∀b∈e,∃o,p.h.get? b=O o)(L:BE c (a::e) p0 R p T)(k:p.h.IsCell a u)(x:Rd c.g p.F w v){Q:df->ge->Prop}
 (q:∀d,(∀b o,b≠a->p.h.get? b=O o->d.h.get? b=O o)->p.F.le d.F->(c.lg gi G z v d.F).OK->kL (c.lg gi G z v d.F) G (KJ gi z v) H->c.B.le d.F->BE (c.lg gi G z v d.F) e p0 R d T->Q () d.s):he (M' c) c.A (UF c.env (c.g.nm z) w) Q E p.s:=by
 refine wpAny_storeName_cell h.kind j i k λl d u=>?_;obtain⟨o,m,y⟩:=d;have k:∀b o,b≠a->p.h.get? b=O o->l.get? b=O o:=λb o n e=>(u.2 b n).trans e
 have u:=L.iter (n:=p.s.toks) (λb d=>eC.mp d▸.head _) g (λb o n=>k b o λq=>n (q▸.head _)) λb d=>(c?.mp d).elim (λq=>q▸⟨o,m⟩) λq=>by obtain⟨d,e⟩:=r b q;exact⟨d,k b d (λz=>f (z▸q)) e⟩
 have d:=u.C? f (g a gV) (m);have f:=UA h s t i j (λb o e=>.inl (L.rel.base b o e)) (p.F.hV _ _) y (x.bS (p.F.mr _ _));exact q {p.up l p.s.toks p.F p.ow with F:=p.F.add a o,ow:=bQ a C p.ow} k (p.F.mr _ _) f.1 f.2 (λb o e=>.inl (L.rel.base b o e)) ⟨⟨d.rel.pg,d.rel.kr,d.rel.loc,λ_ _=>id⟩,d.ext,d.ck⟩
end
def X1(G:cQ)(a b c:ae):cQ:={G with gl:=yd G.gl a,comp:=rP {G with gl:=yd G.gl a} (yd G.gl b) c}
abbrev F_(A:v2)(K:WP)(g:fA)(G:cQ)(lv:ae)(fd:sw)(f:ii)(B:bl)(L:ii):Cx:={A:=A.deeper (xz fd L f),env:=xz fd L f,K:=K,g:=g,G:=G,B:=B,L:=L,lv:=lv}
section
variable{A:v2}{K:WP}{g:fA}{G:cQ}{B:bl}{Q lv gv H P:ae}{o:xL}{fd:sw}{body:b9}{f:ii}{k:W}
def N6(a:í g B f Q lv gv P o fd body)(kf:KF K g G B)(d:∀b o,K.lookup b=O o->B b o)(x7:iU g B G.gl)(i:∀b,G.bw b->g.bw b)(c:ij (k+1) A)(L:ii):(F_ A K g (X1 G gv H P) lv fd f B L).OK where
 kf:=kf.chg
 jB:=d
 locals:=Z
 kind:=a.kind
 loc:=a.lv
 glob:=λx v _ e=>bW (e) λb e=>by obtain⟨y,r,h⟩:=AA x7 e (env:=xz fd L f) a.kind (a.gv x b) a.globals a.builtins;exact⟨y,r,h _ _⟩
 units:=fQ (fY _ (3*k)) (fQ (cZ (jI _ 100 _)) ((c.deeper (xz fd L f)).units|>λh=>(jI _ _ _)▸h))
 handled:=c.handled
 bw:=i
 depth:=fQ (fY _ k) (c.deeper (xz fd L f)).depth
def Iw(a:í g B f Q lv gv P o fd body)(x7:iU g B G.gl)(b:∀z,aq P z->aq H z=J)(L:ii):kL (F_ A K g (X1 G gv H P) lv fd f B L) P (yd G.gl H) G.gl where
 cell:=λz v c e=>bW e λh _=>ao (il (b z c) h)
 glob:=λz v _ e=>bW e λ_ e=>e
 x7:=x7
 X4:=a.globals
 blt:=a.builtins
def CO{p:Pt}{t:W}{m:lm->eU}(x:qO c.g p d)(l:pD p)(h:c.L=p.h.objs.size)(s:c.B.le p.F)(k:∀a o,p.h.get? a=O o->h0.get? a=O o)(i:h0.Ns p.h.objs.size m)(n:∀a∈pk,p.h.objs.size<a)(u:∀a∈pk,∃o,h0.get? a=O o)
 (r:∀b,b.F=p.F->∀x,Zs c b m x (aj x v)):∃b e,(∀a o,p.h.get? a=O o->b.get? a=O o)/\e.s={p.s with heap:=h0,toks:=t}/\e.F=p.F/\(∀a∈pk,b.get? a=C)/\BE c pk {(p.up b t p.F p.ow)with ow:=bQ p.h.objs.size (O .frame) p.ow} d e ⟨v,d⟩:=by
 obtain⟨oL,w,y,b,e,z⟩:=i;have i:=Obj.isFreed_of_dict e;have j:∀a∈pk,(p.h.push oL).get? a=C:=λa E=>jr (by rw[sM];exact n a E);have n:=λa o E=>(Heap.get?_push_cases E).elim (λq=>by rw[q.1,q.2];exact b) (k a o);have a:bC c {(p.up (p.h.push oL) t p.F p.ow)with ow:=bQ p.h.objs.size (O .frame) p.ow} ⟨v,d⟩:=⟨enter x l (gX _ i) λ_ _=>g9 _,by rw[h];exact dS,⟨m,by rw[h];exact⟨oL,w,y,gX _ i,e,z⟩,r _ Z⟩,s⟩;refine⟨p.h.push oL,_,λ_ _=>g9 _,?_,?_,j,oy.start (n:=t) a n j u⟩<;>rfl
def aav{t:W}(h:ot g F a [(t,v)]):∃w,a=[(g.nm t,w)]/\Rd g F w v:=by cases a with|nil=>exact ch h.1 (bN _ _).symm|cons b l=>(have a:b.1::l.map (·.1)=[g.nm t]:=h.1;injection a with a h2);refine⟨b.2,?_,(h.2)|>λz=>by obtain⟨w,q,r⟩:=cD.one z;injection q with q;exact(show b.2=w from q)▸r⟩;rw[vA.mp h2,<-a]
end
section
variable{c:Cx}{p p0:Pt}{h:St}{g:PG}{v:V}{E:aT}{x:W}{w:bv}
def oy.loc(d:c.OK){b:Y ii}(L:BE c b p0 g p h)(e:aq c.lv x)(f:Rd c.g p.F w v){Q:df->ge->Prop}(q:∀a,Ext (k6 c.G.ro) p h.pg a h.pg->BE c b p0 g a (aE h x (.val v))->Q () a.s):he (M' c) c.A (UF c.env (c.g.nm x) w) Q E p.s:=iT d L.rel e f λb a=>q b a.ext (L.step a.ext a.rel)
end
structure Gb where
 base:W->D
 old:W->D
 N7:W
 txt:ae
structure dy(g:Gb):Prop where
 pos:∀k,0<=g.base k
 le:g.base 0<=900
 lt:∀i j,i<j->j<g.N7->g.old i<g.old j
 Yk:∀j,j<g.N7->g.old j<g.base 2
 ti:g.base 5=g.base 2+g.base 6
 six:1<=g.base 6
def CP(g:Gb)(z:D)(p:Sy):=qt p mf (off:=λk n=>z=g.base k+n) (big:=λk n=>g.base k+n<=z) (nn:=0<=z) (le:=λm=>z<=m) (old:=λj=>j<g.N7/\z=g.old j)
def lS(p:ae):ae->Prop:=bm (motive:=λ_=>ae->Prop) (λs=>s=[]) (λc _ a s=>∃d t,s=d::t/\x9 c d/\a t) p
def CQ(g:Gb)(l:ae)(e:I):=0<=g.base 4/\g.base 4+l.length<=g.txt.length/\lS l ((g.txt.drop (g.base 4).toNat).take l.length)/\(e->(g.txt.length:D)=g.base 4+l.length)
def solid(v:V):I:=dP v U (cd:=λ_=>J) (sy:=λ_=>J) (bu:=λ_ _=>J) (ws:=λ_=>J) (ta:=J) (pa:=J)
section
variable(g:Gb)
variable(r:af->Prop)(w:V)
def UB:=∃l,w=.tup l/\r l
def ä:=∃l,w=.lst l/\r l
def ã(c:W)(r:aY->Prop)(w:V):=∃l,w=.obj c l/\r l
def KO(p:Sy)(w:V):=∃z,w=.int z/\CP g z p
def UC(l:ae)(e:I)(w:V):=w=.str g.txt/\CQ g l e
def â:=solid w=U
def N8(p:ae)(w:V):=∃s,w=.str s/\lS p s
def rQ{a:Type}(r:a->Prop)(k:Y a->Prop)(l:Y a):=∃b m,l=b::m/\r b/\k m
def AH(a:W)(r:V->Prop)(p:W×V):=p.1=a/\r p.2
def Ga(v:V):V->Prop:=V.rec (motive_1:=λ_=>V->Prop) (motive_2:=λ_=>af->Prop) (motive_3:=λ_=>aY->Prop) (motive_4:=λ_=>W×V->Prop) (·=.none) (λb w=>w=.bool b) (λi w=>w=.int i) (λs w=>w=.str s) (λ_=>UB) (λ_=>ä) (λc _=>ã c) (λc w=>w=.cls c) (λf w=>w=.fn f) (λb w=>w=.bi b) (λk w=>w=.cd k) (λm w=>w=.av m) (·=.par) (λ_=>Ch) (KO g) (UC g) â N8 (·=[]) (λ_ _=>rQ) (·=[]) (λ_ _=>rQ) (λa _=>AH a) v
def cu(v:af):af->Prop:=V.rec_1 (motive_1:=λ_=>V->Prop) (motive_2:=λ_=>af->Prop) (motive_3:=λ_=>aY->Prop) (motive_4:=λ_=>W×V->Prop) (·=.none) (λb w=>w=.bool b) (λi w=>w=.int i) (λs w=>w=.str s) (λ_=>UB) (λ_=>ä) (λc _=>ã c) (λc w=>w=.cls c) (λf w=>w=.fn f) (λb w=>w=.bi b) (λk w=>w=.cd k) (λm w=>w=.av m) (·=.par) (λ_=>Ch) (KO g) (UC g) â N8 (·=[]) (λ_ _=>rQ) (·=[]) (λ_ _=>rQ) (λa _=>AH a) v
def o4(v:aY):aY->Prop:=V.rec_2 (motive_1:=λ_=>V->Prop) (motive_2:=λ_=>af->Prop) (motive_3:=λ_=>aY->Prop) (motive_4:=λ_=>W×V->Prop) (·=.none) (λb w=>w=.bool b) (λi w=>w=.int i) (λs w=>w=.str s) (λ_=>UB) (λ_=>ä) (λc _=>ã c) (λc w=>w=.cls c) (λf w=>w=.fn f) (λb w=>w=.bi b) (λk w=>w=.cd k) (λm w=>w=.av m) (·=.par) (λ_=>Ch) (KO g) (UC g) â N8 (·=[]) (λ_ _=>rQ) (·=[]) (λ_ _=>rQ) (λa _=>AH a) v
def pY{a:Type}(v:Y (a×V)):Y (a×V)->Prop:=bm (motive:=λ_=>Y (a×V)->Prop) (·=[]) (λp _ a=>rQ (λq=>q.1=p.1/\Ga g p.2 q.2) a) v
end
def RO{a b:Type}(R:a->b->Prop)(o:N a)(c:N b):=∀a,o=O a->∃b,c=O b/\R a b
def m7{a b:Type}(R:a->b->Prop)(o:N a)(c:N b):=(o=C/\c=C)∨∃a b,o=O a/\c=O b/\R a b
def LQ{a c b d:Type}(R:a->c->Prop)(T:b->d->Prop)(p:a×b)(q:c×d):=R p.1 q.1/\T p.2 q.2
section
variable{z E A B F G:Type}{R:z->E->Prop}{S:A->B->Prop}{T:F->G->Prop}{o:N z}{t:N E}{a:z}{b:E}
def RO.no:RO R (C:N z) t:=λ_ e=>aa e
def RO.so(h:R a b):RO R (O a) (O b):=λ_ e=>⟨b,Z,au e▸h⟩
def RO.to(h:RO R o t)(e:o=O a):∃b,t=O b/\R a b:=h a e
def m7.ro(h:m7 R o t):RO R o t:=λa e=>h.elim (λq=>aa (il q.1 e)) λq=>by obtain⟨x,y,c,d,f⟩:=q;exact⟨y,d,au (il c e)▸f⟩
def m7.no:m7 R C C:=.inl ⟨Z,Z⟩
def m7.so(h:R a b):m7 R (O a) (O b):=.inr ⟨a,b,Z,Z,h⟩
def RO.bn{f:z->N A}{c:E->N B}(h:RO R o t)(k:∀a b,R a b->RO S (f a) (c b)):RO S (Ev.bn o f) (Ev.bn t c):=λc e=>bL e λa d e=>by obtain⟨b,f,g⟩:=h a d;rw[f];exact k a b g c e
def RO.mp{f:z->A}{c:E->B}(h:RO R o t)(k:∀a b,R a b->S (f a) (c b)):RO S (Ev.mp o f) (Ev.mp t c):=λc e=>iH e λa c d=>by obtain⟨b,e,f⟩:=h a c;rw[e];exact⟨_,Z,d▸k a b f⟩
def RO.ax{o:N (z×A)}{t:N (E×B)}{f:z->A->N F}{e:E->B->N G}(h:RO (LQ R S) o t)(k:∀a b c d,R a b->S c d->RO T (f a c) (e b d)):RO T (Ev.ax o f) (Ev.ax t e):=λe d=>aQ d λa c f g=>by obtain⟨q,i,d⟩:=h _ f;rw[i];exact k a q.1 c q.2 d.1 d.2 e g
def RO.gd{x:I}{o:N z}{t:N E}(k:x->RO R o t):RO R (Ev.gd x o) (Ev.gd x t):=λa e=>bW e λh e=>by rw[h];exact k h a e
def RO.LL{x y:I}(q:x->y)(k:x->RO R o t):RO R (Ev.gd x o) (Ev.gd y t):=λa e=>bW e λh e=>by rw[q h];exact k h a e
def RO.br{x:I}{p:N z}(k:x->RO R o t)(l:x=J->RO R p c):RO R (Ev.br x o p) (Ev.br x t c):=by induction x with|true=>exact k Z|false=>exact l Z
def RO.oc{p:N A}{f:z->N A}{c:E->N B}(h:m7 R o t)(k:∀a b,R a b->RO S (f a) (c b))(l:RO S p d):RO S (Ev.oc o f p) (Ev.oc t c d):=h.elim (λq=>by rw[q.1,q.2];exact l) λq=>by obtain⟨a,b,c,d,e⟩:=q;rw[c,d];exact k a b e
def RO.bS{c:z->E->Prop}(h:RO R o t)(k:∀a b,R a b->c a b):RO c o t:=λa e=>by obtain⟨b,c,d⟩:=h a e;exact⟨b,c,k _ _ d⟩
def RO.e1{o t:N z}{f:z->N A}{c:z->N B}(h:RO (·=·) o t)(k:∀a,RO S (f a) (c a)):RO S (Ev.bn o f) (Ev.bn t c):=h.bn λa b(e)=>e▸k a
def RO.m1{o t:N z}{f:z->A}{c:z->B}(h:RO (·=·) o t)(k:∀a,S (f a) (c a)):RO S (Ev.mp o f) (Ev.mp t c):=h.mp λa b(e)=>e▸k a
def RO.KQ{o:N z}:RO (·=·) o o:=λa e=>⟨a,e,Z⟩
variable{g:Gb}{v w x y:V}{vs ws xs ys:af}{H L:aY}{n:W}
def cu.un(h:cu g (v::vs) ws):rQ (Ga g v) (cu g vs) ws:=h
def cu.mk(h:Ga g v w)(k:cu g vs ws):cu g (v::vs) (w::ws):=⟨w,ws,Z,h,k⟩
def o4.un{p:W×V}(h:o4 g (p::H) L):rQ (AH p.1 (Ga g p.2)) (o4 g H) L:=h
def o4.mk{a:W}(h:Ga g v w)(k:o4 g H L):o4 g ((a,v)::H) ((a,w)::L):=⟨_,_,Z,⟨Z,h⟩,k⟩
def m8{y:N A}{f:V->af->N A}{d:V->af->N B}(h:cu g vs ws)(k:RO S y c)(j:∀a b l m,Ga g a b->cu g l m->RO S (f a l) (d b m)):RO S (Ev.lc vs y f) (Ev.lc ws c d):=by induction vs with|nil=>rw[show ws=[]from h];exact k|cons v vs _=>obtain⟨b,m,e,c,d⟩:=h.un;rw[e];exact j v b vs m c d
def N9{y:N A}{f:W×V->aY->N A}{d:W×V->aY->N B}(h:o4 g H L)(k:RO S y c)(j:∀a b l m,AH a.1 (Ga g a.2) b->o4 g l m->RO S (f a l) (d b m)):RO S (Ev.lc H y f) (Ev.lc L c d):=by induction H with|nil=>rw[show L=[]from h];exact k|cons v vs _=>obtain⟨b,m,e,c,d⟩:=h.un;rw[e];exact j v b vs m c d
def tj{f:V->N A}{c:V->N B}(h:cu g vs ws)(k:∀a b,Ga g a b->RO S (f a) (c b)):RO S (one vs f) (one ws c):=m8 h .no λa b _ _ q h=>m8 h (k a b q) λ_ _ _ _ _ _=>.no
def xc{f:V->V->N A}{e:V->V->N B}(h:cu g vs ws)(k:∀a b c d,Ga g a b->Ga g c d->RO S (f a c) (e b d)):RO S (two vs f) (two ws e):=m8 h .no λa b _ _ q h=>tj h λc d=>k a b c d q
def cu.len(h:cu g vs ws):vs.length=ws.length:=by induction vs generalizing ws with|nil=>rw[show ws=[]from h]|cons v vs c=>obtain⟨b,m,e,_,h⟩:=h.un;rw[e];exact ah pm (c h)
def cu.ak(h:cu g vs ws):Ev.ak vs=Ev.ak ws:=by rw[aB,aB,h.len]
def cu.empty(h:cu g vs ws):vs.isEmpty=ws.isEmpty:=lK h.len
def cu.U_(h:cu g vs ws):RO (Ga g) (jj vs n) (jj ws n):=by induction vs generalizing ws n with|nil=>exact .no|cons v vs c=>obtain⟨b,m,e,d,h⟩:=h.un;rw[e];induction n with|zero=>exact .so d|succ n _=>exact c h
def cu.app(h:cu g vs ws)(k:cu g xs ys):cu g (vs++xs) (ws++ys):=by induction vs generalizing ws with|nil=>rw[show ws=[]from h];exact k|cons v vs c=>obtain⟨b,m,e,d,h⟩:=h.un;rw[e];exact .mk d (c h)
def cu.take(h:cu g vs ws):cu g (vs.take n) (ws.take n):=by induction vs generalizing ws n with|nil=>rw[show ws=[]from h,sJ];exact Z|cons v vs c=>obtain⟨b,m,e,d,h⟩:=h.un;rw[e];induction n with|zero=>exact Z|succ n _=>exact .mk d (c h)
def cu.drop(h:cu g vs ws):cu g (vs.drop n) (ws.drop n):=by induction vs generalizing ws n with|nil=>rw[show ws=[]from h,zU];exact Z|cons v vs c=>obtain⟨b,m,e,f,d⟩:=h.un;induction n with|zero=>exact h|succ n _=>rw[e];exact c d
def cu.last(h:cu g vs ws):RO (Ga g) vs.getLast? ws.getLast?:=by induction vs generalizing ws with|nil=>exact .no|cons v vs d=>obtain⟨b,m,e,c,h⟩:=h.un;rw[e];induction vs with|nil=>rw[show m=[]from h];exact .so c|cons u us _=> obtain⟨c,c,c,e,e⟩:=h.un;rw[c,ha,ha,<-c];exact d h
def cu.dropLast(h:cu g vs ws):cu g vs.dropLast ws.dropLast:=by rw[Hn,Hn,h.len];exact h.take
def o4.lk(a:W)(h:o4 g H L):m7 (Ga g) (aj a H) (aj a L):=by induction H generalizing L with|nil=>rw[show L=[]from h];exact .no|cons p H c=>obtain⟨b,m,e,⟨d,f⟩,h⟩:=h.un;rw[e];show m7 _ (Ev.br _ _ _) (Ev.br _ _ _);rw[d];cases ac p.1 a with|true=>exact .so f|false=>exact c h
def cp{P:Prop}{x y:I}(h:Ev.br x y J=U)(k:x->y->P):P:=by induction x with|true=>exact k Z h|false=>exact ao h
local macro_rules | `(tactic| trivial) => `(tactic| first | exact fun _ => RO.no | exact fun _ _ => RO.no | exact fun _ _ _ => RO.no)
def Ga.as(e:v=x)(h:Ga g v w):Ga g x w:=e▸h
def uT(h:Ga g v w):RO (·=·) (gb v) (gb w):=λi e=>⟨i,(h.as (wj e))▸Z,Z⟩
def Iy(h:Ga g v w):RO (·=·) (gH v) (gH w):=λi e=>⟨i,(h.as (Ke e))▸Z,Z⟩
def xd(h:Ga g v w):RO (·=·) (asNat v) (asNat w):=λi e=>⟨i,(h.as (rD e))▸Z,Z⟩
def xe(h:Ga g v w):RO (·=·) (dW v) (dW w):=λi e=>⟨i,(h.as (gj e))▸Z,Z⟩
def ahD(h:Ga g v w):RO (·=·) (vH v) (vH w):=λi e=>⟨i,(h.as (Co e))▸Z,Z⟩
def pBi(h:Ga g v w):RO (·=·) (sQ v) (sQ w):=λi e=>⟨i,(h.as (oX e))▸Z,Z⟩
def ż(h:Ga g v w):RO (cu g) (uj v) (uj w):=λi e=>by obtain⟨l,q,r⟩:=(h.as (oj e));exact⟨l,q▸Z,r⟩
def UD(h:Ga g v w):RO (cu g) (ja v) (ja w):=λi e=>by obtain⟨l,q,r⟩:=(h.as (rB e));exact⟨l,q▸Z,r⟩
def ahE:Ga g v w->RO (cu g) (vG v) (vG w):=Vc (M:=λv=>Ga g v w->RO _ _ _) v (tu:=λl h=>by obtain⟨l,q,r⟩:=h;exact q▸.so r) (ls:=λl h=>by obtain⟨l,q,r⟩:=h;exact q▸.so r)
def jX:Ga g v w->RO (·=·) (eQ v) (eQ w):=Vc (M:=λv=>Ga g v w->RO _ _ _) v (no:=λh=>by rw[show w=.none from h];exact .so Z) (bo:=λb h=>by rw[show w=.bool b from h];exact .so Z) (i:=λb h=>by rw[show w=.int b from h];exact .so Z) (s:=λb h=>by rw[show w=.str b from h];exact .so Z) (tu:=λl h=>by obtain⟨l,q,r⟩:=h;exact q▸.so (ah (!·) (cu.empty r))) (ls:=λl h=>by obtain⟨l,q,r⟩:=h;exact q▸.so (ah (!·) (cu.empty r))) (ob:=λc f h=>by obtain⟨l,q,r⟩:=h;rw[q];exact .so Z) (me:=λb h=>by rw[show w=.av b from h];exact .so Z)
end
section
def LS(v:V):I:=dP v J (no:=U) (bo:=λ_=>U) (i:=λ_=>U) (s:=λ_=>U) (cl:=λ_=>U) (fn:=λ_=>U) (bi:=λ_=>U) (cd:=λ_=>U) (me:=λ_=>U) (tu:=λl=>l.isEmpty)
def u_{a:Type}(l:Y (a×V)):I:=aI (λp=>LS p.2) l
variable{g:Gb}{v w:V}{vs ws:af}
def tp:LS v->Ga g v v:=Vc (M:=λv=>LS v=U->Ga g v v) v (no:=λ_=>Z) (bo:=λ_ _=>Z) (i:=λ_ _=>Z) (s:=λ_ _=>Z) (cl:=λ_ _=>Z) (fn:=λ_ _=>Z) (bi:=λ_ _=>Z) (cd:=λ_ _=>Z) (me:=λ_ _=>Z) (tu:=λl h=>⟨l,Z,(cO.mp h).symm▸Z⟩)
def all_eq{f:V->I}(a:∀{v w},f v->Ga g v w->w=v)(h:aI f vs=U)(k:cu g vs ws):ws=vs:=by induction vs generalizing ws with|nil=>exact k|cons v vs i=>exact cp h λb c=>by obtain⟨d,m,e,d,f⟩:=k.un;rw[e,a b d,i c f]
def tq(n:W):∀{v w:V},dat n v->Ga g v w->w=v:=by induction n with|zero=>exact λ{v w}=>Vc (M:=λv=>dat 0 v=U->Ga g v w->w=v) v (no:=λ_ h=>h) (bo:=λ_ _ h=>h) (i:=λ_ _ h=>h) (s:=λ_ _ h=>h)|succ n a=>exact λ{v w}=>Vc (M:=λv=>dat (n+1) v=U->Ga g v w->w=v) v (no:=λ_ h=>h) (bo:=λ_ _ h=>h) (i:=λ_ _ h=>h) (s:=λ_ _ h=>h) (tu:=λl d h=>by obtain⟨m,q,r⟩:=h;rw[q,all_eq a d r]) (ls:=λl d h=>by obtain⟨m,q,r⟩:=h;rw[q,all_eq a d r])
end
def F6(a:ut)(x y:D):fP:=six a (O (a? (x=y))) (O (!a? (x=y))) (O (a? (x<y))) (O (a? (x<=y))) (O (a? (y<x))) (O (a? (y<=x)))
section
variable{u:ut}{c:I}{x y:D}{a1 a2 a3 v w A b1 b2 b3 B E F:fP}
def mG(a:∀c,a1=O c->b1=O c)(b:∀c,a2=O c->b2=O c)(d:∀c,a3=O c->b3=O c)(e:∀c,v=O c->B=O c)(f:∀c,w=O c->E=O c)(g:∀c,A=O c->F=O c)(h:six u a1 a2 a3 v w A=O c):six u b1 b2 b3 B E F=O c:=pu u (a c) (b c) (d c) (e c) (f c) (g c) aa aa aa aa h
def tw(c:I)(e:(C:fP)=O c):b=O c:=aa e
def LU{b d:I}(h:d=b)(c:I)(e:O b=O c):O d=O c:=h▸e
def AI:kC u (.int x) (.int y)=F6 u x y:=by cases u<;>rfl
def á(h:x<y)(e:six u (O J) (O U) (O U) C (O J) C=O c):F6 u x y=O c:=mG (LU (dQ (C1 h))) (LU (ah (!·) (dQ (C1 h)))) (LU (cF h)) tw (LU (dQ (C3 h))) tw e
def UE(h:y<x)(e:six u (O J) (O U) (O J) C (O U) C=O c):F6 u x y=O c:=mG (LU (dQ (C2 h))) (LU (ah (!·) (dQ (C2 h)))) (LU (dQ (C3 h))) tw (LU (cF h)) tw e
def D2(e:six u a1 a2 a3 C C C=O c):six u a1 a2 a3 C d C=O c:=mG (λ_=>id) (λ_=>id) (λ_=>id) tw tw tw e
def blt_iff{i:W}:jp i j=a? (i<j):=by cases h:jp i j with|true=>exact(cF (cw h)).symm|false=>exact(dQ λq=>ao (il h (g8 q))).symm
def oB{P:Prop}(h:ac a b)(k:a=b->P):P:=k (aK h)
variable{g:Gb}{p q:Sy}{k:W}
def aaA(a:dy g)(h:Mi k):g.base 2<=g.base k:=by unfold Mi at h;cases q:ac k 2 with|true=>exact oB q λe=>e▸pJ _|false=> rw[dw q]at h;exact oB h λe=>by rw[e,a.ti];exact uf (gM (aO Z) a.six)
def ahF(d:dy g){a b:D}(h:b<=a):g.base 2+b<g.base 5+a:=by rw[d.ti,ej];exact EK (FS h (Int.lt_add_of_pos_left a (ui (aO Z) d.six))) _
def ahG(d:dy g){a b:D}(h:b<=a+1):g.base 2+b<=g.base 5+a:=by rw[d.ti,ej];exact yJ (gM h (nO a 1▸lB d.six a)) _
def Ż(f:dy g){a b:D}{x y:D}(d:x=g.base 2+a)(e:y=g.base 5+b)(h:a<=b):x<y:=by rw[d,e];exact ahF f h
def ź(b:dy g){j:W}{a:D}(h:j<g.N7)(d:Mi k)(e:a? (0<=a)):g.old j<g.base k+a:=ui (b.Yk j h) (gM (aaA b d) (uf (aO e)))
def Ś(b:dy g){m a:D}(h:a? (m<a)):m<g.base k+a:=ui (aO h) (gg (b.pos k))
def UG(i:dy g):CP g x p->CP g y q->ad5 u p q=O c->F6 u x y=O c:=by refine Sy.casesOn p (λk a b=>?_) (λk d b=>?_) gJ kE (λm b=>?_);have b:=b;refine Sy.casesOn q (λn o a e=>?_) (λn d a e=>bW e λf e=>bW e λd e=>oB f λf=>?_) bX gJ λj a e=>bW e λf e=>bW e λd e=>?_;have a:=a;refine jg e (λh e=>oB h λh=>?_) λ_ e=>jg e (λh e=>oB h λh=>bW e λd e=>oB d λd=>jg e (λl e=>?_) λ_ e=>bW e λl e=>?_) λ_ e=>bW e λh e=>bW e λd e=>bW e λl e=>oB h λh=>oB d λd=>?_;rw[b,a,<-h];unfold F6;rw[BP.mpr (Int.add_right_inj _),BP.mpr (hv _),BP.mpr (hA _),BP.mpr (hv _),BP.mpr (hA _)];exact e;rw[h]at b;rw[d]at a;exact UE (Ż i a b (aO l)) (D2 e);rw[h]at b;rw[d]at a;exact mG tw tw (LU (dQ (qX.mpr (by rw[b,a];exact ahG i (aO l))))) tw tw tw e;rw[h]at b;rw[d]at a;exact á (Ż i b a (aO l)) (D2 e);have a:=a;exact mG tw tw tw tw tw (LU (dQ (sO.mpr (ui (by rw[b,f];exact EK (aO d) _) a)))) e;have a:=a;exact UE (by rw[b,a.2];exact ź i a.1 f d) (D2 e);have b:=b;refine Sy.casesOn q (λn o a e=>bW e λf e=>bW e λd e=>oB f λf=>?_) kE bX gJ λ_ _=>aa;rw[f]at b;exact UE (by rw[a];exact ui (EK (aO d) _) b) (D2 e);have b:=b;refine Sy.casesOn q (λn o a e=>bW e λf e=>bW e λd e=>?_) kE bX gJ λj a e=>?_;have a:=a;exact á (by rw[a,b.2];exact ź i b.1 f d) (D2 e);have a:=a;refine mG tw tw (LU ?_) tw tw tw e;rw[blt_iff,b.2,a.2];by_cases h:m<j;rw[cF h,cF (i.lt m j h a.1)];rw[dQ h];refine dQ λq=>?_;by_cases z:m=j;rw[z]at q;exact FM _ q;have:=i.lt j m (Nat.lt_of_le_of_ne (p5 h) (Ne.symm z)) b.1;exact FM _ (h! q this)
def Oa(b:dy g){m:D}:CP g x p->XE u p m=O c->F6 u x m=O c:=by refine Sy.casesOn p (λk a a e=>bW e λh e=>?_) kE bX (λn a e=>bW e λh e=>?_) λ_ _=>aa;have a:=a;exact UE (a▸Ś b h) e;have a:=a;exact mG tw tw tw tw (LU (dQ (qX.mpr (gM a (aO h))))) tw e
def Ob(b:dy g){m:D}:CP g x p->XF u m p=O c->F6 u m x=O c:=by refine Sy.casesOn p (λk a a e=>bW e λh e=>?_) kE bX (λn a=>aa) λ_ _=>aa;exact á (a▸Ś b h) e
def Oc{p:ae}:∀{t s:ae},lS p t->Mj p s->cW t s=J:=by induction p with|nil=>(intro t s h e;rw[show t=[]from h];induction s with|nil=>exact ao e|cons d s _=>rfl)|cons c p a=>intro t s h e;obtain⟨d,j,q,b,f⟩:=h;rw[q];induction s with|nil=>rfl|cons i s _=>show br _ _ J=J;cases h:ac d i with|false=>rfl|true=> refine a f ?_;have e:br _ _ U=U:=e;rw[<-aK h,b]at e;exact e
def Od{c:W}{l:ae}(h:uG c l):c∈l:=by induction l with|nil=>exact ao h|cons d l a=>have h:br _ U _=U:=h;cases z:ac d c with|true=>exact aK z▸.head _|false=>rw[z]at h;exact .tail _ (a h)
def aaB{p t s:ae}{c:I}(h:lS p t)(e:W! p s=O c):z0 (.str t) (.str s)=O c:=mX e λf r d e=>by rw[d]at h;obtain⟨d,j,q,b,d⟩:=h;refine lb e λl e=>bW e λa e=>?_;rw[l]at d;rw[q,show j=[]from d];(have i:=by cases z:bd anyS f with|false=>(have:Zg f=[]:=by(have d:∀n,anyS<n->ac f n=J:=λn a=>jU λq=>by rw[q,g8 (jJ a)]at z;exact ao z.symm);unfold Zg;rw[d _ (aO Z),d _ (aO Z),d _ (aO Z),d _ (aO Z),d _ (aO Z)];rfl);rw[this]at a;exact ao a|true=>have b:br _ _ _=U:=b;rw[z]at b;cases y:ac f anyS with|true=>rw[aK y]at a;exact ao a|false=>rw[y]at b;exact Od b);show O _=O c;refine jg e (λh e=>?_) λ_ e=>bW e λh e=>?_;rw[<-au e,ai h i];have z:=ai h i;rw[<-au e,(im _).mp z]
end
local macro_rules | `(tactic| trivial) => `(tactic| first | exact fun _ => RO.no | exact fun _ _ => RO.no | exact fun _ _ _ => RO.no | exact fun _ => aa | exact fun _ _ => aa | exact fun _ _ _ => aa)
section
variable{u A:Type}{S:u->A->Prop}{g:Gb}{a b a' b' v w:V}{ys B:af}{o:N u}{j:ut}{c:I}
def J?{f:V->N A}(e:w=v)(h:RO S o (f v)):RO S o (f w):=e▸h
def AJ{s:ae}(h:Ga g a a')(e:dW a=O s):a'=a:=(show a'=.str s from h.as (gj e)).trans (gj e).symm
variable(E:Ga g a a')
def aaC(d:Ga g b b')(e:Zf a b=O c):a'=a/\b'=b:=have S:L3 a b=O c->a'=a/\b'=b:=λe=>have z:=FA e;⟨tq 30 z.1 E,tq 30 z.2 d⟩;ma e (λx f e=>ma e (λy e _=>⟨AJ E f,AJ d e⟩) λ_=>S) λ_=>S
def aaD(f:cu g ys B)(e:inD a ys=O c):a'=a/\B=ys:=ma e (λx d e=>bL d λs h d=>⟨AJ E h,all_eq (tq 29) (FC d).1 f⟩) λ_ e=>bW e λd e=>bW e λh e=>⟨tq 30 d E,all_eq (tq 29) h f⟩
def Oe(d:Ga g b b'):RO (·=·) (Zf a b) (Zf a' b'):=λc e=>have z:=aaC E d e;⟨c,by rw[z.1,z.2];exact e,Z⟩
def aaE:Ga g a a'->RO (·=·) (uX a .none) (uX a' .none):=have k:∀{x o},a'=x->RO (·=·) o (uX x .none)->RO (·=·) o (uX a' .none):=λe h=>e▸h;Vc (M:=λa=>Ga g a a'->RO (·=·) (uX a .none) (uX a' .none)) a (no:=λh=>k h (.so Z)) (bo:=λb h=>k h (.so Z)) (i:=λb h=>k h (.so Z)) (s:=λb h=>k h (.so Z)) (tu:=λl h=>by obtain⟨l,q,_⟩:=h;exact k q (.so Z)) (ls:=λl h=>by obtain⟨l,q,_⟩:=h;exact k q (.so Z)) (ob:=λc l h=>by obtain⟨l,q,_⟩:=h;exact k q (.so Z)) (cl:=λb h=>k h (.so Z)) (fn:=λb h=>k h (.so Z)) (cd:=λb h=>k h (.so Z)) (me:=λb h=>k h (.so Z)) (pa:=λh=>k h (.so Z)) (ta:=λh=>pp h) (sy:=λp h=>by obtain⟨z,q,_⟩:=h;exact k q (.so Z)) (bu:=λl e h=>k h.1 (.so Z)) (ws:=λl h=>by obtain⟨z,q,_⟩:=h;exact k q (.so Z))
def aaF{x:I}:Ga g a a'->RO (·=·) (uX a (.bool x)) (uX a' (.bool x)):=have k:∀{y o},a'=y->RO (·=·) o (uX y (.bool x))->RO (·=·) o (uX a' (.bool x)):=λe h=>e▸h;Vc (M:=λa=>Ga g a a'->RO (·=·) (uX a (.bool x)) (uX a' (.bool x))) a (no:=λh=>k h (.so Z)) (bo:=λb h=>k h (.so Z)) (i:=λb h=>k h (.so Z)) (s:=λb h=>k h (.so Z)) (tu:=λl h=>by obtain⟨l,q,_⟩:=h;exact k q (.so Z))
def Of:Ga g b b'->RO (·=·) (uX a b) (uX a' b'):=Vc (M:=λb=>Ga g b b'->RO (·=·) (uX a b) (uX a' b')) b (no:=λh=>J? h (aaE E)) (bo:=λx h=>J? h (aaF E))
def u9{fi:D->D->I}{d:ae->ae->I}(e:Ga g b b'):Ga g a a'->RO (·=·) (uH a b fi d) (uH a' b' fi d):=Vc (M:=λa=>Ga g a a'->RO (·=·) (uH a b fi d) (uH a' b' fi d)) a (i:=λx h=>J? (f:=λa'=>uH a' b' fi d) h ((uT e).m1 λ_=>Z)) (s:=λx h=>J? (f:=λa'=>uH a' b' fi d) h ((xe e).m1 λ_=>Z))
def Og(d:Ga g b b'):RO (·=·) (z0 a b) (z0 a' b'):=λc e=>ma e (λy f _=>by
  have q:=gj f;rw[AJ d f,q];rw[q]at e;have z:RO (·=·) (bn (dW a) λx=>lc x C λc r=>lc r (O (uG c y)) λ_ _=>C) (bn (dW a') λx=>lc x C λc r=>lc r (O (uG c y)) λ_ _=>C):=(xe E).e1 λ_=>.KQ;exact z c e) λf e=>bL e λl f e=>by
  obtain⟨m,q,r⟩:=(d.as (oj f):UB (cu g l) b');have z:=aaD E r e;exact⟨c,by rw[q,z.1,z.2];exact e,Z⟩
def F7{o:fP}(h:RO (·=·) o d):RO (·=·) (mp o (!·)) (mp d (!·)):=h.m1 λ_=>Z
def Oh(d:Ga g b b'):RO (·=·) (kC j a b) (kC j a' b'):=pu (motive:=λj=>RO (·=·) (kC j a b) (kC j a' b')) j (Oe E d) (F7 (Oe E d)) (u9 d E) (u9 d E) (u9 d E) (u9 d E) (Of E d) (F7 (Of E d)) (Og E d) (F7 (Og E d))
def known:Ga g a w->iI w=C/\mV w=C/\mU w=C:=by have k:∀{v},w=v->(iI v=C/\mV v=C/\mU v=C)->iI w=C/\mV w=C/\mU w=C:=λe h=>e▸h;exact V.casesOn (motive_1:=λa=>Ga g a w->iI w=C/\mV w=C/\mU w=C) a (λh=>k h ⟨Z,Z,Z⟩) (λ_ h=>k h ⟨Z,Z,Z⟩) (λ_ h=>k h ⟨Z,Z,Z⟩) (λ_ h=>k h ⟨Z,Z,Z⟩) (λ_ h=>by obtain⟨l,q,_⟩:=h;exact k q ⟨Z,Z,Z⟩) (λ_ h=>by obtain⟨l,q,_⟩:=h;exact k q ⟨Z,Z,Z⟩) (λ_ _ h=>by obtain⟨l,q,_⟩:=h;exact k q ⟨Z,Z,Z⟩) (λ_ h=>k h ⟨Z,Z,Z⟩) (λ_ h=>k h ⟨Z,Z,Z⟩) (λ_ h=>k h ⟨Z,Z,Z⟩) (λ_ h=>k h ⟨Z,Z,Z⟩) (λ_ h=>k h ⟨Z,Z,Z⟩) (λh=>k h ⟨Z,Z,Z⟩) pp (λ_ h=>by obtain⟨l,q,_⟩:=h;exact k q ⟨Z,Z,Z⟩) (λ_ _ h=>k h.1 ⟨Z,Z,Z⟩) (λh=>V.casesOn (motive_1:=λw=>solid w=U->iI w=C/\mV w=C/\mU w=C) w (λ_=>⟨Z,Z,Z⟩) (λ_ _=>⟨Z,Z,Z⟩) (λ_ _=>⟨Z,Z,Z⟩) (λ_ _=>⟨Z,Z,Z⟩) (λ_ _=>⟨Z,Z,Z⟩) (λ_ _=>⟨Z,Z,Z⟩) (λ_ _ _=>⟨Z,Z,Z⟩) (λ_ _=>⟨Z,Z,Z⟩) (λ_ _=>⟨Z,Z,Z⟩) (λ_ _=>⟨Z,Z,Z⟩) (λ_ _=>⟨Z,Z,Z⟩) (λ_ _=>⟨Z,Z,Z⟩) (λ_=>⟨Z,Z,Z⟩) (λ_=>⟨Z,Z,Z⟩) aV iw (λ_=>⟨Z,Z,Z⟩) aV h) λ_ h=>by obtain⟨l,q,_⟩:=h;exact k q ⟨Z,Z,Z⟩
def CS{p:Sy}:iI v=O p->v=.sym p:=Vc (M:=λv=>iI v=O p->v=.sym p) v (no:=aa) (sy:=λ_ h=>ah V.sym (au h)) (un:=aa) (pa:=aa) (ta:=aa)
def Oi{p:ae}:mV v=O p->v=.Zc p:=Vc (M:=λv=>mV v=O p->v=.Zc p) v (no:=aa) (ws:=λ_ h=>ah V.Zc (au h)) (un:=aa) (pa:=aa) (ta:=aa)
def CU{p:ae×I}:mU v=O p->v=.buf p.1 p.2:=Vc (M:=λv=>mU v=O p->v=.buf p.1 p.2) v (no:=aa) (bu:=λ_ _ h=>(au h)▸Z) (un:=aa) (pa:=aa) (ta:=aa)
def Iz{p:Sy}(h:Ga g a a')(e:iI a=O p):KO g p a':=h.as (CS e)
def UH(f:dy g)(E:Ga g a a'):Ga g b b'->BQ j a b=O c->kC j a' b'=O c:=by refine Vc (M:=λb=>Ga g b b'->BQ j a b=O c->kC j a' b'=O c) b (i:=λm h e=>bL e λp d e=>?_) (s:=λs h e=>bL e λp d e=>?_) (sy:=λq h=>?_);obtain⟨z,q,r⟩:=Iz E d;rw[q,show b'=.int m from h,AI];exact Oa f r e;obtain⟨t,q,r⟩:=(E.as (Oi d):N8 p a');rw[q,show b'=.str s from h];have n:=λd=>Oc (s:=s) r d;have w:=λc e=>aaB (s:=s) (c:=c) r e;exact pu (motive:=λj=>ad6 j p s=O c->kC j (.str t) (.str s)=O c) j (λe=>bW e λd e=>(ah O (n d):kC .Eq (.str t) (.str s)=O J).trans e) (λe=>bW e λd e=>(ah (λb=>O (!b)) (n d):kC .NotEq (.str t) (.str s)=O U).trans e) aa aa aa aa aa aa (λe=>w c e) (λe=>iH e λb d e=>(ah (mp · (!·)) (w b d):kC .NotIn (.str t) (.str s)=O !b).trans (ah O e)) e;obtain⟨y,d,r⟩:=(h:KO g q b');rw[d];refine(Vc (M:=λa=>Ga g a a'->BQ j a (.sym q)=O c->kC j a' (.int y)=O c) a (no:=λh e=>?_) (i:=λm h e=>?_) (sy:=λp h e=>?_)) E;rw[show a'=.none from h];exact pu (motive:=λj=>six j (O J) (O U) C C C C=O c->kC j .none (.int y)=O c) j id id aa aa aa aa aa aa aa aa e;rw[show a'=.int m from h,AI];exact Ob f r e;obtain⟨x,d,i⟩:=(h:KO g p a');rw[d,AI];exact UG f i r e
def UI(E:Ga g v a)(e:Ga g w b):BQ j a b=C:=by have d:=known E;have f:=(known e).1;exact Vc (M:=λb=>iI b=C->BQ j a b=C) b (no:=λ_=>Z) (bo:=λ_ _=>Z) (i:=λm _=>by show bn (iI a) _=C;rw[d.1];rfl) (s:=λm _=>by show bn (mV a) _=C;rw[d.2];rfl) (tu:=λ_ _=>Z) (ls:=λ_ _=>Z) (ob:=λ_ _ _=>Z) (cl:=λ_ _=>Z) (fn:=λ_ _=>Z) (bi:=λ_ _=>Z) (cd:=λ_ _=>Z) (me:=λ_ _=>Z) (pa:=λ_=>Z) (ta:=λ_=>Z) (sy:=λ_ h=>aa h.symm) (bu:=λ_ _ _=>Z) (un:=λ_=>Z) (ws:=λ_ _=>Z) f
def Oj{e f:Type}{R:e->f->Prop}{o p:N e}{h d:N f}(i:∀a,o=O a->∃b,d=O b/\R a b)(k:RO R p d)(n:h=C):RO R (Ev.oc o O p) (Ev.oc h O d):=λa e=>by rw[n];exact ma e (λb d e=>au e▸i b d) λ_ e=>k a e
def IB(e:dy g)(E:Ga g a a')(d:Ga g b b'):RO (·=·) (pe j a b) (pe j a' b'):=Oj (λc f=>⟨c,UH e E d f,Z⟩) (Oh E d) (UI E d)
end
def j1(k n m:D):k+n-m=k+(n-m):=n! k n m
def j2(k n m:D):k+n-(k+m)=n-m:=ly k n m
def j5(a b c d:D):a+b+(c+d)=a+c+(b+d):=by rw[ej,Int.add_left_comm b,<-ej]
def j3(k s n m:D):k+s+n-(k+m)=s+(n-m):=by rw[ej];exact(ly k _ m).trans (n! s n m)
def j4(k n z:D)(h:k<=900)(a:0<=z):k+n-z<=900+n:=gM (q7 _ a) (lB h n)
section
variable{P:Prop}{u:np}{g:Gb}{a b a' b' v:V}{w su:N V}{r:V}
def è(h:XG u w su C C C=O r)(k:u=.Add->w=O r->P)(l:u=.Sub->su=O r->P):P:=by induction u with|Add=>exact k Z h|Sub=>exact l Z h|_=>exact aa h
def iG(h:x=y):Ga g (.int y) (.int x):=ah V.int h
def sG{p:Sy}(h:CP g z p):Ga g (.sym p) (.int z):=⟨z,Z,h⟩
def IC(j:dy g)(c:Ga g a a')(f:Ga g b b')(e:J4 u a b=O v):∃x y,a'=.int x/\b'=.int y/\((u=.Add/\Ga g v (.int (x+y)))∨(u=.Sub/\Ga g v (.int (x-y)))):=bL e λp d e=>by obtain⟨x,k,h⟩:=Iz c d;refine Sy.casesOn p (λd n h=>?_) kE bX gJ gJ h e;refine V.casesOn b bX gJ (λm i e=>?_) gJ gJ gJ kE gJ gJ gJ gJ gJ bX bX (λq i=>?_) kE bX gJ f;exact⟨x,m,k,i,è e (λo e=>.inl ⟨o,au e▸sG (h▸ej _ _ _)⟩) λo e=>.inr ⟨o,au e▸sG (h▸j1 _ _ _)⟩⟩;obtain⟨y,l,d⟩:=(i);refine Sy.casesOn q (λn m d e=>?_) kE (λd e=>?_) gJ gJ d;have d:=d;refine⟨x,y,k,l,è e (λo e=>.inl ⟨o,?_⟩) λo e=>.inr ⟨o,?_⟩⟩;exact bW e λc e=>bW e λf e=>oB c λc=>oB f λf=>au e▸sG (by rw[h,d,c,f];exact(j5 _ _ _ _).trans (j.ti▸Z));exact jg e (λi e=>oB i λi=>au e▸iG (by rw[h,d,i];exact j2 _ _ _)) λ_ e=>bW e λc e=>bW e λf e=>oB c λc=>oB f λf=>au e▸sG (by rw[h,d,c,f,j.ti];exact j3 _ _ _ _);have d:=d;exact⟨x,y,k,l,è e bX λo e=>.inr ⟨o,bW e λc e=>oB c λc=>au e▸sG (by rw[h,c];exact j4 _ _ _ j.le d)⟩⟩
def ID(h:Ga g v a):J4 u a b=C:=by unfold J4;rw[(known h).1];rfl
def UJ(c:Ga g b b'):Ga g a a'->RO (Ga g) (J3 a b) (J3 a' b'):=have k:∀{x o},a'=x->RO (Ga g) o (J3 x b')->RO _ o _:=λe h=>e▸h;Vc (M:=λa=>Ga g a a'->RO _ _ _) a (i:=λx h=>k h ((uT c).m1 λ_=>Z)) (s:=λx h=>k h ((xe c).e1 λy=>.gd λ_=>.so Z)) (ls:=λx h=>by obtain⟨l,q,r⟩:=h;exact k q ((UD c).bn λy z s=>by rw[cu.ak r,cu.ak s];exact .gd λ_=>.so ⟨_,Z,cu.app r s⟩))
def IE(c:Ga g a a')(d:Ga g b b'):RO (Ga g) (Ml a b) (Ml a' b'):=(uT c).e1 λ_=>(uT d).m1 λ_=>Z
def F8{c d:Type}{S:c->d->Prop}{z:N c}{e:N d}{f:W->N c}{h:W->N d}{n:W}(i:RO S z e)(k:∀n,RO S (f n) (h n)):RO S (gc n z f) (gc n e h):=by induction n with|zero=>exact i|succ n _=>exact k n
def Ol{R:V->V->Prop}{h i l:N V}(n:RO R c i)(o:RO R d j)(p:RO R e k)(q:RO R f l)(s:RO R h m):RO R (XG u c d e f h) (XG u i j k l m):=by induction u with|Add=>exact n|Sub=>exact o|Mult=>exact p|Mod=>exact q|FloorDiv=>exact s|_=>exact .no
def Om(c:Ga g a a')(d:Ga g b b'):RO (Ga g) (yP u a b) (yP u a' b'):=Ol (UJ d c) (IE c d) ((xe c).e1 λx=>(xd d).e1 λn=>.gd λ_=>.gd λ_=>.so Z) ((uT c).e1 λx=>(xd d).e1 λm=>F8 .no λn=>.so Z) ((uT c).e1 λx=>(xd d).e1 λm=>F8 .no λn=>.gd λ_=>.so Z)
def UK(e:dy g)(c:Ga g a a')(d:Ga g b b'):RO (Ga g) (qu u a b) (qu u a' b'):=Oj (λv f=>by obtain⟨x,y,h,i,q⟩:=IC e c d f;rw[h,i];exact q.elim (λq=>by rw[q.1];exact⟨_,Z,q.2⟩) λq=>by rw[q.1];exact⟨_,Z,q.2⟩) (Om c d) (ID c)
def IF(e:dy g)(d:Ga g a a')(c:Ga g b b'):RO (Ga g) (J5 u a b) (J5 u a' b'):=Oj (λv f=>by obtain⟨x,y,h,i,q⟩:=IC e d c f;rw[h,i];exact q.elim (λq=>by rw[q.1];exact⟨_,Z,q.2⟩) λq=>by rw[q.1];exact⟨_,Z,q.2⟩) (Ol ((Vc (M:=λa=>Ga g a a'->RO _ _ _) a (i:=λx h=>by rw[show a'=.int x from h];exact(uT c).m1 λ_=>Z) (s:=λx h=>by rw[show a'=.str x from h];exact(xe c).e1 λy=>.gd λ_=>.so Z)) d) (IE d c) .no .no .no) (ID d)
def mpG{c:Type}{o:N c}{f:c->V}(k:∀a,Ga g (f a) (f a)):RO (Ga g) (mp o f) (mp o f):=RO.KQ.m1 k
def KR(c:Ga g b b')(e:Ga g a a'):RO (Ga g) (E9 a b) (E9 a' b'):=(xd c).e1 λn=>have k:∀{x o},a'=x->RO _ o (dP x C (s:=λs=>mp (jj s n) λd=>.str [d]) (tu:=λc=>jj c n) (ls:=λc=>jj c n))->RO _ o _:=λf h=>f▸h;(Vc (M:=λa=>Ga g a a'->RO (Ga g) (dP a C (s:=λs=>mp (jj s n) λd=>.str [d]) (tu:=λc=>jj c n) (ls:=λc=>jj c n)) _) a (s:=λs h=>k h (mpG λ_=>Z)) (tu:=λl h=>by obtain⟨m,q,r⟩:=h;exact k q (cu.U_ r)) (ls:=λl h=>by obtain⟨m,q,r⟩:=h;exact k q (cu.U_ r))) e
def UL{p:ae}:∀{s:ae}{n c:W},lS p s->jj p n=O c->∃d,jj s n=O d/\x9 c d:=by induction p with|nil=>exact λ_ e=>aa e|cons d p f=>intro s n c h e;obtain⟨b,t,q,i,j⟩:=h;rw[q];induction n with|zero=>exact⟨b,Z,(show d=c from au e)▸i⟩|succ n _=>exact(f (s:=t) j e:∃d,jj t n=O d/\x9 c d=U)
def CV(h:bd anyS c=J)(k:x9 c d):c=d:=by have k:br (bd anyS c) (br (ac c anyS) U (uG d (Zg c))) (ac c d)=U:=k;rw[h]at k;exact aK k
def UM{c:Type}{l:Y c}{d:c}(h:jj ((l.drop k).take m) n=O d):jj l (k+n)=O d:=by rw[om,List.getElem?_take]at h;rw[om,<-List.getElem?_drop];by_cases q:n<m;rw[eP q]at h;exact h;rw[eH q]at h;exact aa h
def IG(h:Ga g b b')(e:Mm b=O n)(c:0<=g.base 4):b'=.int ((g.base 4).toNat+n:W):=bL e λp d e=>by obtain⟨z,q,r⟩:=Iz h d;refine Sy.casesOn (motive:=λp=>CP g z p->qt p C (off:=λk n=>gd (ac k 4) (natOf n))=O n->b'=.int ((g.base 4).toNat+n:W)) p (λk i r e=>bW e λh e=>oB h λh=>?_) kE bX gJ gJ r e;have r:z=g.base k+i:=r;rw[q,r,h,wk e,fO,yI c]
def Oo(c:Ga g a a')(d:Ga g b b'):RO (Ga g) (iJ a b) (iJ a' b'):=λv e=>by unfold iJ;rw[(known c).3];refine ma e (λl i e=>bL e λn j e=>bL e λf k e=>?_) λ_ e=>KR d c v e;obtain⟨q,h⟩:=(c.as (CU i):UC g l.1 l.2 a');rw[q,IG d j h.1];obtain⟨d,i,c⟩:=UL h.3 k;refine⟨.str [d],(ah (mp · λf=>V.str [f]) (UM i):_),jg e (λ_ e=>jg e bX λ_ e=>?_) λh e=>?_⟩;exact au e▸(⟨[d],Z,d,[],Z,c,Z⟩:N8 [f] (.str [d]));exact au e▸CV h c▸Z
end
section
variable{g:Gb}{a b a' v w:V}{vs ws as B:af}{ks A H L:aY}{F G u E:N V}{n:W}
def AK(h:m7 (Ga g) F u)(n:W):RO (·=·) (Zh F n) (Zh u n):=RO.oc h (λ_ _=>xd) (.so Z)
def CW{p:ae}:∀{s:ae}(n:W),lS p s->lS (p.take n) (s.take n):=by induction p with|nil=>exact λn h=>by rw[show _=[]from h,sJ];exact Z|cons i p c=>intro s n h;obtain⟨d,t,q,e,f⟩:=h;rw[q];induction n with|zero=>exact Z|succ n _=>exact⟨d,t.take n,Z,e,c n f⟩
def CX{p:ae}:∀{s:ae}(n:W),lS p s->lS (p.drop n) (s.drop n):=by induction p with|nil=>exact λn h=>by rw[show _=[]from h,zU];exact Z|cons d p c=>intro s n h;induction n with|zero=>exact h|succ n _=>obtain⟨d,t,q,d,d⟩:=h;rw[q];exact c n d
def aaH{p:ae}:∀{s:ae},Mp p->lS p s->s=p:=by induction p with|nil=>exact λ_ h=>h|cons c p d=>intro s e h;obtain⟨j,t,q,f,i⟩:=h;have e:br _ J _=U:=e;cases z:bd anyS c with|true=>rw[z]at e;exact ao e|false=> rw[z]at e;rw[q,d e i];exact CV z f▸Z
def Oq{p s:ae}(h:lS p s):Ga g (BU p) (.str s):=by unfold BU;cases e:Mp p with|true=>exact ah V.str (aaH e h)|false=>exact⟨s,Z,h⟩
def Ot(f:Ga g a a')(c:m7 (Ga g) F u)(d:m7 (Ga g) G E):RO (Ga g) (yS a F G) (yS a' u E):=λv e=>by have k:∀{x o},a'=x->RO (Ga g) o (yS x u E)->RO _ o _:=λe h=>e▸h;refine V.casesOn a bX gJ gJ (λs h=>k h (o:=bn _ λa=>mp _ λb=>.str _) ((AK c 0).e1 λa=>(AK d _).m1 λb=>Z) v) gJ (λl h=>?_) kE gJ gJ gJ gJ gJ bX bX gJ kE bX gJ f e;obtain⟨m,q,r⟩:=h;refine k q ((AK c 0).e1 λa=>?_) v;rw[cu.ak r];exact(AK d _).m1 λb=>⟨_,Z,(cu.take r).drop⟩
def ř{n:W}(h:m7 (Ga g) F u)(e:bn F Mm=O n)(c:0<=g.base 4):u=O (.int ((g.base 4).toNat+n:W)):=bL e λx d e=>by obtain⟨y,f,i⟩:=h.ro x d;rw[f,IG i e c]
def UN(d:Ga g a a')(h:m7 (Ga g) F u)(k:m7 (Ga g) G E):RO (Ga g) (BV a F G) (BV a' u E):=λv e=>by unfold BV;rw[(known d).3];refine ma e (λl f e=>bL e λi G e=>bL e λj m e=>?_) λ_ e=>Ot d h k v e;obtain⟨q,c⟩:=(d.as (CU f));rw[q,ř h G c.1,ř k m c.1];have d:lS ((l.1.take j).drop i) (((g.txt.drop (g.base 4).toNat).take j).drop i)->BU _=v->∃b,yS (.str g.txt) (O (.int ((g.base 4).toNat+i))) (O (.int ((g.base 4).toNat+j)))=O b/\Ga g v b:=λh q=>⟨.str _,Z,q▸(by rw[List.take_drop,e8]at h;exact Oq h)⟩;refine jg e (λh e=>d (CX i ?_) (au e)) λ_ e=>bW e λk e=>d (CX i ?_) (au e);have z:=CW j c.3;have f:=c.4 h;rw[Hm (l:=g.txt.drop _) (by rw[ud];exact Nat.sub_le_iff_le_add.mpr (ju.mp (by rw[f,fO,yI c.1,nO];exact pJ _)))]at z;exact z;have z:=CW j c.3;rw[List.take_take,yK (aB l.1▸cw k)]at z;exact z
def Ou(e:o4 g ks A){c:jL}:∀{as B:af},aI (λp=>oc p.2 LS U) c=U->cu g as B->RO (o4 g) (Ht ks c as) (Ht A c B):=by induction c with|nil=>exact λ_ h=>m8 h (.so Z) λ_ _ _ _ _ _=>.no|cons p c d=>refine λc h=>cp c λf c=>m8 h (RO.bn (RO.oc (e.lk p.1) (λ_ _ q=>.so q) ?_) λv w q=>(d c (as:=[]) (Z)).mp λl m r=>.mk q r) λv w l m q r=>(d c r).mp λl m r=>.mk q r;cases e:p.2 with|none=>exact .no|some i=>exact .so (tp (il (ah (λo=>oc o LS U) e) f))
def afc:∀{ks A:aY},o4 g ks A->kwOk c ks=kwOk c A:=by intro ks;induction ks with|nil=>exact λh=>by rw[show _=[]from h]|cons p r e=> intro A h;obtain⟨q,m,f,⟨i,_⟩,d⟩:=h.un;rw[f];show oc _ (λ_=>oc _ aay (kwOk c r)) J=oc _ (λ_=>oc _ aay (kwOk c m)) J;rw[i,e d];exact ah (λz=>oc _ (λ_=>z) J) ((d.lk p.1).elim (λz=>by rw[z.1,z.2]) λz=>by obtain⟨x,y,c,d,_⟩:=z;rw[c,d];rfl)
def CY(f:aI (λp=>oc p.2 LS U) c=U)(e:cu g as B)(d:o4 g ks A):RO (o4 g) (pO c as ks) (pO c B A):=by unfold pO;rw[e.len,afc d];exact .gd λ_=>Ou d f e
def KU(h:o4 g H L){l:Y (W×W)}:RO (o4 g) (fieldsOf H l) (fieldsOf L l):=by induction l with|nil=>exact .so Z|cons p l c=>exact(h.lk p.2).ro.bn λv w q=>c.mp λl m r=>.mk q r
def Ov{l:ae}:∀{vs ws:af},cu g vs ws->RO (o4 g) (zZ l vs) (zZ l ws):=by induction l with|nil=>exact λh=>m8 h (.so Z) λ_ _ _ _ _ _=>.no|cons k l c=>exact λh=>m8 h .no λv w x y q r=>(c r).mp λl m r=>.mk q r
def aaI{vs:af}:∀{ws:af},cu g vs ws->RO (·=·) (cat vs) (cat ws):=by induction vs with|nil=>exact λh=>by rw[show _=[]from h];exact .so Z|cons v vs c=> intro ws h;obtain⟨w,m,e,q,r⟩:=h.un;rw[e];exact(xe q).e1 λs=>(c r).m1 λ_=>Z
end
structure Ab where
 g:Gb
 gw:dy g
 lh:W->I
 dm:W->I
 pre:af
 pl:(pre.length:D)=g.base 6
 bY:pre.length<=100000
 J:af->PG->Prop
 ë:∀t p a x k,lh a=false->dm a->J t p->J t {p with par:=put a x p.par,bD:=k}
 δ:W
section
variable(A:Ab)
def Ř(l:af)(q:af):=∃m,q=A.pre++m/\cu A.g l m
def ym(q p:PA):=xZ q (λv=>∃w,p=.val w/\Ga A.g v w) (λl=>∃m,p=.lst m/\cu A.g l m) (λl=>∃m,p=.kU m/\pY A.g l m) (λl=>∃m,p=.vI m/\pY A.g l m) λl=>∃m,p=.lst m/\Ř A l m
def vc(c d:Cn):=ya c Ch (λl=>∃m,d=.lst m/\cu A.g l m) (λl=>∃m,d=.kU m/\pY A.g l m) (λl=>∃m,d=.vI m/\pY A.g l m) λl=>∃m,d=.lst m/\Ř A l m
def A_(g:Gb)(l k:LV):=J6 l (λv=>∃w,k=.val w/\Ga g v w) λb=>∃a,k=.own a/\cu g b a
def F9(g:Gb)(l a:cz):=∀x,m7 (A_ g) (aj x l) (aj x a)
structure RP(p p':PG):Prop where
 tC:∀a,A.lh a=J->m7 (ym A) (aj a p.par) (aj a p'.par)
 abs:∀a,A.lh a->aj a p.par=C
 j:A.J p.aG p'
 bD:p'.bD=p.bD+A.δ
 len:p'.par.length<=900000
 zh:∀a,(aj a p.par).isSome=A.dm a
structure RS(s s':St):Prop where
 loc:F9 A.g s.loc s'.loc
 pg:RP A s.pg s'.pg
abbrev RV:V×St->V×St->Prop:=LQ (Ga A.g) (RS A)
abbrev RVs:af×St->af×St->Prop:=LQ (cu A.g) (RS A)
abbrev UO:V×PG->V×PG->Prop:=LQ (Ga A.g) (RP A)
def Yl(a:jL):I:=aI (λp=>oc p.2 LS U) a
structure iz(G H:cQ):Prop where
 gl:G.gl=H.gl
 Lc:∀x v,H.gl x=O v->LS v=U
 cls:G.cls=H.cls
 Ox:∀c C,H.cls c=O C->Yl C.params/\u_ C.consts=U
 du:G.du=H.du
 mh:∀a,A.lh a->H.du a=J
 cA:G.cA=H.cA
 F?:∀a kvs,H.cA a=O kvs->u_ kvs=U
 LW:∀a,A.lh a->H.cA a=none
 attr:∀a,G.bw a->H.bw a/\A.lh a=J/\A.dm a=U
 nA:G.dT=H.dT
 nE:G.dD=H.dD
 nP:G.qs=H.qs
 nI:G.ew=H.ew
 nJ:G.lE=H.lE
 nd:ac H.ew H.dD=J/\ac H.ew H.qs=J
 ro:G.ro=H.ro
 av:∀m as as' ks ks' p p',cu A.g as as'->o4 A.g ks ks'->RP A p p'->RO (UO A) (G.av m as ks p) (H.av m as' ks' p')
 func:∀m as as' ks ks' p p',cu A.g as as'->o4 A.g ks ks'->RP A p p'->RO (UO A) (G.func m as ks p) (H.func m as' ks' p')
 sup:∀m as as' p p',cu A.g as as'->RP A p p'->RO (UO A) (G.sup m as p) (H.sup m as' p')
 comp:∀a b d e l s,G.comp a b d e l s=none
end
section
variable{A:Ab}{G H:cQ}{lv:ae}{s s' r:St}{i:Type}{v w x:V}
def Oy{l:Y (i×V)}(h:u_ l=U):pY g l l:=by induction l with|nil=>exact Z|cons p l a=>exact cp h λb c=>⟨p,l,Z,⟨Z,tp b⟩,a c⟩
def CZ{l:aY}(h:u_ l=U){a:W}(e:aj a l=O v):LS v:=by induction l with|nil=>exact aa e|cons p l b=>exact cp h λa c=>jg (e) (λ_ e=>au e▸a) λ_ e=>b c e
def flat(h:Ga A.g v w):dZ w=J/\dZ v=J/\jw v=jw w/\pb v=pb w:=by have k:∀{u},w=u->_->dZ w=J/\dZ v=J/\jw v=jw w/\pb v=pb w:=λe h=>e▸h;exact(V.casesOn (motive_1:=λv=>(∀{u},w=u->(dZ u=J/\dZ v=J/\jw v=jw u/\pb v=pb u)->dZ w=J/\dZ v=J/\jw v=jw w/\pb v=pb w)->Ga A.g v w->dZ w=J/\dZ v=J/\jw v=jw w/\pb v=pb w) v (λk h=>k h ⟨Z,Z,Z,Z⟩) (λ_ k h=>k h ⟨Z,Z,Z,Z⟩) (λ_ k h=>k h ⟨Z,Z,Z,Z⟩) (λ_ k h=>k h ⟨Z,Z,Z,Z⟩) (λ_ k h=>by obtain⟨l,q,_⟩:=h;exact k q ⟨Z,Z,Z,Z⟩) (λ_ k h=>by obtain⟨l,q,_⟩:=h;exact k q ⟨Z,Z,Z,Z⟩) (λ_ _ k h=>by obtain⟨l,q,_⟩:=h;exact k q ⟨Z,Z,Z,Z⟩) (λ_ k h=>k h ⟨Z,Z,Z,Z⟩) (λ_ k h=>k h ⟨Z,Z,Z,Z⟩) (λ_ k h=>k h ⟨Z,Z,Z,Z⟩) (λ_ k h=>k h ⟨Z,Z,Z,Z⟩) (λ_ k h=>k h ⟨Z,Z,Z,Z⟩) (λk h=>k h ⟨Z,Z,Z,Z⟩) (λ_ h=>pp h) (λ_ k h=>by obtain⟨l,q,_⟩:=h;exact k q ⟨Z,Z,Z,Z⟩) (λ_ _ k h=>k h.1 ⟨Z,Z,Z,Z⟩) (λ_ h=>V.casesOn w (λ_=>⟨Z,Z,Z,Z⟩) (λ_ _=>⟨Z,Z,Z,Z⟩) (λ_ _=>⟨Z,Z,Z,Z⟩) (λ_ _=>⟨Z,Z,Z,Z⟩) (λ_ _=>⟨Z,Z,Z,Z⟩) (λ_ _=>⟨Z,Z,Z,Z⟩) (λ_ _ _=>⟨Z,Z,Z,Z⟩) (λ_ _=>⟨Z,Z,Z,Z⟩) (λ_ _=>⟨Z,Z,Z,Z⟩) (λ_ _=>⟨Z,Z,Z,Z⟩) aV (λ_ _=>⟨Z,Z,Z,Z⟩) ao ao aV iw (λ_=>⟨Z,Z,Z,Z⟩) aV h) λ_ k h=>by obtain⟨l,q,_⟩:=h;exact k q ⟨Z,Z,Z,Z⟩) k h
def Oz{P:Prop}{l:LV}(h:A_ A.g l k)(f:∀v w,l=.val v->k=.val w->Ga A.g v w->P)(o:∀a b,l=.own a->k=.own b->cu A.g a b->P):P:=LV.casesOn (motive:=λb=>l=b->A_ A.g b k->P) l (λv e h=>by obtain⟨w,q,r⟩:=h;exact f v w e q r) (λa e h=>by obtain⟨w,q,r⟩:=h;exact o a w e q r) Z h
def tF(h:RS A s s'):iP lv s=iP lv s':=ah (λz=>br _ z J) ((h.loc 0).elim (λq=>by rw[q.1,q.2]) λq=>by obtain⟨l,k,a,b,c⟩:=q;rw[a,b];exact Oz c (λv w e a r=>by rw[e,a];exact(flat r).3) λb b e a _=>by rw[e,a];rfl)
variable(j:iz A G H)
def OA{q:PA}:ym A q a->m7 (vc A) (Mn G q) (Mn H a):=PA.casesOn q (λv h=>by obtain⟨w,e,r⟩:=h;rw[e];show m7 _ (bn _ λk=>mp _ Cn.vI) (bn _ λk=>mp _ Cn.vI);rw[(flat r).4,j.cA];cases pb w with|none=>exact .no|some k=>cases e:H.cA k with|none=>exact(by rw[show(bn (O k) λk=>mp _ Cn.vI)=C from ah _ e];exact .no)|some l=>exact(by rw[show(bn _ λk=>mp _ Cn.vI)=O _ from ah _ e];exact .so ⟨l,Z,Oy (j.F? k l e)⟩)) (λ_ h=>by obtain⟨m,e,r⟩:=h;rw[e];exact .so ⟨m,Z,r⟩) (λ_ h=>by obtain⟨m,e,r⟩:=h;rw[e];exact .so ⟨m,Z,r⟩) (λ_ h=>by obtain⟨m,e,r⟩:=h;rw[e];exact .so ⟨m,Z,r⟩) λ_ h=>by obtain⟨m,e,r⟩:=h;rw[e];exact .so ⟨m,Z,r⟩
def C6(h:RS A s s')(p:Pl):m7 (vc A) (iQ G lv s p) (iQ H lv s' p)∨(iQ G lv s p=C/\∃a,p=.bU a/\A.lh a/\iP lv s=U):=by refine Pl.casesOn p (λx=>.inl ?_) λa=>?_;(show m7 _ (gd _ _) (gd _ _);cases aq lv x with|false=>exact .no|true=>(refine(h.loc x).elim (λq=>by rw[q.1,q.2];exact .no) λq=>?_;obtain⟨l,k,b,d,f⟩:=q;rw[b,d];refine Oz f (λv w e b r=>?_) λd d e b r=>by rw[e,b];exact .so ⟨d,Z,r⟩);rw[e,b];show m7 _ (gd (dZ v) _) (gd (dZ w) _);rw[(flat r).1,(flat r).2];exact .no);have c:=tF (lv:=lv) h;show m7 _ (gd _ _) (gd _ _)∨_;cases q:iP lv s with|false=>rw[c]at q;exact .inl (by rw[q];exact .no)|true=>have g:=il c q;cases b:A.lh a with|true=>exact .inr ⟨by show gd _ _=C;rw[h.pg.abs a b,j.cA,j.LW a b,q];rfl,a,Z,b,Z⟩|false=>rw[g];refine .inl ((h.pg.tC a b).elim (λz=>?_) λz=>?_);(rw[z.1,z.2,j.cA];cases e:H.cA a with|none=>exact .no|some l=>exact .so ⟨l,Z,Oy (j.F? a l e)⟩);obtain⟨a,a,a,b,c⟩:=z;rw[a,b];exact OA j c
def o5(h:RS A s s')(p:Pl):RO (vc A) (iQ G lv s p) (iQ H lv s' p):=(C6 j h p).elim m7.ro λq=>by rw[q.1];exact .no
end
section
variable{A:Ab}{G H:cQ}{s r:St}{v w x y E i t:V}{c d:Cn}{as B vs ws:af}{a b n:W}{F L:Type}{S:F->L->Prop}
def OB{M:Cn->Cn->Prop}(h:vc A c d)(f:∀l m,cu A.g l m->M (.lst l) (.lst m))(g:∀l m,pY A.g l m->M (.kU l) (.kU m))(j:∀l m,pY A.g l m->M (.vI l) (.vI m))(k:∀l m,cu A.g l m->M (.Hq l) (.lst (A.pre++m))):M c d:=Cn.casesOn c (λl h=>by obtain⟨m,e,r⟩:=h;exact e▸f l m r) (λl h=>by obtain⟨m,e,r⟩:=h;exact e▸g l m r) (λl h=>by obtain⟨m,e,r⟩:=h;exact e▸j l m r) (λl h=>by obtain⟨m,e,n,f,r⟩:=h;exact e▸f▸k l n r) h
def pY.empty{e:Type}{l m:Y (e×V)}(h:pY A.g l m):l.isEmpty=m.isEmpty:=by induction l with|nil=>rw[show m=[]from h]|cons p l _=>obtain⟨q,k,e,_⟩:=h;rw[e];rfl
def pY.len{e:Type}{l:Y (e×V)}:∀{m:Y (e×V)},pY A.g l m->ak l=ak m:=by induction l with|nil=>exact λh=>by rw[show _=[]from h]|cons p l f=>exact λh=>by obtain⟨q,k,e,_,h⟩:=h;rw[e];exact ah pm (f h)
def UP(A:Ab):∃u us,A.pre=u::us:=by cases e:A.pre with|nil=>exact ch A.gw.six (by rw[<-A.pl,e];decide)|cons u us=>exact⟨u,us,Z⟩
def C7(h:vc A c d):oU c=oU d:=OB (M:=λc d=>oU c=oU d) h (λ_ _ r=>ah (!·) (cu.empty r)) (λ_ _ r=>ah (!·) (pY.empty r)) (λ_ _ r=>ah (!·) (pY.empty r)) λ_ _ _=>by obtain⟨u,us,e⟩:=UP A;rw[e];rfl
def KV(h:vc A c d):m7 (Ga A.g) (vN c) (vN d):=OB (M:=λc d=>m7 (Ga A.g) (vN c) (vN d)) h (λl m r=>.so (iG (ah wv (cu.ak r).symm))) (λ_ _ _=>.no) (λ_ _ _=>.no) λl m r=>.so (sG (by show(ak (A.pre++m))=A.g.base 6+ak l;rw[aB,aX,fO,A.pl,aB,cu.len r]))
def AL{l:eu}:∀{m:eu},pY A.g l m->m7 (Ga A.g) (zY k l) (zY k m):=by induction l with|nil=>exact λh=>by rw[show _=[]from h];exact .no|cons p l e=>intro m h;obtain⟨q,m,f,⟨g,j⟩,h⟩:=h;rw[f];show m7 _ (br (a? (p.1=k)) (O p.2) (zY k l)) (br (a? (q.1=k)) (O q.2) (zY k m));rw[g];cases a? (p.1=k)with|true=>exact .so j|false=>exact e h
def IH{l:Y (ae×V)}:∀{m:Y (ae×V)},pY A.g l m->m7 (Ga A.g) (Fc k l) (Fc k m):=by induction l with|nil=>exact λh=>by rw[show _=[]from h];exact .no|cons p l e=>intro m h;obtain⟨q,m,f,⟨g,j⟩,h⟩:=h;rw[f];show m7 _ (br (cW p.1 k) (O p.2) (Fc k l)) (br (cW q.1 k) (O q.2) (Fc k m));rw[g];cases cW p.1 k with|true=>exact .so j|false=>exact e h
def UQ(e:Ga A.g v w){l:eu}:∀{m:eu},pY A.g l m->pY A.g (dput k v l) (dput k w m):=by induction l with|nil=>exact λh=>by rw[show _=[]from h];exact⟨_,_,Z,⟨Z,e⟩,Z⟩|cons p l g=>intro m h;obtain⟨q,m,j,⟨f,o⟩,h⟩:=h;rw[j];show pY _ (br (a? (p.1=k)) ((k,v)::l) (p::dput k v l)) (br (a? (q.1=k)) ((k,w)::m) (q::dput k w m));rw[f];cases a? (p.1=k)with|true=>exact⟨_,_,Z,⟨Z,e⟩,h⟩|false=>exact⟨_,_,Z,⟨f,o⟩,g h⟩
def UR{l:eu}:∀{m:eu},pY A.g l m->pY A.g (yb k l) (yb k m):=by induction l with|nil=>exact λh=>by rw[show _=[]from h];exact Z|cons p l f=>intro m h;obtain⟨q,m,g,⟨e,j⟩,h⟩:=h;rw[g];show pY _ (br (a? (p.1=k)) l (p::yb k l)) (br (a? (q.1=k)) m (q::yb k m));rw[e];cases a? (p.1=k)with|true=>exact h|false=>exact⟨_,_,Z,⟨e,j⟩,f h⟩
def II{R:V->V->Prop}(h:m7 R o e):o.isSome=e.isSome:=h.elim (λq=>by rw[q.1,q.2]) λq=>by obtain⟨_,_,e,f,_⟩:=q;rw[e,f];rfl
def Gd(h:vc A c d)(e:Ga A.g i t):RO (Ga A.g) (qv c i) (qv d t):=OB (M:=λc d=>RO (Ga A.g) (qv c i) (qv d t)) h (λ_ _ r=>(xd e).e1 λn=>cu.U_ r) (λ_ _ r=>(uT e).e1 λk=>(AL r).ro) (λ_ _ r=>(xe e).e1 λk=>(IH r).ro) λ_ _ _=>.no
def int_str{F L:Type}{S:F->L->Prop}{e:D->N F}{h:D->N L}{g:ae->F}{j:ae->L}{x y:I}(m:x=y)(f:Ga A.g i t)(l:∀k,RO S (e k) (h k))(o:∀s,S (g s) (j s)):RO S (oc (gb i) e (gd x (mp (dW i) g))) (oc (gb t) h (gd y (mp (dW t) j))):=by cases h:gb i with|some k=>rw[wj h]at f;rw[show t=.int k from f];exact l k|none=> refine λa e=>bW e λg e=>iH e λs h e=>?_;rw[gj h]at f;rw[show t=.str s from f,<-m,g];exact⟨_,Z,e▸o s⟩
def US(e:Ga A.g v E){l:Y (ae×V)}:∀{m:Y (ae×V)},pY A.g l m->pY A.g (Mo k v l) (Mo k E m):=by induction l with|nil=>exact λh=>by rw[show _=[]from h];exact⟨_,_,Z,⟨Z,e⟩,Z⟩|cons p l g=>intro m h;obtain⟨q,m,j,⟨f,o⟩,h⟩:=h;rw[j];show pY _ (br (cW p.1 k) ((k,v)::l) (p::Mo k v l)) (br (cW q.1 k) ((k,E)::m) (q::Mo k E m));rw[f];cases cW p.1 k with|true=>exact⟨_,_,Z,⟨Z,e⟩,h⟩|false=>exact⟨_,_,Z,⟨f,o⟩,g h⟩
def KY(h:vc A c d)(e:Ga A.g i t):RO (·=·) (vO c i) (vO d t):=OB (M:=λc d=>RO (·=·) (vO c i) (vO d t)) h (λ_ _ _=>.no) (λl m r=>int_str (pY.empty r) e (λk=>.so (II (AL r))) λs=>Z) (λ_ _ r=>(xe e).m1 λk=>II (IH r)) λ_ _ _=>.no
def KZ(h:vc A c d)(f:Ga A.g i t)(e:Ga A.g v E):RO (vc A) (yR c i v) (yR d t E):=OB (M:=λc d=>RO (vc A) (yR c i v) (yR d t E)) h (λ_ _ _=>.no) (λl m r=>int_str (pY.empty r) f (λk=>by rw[pY.len r];exact .gd λ_=>.so ⟨_,Z,UQ e r⟩) λs=>⟨_,Z,⟨_,_,Z,⟨Z,e⟩,Z⟩⟩) (λ_ _ r=>(xe f).e1 λk=>by rw[pY.len r];exact .gd λ_=>.so ⟨_,Z,US e r⟩) λ_ _ _=>.no
def C8(e:Ga A.g v w)(h:cu A.g vs ws):cu A.g (pK n v vs) (pK n w ws):=h.take.app (.mk e h.drop)
def K1{p:af}:pK (p.length+n) v (p++vs)=p++pK n v vs:=by unfold pK;rw[List.take_append,List.drop_append,Hm (fY _ _),hq,List.drop_of_length_le (fY _ _),am];rfl
abbrev RM(A:Ab):V×Cn->V×Cn->Prop:=LQ (Ga A.g) (vc A)
def xf(r:cu A.g vs ws):vc A (.lst vs) (.lst ws):=⟨ws,Z,r⟩
def OC(r:cu A.g vs ws):vc A (.Hq vs) (.lst (A.pre++ws)):=⟨_,Z,ws,Z,r⟩
variable(o:iz A G H)
def OD(r:cu A.g vs ws)(e:cu A.g as B):RO (RM A) (cX G (.lst vs) m as) (cX H (.lst ws) m B):=by unfold cX;rw[o.nA,o.nE,o.nP,o.nI];refine .br (λ_=>tj e λv w q=>?_) λ_=>.br (λ_=>tj e λv w q=>(UD q).bn λl k q=>?_) λ_=>.br (λ_=>m8 e (r.last.mp λv w q=>⟨q,xf r.dropLast⟩) λa b l m q h=>m8 h ((xd q).e1 λn=>F8 (m8 r .no λv w l m q r=>.so ⟨q,xf r⟩) λ_=>.no) λ_ _ _ _ _ _=>.no) λ_=>.gd λ_=>xc e λi t v w e f=>(xd e).e1 λn=>?_;rw[r.ak];exact .gd λ_=>.so ⟨Z,xf (r.app (.mk q Z))⟩;rw[r.ak,q.ak];exact .gd λ_=>.so ⟨Z,xf (r.app q)⟩;rw[r.ak];exact .gd λ_=>.gd λ_=>.so ⟨Z,xf (C8 f r)⟩
def IJ(r:cu A.g vs ws)(h:bd (ak vs) 800000):bd (ak (A.pre++ws)) 900000:=by rw[aB,aX,<-r.len,<-aB vs];exact g8 (ay (gY A.bY (cw h)) (aO Z))
def OE(r:cu A.g vs ws)(f:cu A.g as B):RO (RM A) (cX G (.Hq vs) m as) (cX H (.lst (A.pre++ws)) m B):=by unfold cX;rw[o.nA,o.nI];refine .br (λ_=>tj f λv w q=>.LL (IJ r) λ_=>.so ⟨Z,?_⟩) λ_=>λz e=>bW e λg e=>?_;rw[am];exact OC (r.app (.mk q Z));rw[aK g,o.nd.1,o.nd.2,cf];refine(xc f λi t v w g h z e=>bL e λp j e=>?_) z e;obtain⟨f,q,f⟩:=Iz g j;refine Sy.casesOn p (λk j f e=>bW e λg e=>bL e λn j e=>bW e λk e=>bW e λl e=>oB g λg=>?_) kE bX gJ gJ f e;rw[q,f,g,wk j,<-A.pl];(have f:bd (A.pre.length+n) (ak (A.pre++ws)):=by rw[aB,aX,<-r.len,<-aB vs];exact g8 (d9 (cw k) _));refine⟨(.none,.lst (A.pre++pK n w ws)),?_,au e▸⟨Z,OC (C8 h r)⟩⟩;show gd (bd (A.pre.length+n) (ak (A.pre++ws))) (gd (bd (ak (A.pre++ws)) 900000) (O (V.none,Cn.lst (pK (A.pre.length+n) w (A.pre++ws)))))=_;rw[f,IJ r l,K1];rfl
def xg(h:vc A c d)(e:cu A.g as B):RO (RM A) (cX G c m as) (cX H d m B):=OB (M:=λc d=>RO (RM A) (cX G c m as) (cX H d m B)) h (λ_ _ r=>OD o r e) (λ_ _ _=>.no) (λ_ _ _=>.no) λ_ _ r=>OE o r e
def K3(h:vc A c d):vP c=vP d:=OB (M:=λc d=>vP c=vP d) h (λ_ _ _=>Z) (λ_ _ _=>Z) (λ_ _ _=>Z) λ_ _ _=>Z
def aaJ(h:vc A c d):ym A (vM c) (vM d):=OB (M:=λc d=>ym A (vM c) (vM d)) h (λ_ m r=>⟨m,Z,r⟩) (λ_ m r=>⟨m,Z,r⟩) (λ_ m r=>⟨m,Z,r⟩) λ_ m r=>⟨_,Z,m,Z,r⟩
end
section
variable{A:Ab}{G H:cQ}{lv:ae}{s s' r F:St}{v w x y f E:V}{c d:Cn}{as u vs ws:af}{ks B:aY}{a b n:W}
def RP.put{p:PG}(h:RP A p e)(g:A.lh a=J)(i:A.dm a){x y:PA}(l:ym A x y){k j:W}(m:j=k+A.δ):RP A {p with par:=Ev.put a x p.par,bD:=k} {e with par:=Ev.put a y e.par,bD:=j}where
 tC:=λb e=>by
  by_cases q:b=a
  ·rw[q]
   rw[dk,dk];exact .so l
  ·show m7 _ _ _
   rw[bZ q,bZ q];exact h.tC b e
 abs:=λb e=>(bZ λq:b=a=>ao (il g (q▸e))).trans (h.abs b e)
 j:=A.ë _ _ _ _ _ g i h.j
 bD:=m
 len:=(h.tC a g).elim (λq=>ao (il (ah sn q.1) ((h.zh a).trans i))) λq=>by obtain⟨_,_,_,e,_⟩:=q;exact ay (cZ (kJ e)) h.len
 zh:=λb=>by
  by_cases q:b=a
  ·rw[q];exact(ah sn dk).trans i.symm
  ·exact(ah sn (bZ q)).trans (h.zh b)
def F9.put{l:cz}(i:F9 g l e)(x:W){v w:LV}(h:A_ g v w):F9 g (Ev.put x v l) (Ev.put x w e):=λb=>by by_cases q:b=x;rw[q,dk,dk];exact .so h;rw[bZ q,bZ q];exact i b
def RS.lj(h:RS A s s')(x:W){v w:LV}(e:A_ A.g v w):RS A (aE s x v) (aE s' x w):=⟨h.loc.put x e,h.pg⟩
def UT(a b d:W):ac (a+d) (b+d)=ac a b:=by rw[yL,R4,R4];exact Nat.add_right_cancel_iff
def calm_eq(h:RS A s s')(k:RS A r F):calm s r=calm s' F:=by unfold calm;rw[h.pg.bD,k.pg.bD,UT]
def aaK{q:PA}:ym A q e->BR q=BR e:=PA.casesOn q (λ_ h=>by obtain⟨w,e,_⟩:=h;rw[e];rfl) (λ_ h=>by obtain⟨w,e,_⟩:=h;rw[e];rfl) (λ_ h=>by obtain⟨w,e,_⟩:=h;rw[e];rfl) (λ_ h=>by obtain⟨w,e,_⟩:=h;rw[e];rfl) λ_ h=>by obtain⟨w,e,_⟩:=h;rw[e];rfl
def OF(h:RP A s.pg s'.pg){q:PA}(e:aj a s.pg.par=O q):A.lh a=J/\A.dm a/\∃g,aj a s'.pg.par=O g/\ym A q g:=by have g:=d8.mpr λz=>aa (il (h.abs a z) e);exact⟨g,il (h.zh a) (ah sn e),(h.tC a g).ro q e⟩
def zj{e:I}(h:RS A s s')(p:Pl)(i:vc A c d):RO (RS A) (hM e s p c) (hM e s' p d):=.br (λ_=>.no) λ_=>Pl.casesOn p (λx=>OB (M:=λc d=>RO _ (ya c C (ls:=λvs=>bn _ λl=>J6 l (λv=>gd (dZ v) (O (zX s vs))) λ_=>O (aE s x (.own vs)))) (ya d C (ls:=λvs=>bn _ λl=>J6 l (λv=>gd (dZ v) (O (zX s' vs))) λ_=>O (aE s' x (.own vs))))) i (λl m r=>(h.loc x).ro.bn λl k q=>Oz q (λv w e g z=>by rw[e,g];exact .LL (λt=>ao ((flat z).2.symm.trans t)) λt=>ao ((flat z).2.symm.trans t)) λvs ws e g _=>by rw[e,g];exact .so (h.lj x ⟨_,Z,r⟩)) (λ_ _ _=>.no) (λ_ _ _=>.no) λ_ _ _=>.no) λa=>λz e=>bL e λq g e=>bW e λj e=>by obtain⟨k,m,o,o,t⟩:=OF h.pg g;refine⟨Fb s' a (vM d),?_,au e▸⟨h.loc,h.pg.put k m (aaJ i) h.pg.bD⟩⟩;show bn _ (λq=>gd _ _)=_;rw[o];exact ah _ (il (aaK t) j)
def tG{q:PA}:ym A q e->RO (Ga A.g) (pL q) (pL e):=PA.casesOn q (λ_ h=>by obtain⟨w,e,r⟩:=h;rw[e];exact .so r) (λ_ _=>.no) (λ_ _=>.no) (λ_ _=>.no) λ_ _=>.no
def C9(h:iz A G H){n:W}:RO (Ga A.g) (bn (G.cls n) λe=>aj a e.consts) (bn (H.cls n) λe=>aj a e.consts):=by rw[h.cls];intro v g;exact⟨v,g,bL g λe i g=>tp (CZ (h.Ox n e i).2 g)⟩
def xh(e:iz A G H)(h:RS A s s')(a:W)(g:Ga A.g v w):RO (Ga A.g) (jk G v a s) (jk H w a s'):=by have k:∀{x o},w=x->RO (Ga A.g) o (jk H x a s')->RO _ o _:=λi h=>i▸h;refine V.casesOn v (λ_=>.no) (λ_ _=>.no) (λ_ _=>.no) (λ_ _=>.no) (λ_ _=>.no) (λ_ _=>.no) (λc l h=>?_) (λc h=>k h (C9 e)) (λ_ _=>.no) (λ_ _=>.no) (λ_ _=>.no) (λ_ _=>.no) (λq=>k q ?_) (λ_=>.no) (λ_ _=>.no) (λ_ _ _=>.no) (λ_=>.no) (λ_ _=>.no) g;obtain⟨m,q,r⟩:=h;exact k q (.oc (o4.lk a r) (λ_ _ q=>.so q) (C9 e));cases g:A.lh a with|true=> show RO _ (oc _ pL _) _;rw[h.pg.abs a g,e.du,e.mh a g,e.cA,e.LW a g];exact .no|false=> refine .oc (h.pg.tC a g) (λ_ _=>tG) ?_;rw[e.du,e.cA];exact .br (λ_=>.so Z) λ_=>RO.KQ.m1 λ_=>Z
def OG(g:iz A G H)(n:W)(i:cu A.g as u)(j:o4 A.g ks B):RO (Ga A.g) (make G n as ks) (make H n u B):=by unfold make;rw[g.cls];exact λv e=>bL e λk h e=>by rw[h];exact((CY (g.Ox n k h).1 i j).bn λb g g=>(KU g).mp λl m q=>⟨m,Z,q⟩) v e
def aaL(h:Ga A.g v w):RO (Ga A.g) (dP v C (s:=λl=>O (.int (ak l))) (tu:=λl=>O (.int (ak l))) (ls:=λl=>O (.int (ak l))) (bu:=λl e=>br e (O (.sym (.off 4 (ak l)))) (O (.sym (.big 4 (ak l)))))) (dP w C (s:=λl=>O (.int (ak l))) (tu:=λl=>O (.int (ak l))) (ls:=λl=>O (.int (ak l))) (bu:=λl e=>br e (O (.sym (.off 4 (ak l)))) (O (.sym (.big 4 (ak l)))))):=by have k:∀{x o},w=x->RO (Ga A.g) o (dP x C (s:=λl=>O (.int (ak l))) (tu:=λl=>O (.int (ak l))) (ls:=λl=>O (.int (ak l))) (bu:=λl e=>br e (O (.sym (.off 4 (ak l)))) (O (.sym (.big 4 (ak l))))))->RO _ o _:=λe h=>e▸h;refine V.casesOn v (λ_=>.no) (λ_ _=>.no) (λ_ _=>.no) (λl h=>k h (.so Z)) (λl h=>?_) (λl h=>?_) (λ_ _ _=>.no) (λ_ _=>.no) (λ_ _=>.no) (λ_ _=>.no) (λ_ _=>.no) (λ_ _=>.no) (λ_=>.no) (λ_=>.no) (λ_ _=>.no) (λl e h=>k h.1 ?_) (λ_=>.no) (λ_ _=>.no) h;obtain⟨m,q,r⟩:=h;exact k q (.so (iG (ah wv (cu.ak r).symm)));obtain⟨m,q,r⟩:=h;exact k q (.so (iG (ah wv (cu.ak r).symm)));obtain⟨_,_,g,_,i⟩:=h;induction e with|true=>exact .so (sG (by show _=A.g.base 4+_;rw[aB,aB];exact i Z))|false=>exact .so (sG (by show A.g.base 4+_<=_;rw[aB,aB];exact g))
def Ge(j:iz A G H)(g:cu A.g as u):RO (Ga A.g) (Fd G n as) (Fd H n u):=.br (λ_=>tj g λ_ _=>aaL) λ_=>.br (λ_=>xc g λv w c d i e=>(uT i).e1 λ_=>(uT e).m1 λ_=>Z) λ_=>.gd λ_=>xc g λv w c d i e=>by have k:∀{x o},w=x->RO (Ga A.g) o (dP x C (s:=λ_=>bn (sQ d) λz=>gd (ac z 7) (O (.bool U))) (ob:=λc _=>bn (vH d) λk=>mp (H.cls c) λg=>.bool (aq g.mro k)))->RO _ o _:=λg h=>g▸h;refine V.casesOn v (λ_=>.no) (λ_ _=>.no) (λ_ _=>.no) (λl h=>k h ((pBi e).e1 λ_=>.gd λ_=>.so Z)) (λ_ _=>.no) (λ_ _=>.no) (λn l h=>?_) (λ_ _=>.no) (λ_ _=>.no) (λ_ _=>.no) (λ_ _=>.no) (λ_ _=>.no) (λ_=>.no) (λ_=>.no) (λ_ _=>.no) (λ_ _ _=>.no) (λ_=>.no) (λ_ _=>.no) i;obtain⟨m,q,r⟩:=h;refine k q ((ahD e).e1 λz=>?_);rw[j.cls];exact RO.KQ.m1 λ_=>Z
def Dd(h:RS A s s'){o:dR}{e:dR}(k:RO (UO A) o e):RO (RV A) (back s o) (back s' e):=k.ax λ_ _ _ _ q r=>.so ⟨q,h.loc,r⟩
def K4(e:iz A G H)(j:Ga A.g f E)(g:cu A.g as u)(i:o4 A.g ks B)(h:RS A s s'):RO (RV A) (jN G f as ks s) (jN H E u B s'):=by have k:∀{x o},E=x->RO (RV A) o (jN H x u B s')->RO _ o _:=λl h=>l▸h;refine V.casesOn f (λ_=>.no) (λ_ _=>.no) (λ_ _=>.no) (λ_ _=>.no) (λ_ _=>.no) (λ_ _=>.no) (λ_ _ _=>.no) (λc q=>k q ?_) (λn q=>k q ?_) (λn q=>k q ?_) (λ_ _=>.no) (λm q=>k q ?_) (λ_=>.no) (λ_=>.no) (λ_ _=>.no) (λ_ _ _=>.no) (λ_=>.no) (λ_ _=>.no) j;unfold jN;rw[e.ro];exact .br (λ_=>.no) λ_=>(OG e c g i).mp λ_ _ q=>⟨q,h⟩;unfold jN;rw[e.ro];exact .br (λ_=>.no) λ_=>Dd h (e.func _ _ _ _ _ _ _ g i h.pg);exact N9 i ((Ge e g).mp λ_ _ q=>⟨q,h⟩) λ_ _ _ _ _ _=>.no;unfold jN;rw[e.ro];exact .br (λ_=>.no) λ_=>Dd h (e.av _ _ _ _ _ _ _ g i h.pg)
def IK(i:iz A G H)(x:W)(h:RS A s s'):RO (RV A) (J7 G lv x s) (J7 H lv x s'):=.br (λ_=>(h.loc x).ro.bn λl k q=>Oz q (λv w e g r=>by rw[e,g];exact .so ⟨r,h⟩) λvs ws e g r=>by rw[e,g];exact .so ⟨⟨ws,Z,r⟩,h.lj x ⟨_,Z,_,Z,r⟩⟩) λ_=>by rw[i.gl];exact λz e=>iH e λv g e=>by rw[g];exact⟨_,Z,e▸⟨tp (i.Lc x v g),h⟩⟩
def fF{t:I}(e:Ga A.g v w)(h:RS A s s'):RO (RV A) (fin t v s) (fin t w s'):=.br (λ_=>(jX e).m1 λb=>⟨Z,h⟩) λ_=>.so ⟨e,h⟩
end
section
variable(A:Ab)(lv:ae)
def ER(f b:fc):=∀t s a,RS A s a->RO (RV A) (f t s) (b t a)
def LR(l b:sR):=∀s a,RS A s a->RO (RVs A) (l s) (b a)
def CR(d e:XH):=∀v a b s c,Ga A.g v a->RS A s c->RO (LQ (·=·) (RS A)) (d v b s) (e a b c)
variable(po:N Pl)
def Gf(s:St)(P:Prop):=∀a,po=O (.bU a)->A.lh a->iP lv s->aj a s.pg.par=C->P
def UU(f:fc):=∀t s,Gf A lv po s (f t s=C)
def ŗ(l:sR):=∀s,Gf A lv po s (l s=C)
end
section
variable{A:Ab}{G H:cQ}{lv:ae}{s s':St}{v w:V}{L Q:Type}{S:L->Q->Prop}{po:N Pl}{a b d a' b' R o B i T:fc}{l E k k':sR}{c c':XH}{m n:W}{x:I}
variable(sg:iz A G H)
def AM(h:RS A s s')(po:N Pl):m7 (LQ (·=·) (vc A)) (gy G lv s po) (gy H lv s' po)∨(gy G lv s po=C/\∃a,po=O (.bU a)/\A.lh a/\iP lv s/\aj a s.pg.par=C):=by induction po with|none=>exact .inl .no|some p=>refine(C6 (lv:=lv) sg h p).imp (λq=>q.elim (λq=>.inl ⟨ah (mp · _) q.1,ah (mp · _) q.2⟩) λq=>?_) λq=>?_;obtain⟨j,a,f,e,g⟩:=q;exact⟨ah (mp · _) j,a,ah O f,e,g,h.pg.abs a e⟩;obtain⟨c,d,f,e,g⟩:=q;exact .inr ⟨(p,c),(p,d),ah (mp · _) f,ah (mp · _) e,Z,g⟩
def De(h:RS A s s'){F:Pl×Cn->N L}{e:Pl×Cn->N Q}{K:N L}{f:N Q}(z:Gf A lv po s (K=C))(g:∀p c d,vc A c d->RO S (F (p,c)) (e (p,d)))(l:RO S K f):RO S (oc (gy G lv s po) F K) (oc (gy H lv s' po) e f):=(AM sg h po).elim (λq=>.oc q (λc d r=>by rw[show c=(d.1,c.2)from pt r.1 Z];exact g d.1 c.2 d.2 r.2) l) λq=>by obtain⟨e,a,f,g,h,j⟩:=q;rw[e,show oc C F K=K from Z,z a f g h j];exact .no
def IL(h:RS A s s'){t:I}{K e:mc}(z:Gf A lv po s (K=C))(l:RO (RV A) K e):RO (RV A) (vQ G lv t po s K) (vQ H lv t po s' e):=.br (λ_=>De sg h z (λp c d r=>.so ⟨ah V.bool (C7 r).symm,h⟩) l) λ_=>l
def OH{P:Prop}{x:W}(h:O (Pl.loc x)=O (.bU y)):P:=ao (ah (λp=>LI p aay λ_=>U) (au h))
def xi(h:LS v):ER A (sS v) (sS v):=λ_ _ _ k=>fF (tp h) k
def aaM:ER A (BW G lv n) (BW H lv n):=λ_ _ _ h=>IL sg h (λ_ e=>OH e) ((IK sg n h).ax λ_ _ _ _=>fF)
variable(h:ER A o B)
def aaN(z:∀t s,Gf A lv po s ((ax (o J s) λv s=>bn (jk G v n s) λv=>fin t v s)=C)):ER A (SQ G lv po o n) (SQ H lv po B n):=λt s s' k=>IL sg k (z t s) ((h J s s' k).ax λv w r e q k'=>(xh sg k' n q).bn λ_ _ q=>fF q k')
def UW{t:I}{q:W}(f:O (Pl.bU m)=O (.bU q))(e:A.lh q)(g:iP lv s)(j:aj q s.pg.par=C):(ax (BW G lv 0 J s) λv s=>bn (jk G v m s) λv=>fin t v s)=C:=by have r:m=q:=au (ah (λp=>bn p λp=>LI p aaG O) f);obtain⟨f,t⟩:=y7 g;(have g:BW G lv 0 J s=O (.par,s):=by show ax (J7 G lv 0 s) (fin J)=_;unfold J7;rw[f,t];rfl);rw[g];show bn (oc (aj m s.pg.par) pL (br (G.du m) (O (.av m)) (mp (G.cA m) λ_=>.cd m))) _=C;rw[r,j,sg.du,sg.mh q e,sg.cA,sg.LW q e];rfl
def aff:ER A (L_ o) (L_ B):=λt s s' k=>(h t s s' k).ax λ_ _ _ _ q k=>(jX q).m1 λ_=>⟨Z,k⟩
def aaO:ER A (SU o) (SU B):=λt s s' k=>(h J s s' k).ax λ_ _ _ _ q k=>(uT q).e1 λ_=>fF Z k
def aaP(h:ER A d R)(e:ER A a a')(f:ER A b b'):ER A (SV d a b) (SV R a' b'):=λt s s' k=>(h U s s' k).ax λ_ _ _ _ q k=>(Iy q).e1 λ_=>.br (λ_=>e t _ _ k) λ_=>f t _ _ k
variable(F:CR A c c')
def aaQ:ER A (Mq o c e) (Mq B c' e):=λt s s' k=>(h J s s' k).ax λ_ _ _ _ q k=>(F _ _ e _ _ q k).ax λ_ _ _ _ q k=>.so ⟨ah V.bool (I! q),k⟩
def aaR(f:ER A a a')(g:ER A b b'):ER A (SX e a b) (SX e a' b'):=λt s s' k=>(f J s s' k).ax λ_ _ _ _ q k=>(g J _ _ k).ax λ_ _ _ _ r k=>(UK A.gw q r).bn λ_ _ q=>fF q k
def aaS(h:LR A l E):ER A (SY l) (SY E):=λt s s' k=>(h s s' k).ax λ_ _ _ _ q k=>fF ⟨_,Z,q⟩ k
def aaT(h:LR A l E):ER A (S2 l) (S2 E):=λt s s' k=>(h s s' k).ax λ_ _ _ _ q k=>fF ⟨_,Z,q⟩ k
def K5{e f L:Type}{o:N (e×f)}{g:e->f->N L}(j:o=C):ax o g=C:=j▸Z
def aaU(e:ER A i T)(z:UU A lv po o):ER A (S4 G lv po o i) (S4 H lv po B T):=λt s s' k=>De sg k (λa f g j r=>K5 (z J s a f g j r)) (λp c d _=>(e J s s' k).ax λv w u f q k'=>by rw[calm_eq k k'];exact .gd λ_=>(o5 sg k' p).bn λc d r=>(Gd r q).bn λ_ _ q=>fF q k') ((h J s s' k).ax λ_ _ _ _ q k=>(e J _ _ k).ax λ_ _ _ _ r k=>(Oo q r).bn λ_ _ q=>fF q k)
abbrev RVo(A:Ab):N V×St->N V×St->Prop:=LQ (m7 (Ga A.g)) (RS A)
def IM(k:RS A s s'):RO (RVo A) (vR x o s) (vR x B s'):=.br (λ_=>.so ⟨.no,k⟩) λ_=>(h J s s' k).ax λ_ _ _ _ q k=>.so ⟨.so q,k⟩
def aaV{y:I}(e:ER A a a')(f:ER A b b'):ER A (S5 o (vR x a) (vR y b)) (S5 B (vR x a') (vR y b')):=λt s s' k=>(h J s s' k).ax λ_ _ _ _ q k=>(IM e k).ax λ_ _ _ _ e k=>(IM f k).ax λ_ _ _ _ f k=>(UN q e f).bn λ_ _ q=>fF q k
def aaW:LR A yc yc:=λ_ _ k=>.so ⟨Z,k⟩
def UX(e:LR A l E):LR A (BX o l) (BX B E):=λs s' k=>(h J s s' k).ax λ_ _ _ _ q k=>(e _ _ k).ax λ_ _ _ _ r k=>.so ⟨.mk q r,k⟩
def UY{f e:I->fc}(g:∀y,ER A (f y) (e y))(y:I):ER A (yT x o f y) (yT x B e y):=λt s s' k=>.br (λ_=>h t s s' k) λ_=>(h t s s' k).ax λ_ _ _ _ q k=>(jX q).e1 λ_=>.br (λ_=>.so ⟨q,k⟩) λ_=>g y t _ _ k
def aaX{p:fP}(h:RO (·=·) p f):RO (·=·) (Ff e p) (Ff e f):=pu (motive:=λe=>RO (·=·) (Ff e p) (Ff e f)) e .no .no .no .no .no .no .no .no h (h.m1 λ_=>Z)
def UZ(z:UU A lv po o):CR A (BY G lv x po o c) (BY H lv x po B c'):=λv w e s s' q k=>by induction e with|nil=>exact .no|cons g e _=>refine De sg k (λa g j r t=>K5 (z J s a g j r t)) (λp g g y=>?_) ((h J s s' k).ax λu g _ _ f k=>(IB A.gw q f).e1 λg=>.br (λ_=>?_) λ_=>?_);(generalize e=u;induction u with|nil=>exact .gd λ_=>(aaX (KY y q)).m1 λ_=>⟨Z,k⟩|cons _ _ _=>exact .no);(induction e with|nil=>exact .so ⟨Z,k⟩|cons _ _ _=>exact .no);generalize e=u;induction u with|nil=>exact .no|cons _ _ _=>exact .br (λ_=>F _ _ _ _ _ f k) λ_=>.so ⟨Z,k⟩
end
section
variable{A:Ab}{G H:cQ}{lv:ae}{s s':St}{v w:V}{po:N Pl}{o T:fc}{l R k k':sR}{c d:Cn}{m n:W}{x:I}{ks:ae}{t:I}
def xj(i:iz A G H){f e:V}{a g:af}{b h:aY}(j:Ga A.g f e)(p:cu A.g a g)(q:o4 A.g b h)(r:RS A s s'):RO (RV A) (ax (jN G f a b s) λv s=>fin t v s) (ax (jN H e g h s') λv s=>fin t v s):=(K4 i j p q r).ax λ_ _ _ _=>fF
def OI(q:uI G lv n ks):aq lv n=J:=d8.mpr λh=>ao (il (dM h) q)
def OJ(a:iz A G H)(y:LR A l R)(B:LR A k k')(z:ŗ A lv po l):ER A (vS G lv n ks po l k) (vS H lv n ks po R k'):=λt s s' h=>by have K:RO _ (ax (J7 G lv n s) λb s=>ax _ λp s=>ax _ λe s=>bn (zZ ks e) λr=>ax _ λv s=>fin t v s) _:=(IK a n h).ax λ_ _ _ _ q h=>(y _ _ h).ax λ_ _ _ _ y h=>(B _ _ h).ax λ_ _ _ _ B h=>(Ov B).bn λ_ _ B=>xj a q y B h;(have f:uI H lv n ks=uI G lv n ks:=by unfold uI;rw[a.gl]);unfold vS;rw[f];cases q:uI G lv n ks with|false=>exact K|true=>refine(AM (lv:=lv) a h po).elim (λz=>?_) λy=>?_;exact .oc (z.elim (λz=>by rw[z.1,z.2];exact .no) λz=>by obtain⟨u,a,g,i,j⟩:=z;rw[g,i];exact KV j.2) (λ_ _ q=>fF q h) K;obtain⟨E,u,g,i,j,L⟩:=y;(have M:∀F:V->af->St->mc,(ax (J7 G lv n s) λb s=>ax (l s) (F b))=C:=λF=>by unfold J7;rw[OI q];cases G.gl n with|none=>rfl|some P=>exact(K5 (z s u g i j L):ax _ _=C));rw[E];exact λ_ f=>aa (il (M λb p s=>ax (k s) λe s=>bn (zZ ks e) λr=>ax (jN G b p r s) λv s=>fin t v s) f)
def U0(a:iz A G H)(b:LR A l R)(p:Pl)(r:vc A c d)(h:RS A s s'):RO (RV A) (S6 G lv m l t s (p,c)) (S6 H lv m R t s' (p,d)):=by show RO _ (gd _ _) _;rw[K3 r];refine .gd λ_=>(b s s' h).ax λb b u b q b=>?_;rw[calm_eq h b,a.ro];exact .gd λ_=>(o5 a b p).bn λc d r=>(xg a r q).ax λ_ _ _ _ q r=>(zj b p r).bn λ_ _ h=>fF q h
def OL(a:iz A G H){e h:af}{f i:aY}{b g:St}(j:RS A b g)(p:cu A.g e h)(r:o4 A.g f i)(u:RS A s s'):RO (RV A) (Hu G (aj m b.pg.par) m x e f t s) (Hu H (aj m g.pg.par) m x h i t s'):=by cases b:A.lh m with|true=>rw[j.pg.abs m b];show RO _ (gd _ _) _;rw[a.du,a.mh m b];exact .no|false=> refine .oc (j.pg.tC m b) (λ_ _ q=>.gd λ_=>(tG q).bn λ_ _ q=>xj a q p r u) ?_;rw[a.du];exact .gd λ_=>xj a Z p r u
def OM(h:iz A G H){e:ae}{a f:af}{b g:aY}(j:cu A.g a f)(i:o4 A.g b g)(p:RS A s s'):RO (RV A) (Hv G m e a b t s) (Hv H m e f g t s'):=by unfold Hv;rw[h.nJ];exact .gd λ_=>N9 i (tj j λv w q=>(UD q).bn λ_ _ q=>(aaI q).e1 λ_=>.gd λ_=>.gd λ_=>fF Z p) λ_ _ _ _ _ _=>.no
def ON(a:iz A G H)(f:ER A o T)(e:LR A l R)(g:LR A k k')(z:UU A lv po o):ER A (z4 G lv po m ks x o l k) (z4 H lv po m ks x T R k'):=λt s s' h=>De a h (λi b j r u=>K5 (z J s i b j r u)) (λp c d y=>by
  induction ks with
  |nil=>exact U0 a e p y h
  |cons _ _ _=>exact .no) ((f J s s' h).ax λv w f f q b=>(e _ _ b).ax λ_ _ _ _ e h=>(g _ _ h).ax λ_ _ _ _ f h=>(Ov f).bn λ_ _ f=>by
  rw[(flat q).3];exact .br (λ_=>OL a b e f h) λ_=>(xe q).e1 λ_=>OM a e f h)
def aaY(a:iz A G H)(b:LR A l R):ER A (Fe G m l) (Fe H m R):=λt s s' h=>by unfold Fe;rw[a.ro];exact .br (λ_=>.no) λ_=>(b s s' h).ax λ_ _ _ _ q h=>(a.sup _ _ _ _ _ q h.pg).ax λ_ _ _ _ q r=>fF q ⟨h.loc,r⟩
def U1(g:iz A G H){a:X}{b:W}{d:X}{e:ae}{f:fc}:ER A (uq G lv a b d e) f:=λt s s' h=>by unfold uq;rw[g.comp];exact λz e=>FO e λ_ e=>aa e
variable(A G H lv)in
structure E4R(x:X):Prop where
 e:ER A (c! G lv x).e (c! H lv x).e
 l:LR A (c! G lv x).l (c! H lv x).l
 b:∀y,ER A ((c! G lv x).b y) ((c! H lv x).b y)
 c:CR A (c! G lv x).c (c! H lv x).c
 hE:UU A lv (cG x) (c! G lv x).e
 hL:ŗ A lv (bn (yQ x) cG) (c! G lv x).l
def sm{P:Prop}(h:(C:N Pl)=O (.bU a)):P:=aa h
def Ym:ER A (λ_ _=>C) f:=λ_ _ _ _=>.no
def gD{x:X}(g:cG x=C)(i:yQ x=C){f b:fc}(a:c! G lv x=uJ f)(e:c! H lv x=uJ b)(h:ER A f b):E4R A G H lv x:=⟨by rw[a,e];exact h,by rw[a];exact λ_ _ _=>.no,by rw[a];exact λ_ _ _ _ _=>.no,by rw[a];exact λ_ _ _ _ _ _ _=>.no,by rw[g];exact λ_ _ _ e=>sm e,by rw[i];exact λ_ _ e=>sm e⟩
def OO{K:mc}(h:gy G lv s po=C)(k:K=C):vQ G lv t po s K=C:=by unfold vQ;rw[h,k];cases t<;>rfl
def eF(a:iz A G H)(x:X):E4R A G H lv x:=by induction x with|nil=>exact⟨λ_ _ _ _=>.no,aaW,λ_ _ _ _ _=>.no,λ_ _ _ _ _ _ _=>.no,λ_ _ _ e=>sm e,λ_ _ e=>sm e⟩|cons x z i j=>exact⟨λ_ _ _ _=>.no,UX i.e j.l,UY i.e j.b,UZ a i.e j.c i.hE,λ_ _ _ e=>sm e,λs b e f g h=>bL e λy p e=>bW p λ_ p=>(show BX (c! G lv x).e (c! G lv z).l s=C from K5 (i.hE J s b ((au p)▸e) f g h))⟩|pd=>exact gD Z Z Z Z (xi Z)|yN=>exact gD Z Z Z Z (xi Z)|Hp=>exact gD Z Z Z Z (xi Z)|int n=>exact gD Z Z Z Z (xi Z)|str l=>exact gD Z Z Z Z (xi Z)|aR y=>exact⟨aaM a,λ_ _ _=>.no,λ_ _ _ _ _=>.no,λ_ _ _ _ _ _ _=>.no,λ_ _ _ e=>OH e,λ_ _ e=>sm e⟩|bU o b i=>(have z:∀t s,Gf A lv (cG (.bU o b)) s ((ax ((c! G lv o).e J s) λv s=>bn _ λv=>fin t v s)=C):=λt s q e f g h=>bW e λp e=>by rw[As p];exact UW a e f g h);exact⟨aaN a i.e z,λ_ _ _=>.no,λ_ _ _ _ _=>.no,λ_ _ _ _ _ _ _=>.no,λt s q e f g h=>by have y:=z t s q e f g h;(have p:gy G lv s (cG (.bU o b))=C:=by rw[e];show mp (gd _ _) _=C;rw[h,a.cA,a.LW q f,g];rfl);exact OO p y,λ_ _ e=>sm e⟩|nt y i=>exact gD Z Z Z Z (aff i.e)|neg y i=>exact gD Z Z Z Z (aaO i.e)|and r i=>exact gD Z Z Z Z (i.b U)|or r i=>exact gD Z Z Z Z (i.b J)|ite b u d i j k=>exact gD Z Z Z Z (aaP i.e j.e k.e)|cmp l F K i j=>exact gD Z Z Z Z (aaQ i.e j.c)|bin L b u i j=>exact gD Z Z Z Z (aaR i.e j.e)|tup r i=>exact gD Z Z Z Z (aaS i.l)|yO r i=>exact gD Z Z Z Z (aaT i.l)|Sk=>exact gD Z Z Z Z Ym|sub o k i j=>exact gD Z Z Z Z (aaU a i.e j.e i.hE)|cut o M P i j k=>exact gD Z Z Z Z (aaV i.e j.e k.e)|bF Q B ks E i j=>exact gD Z Z Z Z (OJ a i.l j.l i.hL)|fw o m B ks E i j k=>exact gD Z Z Z Z (ON a i.e j.l k.l i.hE)|sup m B i=>exact gD Z Z Z Z (aaY a i.l)|comp b u d e _ _=>exact gD Z Z Z Z (U1 a)|bad=>exact gD Z Z Z Z Ym
end
def ê(g:Gb)(f a:Fl):=vK f (a=.next) (a=.brk) λv=>∃w,a=.ret w/\Ga g v w
section
variable(A:Ab)
abbrev RF:Fl×St->Fl×St->Prop:=LQ (ê A.g) (RS A)
def SR(f b:gz):=∀s a,RS A s a->RO (RF A) (f s) (b a)
abbrev P0:(I×af)×St->(I×af)×St->Prop:=LQ (LQ (·=·) (cu A.g)) (RS A)
end
section
variable{A:Ab}{G H:cQ}{lv:ae}{s s':St}{v w:V}{R T:Type}{S:R->T->Prop}{po:N Pl}{e E i P:fc}{l L:sR}{a b a' b':gz}{m n x y:W}{f F:Fl}{xs:ae}{Q:np}{bo:N (W×X)}{b2:N X}
def iV(h:RS A s s'):RO (RF A) (nx s) (nx s'):=.so ⟨Z,h⟩
def ç{M:Fl->Fl->Prop}(h:ê A.g f F)(n:M .next .next)(b:M .brk .brk)(r:∀v w,Ga A.g v w->M (.ret v) (.ret w)):M f F:=
 Fl.casesOn f (λh=>(h)▸n) (λh=>(h)▸b) (λv h=>by obtain⟨w,q,k⟩:=h;exact q▸r v w k) h
def xk(q:ê A.g f F)(h:RS A s s')(k:RO (RF A) (a s) (a' s')):RO (RF A) (turn f s a) (turn F s' a'):=ç (M:=λf F=>RO _ (turn f s a) (turn F s' a')) q k (iV h) λv w r=>.so ⟨⟨w,Z,r⟩,h⟩
def U2(c:SR A a a')(d:SR A b b'):SR A (bh a b) (bh a' b'):=λs s' h=>(c s s' h).ax λf F s s' q h=>ç (M:=λf F=>RO (RF A) (vK f _ _ λv=>O (.ret v,s)) (vK F _ _ λv=>O (.ret v,s'))) q (d _ _ h) (.so ⟨Z,h⟩) λv w r=>.so ⟨⟨w,Z,r⟩,h⟩
def U3(h:ER A e E):SR A (vT e) (vT E):=λs s' k=>(h J s s' k).ax λ_ _ _ _ _ k=>iV k
def aa0{z:I}(h:ER A e E):SR A (sT z e) (sT z E):=λs s' k=>.br (λ_=>.so ⟨⟨_,Z,Z⟩,k⟩) λ_=>(h J s s' k).ax λ_ _ _ _ q k=>.so ⟨⟨_,Z,q⟩,k⟩
def OP(q:Ga A.g v w)(xs:ae):∀{s s'},RS A s s'->RS A (oV v xs s) (oV w xs s'):=by induction xs with|nil=>exact id|cons x xs c=>exact λh=>c (h.lj x ⟨w,Z,q⟩)
def aa1(h:ER A e E):SR A (Mr xs e) (Mr xs E):=λs s' k=>(h J s s' k).ax λ_ _ _ _ q k=>iV (OP q xs k)
def OQ{f:W->N R}{F:W->N T}(k:∀x,RO S (f x) (F x)):RO S (one xs f) (one xs F):=by
 induction xs with
 |nil=>exact .no
 |cons x r=>induction r with
  |nil=>exact k x
  |cons _ _ _=>exact .no
def U4(h:LR A l L):SR A (Hw xs l) (Hw xs L):=λs s' k=>OQ λx=>(h s s' k).ax λ_ _ _ _ q k=>iV (k.lj x ⟨_,Z,q⟩)
def U5(c:iz A G H){p:X}{q:W}{r:X}{t:ae}:SR A (yU G lv x p q r t) a:=λs s' k=>by unfold yU;rw[c.comp];exact λz e=>FO e λ_ e=>aa e
def xl(xs:ae):∀{c d:af}{s s':St},cu A.g c d->RS A s s'->RO (RS A) (unpack xs c s) (unpack xs d s'):=by induction xs with|nil=>exact λq h=>m8 q (.so h) λ_ _ _ _ _ _=>.no|cons x xs g=>exact λq h=>m8 q .no λv w l m r q=>g q (h.lj x ⟨w,Z,r⟩)
def aa2(h:ER A e E):SR A (S7 xs e) (S7 xs E):=λs s' k=>(h J s s' k).ax λ_ _ _ _ q k=>(ż q).bn λ_ _ q=>(xl xs q k).bn λ_ _=>iV
def OR{q:PA}:ym A q c->Hs q=Hs c:=PA.casesOn q (λ_ h=>by obtain⟨w,e,r⟩:=h;rw[e];exact ah sn (flat r).4) (λ_ h=>by obtain⟨w,e,_⟩:=h;rw[e];rfl) (λ_ h=>by obtain⟨w,e,_⟩:=h;rw[e];rfl) (λ_ h=>by obtain⟨w,e,_⟩:=h;rw[e];rfl) λ_ h=>by obtain⟨w,e,_⟩:=h;rw[e];rfl
def U6{q:PA}(h:RP A s.pg s'.pg)(g:A.lh x=J)(d:ym A q c):qZ s' x c=qZ s x q+A.δ:=by unfold qZ;rw[<-OR d,h.bD,show oc _ Hs J=oc (aj x s.pg.par) Hs J from(h.tC x g).elim (λz=>by rw[z.1,z.2]) λz=>by obtain⟨_,_,c,d,g⟩:=z;rw[c,d];exact(OR g).symm,jI];cases Hs q<;>cases oc _ Hs J<;>rfl
def mH{c:I}{q:PA}(h:RS A s s')(g:A.lh x=J)(k:A.dm x)(j:ym A q d):RO (RF A) (hO c s x q) (hO c s' x d):=.br (λ_=>.no) λ_=>.LL (λ_=>(aB _).symm▸g8 h.pg.len) λ_=>.so ⟨Z,h.loc,h.pg.put g k j (U6 h.pg g j)⟩
def U7(c:iz A G H){y z:I}(h:LR A l L)(j:ER A e E):SR A (vU G lv x y z l e) (vU H lv x y z L E):=λs s' k=>by unfold vU;rw[tF k,c.ro];refine .gd λ_=>.LL (λq=>(c.attr x q).1) λq=>?_;obtain⟨_,d,g⟩:=c.attr x q;exact .br (λ_=>(h s s' k).ax λ_ _ _ _ q k=>mH k d g ⟨_,Z,q⟩) λ_=>.br (λ_=>mH k d g ⟨_,Z,Z⟩) λ_=>(j J s s' k).ax λ_ _ _ _ q k=>mH k d g ⟨_,Z,q⟩
def Gg{d:I}{p:Pl}(h:RS A s s')(r:vc A c g):RO (RF A) (bn (hM d s p c) nx) (bn (hM d s' p g) nx):=(zj h p r).bn λ_ _=>iV
def U8(c:iz A G H)(g:ER A i P)(d:ER A e E):SR A (Hx G lv po i e) (Hx H lv po P E):=λs s' k=>RO.KQ.e1 λp=>(d J s s' k).ax λv w _ _ q k=>(o5 c k p).bn λ_ _ _=>(g J _ _ k).ax λ_ _ _ _ g d=>by rw[calm_eq k d,c.ro];exact .gd λ_=>(o5 c d p).bn λ_ _ r=>(KZ r g q).bn λ_ _ r=>Gg d r
def Yn(c:iz A G H)(h:RS A s s'):RO (LQ (·=·) (vc A)) (gy G lv s po) (gy H lv s' po):=(AM c h po).elim m7.ro λq=>by rw[q.1];exact .no
def tH(h:vc A c d):RO (pY A.g) (nU c) (nU d):=OB (M:=λc d=>RO _ (nU c) (nU d)) h (λ_ _ _=>.no) (λ_ _ r=>.so r) (λ_ _ _=>.no) λ_ _ _=>.no
def aa3(c:iz A G H)(d:ER A i P):SR A (S8 G lv po i) (S8 H lv po P):=λs s' k=>(Yn c k).ax λp g g g g r=>(tH r).bn λ_ _ _=>(d J s s' k).ax λ_ _ _ _ q d=>by rw[calm_eq k d,c.ro,<-(g)];exact .gd λ_=>(uT q).e1 λz=>(RO.bn (o5 c d p) λ_ _=>tH).bn λ_ _ r=>(AL r).ro.bn λ_ _ _=>Gg d ⟨_,Z,UR r⟩
def aa4(h:RS A s s')(q:Ga A.g v w):RO (RF A) (nx (aE s x (.val v))) (nx (aE s' x (.val w))):=iV (h.lj x ⟨w,Z,q⟩)
def mk_val(q:Ga A.g v w):ym A (.val v) (.val w):=⟨w,Z,q⟩
def aa5(c:iz A G H)(j:ER A e E):SR A (S9 G lv x Q e) (S9 H lv x Q E):=λs s' k=>.gd λ_=>(k.loc x).ro.bn λl L q=>Oz q (λv w d g q=>by
  rw[d,g];exact(j J s s' k).ax λ_ _ _ _ h k=>(IF A.gw q h).bn λ_ _ q=>aa4 k q) λo o d g _=>by
  rw[d,g];refine .gd λ_=>(j J s s' k).ax λ_ _ _ _ h d=>?_;rw[calm_eq k d,c.ro,c.nE];exact .gd λ_=>(o5 c d _).bn λ_ _ r=>(c.nE▸xg c r (.mk h Z):RO (RM A) _ _).ax λ_ _ _ _ _ r=>Gg d r
def U9(c:iz A G H)(d:ER A e E):SR A (BZ G lv x Q e) (BZ H lv x Q E):=λs s' k=>by unfold BZ;rw[tF k,c.ro];exact .gd λ_=>λz h=>bL h λv c h=>bL c λq g c=>by obtain⟨j,o,p,r,t⟩:=OF k.pg g;obtain⟨w,g,u⟩:=tG t v c;rw[r,show bn (O p) pL=O w from g];exact((d J s s' k).ax λ_ _ _ _ c k=>(IF A.gw u c).bn λ_ _ q=>mH k j o (mk_val q)) z h
def afg(h:ER A e E)(c:SR A a a')(d:SR A b b'):SR A (BD e a b) (BD E a' b'):=λs s' k=>(h U s s' k).ax λ_ _ _ _ q k=>(Iy q).e1 λ_=>.br (λ_=>c _ _ k) λ_=>d _ _ k
def aa6(h:ER A e E)(c:SR A a a')(n:W):SR A (uE e a n) (uE E a' n):=by induction n with|zero=>exact λ_ _ _=>.no|succ n d=> intro s s' k;show RO _ (ax _ λv s=>bn (gH v) λx=>br x (ax (a s) λf s=>turn f s _) (nx s)) (ax _ λv s=>bn (gH v) λx=>br x (ax (a' s) λf s=>turn f s _) (nx s));exact(h U s s' k).ax λ_ _ _ _ q k=>(Iy q).e1 λ_=>.br (λ_=>(c _ _ k).ax λ_ _ _ _ q k=>xk q k (d _ _ k)) λ_=>iV k
def Va(h:ER A e E):SR A (Hy e) (Hy E):=λs s' k=>(h U s s' k).ax λ_ _ _ _ q k=>(Iy q).e1 λ_=>.gd λ_=>iV k
def xm{f F:V->gz}(g:∀v w,Ga A.g v w->SR A (f v) (F w)){c:af}:∀{d:af},cu A.g c d->SR A (forL f c) (forL F d):=by induction c with|nil=>exact λq=>by rw[show _=[]from q];exact λ_ _=>iV|cons v c h=> intro d q;obtain⟨w,m,e,c,q⟩:=q.un;rw[e];exact λs s' k=>(g v w c s s' k).ax λ_ _ _ _ r k=>xk r k (h q _ _ k)
def K7{f F:W->W->gz}(d:∀i c,SR A (f i c) (F i c))(l:ae):∀i,SR A (vV f l i) (vV F l i):=by induction l with|nil=>exact λ_ _ _=>iV|cons c l g=>exact λi s s' k=>(d i c s s' k).ax λ_ _ _ _ r k=>xk r k (g _ _ _ k)
def IP{l:eu}:∀{m:eu},pY A.g l m->cu A.g (keysOf l) (keysOf m):=by induction l with|nil=>exact λh=>by rw[show _=[]from h];exact Z|cons p l c=> intro m h;obtain⟨q,k,e,⟨d,_⟩,h⟩:=h;rw[e];exact .mk (ah V.int d) (c h)
def Df(n c:W):∀a,cu A.g (dF c n a) (dF c n a):=by induction n with|zero=>exact λ_=>Z|succ n d=>exact λa=>.mk Z (d _)
def OS{l:Y (ae×V)}:cu A.g (l.map λp=>.str p.1) (l.map λp=>.str p.1):=by induction l with|nil=>exact Z|cons p l c=>exact .mk Z c
def Vb(g:iz A G H)(k:RS A s s')(p:Pl):RO (P0 A) (LI p aaG λa=>oc (aj a s.pg.par) aaG (mp (G.cA a) λc=>((J,c.map λp=>.str p.1),s))) (LI p aaG λa=>oc (aj a s'.pg.par) aaG (mp (H.cA a) λc=>((J,c.map λp=>.str p.1),s'))):=Pl.casesOn p (λ_=>.no) λa=>by show RO _ (oc _ aaG _) _;rw[g.cA];cases d:A.lh a with|true=>rw[g.LW a d,k.pg.abs a d];exact .no|false=>exact .oc (k.pg.tC a d) (λ_ _ _=>.no) (RO.KQ.m1 λc=>⟨⟨Z,OS⟩,k⟩)
def Gh(h:iz A G H)(B:ER A e E)(k:RS A s s')(z:Gf A lv po s ((oc bo (λg=>br (ac g.1 3) (ax (ev G lv J g.2 s) λv s=>bn (asNat v) λn=>gd (bd n 1000000) (O ((J,dF 1 n 0),s))) (gd (ac g.1 5) (bn (bn (gy G lv s (cG g.2)) λo=>nU o.2) λd=>O ((J,keysOf d),s)))) (oc b2 (λj=>ax (BC G lv j s) λc s=>two c λv w=>bn (asNat v) λn=>bn (asNat w) λm=>gd (bd m 1000000) (gd (bd n 1000000) (O ((J,dF 1 (m-n) n),s)))) (ax (e J s) λv s=>bn (vG v) λc=>O ((J,c),s))))=C)):RO (P0 A) (source G lv po bo b2 e s) (source H lv po bo b2 E s'):=De h k z (λp o t r=>OB (M:=λo t=>RO _ (ya o C (di:=λd=>O ((U,keysOf d),s)) (sd:=λ_=>LI p aaG λa=>oc (aj a s.pg.par) aaG (mp (G.cA a) λd=>((J,d.map λp:ae×V=>.str p.1),s)))) (ya t C (di:=λd=>O ((U,keysOf d),s')) (sd:=λ_=>LI p aaG λa=>oc (aj a s'.pg.par) aaG (mp (H.cA a) λd=>((J,d.map λp:ae×V=>.str p.1),s'))))) r (λ_ _ _=>.no) (λ_ _ r=>.so ⟨⟨Z,IP r⟩,k⟩) (λ_ _ _=>Vb h k p) λ_ _ _=>.no) (by induction bo with|none=>(generalize b2=u;induction u with|none=>exact show RO _ (ax _ λv s=>bn _ λc=>O ((J,c),s)) (ax _ λv s=>bn _ λc=>O ((J,c),s))from(B J s s' k).ax λ_ _ _ _ q k=>(ahE q).bn λ_ _ q=>.so ⟨⟨Z,q⟩,k⟩|some j=>exact show RO (P0 A) (ax _ λc s=>two c λv w=>bn _ λn=>bn _ λm=>gd (bd m 1000000) (gd (bd n 1000000) (O ((J,dF 1 (m-n) n),s)))) (ax _ λc s=>two c λv w=>bn _ λn=>bn _ λm=>gd _ (gd _ (O (_,s))))from((eF h j).l s s' k).ax λ_ _ _ _ q k=>xc q λ_ _ _ _ c d=>(xd c).e1 λ_=>(xd d).e1 λ_=>.gd λ_=>.gd λ_=>.so ⟨⟨Z,Df _ _ _⟩,k⟩)|some g=>exact .br (λ_=>((eF h g.2).e J s s' k).ax λ_ _ _ _ q k=>(xd q).e1 λ_=>.gd λ_=>.so ⟨⟨Z,Df _ _ _⟩,k⟩) λ_=>.gd λ_=>(RO.bn (Yn h k) λ_ _ r=>tH r.2).bn λ_ _ q=>.so ⟨⟨Z,IP q⟩,k⟩)
end
section
variable{A:Ab}{G H:cQ}{lv:ae}{s s':St}{e B:fc}{a b a' b' q E:gz}{n x y:W}{bo:N (W×X)}
def IQ(q:Ga A.g v w):A_ A.g (.val v) (.val w):=⟨w,Z,q⟩
def aa7{f c:St->N ((I×af)×St)}(d:∀s s',RS A s s'->RO (P0 A) (f s) (c s'))(g:SR A q E)(h:SR A b b'):SR A (Ms x f q b) (Ms x c E b'):=λs s' k=>(d s s' k).ax λr c s s' z k=>by rw[show r.1=c.1 from z.1];exact .br (λ_=>xm (λv w u s s' k=>g _ _ (k.lj x (IQ u))) z.2 s s' k) λ_=>xm (λv w u s s' k=>h _ _ (k.lj x (IQ u))) z.2 s s' k
def Vd(c:iz A G H)(d:SR A b b'):SR A (q8 G lv x y bo b) (q8 H lv x y bo b'):=λs s' k=>RO.ax (λz e=>⟨z,e,Z,Z⟩) λp f f g z g=>by rw[<-(z),<-(g)];exact .gd λ_=>((eF c f).e J s s' k).ax λ_ _ s s' r k=>(xe r).e1 λl=>K7 (λi c s s' k=>d _ _ ((k.lj x (IQ (v:=.int i) Z)).lj y (IQ (v:=.str [c]) Z))) l 0 s s' k
def iz.roR(c:iz A G H):iz A (D_ G) (D_ H):=⟨c.gl,c.Lc,c.cls,c.Ox,c.du,c.mh,c.cA,c.F?,c.LW,c.attr,c.nA,c.nE,c.nP,c.nI,c.nJ,c.nd,Z,c.av,c.func,c.sup,c.comp⟩
def iz.OT(c:iz A G H)(d:Def):iz A (ye G d) (ye H d):=⟨ah (yd · d.gv) c.gl,λx v e=>bW e λ_ e=>c.Lc x v e,c.cls,c.Ox,c.du,c.mh,c.cA,c.F?,c.LW,c.attr,c.nA,c.nE,c.nP,c.nI,c.nJ,c.nd,c.ro,c.av,c.func,c.sup,c.comp⟩
def Gi{p:Pl}:cG c=O p->uo c=C:=X.casesOn c aa gJ aa aa aa bX bX (λ_ _=>Z) (λ_ _ _=>Z) bX bX bX bX kE kE kE bX bX aa gJ kE Ft Tg gJ Ft aa
def Dg{p:Pl}:cG c=O p->call2 c=C:=X.casesOn c aa gJ aa aa aa bX bX (λ_ _=>Z) (λ_ _ _=>Z) bX bX bX bX kE kE kE bX bX aa gJ kE Ft Tg gJ Ft aa
def aa8(c:iz A G H){z:N (W×X)}:B1 G lv z=B1 H lv z:=by unfold B1;rw[c.gl]
def Ve(c:ER A e B)(d:SR A b b'):SR A (B3 x y e b) (B3 x y B b'):=λs s' k=>(c J s s' k).ax λ_ _ s s' q k=>(UD q).bn λ_ _ q=>xm (λv w u s s' k=>(ż u).bn λ_ _ u=>(xl [x,y] u k).bn λ_ _ k=>d _ _ k) q s s' k
def Yo(c:iz A G H){z:N (W×X)}:q5 G lv z=q5 H lv z:=by unfold q5;rw[c.gl]
def OU{z:I}(h:SR A a a')(k:SR A b b'):SR A (br z a b) (br z a' b'):=by cases z with|true=>exact h|false=>exact k
def Dh:SR A aaG f:=λ_ _ _=>.no
def AN(n:W)(x:S):∀{G H:cQ},iz A G H->SR A (s4 lv n x G) (s4 lv n x H):=by
 induction x with
 |nil=>exact λ_ _ _=>iV
 |cons x d i j=>exact λc=>U2 (i c) (j c)
 |expr e=>exact λc=>U3 (eF c e).e
 |ret e=>exact λc=>aa0 (eF c e).e
 |brk=>exact λ_ _ _ h=>.so ⟨Z,h⟩
 |T?=>exact λ_ _ _=>iV
 |set d e=>exact λc=>OU (U4 (eF c _).l) (aa1 (eF c e).e)
 |setC x p q r t=>exact λc=>U5 c
 |C' d e=>exact λc=>aa2 (eF c e).e
 |E8 o a e=>exact λc=>OU (U7 c (eF c _).l (eF c e).e) Dh
 |Zd o i e=>exact λc=>U8 c (eF c i).e (eF c e).e
 |del o i=>exact λc=>aa3 c (eF c i).e
 |aug x k e=>exact λc=>aa5 c (eF c e).e
 |J2 o a k e=>exact λc=>OU (U9 c (eF c e).e) Dh
 |ifs f t e i j=>exact λc=>afg (eF c f).e (i c) (j c)
 |uE f b i=>exact λc=>aa6 (eF c f).e (i c) n
 |x8 d g b i=>
  intro G H c;cases d with
  |nil=>exact Dh
  |cons x r=>cases r with
   |nil=>
    show SR A _ (Ms x _ _ _);rw[<-Yo c,<-aa8 c]
    exact aa7 (λs s' k=>Gh c (eF c g).e k λa d f h j=>by rw[Gi d,Dg d];exact(K5 ((eF c g).hE J s a d f h j):ax _ (λv s=>bn (vG v) λd=>O ((J,d),s))=C)) (i c.roR) (i c)
   |cons y r=>cases r with
    |nil=>
     show SR A (λs=>oc _ (λz=>q8 G lv x y _ _ s) _) (λs=>oc _ (λz=>q8 H lv x y _ _ s) _);rw[<-Yo c];cases q5 G lv _ with
     |none=>exact Ve (eF c g).e (i c)
     |some z=>exact Vd c (i c)
    |cons _ _=>exact Dh
 |Ze e=>exact λc=>Va (eF c e).e
 |C_ b i=>exact λc=>i c
 |bad=>exact λ_=>Dh
def OV{b:aY}:∀{b':aY},o4 g b b'->F9 g (b.map λp=>(p.1,LV.val p.2)) (b'.map λp=>(p.1,LV.val p.2)):=by induction b with|nil=>exact λh=>by rw[show _=[]from h];exact λ_=>.no|cons p b c=>intro b' h x;obtain⟨q,m,e,⟨d,f⟩,h⟩:=h.un;rw[e];show m7 _ (br _ _ _) (br _ _ _);rw[d];cases ac p.1 x with|true=>exact .so ⟨_,Z,f⟩|false=>exact c h x
def IT(m:iz A G H)(n:W)(d:Def)(j:Yl d.params){c g:af}{f h:aY}(k:cu A.g c g)(l:o4 A.g f h){p i:PG}(o:RP A p i):RO (UO A) (run G n d c f p) (run H n d g h i):=(CY j k l).bn λb b' c=>(AN n d.body (m.OT d) _ _ ⟨OV c,o⟩).ax λf c _ _ q k=>.so ⟨ç (M:=λf c=>Ga A.g (km f) (km c)) q Z Z λ_ _ r=>r,k.pg⟩
end
def u':aY:=[(ael,.bi 0),(z7,.bi 1),(Te,.bi 3),(B9,.bi 4),(Zo,.bi 5),(aek,.bi 7),(aen,.bi 8)]
def X_(a:oh)(x:W):N V:=oc (aj x u') O (oc (aj x yf) (λ_=>O (.cls x)) (mp (aj x a) λ_=>.fn x))
def Di:Y (ae×V):=[([33],.str [33]),([33,33],.str [116,97,103,58,121,97,109,108,46,111,114,103,44,50,48,48,50,58])]
def Vf:Y (ae×V):=[([48],.str [0]),([97],.str [7]),([98],.str [8]),([116],.str [9]),([9],.str [9]),([110],.str [10]),([118],.str [11]),([102],.str [12]),([114],.str [13]),([101],.str [27]),([32],.str [32]),([34],.str [34]),([92],.str [92]),([47],.str [47]),([78],.str [133]),([95],.str [160]),([76],.str [8232]),([80],.str [8233])]
def mJ(k:W):N (Y (ae×V)):=br (ac k wd) (O Di) (br (ac k nu) (O Vf) (br (ac k wb) (O [([120],.int 2),([117],.int 4),([85],.int 8)]) C))
def jC(m:W):I:=(aj m uv).isSome
abbrev yn:=W->af->aY->PG->dR
def Gj(a:oh)(b:W->I)(m f:yn):cQ:={gl:=X_ a,cls:=λc=>aj c yf,du:=jC,bw:=b,cA:=mJ,av:=m,func:=f,sup:=λ_ _ _=>C,dT:=jb,dD:=wa,qs:=MD,ew:=v9,lE:=Fo,ro:=J}
def Dj(G:cQ):yn:=λm a b c=>bn (aj m uv) λd=>run G 300 d (.par::a) b c
def Dk(a:oh)(G:cQ):yn:=λf b c d=>bn (aj f a) λa=>run G 300 a b c d
def OW(a:oh)(b:W->I):cQ:=Gj a b (λ_ _ _ _=>C) λ_ _ _ _=>C
def sig(a:oh)(b:W->I)(d:W):cQ:=ul (motive:=λ_=>cQ) (OW a b) (λ_ G=>Gj a b (Dj G) (Dk a G)) d
def Vg(l:oh):I:=aI (λp=>Yl p.2.params) l
section
variable{g:Type}{f:g->I}{l:Y (W×g)}{a:W}{v:g}
def oE(h:aI (λp=>f p.2) l=U)(e:aj a l=O v):f v:=by induction l with|nil=>exact aa e|cons p l b=>exact cp h λc d=>jg (show br (ac p.1 a) (O p.2) (aj a l)=O v from e) (λ_ e=>au e▸c) λ_ e=>b d e
def ik:(aj a l).isSome=aq (l.map (·.1)) a:=by induction l with|nil=>rfl|cons p l b=>show(br (ac p.1 a) (O p.2) (aj a l)).isSome=br (ac p.1 a) U (aq (l.map (·.1)) a);cases ac p.1 a with|true=>rfl|false=>exact b
end
structure IU(A:Ab)(at1 at2:W->I):Prop where
 mh:∀a,A.lh a->jC a=J
 LW:∀a,A.lh a->mJ a=C
 attr:∀a,at1 a->at2 a/\A.lh a=J/\A.dm a=U
def IV:aI (λp:W×XD=>Yl p.2.params&&u_ p.2.consts) yf=U:=by kernel_rfl
def OX:Vg uv:=by kernel_rfl
def aa9:aI (λp:W×V=>LS p.2) u'=U:=Z
section
variable{A:Ab}{i:oh}{j at2:W->I}
abbrev Gk(A:Ab)(m m':yn):Prop:=∀n as as' ks ks' p p',cu A.g as as'->o4 A.g ks ks'->RP A p p'->RO (UO A) (m n as ks p) (m' n as' ks' p')
def oF(a:IU A j at2){m b f c:yn}(d:Gk A m b)(g:Gk A f c):iz A (Gj i j m f) (Gj i at2 b c)where
 gl:=Z
 Lc:=λx v e=>ma (show oc (aj x u') O (oc (aj x yf) (λ_=>O (.cls x)) (mp (aj x i) λ_=>.fn x))=O v from e) (λw h e=>au e▸oE (f:=LS) aa9 h) λ_ e=>ma e (λ_ _ e=>au e▸Z) λ_ e=>iH e λ_ _ e=>e▸Z
 cls:=Z
 Ox:=λc b e=>ag (oE (f:=λb:XD=>Yl b.params&&u_ b.consts) IV e) λb c=>⟨b,c⟩
 du:=Z
 mh:=a.mh
 cA:=Z
 F?:=λb b e=>jg e (λ_ e=>au e▸Z) λ_ e=>jg e (λ_ e=>au e▸Z) λ_ e=>jg e (λ_ e=>au e▸Z) λ_=>aa
 LW:=a.LW
 attr:=a.attr
 nA:=Z
 nE:=Z
 nP:=Z
 nI:=Z
 nJ:=Z
 nd:=⟨Z,Z⟩
 ro:=Z
 av:=d
 func:=g
 sup:=λ_ _ _ _ _ _ _=>.no
 comp:=λ_ _ _ _ _ _=>Z
def tJ:Gk A (λ_ _ _ _=>C) m:=λ_ _ _ _ _ _ _ _ _ _=>.no
def zm(c:iz A G H):Gk A (Dj G) (Dj H):=λm a a a a p a d f h r e=>bL e λa b e=>by unfold Dj;rw[b];exact IT c 300 a (oE (f:=λa:Def=>Yl a.params) OX b) (.mk (v:=.par) (w:=.par) Z d) f h r e
variable(g:Vg i)
def zo(c:iz A G H):Gk A (Dk i G) (Dk i H):=λm a a a a p a d f h r e=>bL e λa b e=>by unfold Dk;rw[b];exact IT c 300 a (oE (f:=λa:Def=>Yl a.params) g b) d f h r e
def IW(a:IU A j at2):∀k d,k<=d->iz A (sig i j k) (sig i at2 d):=by intro k;induction k with|zero=>(intro d _;generalize d=u;induction u with|zero=>exact oF a tJ tJ|succ d _=>exact oF a tJ tJ)|succ k c=>intro d h;induction d with|zero=>exact ch h (zS k)|succ d _=>exact have b:=c d (vC h);oF a (zm b) (zo g b)
end
structure Mv where
 lC:W
 bE:I
 dl:D
 old:I
 new:I
 c0:W
 ci:I
 dc:D
def sh(m:Mv)(k:W):N D:=gc k (br m.bE C (O m.lC)) λk=>gc k (O m.dl) λk=>gc k (O 0) λk=>gc k (br m.ci C (O m.dc)) λk=>gc k (O m.lC) λk=>gc k (br m.old (br m.new (O m.c0) C) C) λ_=>C
def ā(m:Mv)(k:W):N D:=gc k (br m.bE (O (m.lC-1)) C) λk=>gc k C λk=>gc k C λk=>gc k (br m.ci (O m.dc) C) λ_=>C
def Dl(m:Mv)(p q:Sy):I:=qt q J (off:=λa b=>qt p J (off:=λk n=>br (ac k a) (oc (sh m k) (λs=>a? (n=b+s)) J) (br (ac k 2) (br (ac a 5) (br m.old J (br m.new (a? (n=b+m.c0)) J)) J) J))) (nn:=qt p J (nn:=U) (off:=λk n=>br (ac k 0) (a? (0<=n)) J)) (big:=λa b=>br (ac a 2) (br (a? (b=1)) (qt p J (big:=λk n=>br (ac k 2) (a? (n=1)) J) (off:=λk n=>br (ac k 2) (a? (1<=n)) (br (ac k 5) (a? (0<=n)) J))) J) J)
def OY(m:Mv)(x:D)(q:Sy):I:=qt q J (off:=λk n=>oc (ā m k) (λs=>a? (x=s+n)) J) (nn:=a? (0<=x))
def f0(w:V):I:=dP w J (no:=U) (un:=U)
def f1(b:I)(w:V):I:=dP w J (bo:=λc=>b==c) (un:=U)
def X?(fi:D->Sy->I)(i:D)(w:V):I:=dP w J (i:=λj=>a? (i=j)) (sy:=fi i) (un:=U)
def f3(s:ae)(w:V):I:=dP w J (s:=cW s) (un:=U)
def f4(i:af->I)(w:V):I:=dP w J (tu:=i) (un:=U)
def f5(i:af->I)(w:V):I:=dP w J (ls:=i) (un:=U)
def f6(c:W)(i:aY->I)(w:V):I:=dP w J (ob:=λd l=>br (ac c d) (i l) J) (un:=U)
def f7(_:W)(_:V):I:=J
def f8(a:Sy->Sy->I)(p:Sy)(w:V):I:=dP w J (sy:=a p) (un:=U)
def f9(w:V):I:=dP w J (bu:=λl e=>br e J l.isEmpty) (un:=U)
def z3(w:V):I:=dP w J (un:=U)
def tm{a:Type}(w:Y a):I:=lc w U λ_ _=>J
def tg{a:Type}(i:a->I)(j:Y a->I)(w:Y a):I:=lc w J λb m=>br (i b) (j m) J
def F2(a:W)(i:V->I)(q:W×V):I:=br (ac a q.1) (i q.2) J
section
variable(b:Sy->Sy->I)(fi:D->Sy->I)
def rR(v:V):V->I:=V.rec (motive_1:=λ_=>V->I) (motive_2:=λ_=>af->I) (motive_3:=λ_=>aY->I) (motive_4:=λ_=>W×V->I) f0 f1 (X? fi) f3 (λ_=>f4) (λ_=>f5) (λc _=>f6 c) f7 f7 f7 f7 f7 (f7 0) (f7 0) (f8 b) (λ_ _=>f9) z3 (λ_=>z3) tm (λ_ _=>tg) tm (λ_ _=>tg) (λa _=>F2 a) v
def xn(v:af):af->I:=V.rec_1 (motive_1:=λ_=>V->I) (motive_2:=λ_=>af->I) (motive_3:=λ_=>aY->I) (motive_4:=λ_=>W×V->I) f0 f1 (X? fi) f3 (λ_=>f4) (λ_=>f5) (λc _=>f6 c) f7 f7 f7 f7 f7 (f7 0) (f7 0) (f8 b) (λ_ _=>f9) z3 (λ_=>z3) tm (λ_ _=>tg) tm (λ_ _=>tg) (λa _=>F2 a) v
def ahH(v:aY):aY->I:=V.rec_2 (motive_1:=λ_=>V->I) (motive_2:=λ_=>af->I) (motive_3:=λ_=>aY->I) (motive_4:=λ_=>W×V->I) f0 f1 (X? fi) f3 (λ_=>f4) (λ_=>f5) (λc _=>f6 c) f7 f7 f7 f7 f7 (f7 0) (f7 0) (f8 b) (λ_ _=>f9) z3 (λ_=>z3) tm (λ_ _=>tg) tm (λ_ _=>tg) (λa _=>F2 a) v
end
def Ŗ(a:Sy->Sy->I)(fi:D->Sy->I)(l:eu):eu->I:=bm (motive:=λ_=>eu->I) (λw=>lc w U λ_ _=>J) (λv _ j w=>lc w J λb m=>br (a? (v.1=b.1)) (br (rR a fi v.2 b.2) (j m) J) J) l
def OZ(a:Sy->Sy->I)(fi:D->Sy->I)(x y:PA):I:=xZ x (λv=>xZ y (rR a fi v) aay aay aay λ_=>J) (λl=>xZ y aay (xn a fi l) aay aay λ_=>J) (λl=>xZ y aay aay (Ŗ a fi l) aay λ_=>J) aay λ_=>J
def oG(f:W->PA->PA->I)(l:nQ):nQ->I:=bm (motive:=λ_=>nQ->I) (λw=>lc w U λ_ _=>J) (λp _ j w=>lc w J λq m=>br (ac p.1 q.1) (br (f p.1 p.2 q.2) (j m) J) J) l
def Gl{b:Type}{P:Prop}{l:Y b}{f:b->Y b->I}(h:lc l J f=U)(k:∀a r,l=a::r->f a r->P):P:=by induction l with|nil=>exact ao h|cons a r _=>exact k a r Z h
def Yp{a:Type}{l:Y a}(h:lc l U (λ_ _=>J)=U):l=[]:=by induction l with|nil=>rfl|cons b r _=>exact ao h
def ny{P:Prop}{x y z:I}(h:br x y z=U)(k:x->y->P)(l:x=J->z->P):P:=by induction x with|true=>exact k Z h|false=>exact l Z h
def jm{b:Type}{P:Prop}{o:N b}{f:b->I}(h:oc o f J=U)(k:∀a,o=O a->f a->P):P:=by induction o with|none=>exact ao h|some a=>exact k a Z h
section
variable{g g':Gb}{A:Sy->Sy->I}{fi:D->Sy->I}
structure oH(g g':Gb)(A:Sy->Sy->I)(fi:D->Sy->I):Prop where
 sy:∀p q z,A p q->CP g z p->CP g' z q
 i:∀x q,fi x q->CP g' x q
 yo:CQ g' [] J
 txt:g'.txt=g.txt
def oJ:∀{y:ae},cW x y->x=y:=λ{y}=>(gR x y).mp
def AO(K:oH g g' A fi)(v:V):∀u w,rR A fi v u->Ga g v w->Ga g' u w:=by have a:∀{w x},w=x->solid x->Ga g' .Ho w:=λe h=>e▸h;exact V.rec (motive_2:=λl=>∀m n,xn A fi l m->cu g l n->cu g' m n) (motive_3:=λl=>∀m n,ahH A fi l m->o4 g l n->o4 g' m n) (motive_4:=λp=>∀(q r:W×V),F2 p.1 _ q->AH p.1 _ r->AH q.1 _ r) (λu w=>Vc (M:=λu=>rR A fi .none u=U->Ga g .none w->Ga g' u w) u (no:=λ_ h=>h) (un:=λ_ h=>a h Z)) (λk u w=>Vc (M:=λu=>rR A fi _ u=U->Ga g _ w->Ga g' u w) u (bo:=λd e h=>(fZ.mp e)▸h) (un:=λ_ h=>a h Z)) (λi u w=>Vc (M:=λu=>rR A fi _ u=U->Ga g _ w->Ga g' u w) u (i:=λo e h=>(aO e)▸h) (sy:=λq e h=>⟨i,h,K.i i q e⟩) (un:=λ_ h=>a h Z)) (λs u w=>Vc (M:=λu=>rR A fi _ u=U->Ga g _ w->Ga g' u w) u (s:=λt e h=>(oJ e)▸h) (un:=λ_ h=>a h Z)) (λl i u w=>Vc (M:=λu=>rR A fi _ u=U->Ga g _ w->Ga g' u w) u (tu:=λm e h=>by obtain⟨n,q,r⟩:=h;exact⟨n,q,i m n e r⟩) (un:=λ_ h=>by obtain⟨n,q,r⟩:=h;exact a q Z)) (λl i u w=>Vc (M:=λu=>rR A fi _ u=U->Ga g _ w->Ga g' u w) u (ls:=λm e h=>by obtain⟨n,q,r⟩:=h;exact⟨n,q,i m n e r⟩) (un:=λ_ h=>by obtain⟨n,q,r⟩:=h;exact a q Z)) (λd l i u w=>Vc (M:=λu=>rR A fi _ u=U->Ga g _ w->Ga g' u w) u (ob:=λt m e h=>cp e λb c=>by obtain⟨n,q,r⟩:=h;exact⟨n,aK b▸q,i m n c r⟩) (un:=λ_ h=>by obtain⟨n,q,r⟩:=h;exact a q Z)) pf pf pf pf pf iw iw (λp u w=>Vc (M:=λu=>rR A fi _ u=U->Ga g _ w->Ga g' u w) u (sy:=λq e h=>by obtain⟨z,f,j⟩:=h;exact⟨z,f,K.sy p q z e j⟩) (un:=λ_ h=>by obtain⟨n,q,r⟩:=h;exact a q Z)) (λl e u w=>Vc (M:=λu=>rR A fi _ u=U->Ga g _ w->Ga g' u w) u (bu:=λm t e h=>ny e aV λq e=>by rw[q,cO.mp e];exact⟨K.txt▸h.1,K.yo⟩) (un:=λ_ h=>a h.1 Z)) (λu w=>Vc (M:=λu=>rR A fi .Ho u=U->Ga g .Ho w->Ga g' u w) u (un:=λ_ h=>h)) (λp u w=>Vc (M:=λu=>rR A fi _ u=U->Ga g _ w->Ga g' u w) u (un:=λ_ h=>by obtain⟨n,q,r⟩:=h;exact a q Z)) (λm n e h=>by rw[Yp e];exact h) (λv l i o m n e h=>Gl e λk r t e=>cp e λb c=>by obtain⟨d,a,q,f,j⟩:=h;rw[t,q];exact .mk (i k d b f) (o r a c j)) (λm n e h=>by rw[Yp e];exact h) (λv l i o m n e h=>Gl e λk r t e=>cp e λb c=>by obtain⟨d,a,q,f,j⟩:=h;rw[t,q];exact⟨d,a,Z,i k d b f,o r a c j⟩) (λa v i q r e h=>cp e λb c=>⟨h.1.trans (aK b),i q.2 r.2 c h.2⟩) v
def kM(K:oH g g' A fi){l:af}:∀{m n:af},xn A fi l m->cu g l n->cu g' m n:=by induction l with|nil=>exact λe h=>by rw[Yp e];exact h|cons v l a=> intro m n e h;refine Gl e λb r c e=>cp e λd e=>?_;obtain⟨f,k,q,i,j⟩:=h.un;rw[c,q];exact .mk (AO K v b f d i) (a e j)
def Vh(K:oH g g' A fi){l:eu}:∀{m n:eu},Ŗ A fi l m->pY g l n->pY g' m n:=by induction l with|nil=>exact λe h=>by rw[Yp e];exact h|cons v l a=> intro m n e h;refine Gl e λb r d e=>cp e λf e=>cp e λe i=>?_;obtain⟨c,k,q,⟨j,m⟩,n⟩:=h;rw[d,q];exact⟨c,k,Z,⟨j.trans (aO f),AO K v.2 b.2 c.2 e m⟩,a i n⟩
def Dm{l:af}:∀{m:af},xn A fi l m->l.length=m.length:=by induction l with|nil=>exact λe=>by rw[Yp e]|cons v l a=>exact λe=>Gl e λb r b e=>cp e λ_ e=>b▸ah pm (a e)
def lT{f:W->PA->PA->I}{l:nQ}(a:W):∀{m:nQ},oG f l m->(aj a l=C/\aj a m=C)∨∃x y,aj a l=O x/\aj a m=O y/\f a x y:=by induction l with|nil=>exact λe=>.inl ⟨Z,by rw[Yp e];rfl⟩|cons p l b=>intro m e;refine Gl e λq r c e=>cp e λd e=>cp e λh i=>?_;rw[c];show(br (ac p.1 a) (O p.2) (aj a l)=C/\br (ac q.1 a) (O q.2) (aj a r)=C)∨∃x y,br (ac p.1 a) (O p.2) (aj a l)=O x/\br (ac q.1 a) (O q.2) (aj a r)=O y/\_;rw[<-aK d];cases c:ac p.1 a with|true=>exact .inr ⟨p.2,q.2,Z,Z,aK c▸h⟩|false=>exact b i
end
def Dn{a:Sy->Sy->I}{fi:D->Sy->I}(K:oH A.g b.g a fi){x y c:PA}:OZ a fi x y->ym A x c->ym b y c:=PA.casesOn x (λv=>PA.casesOn y (λu e h=>by obtain⟨w,q,r⟩:=h;exact⟨w,q,AO K v u w e r⟩) aV aV aV λ_=>ao) (λl=>PA.casesOn y aV (λm e h=>by obtain⟨w,q,r⟩:=h;exact⟨w,q,kM K e r⟩) aV aV λ_=>ao) (λl=>PA.casesOn y aV aV (λm e h=>by obtain⟨w,q,r⟩:=h;exact⟨w,q,Vh K e r⟩) aV λ_=>ao) aV λ_=>ao
def J!:ae:=[lH,eA,z6,v7,Fn,rt,aN,hU,aH,jR,Ca,MC,eR,B8,rg,Fm,lI,XN,rh,v8]
def yv:ae:=[Td,ME,Tc,uL,yg,wc]
def atS(a:W):I:=aq J! a
def iW(a:W):I:=aq yv a
def fK(a:W):I:=aq (J!++yv) a
def oK:oh:=[(37,jP),(259,vZ),(260,v3),(241,v5)]
abbrev pS(d:W):cQ:=sig oK fK d
def aS:cQ:=sig oK atS 9
abbrev aC:=nQ
def lD(b:aC)(l:ae)(e:I):PG:=⟨(lH,.val (.sym (.off 4 0)))::(eA,.val (.buf l e))::b,[],0⟩
def NM(p:PG):dR:=aS.av bt [] [] p
structure Rs where
 t:ae
 ix:D
 ln:D
 cb:D
def Rs.ba(R:Rs)(k:W):D:=gc k (R.ix-1) λk=>gc k R.ln λ_=>R.cb
def Rs.mv(R:Rs)(m:Mv):Rs:=⟨R.t.drop m.lC,R.ix+m.lC,R.ln+m.dl,br m.ci 0 R.cb+m.dc⟩
def ahI(R:Rs)(p:Sy):V:=qt p (.sym p) (off:=λk n=>.int (R.ba k+n))
def ins(R:Rs)(v:V):V:=V.rec (motive_1:=λ_=>V) (motive_2:=λ_=>af) (motive_3:=λ_=>aY) (motive_4:=λ_=>W×V) .none .bool .int .str (λ_ i=>.tup i) (λ_ i=>.lst i) (λc _ i=>.obj c i) .cls .fn .bi .cd .av .par .aG (ahI R) .buf .Ho .Zc [] (λ_ _ i j=>i::j) [] (λ_ _ i j=>i::j) (λa _ i=>(a,i)) v
def Gm(R:Rs)(l:af):af:=l.map (ins R)
def ŕ(z:I)(p:Sy):I:=qt p J (off:=λk _=>br (ac k 0) (!z) (br (ac k 1) U (ac k 3)))
def ug(z:I)(v:V):I:=V.rec (motive_1:=λ_=>I) (motive_2:=λ_=>I) (motive_3:=λ_=>I) (motive_4:=λ_=>I) U aaz aaz aaz (λ_ i=>i) (λ_ i=>i) (λ_ _ i=>i) aaz aaz aaz aaz aaz U J (ŕ z) (λ_ _=>J) U aay U (λ_ _ i j=>br i j J) U (λ_ _ i j=>br i j J) (λ_ _ i=>i) v
def R?(z:I)(l:af):I:=V.rec_1 (motive_1:=λ_=>I) (motive_2:=λ_=>I) (motive_3:=λ_=>I) (motive_4:=λ_=>I) U aaz aaz aaz (λ_ i=>i) (λ_ i=>i) (λ_ _ i=>i) aaz aaz aaz aaz aaz U J (ŕ z) (λ_ _=>J) U aay U (λ_ _ i j=>br i j J) U (λ_ _ i j=>br i j J) (λ_ _ i=>i) l
def K?(p q:Sy):I:=qt q J (off:=λa b=>qt p J (off:=λk n=>br (ac k a) (a? (n=b)) J))
def Sv(_:D)(_:Sy):I:=J
def O0(b:Sy->Sy->I)(fi:D->Sy->I)(m:Mv)(c:af)(x y:PA):I:=xZ x aay (λa=>xZ y aay (λus=>br m.old J (br m.new J (br (ac m.c0 0) (xn b fi a us) J))) aay aay λus=>br m.old J (br m.new (br (bd 1 m.c0) (br (xn K? Sv (a.take m.c0) c) (xn b fi (a.drop m.c0) us) J) J) J)) aay aay λa=>xZ y aay aay aay aay λus=>br m.old (br m.new (br (xn K? Sv (a.take m.c0) c) (xn b fi (a.drop m.c0) us) J) J) J
def Ŕ(q:PA):N V:=xZ q O aaG aaG aaG λ_=>C
def O3(m:Mv)(b:af)(a:W)(x y:PA):I:=br (ac a aN) (O0 (Dl m) (OY m) m b x y) (OZ (Dl m) (OY m) x y)
def IX(f:W->PA->PA->I)(q:PG)(b:aC)(m:Mv)(a:af):I:=oG f q.par (lD b [] J).par&&a? (0<=m.dc)&&R? m.bE a&&ac (ak a) m.c0&&bd m.c0 10&&a? (0<=m.dl)&&br m.bE (bd 1 m.lC) U
def Dp(q:PG)(b:aC)(m:Mv)(a:af):I:=IX (O3 m a) q b m a
def Ö(b:S):S:=S.casesOn (motive:=λ_=>S) b .nil (λ_ r=>r) (λ_=>.nil) (λ_=>.nil) .nil .nil (λ_ _=>.nil) (λ_ _ _ _ _=>.nil) (λ_ _=>.nil) (λ_ _ _=>.nil) (λ_ _ _=>.nil) (λ_ _=>.nil) (λ_ _ _=>.nil) (λ_ _ _ _=>.nil) (λ_ _ _=>.nil) (λ_ _=>.nil) (λ_ _ _=>.nil) (λ_=>.nil) (λ_=>.nil) .nil
def x1:S:=sq [r_ 58,r_ 56,R_ 59 [ni 4]]
def x_:S:=Ö (Ö (Ö cK))
abbrev gF(d:W):cQ:=ye (pS d) bH
def aF:cQ:=ye (sig oK atS 8) bH
def O6:ae:=bH.lv
def IY:cz:=[(0,.val .par)]
def K8(l:cz):I:=lc l J λp r=>ac p.1 0&&J6 p.2 jw aay&&r.isEmpty
def G!(p:PG):qY:=pr aF O6 300 x1 ⟨IY,p⟩
def é(p:PG):qY:=pr aF O6 300 x_ ⟨IY,p⟩
def S'(b:aC)(w:ae)(e:I)(a:aC)(m:Mv)(c:af):I:=bd m.lC (ak w)&&oc (NM (lD b w e)) (λr=>br (oc (eQ r.1) id J) (br (ac r.2.bD 0) (oc (G! r.2) (λq=>vK q.1 (K8 q.2.loc&&ac q.2.pg.bD 0&&Dp q.2.pg a m c) J λ_=>J) J) J) J) J
def D'(b:aC)(w:ae)(e:I)(c:aC)(m:Mv)(d:af)(a:W):I:=bd m.lC (ak w)&&oc (é (lD b w e)) (λq=>ac q.2.pg.bD a&&Dp q.2.pg c m d) J
def dz(w:ae):ae->I:=bm (motive:=λ_=>ae->I) aaz (λa _ b l=>lc l J λc y=>br (x9 a c) (b y) J) w
def cC(w:ae)(e:I)(a:Rs):I:=dz w a.t&&br e (ac (ak w) (ak a.t)) U
def ll(m:Mv)(b a:af):af:=br m.new (br m.old (b++a) a) [V.none]
def oM(e:W->N PA)(g:Gb)(b:dy g)(a:af)(c:(a.length:D)=g.base 6)(d:a.length<=100000)(f:W):Ab:={g:=g,gw:=b,lh:=iW,dm:=atS,pre:=a,pl:=c,bY:=d,J:=λ_ p=>∀a,iW a->aj a p.par=e a,ë:=λ_ p a x k h _ j b c=>(bZ λq:b=a=>ao (il h (q▸c))).trans (j b c),δ:=f}
structure AtG(Fr:W->N PA)(k:W)(bE:I)(b:aC)(rest:Rs)(pre:af)(pg:PG)(g:Gb)(gw:dy g)(pl:(pre.length:D)=g.base 6)(bY:pre.length<=100000)(δ:W):Prop where
 R:RP (oM Fr g gw pre pl bY δ) (lD b [] J) pg
 hi:bE->g.base 4=0
 hn:bE=J->g.base 4=g.base 0+1
 hl:g.txt.length<=800
 hk:pre.length+20*k<=5000
 h0:0<=g.base 4
 h1:g.base 4<=g.txt.length
 hr:g.txt.drop (g.base 4).toNat=rest.t
 b1:g.base 1=rest.ln
 b3:g.base 3=rest.cb
 b4:g.base 4=rest.ix
def qG(a:W->N PA)(k:W)(b:I)(c:aC)(d:Rs)(e:af)(f:PG):=∃g,∃h,∃i,∃j,∃l,AtG a k b c d e f g h i j l
def abb{z:I}(c:z=J->g.base 0=R.ix-1)(a:g.base 1=R.ln)(d:g.base 3=R.cb)(v:V):∀w,ug z v->Ga g v w->Ga b (ins R v) w:=V.rec (motive_2:=λl=>∀m,R? z l->cu g l m->cu b _ m) (motive_3:=λl=>∀m,V.rec_2 U aaz aaz aaz (λ_ i=>i) (λ_ i=>i) (λ_ _ i=>i) aaz aaz aaz aaz aaz U J _ (λ_ _=>J) U aay U (λ_ _ i j=>br i j J) U (λ_ _ i j=>br i j J) (λ_ _ i=>i) l=U->o4 g l m->o4 b _ m) (motive_4:=λp=>∀q,ug z p.2->AH p.1 _ q->AH p.1 _ q) (λ_ _=>id) (λ_ _ _=>id) (λ_ _ _=>id) (λ_ _ _=>id) (λ_ i w e h=>by obtain⟨n,q,r⟩:=h;exact⟨n,q,i n e r⟩) (λ_ i w e h=>by obtain⟨n,q,r⟩:=h;exact⟨n,q,i n e r⟩) (λ_ _ i w e h=>by obtain⟨n,q,r⟩:=h;exact⟨n,q,i n e r⟩) (λ_ _ _=>id) (λ_ _ _=>id) (λ_ _ _=>id) (λ_ _ _=>id) (λ_ _ _=>id) (λ_ _=>id) (λ_ _=>id) (λp w e h=>by obtain⟨x,q,r⟩:=h;rw[q];refine Sy.casesOn p (λk n e r=>?_) iw ao aV aV e r;refine ah V.int ?_;rw[r];refine ny e (λh e=>?_) λ_ e=>ny e (λh _=>?_) λb e=>?_;rw[aK h,c (by cases z<;>first|rfl|exact ao e)];rfl;rw[aK h,a];rfl;rw[aK e,d];rfl) pf (λ_ _=>id) iw (λ_ _=>id) (λv l i j w e h=>cp e λc d=>by obtain⟨b,m,q,a,f⟩:=h;exact⟨b,m,q,i b c a,j m d f⟩) (λ_ _=>id) (λv l i j w e h=>cp e λc d=>by obtain⟨b,m,q,a,f⟩:=h;exact⟨b,m,q,i b c a,j m d f⟩) (λa v i q e h=>⟨h.1,i q.2 e h.2⟩) v
def Vi{z:I}(c:z=J->g.base 0=R.ix-1)(d:g.base 1=R.ln)(e:g.base 3=R.cb){l:af}:∀{m:af},R? z l->cu g l m->cu a (Gm R l) m:=by induction l with|nil=>exact λ_ h=>h|cons v l f=>exact λa h=>cp a λa g=>by obtain⟨b,m,q,i,j⟩:=h.un;exact⟨b,m,q,abb c d e v b a i,f g j⟩
def RP.fit{q:PG}{i:W->PA->PA->I}(h:RP A q g)(j:b.lh=A.lh)(o:b.dm=A.dm)(F:oG i q.par d.par)(T:∀a x y e,A.lh a=J->aj a d.par=O y->i a x y->ym A x e->aj a g.par=O e->∃f,aj a c.par=O f/\ym b y f)(k:∀a,A.lh a=J->aj a g.par=C->aj a c.par=C)(l:b.J d.aG c)(m:c.bD=d.bD+b.δ)(n:c.par.length<=900000):RP b d c where
 tC:=λa b=>by
  rw[j]at b;refine(lT a F).elim (λz=>?_) λz=>?_
  ·exact(h.tC a b).elim (λy=>.inl ⟨z.2,k a b y.2⟩) λy=>by obtain⟨_,_,c,_⟩:=y;exact aa (il z.1 c)
  ·obtain⟨x,y,c,d,g⟩:=z
   obtain⟨e,i,k⟩:=(h.tC a b).ro x c;obtain⟨f,p,r⟩:=T a x y e b d g k i;exact .inr ⟨y,f,d,p,r⟩
 abs:=λa b=>(lT a F).elim (λz=>z.2) λz=>by obtain⟨x,_,c,_⟩:=z;exact aa (il (h.abs a (j▸b)) c)
 j:=l
 bD:=m
 len:=n
 zh:=λa=>by rw[o,<-h.zh a];exact(lT a F).elim (λz=>by rw[z.1,z.2]) λz=>by obtain⟨x,y,c,d,_⟩:=z;rw[c,d];rfl
def xo(g:Gb)(m:Mv)(n:W):Gb:={g with base:=λk=>gc k (g.base 4+m.lC-1) λk=>gc k (g.base 1+m.dl) λk=>gc k (g.base 2) λk=>gc k (br m.ci 0 (g.base 3)+m.dc) λk=>gc k (g.base 4+m.lC) λk=>gc k (g.base 2+n) λk=>gc k (n:D) λk=>g.base (k+7)}
def j6(k n s:D):k+(n+s)=k+s+n:=by rw[nO n s,ej]
def j7(a e:D):a+1+e-1=a+e:=by rw[TW,wS]
structure Yq(g:Gb)(m:Mv)(n:W):Prop where
 gw:dy g
 hi:m.bE->g.base 4=0
 hn:m.bE=J->g.base 4=g.base 0+1
 n6:m.old->m.new->(n:D)=g.base 6+m.c0
 n5:m.old=J->m.new->(n:D)=m.c0
 n1:1<=n
 d0:0<=m.dc
 l0:0<=m.dl
 e1:m.bE->1<=m.lC
 h0:0<=g.base 4
 h1:g.base 4+m.lC<=g.txt.length
 hl:g.txt.length<=800
section
variable{g:Gb}{m:Mv}{n:W}{z:D}{p q:Sy}
variable(H:Yq g m n)
def afk{s:D}:sh m k=O s->(xo g m n).base k=g.base k+s:=by
 cases k with
 |zero=>exact λe=>jg e bX λh e=>au e▸(show g.base 4+m.lC-1=_ by rw[H.hn h,j7])
 |succ k=>cases k with
  |zero=>exact λe=>au e▸Z
  |succ k=>cases k with
   |zero=>exact λe=>au e▸(aA _).symm
   |succ k=>cases k with
    |zero=>exact λe=>jg e bX λh e=>au e▸(show br m.ci 0 _+m.dc=g.base 3+m.dc by rw[h];rfl)
    |succ k=>cases k with
     |zero=>exact λe=>au e▸Z
     |succ k=>cases k with
      |zero=>exact λe=>jg e (λh e=>jg e (λa e=>au e▸(show g.base 2+(n)=g.base 5+_ by rw[H.n6 h a,H.gw.ti,ej])) λ_=>aa) λ_=>aa
      |succ k=>exact aa
def afl{s:D}:ā m k=O s->(xo g m n).base k=s:=by
 cases k with
 |zero=>exact λe=>jg e (λh e=>au e▸(show g.base 4+m.lC-1=_ by rw[H.hi h,iO])) λ_=>aa
 |succ k=>cases k with
  |zero=>exact aa
  |succ k=>cases k with
   |zero=>exact aa
   |succ k=>cases k with
    |zero=>exact λe=>jg e (λh e=>au e▸(show br m.ci 0 _+m.dc=m.dc by rw[h];exact iO _)) λ_=>aa
    |succ k=>exact aa
def O7:Dl m p q->CP g z p->CP (xo g m n) z q:=by refine Sy.casesOn q (λa b=>?_) (λa b=>?_) ?_ aV λ_=>ao;refine Sy.casesOn p (λk i e r=>?_) iw ao aV λ_=>ao;refine ny e (λh e=>jm e λs d e=>?_) λ_ e=>cp e λh e=>cp e λc e=>ny e aV λf e=>cp e λj e=>?_;show z=(xo g m n).base a+b;rw[<-aK h,afk H d,r,aO e];exact j6 _ _ _;show z=(xo g m n).base a+b;rw[aK c,r,aK h,aO e,show(xo g m n).base 5=g.base 2+(n)from Z,H.n5 f j];exact j6 _ _ _;refine λe=>cp e λh e=>cp e λc e=>?_;rw[aK h,aO c];refine Sy.casesOn p (λk i e r=>?_) (λk i e r=>cp e λh e=>?_) ao aV aV e;have r:=r;refine ny e (λh e=>?_) λ_ e=>cp e λh e=>?_;rw[r,aK h];exact yJ (aO e) _;rw[r,aK h,H.gw.ti,ej];exact yJ (gM H.gw.six (uf (aO e))) _;have r:=r;rw[aK h,aO e]at r;exact r;refine Sy.casesOn p (λk i e r=>cp e λh e=>?_) iw (λ_ h=>h) aV λ_=>ao;rw[r];exact qU (H.gw.pos k) (aO e)
def Vj:OY m z q->CP (xo g m n) z q:=Sy.casesOn q (λk i e=>jm e λs a e=>(show z=(xo g m n).base k+i by rw[afl H a];exact aO e)) iw (λe=>(show 0<=z from aO e)) aV λ_=>ao
def afm:0<=g.base 4+m.lC-1:=by cases h:m.bE with|true=>rw[H.hi h,iO];exact r6.mpr (ju.mpr (H.e1 h))|false=>rw[H.hn h,j7];exact qU (H.gw.pos 0) (eM _)
def Vk:dy (xo g m n)where
 pos:=λk=>by
  cases k with
  |zero=>exact afm H
  |succ k=>cases k with
   |zero=>exact qU (H.gw.pos 1) H.l0
   |succ k=>cases k with
    |zero=>exact H.gw.pos 2
    |succ k=>cases k with
     |zero=>
      refine qU ?_ H.d0;cases m.ci with
      |true=>exact pJ _
      |false=>exact H.gw.pos 3
     |succ k=>cases k with
      |zero=>exact qU H.h0 (eM _)
      |succ k=>cases k with
       |zero=>exact qU (H.gw.pos 2) (eM _)
       |succ k=>cases k with
        |zero=>exact eM _
        |succ k=>exact H.gw.pos _
 le:=gM (q7 _ (aO Z)) (gM H.h1 (gM (ju.mpr H.hl) (aO Z)))
 lt:=H.gw.lt
 Yk:=H.gw.Yk
 ti:=Z
 six:=ju.mpr H.n1
def O8:oH g (xo g m n) (Dl m) (OY m)where
 sy:=λ_ _ _=>O7 H
 i:=λ_ _=>Vj H
 yo:=⟨qU H.h0 (eM _),(aA _).symm▸H.h1,Z,ao⟩
 txt:=Z
end
def œ(A:Ab)(c:Sy->Sy->I)(fi:D->Sy->I)(m:Mv)(b:af)(y d:PA):=∃a,(m.new->a.length=m.c0)/\(m.new->m.old=J->1<=m.c0)/\(m.new->cu A.g b a)/\∀b:Ab,oH A.g b.g c fi->b.pre=ll m A.pre a->ym b y d
def abc(b:0<=g.base 4)(a:g.base 4<=g.txt.length):oH g g K? Sv where
 sy:=λp q z e r=>by refine Sy.casesOn q (λc c=>?_) iw ao aV aV e;exact Sy.casesOn p (λk n r e=>cp e λa c=>by rw[<-aK a,<-aO c];exact r) pf aV iw iw r
 i:=λ_ _=>ao
 yo:=⟨b,(aA _).symm▸a,Z,ao⟩
 txt:=Z
def K9{b:Sy->Sy->I}{fi:D->Sy->I}(i:a.length=m.c0)(j:oH A.g A.g K? Sv):O0 b fi m a x y->ym A x c->œ A b fi m a y c:=by have d:m.new=J->∀{P:Prop},m.new->P:=λh _ a=>ao (il h a);refine PA.casesOn x aV (λa=>?_) aV aV λa=>?_;refine PA.casesOn y aV (λus e h=>ny e aV λb e=>ny e aV λa e=>cp e λ_ e=>?_) aV aV λus e h=>ny e aV λb e=>cp e λa e=>cp e λg e=>cp e λc f=>?_;obtain⟨l,q,r⟩:=h;exact⟨[],d a,d a,d a,λn K _=>⟨l,q,kM K e r⟩⟩;obtain⟨l,q,r⟩:=h;have d:=(Dm c).trans i;refine⟨l.take m.c0,λ_=>il (cu.len r.take) d,λ_ _=>cw g,λ_=>kM j c r.take,λn K g=>⟨l,q,l.drop m.c0,?_,kM K f r.drop⟩⟩;rw[g];unfold ll;rw[a,b];exact(BO _ _).symm;refine PA.casesOn y aV aV aV aV λus e h=>cp e λb e=>cp e λa e=>cp e λc f=>?_;obtain⟨l,q,k,e,r⟩:=h;have d:=(Dm c).trans i;refine⟨k.take m.c0,λ_=>il (cu.len r.take) d,λ_ h=>ao (il h b),λ_=>kM j c r.take,λn K g=>⟨l,q,k.drop m.c0,?_,kM K f r.drop⟩⟩;rw[g];unfold ll;rw[a,b,e];exact(ah _ (BO m.c0 k).symm).trans (am _ _ _).symm
def O9{r:W->N PA}{g:Gb}{k:dy g}{a:af}{l:(a.length:D)=g.base 6}{x:a.length<=100000}{t w:W}{q p:PG}{s:aC}{m:Mv}{j:af}{d:Rs}{f:I}
 (h:RP (oM r g k a l x t) q p)(F:Dp q s m j)(v:m.bE=f)(R:f->g.base 4=0)(E:f=J->g.base 4=g.base 0+1)(A:g.txt.length<=800)(S:a.length+20*(w+1)<=5000)(n:0<=g.base 4)(u:g.base 4+m.lC<=g.txt.length)(T:g.txt.drop (g.base 4).toNat=d.t)(G:g.base 1=d.ln)(H:g.base 3=d.cb)(B:g.base 4=d.ix):
  ∃c,(∀g,cu g (br m.new (Gm d j) []) (br m.new c []))/\qG r w J s (d.mv m) (ll m a c) p:=
 ag F λF f7=>ag F λF f6=>ag F λF f5=>ag F λF f4=>ag F λF f3=>ag F λf1 V=>by
  have w:=il (aB j) (aK f4)
  have F:∃y f,aj aN p.par=O f/\œ (oM r g k a l x t) (Dl m) (OY m) m j y f/\aj aN (lD s [] J).par=O y:=by
   refine(lT aN f1).elim (λz=>?_) λz=>?_
   ·exact ao (il (ah sn z.1) (h.zh aN))
   ·obtain⟨L,y,j,p,r⟩:=z
    obtain⟨f,s,x⟩:=(h.tC aN Z).ro L j;exact⟨y,f,s,K9 w (abc n (gM (uf (eM _)) u)) r x,p⟩
  obtain⟨y,f,X,⟨c,i,k2,k4,k3⟩,hy⟩:=F;have M:=ju.mp (l▸k.six)
  have P:Yq g m (ll m a c).length:=⟨k,λz=>R (v▸z),λz=>E (v▸z),λo f=>by unfold ll;rw[o,f];exact(ah wv aX).trans ((fO _ _).trans (by rw[l,i f])),λo f=>by unfold ll;rw[o,f];exact ah wv (i f),by
   unfold ll;cases b:m.new with
   |false=>exact aU 1
   |true=>cases Q:m.old with
    |true=>exact ay M (ay (fY _ _) (cZ aX.symm))
    |false=>exact(i b).symm▸k2 b Q,aO V,aO f6,λz=>ny f7 (λ_ e=>cw e) λe _=>ao (il e z),n,u,A⟩
  have pN:(ll m a c).length<=a.length+10:=by
   unfold ll;cases b:m.new with
   |false=>exact ay M (fY _ _)
   |true=>cases Q:m.old with
    |true=>exact ay (cZ aX) (d9 (i b▸cw f5) _)
    |false=>exact ay (i b▸cw f5) (nN _ _)
  have f:=ay (dh pN _) (ay (by rw[fJ,hJ 10];exact d9 (d9 (aO Z) _) _) S);have K:=O8 P;have i:(ll m a c).length<=100000:=ay (fY _ _) (ay f (aO Z));refine⟨c,λj=>?_,xo g m (ll m a c).length,Vk P,Z,i,q.bD+t,?_,ao,λ_=>(qr _ _).symm,A,f,qU n (eM _),u,?_,(ah (·+m.dl) G),(ah (br m.ci 0 ·+m.dc) H),(ah (·+_) B)⟩
  ·cases b:m.new with
   |false=>exact Z
   |true=>exact Vi (λz=>by rw[<-B,E (v▸z)];exact(wS _ _).symm) G H f3 (k4 b)
  ·refine h.fit Z Z f1 (λo L a f a c e r a=>⟨f,a,ny e (λb _=>?_) λ_ e=>Dn K e r⟩) (λ_ _=>id) h.j (h.bD.trans (hH _).symm) h.len
   have b:=aK b;rw[b]at a c;rw[au (il a X),au (il c hy)];exact k3 _ K Z
  ·show g.txt.drop (g.base 4+m.lC).toNat=_
   show _=d.t.drop m.lC;rw[<-T,e8,Int.toNat_add n (eM _)];rfl
def rT:aI (λa=>!jC a&&(mJ a).isNone&&!atS a&&fK a) yv=U:=by kernel_rfl
def xp:aI (λa=>!jC a&&(mJ a).isNone&&!iW a&&fK a) J!=U:=by kernel_rfl
def AP:Vg oK:=by kernel_rfl
def yp{P:Prop}{h:W->I}{l:ae}(t:aI (λa=>!jC a&&(mJ a).isNone&&!h a&&fK a) l=U)(e:aq l a)(k:jC a=J->mJ a=C->h a=J->fK a->P):P:=ag (ai t (fT e)) λt d=>ag t λt b=>ag t λc f=>k (by cases z:jC a with|false=>rfl|true=>rw[z]at c;exact ao c) (vz.mp f) (by cases z:h a with|false=>rfl|true=>rw[z]at b;exact ao b) d
section
variable{Q:W->N PA}{g:Gb}{T:dy g}{pre:af}{pl:(pre.length:D)=g.base 6}{bY:pre.length<=100000}{R k d:W}{bE e:I}{b b':aC}{w:ae}{rest:Rs}{pg:PG}{m:Mv}{H:af}{bump a:W}
def IZ:IU (oM Q g T pre pl bY R) atS fK where
 mh:=λ_ h=>yp rT h λa _ _ _=>a
 LW:=λ_ h=>yp rT h λ_ a _ _=>a
 attr:=λ_ h=>yp xp h λ_ _ a b=>⟨b,a,h⟩
def abd(c:9<=d):iz (oM Q g T pre pl bY R) aS (pS d):=IW AP IZ 9 d c
def Pb{w:ae}:∀{rest:ae},dz w rest->lS w (rest.take w.length)/\w.length<=rest.length:=by induction w with|nil=>exact λ_=>⟨Z,eG _⟩|cons a x c=> intro rest h;refine Gl h λb y f h=>cp h λh i=>?_;obtain⟨j,i2⟩:=c i;rw[f];exact⟨⟨b,y.take x.length,Z,h,j⟩,eN i2⟩
def Gn(c:0<=g.base 4)(i:g.base 4<=g.txt.length)(f:g.txt.drop (g.base 4).toNat=rest.t)(h:cC w e rest):CQ g w e:=ag h λh j=>by obtain⟨l,n⟩:=Pb h;(have h:g.base 4+(rest.t.length)=g.txt.length:=by rw[<-f,ud,Int.natCast_sub (ju.mp (by rw[yI c];exact i)),yI c,nO,qr]);refine⟨c,h▸yJ (ju.mpr n) _,f.symm▸l,λc=>?_⟩;refine ny j (λ_ q=>?_) λq _=>ao (il q c);rw[<-h,<-aB w,<-aB rest.t,aK q]
def o6{w:ae}(h:a≠eA):aj a (lD b w e).par=aj a (lD b [] J).par:=by show br (ac lH a) _ (br (ac eA a) _ _)=br (ac lH a) _ (br (ac eA a) _ _);rw[jU h.symm];rfl
def RP.yo(h:RP (oM Q g T pre pl bY R) (lD b [] J) pg)(f:CQ g w e):RP (oM Q g T pre pl bY R) (lD b w e) pg where
 tC:=λa c=>by
  by_cases q:a=eA
  ·have L:=h.tC a c
   rw[q]at L ⊢;obtain⟨y,i,v,j,l⟩:=L.ro (.val (.buf [] J)) Z;exact .inr ⟨.val (.buf w e),y,Z,i,v,j,l.1,f⟩
  ·rw[o6 q];exact h.tC a c
 abs:=λa c=>by
  by_cases q:a=eA
  ·exact ao (il (show iW eA=J from Z) (q▸c))
  ·rw[o6 q];exact h.abs a c
 j:=h.j
 bD:=h.bD
 len:=h.len
 zh:=λa=>by
  by_cases q:a=eA
  ·have L:=h.zh a;rw[q]at L ⊢;exact L
  ·rw[o6 q];exact h.zh a
variable(E:S' b w e b' m H)
def skE{P:Prop}(k:∀v p s,bd m.lC (ak w)->NM (lD b w e)=O (v,p)->eQ v=O U->p.bD=0->G! p=O (.next,s)->K8 s.loc->s.pg.bD=0->Dp s.pg b' m H->P):P:=
 ag E λf E=>jm E λr h E=>cp E λi E=>cp E λj E=>jm E λq c E=>by obtain⟨l,s⟩:=q;refine Fl.casesOn l (λc E=>ag E λE l=>ag E λE4 n=>k r.1 r.2 s f h (jm i λb f e=>f.trans (ah O e)) (aK j) c E4 (aK n) l) aV iw c E
def rsE{P:Prop}(E:D' b w e b' m H bump)(k:∀f s,bd m.lC (ak w)->é (lD b w e)=O (f,s)->s.pg.bD=bump->Dp s.pg b' m H->P):P:=ag E λc E=>jm E λq f E=>ag E λE4 h=>k q.1 q.2 c f (aK E4) h
def AQ(c:cz):=aj 0 c=O (.val .par)/\∀x,x≠0->aj x c=C
def I0{l:cz}(h:K8 l)(r:F9 g l c):AQ c:=Gl h λp t c h=>ag h λh f=>ag h λh i=>by rw[c,cO.mp f]at r;obtain⟨a,v⟩:=p;have c:a=0:=aK h;rw[c]at r;refine⟨?_,λx f=>?_⟩;obtain⟨w,e,q⟩:=(r 0).ro v Z;refine LV.casesOn v (λu h q=>?_) aV i q;rw[e];obtain⟨y,i,c⟩:=q;rw[rC h]at c;rw[i,show y=.par from c];have z:=r x;rw[show aj x [(0,v)]=C from bZ (l:=[]) f]at z;exact z.elim (λz=>z.2) λz=>by obtain⟨_,_,z,_⟩:=z;exact aa z
def AQ.rel(h:AQ c):F9 g IY c:=λx=>by by_cases q:x=0;rw[q,h.1];exact .so ⟨_,Z,Z⟩;rw[h.2 x q,show aj x IY=C from bZ (l:=[]) q];exact .no
def m0{q:PG}{p:PG}(h:9<=d)(i:RP (oM Q g T pre pl bY R) q pg)(e:aS.av n [] [] q=O (v,p)):∃c f,(pS d).av n [] [] pg=O (c,f)/\Ga g v c/\RP (oM Q g T pre pl bY R) p f:=by obtain⟨r,c,f,j⟩:=(abd h).av n [] [] [] [] q pg Z Z i (v,p) e;exact⟨r.1,r.2,c,f,j⟩
def none_of{p:PG}(f:RP (oM Q g T pre pl bY R) p pg)(c:fK a=J):aj a pg.par=C:=by have h:=d8.mpr λq=>yp xp q λ_ _ _ z=>ao (il c z);have i:=d8.mpr λq=>yp rT q λ_ _ _ z=>ao (il c z);exact(f.tC a i).elim (λz=>z.2) λz=>by obtain⟨x,_,z,_⟩:=z;exact ao (il h (il (f.zh a) (ah sn z)))
def Gp(c:8<=d):iz (oM Q g T pre pl bY R) aF (gF d):=(IW AP IZ 8 d c).OT bH
def Yr{pre:af}(r:m.bE=bE)(o:cC w e rest)(j:qG Q (k+1) bE b rest pre pg):
  ∀d,9<=d->∃v f,(pS d).av bt [] [] pg=O (v,f)/\eQ v=O U/\f.bD=pg.bD/\(∀a,fK a=J->aj a f.par=C)/\
   ∀l,8<=l->∃i h,pr (gF l) O6 300 x1 ⟨IY,f⟩=O (.next,⟨i,h⟩)/\AQ i/\h.bD=f.bD/\∃c,(∀g,cu g (br m.new (Gm rest H) []) (br m.new c []))/\qG Q k J b' (rest.mv m) (ll m pre c) h:=λd q=>by
 obtain⟨g,T,pl,bY,R,c⟩:=j;have n:=Gn c.h0 c.h1 c.hr o;refine skE E λv p s s t u o v x y z=>?_;obtain⟨A,f,B,F,j⟩:=m0 q (c.R.yo n) t;obtain⟨t,q,t⟩:=jX F _ u;refine⟨A,f,B,q.trans (ah O t.symm),j.bD.trans (o▸c.R.bD.symm),λa q=>none_of j q,λl t=>?_⟩;obtain⟨⟨u,A⟩,q,B,l⟩:=AN 300 x1 (Gp t) ⟨IY,p⟩ ⟨IY,f⟩ ⟨AQ.rel ⟨Z,λf f=>bZ (l:=[]) f⟩,j⟩ _ v;obtain⟨i,h⟩:=A;have f:u=.next:=B;rw[f]at q;refine⟨i,h,q,I0 x l.loc,l.pg.bD.trans (by rw[j.bD,o];exact ah (·+R) y),O9 l.pg z r c.hi c.hn c.hl c.hk c.h0 ?_ c.hr c.b1 c.b3 c.b4⟩;exact gM (yJ (ju.mpr (aB w▸cw s)) _) n.2
def RP.afo(h:RP (oM Q g T pre pl bY R) (lD b w e) pg)(f:CQ g [] J):RP (oM Q g T pre pl bY R) (lD b [] J) pg where
 tC:=λa c=>by
  by_cases q:a=eA
  ·have L:=h.tC a c
   rw[q]at L ⊢;obtain⟨y,i,v,j,l⟩:=L.ro (.val (.buf w e)) Z;exact .inr ⟨.val (.buf [] J),y,Z,i,v,j,l.1,f⟩
  ·rw[<-o6 q];exact h.tC a c
 abs:=λa c=>by
  by_cases q:a=eA
  ·exact ao (il (show iW eA=J from Z) (q▸c))
  ·rw[<-o6 q];exact h.abs a c
 j:=h.j
 bD:=h.bD
 len:=h.len
 zh:=λa=>by
  by_cases q:a=eA
  ·have L:=h.zh a;rw[q]at L ⊢;exact L
  ·rw[<-o6 q];exact h.zh a
def Pd{pre:af}{s:St}(p:NM (lD b w e)=O r)(q:eQ r.1=O U)(n:r.2.bD=0)(t:G! r.2=O (.next,s))(x:K8 s.loc)(u:s.pg=lD b' w e)(o:cC w e rest)(j:qG Q k bE b rest pre pg):
  ∀d,9<=d->∃v f,(pS d).av bt [] [] pg=O (v,f)/\eQ v=O U/\f.bD=pg.bD/\(∀a,fK a=J->aj a f.par=C)/\
   ∀l,8<=l->∃i h,pr (gF l) O6 300 x1 ⟨IY,f⟩=O (.next,⟨i,h⟩)/\AQ i/\h.bD=f.bD/\qG Q k bE b' rest pre h:=λd s=>by
 obtain⟨g,T,pl,bY,R,c⟩:=j;have v:=Gn c.h0 c.h1 c.hr o;obtain⟨o,f,y,z,j⟩:=m0 s (c.R.yo v) (p);obtain⟨p,p,s⟩:=jX z _ q;refine⟨o,f,y,p.trans (ah O s.symm),j.bD.trans (n▸c.R.bD.symm),λa o=>none_of j o,λl p=>?_⟩;obtain⟨⟨q,s⟩,l,v,o⟩:=AN 300 x1 (Gp p) ⟨IY,r.2⟩ ⟨IY,f⟩ ⟨AQ.rel ⟨Z,λf f=>bZ (l:=[]) f⟩,j⟩ _ t;obtain⟨i,h⟩:=s;have f:q=.next:=v;rw[f]at l;have f:=u▸o.pg;exact⟨i,h,l,I0 x o.loc,f.bD.trans (by rw[j.bD,n];rfl),g,T,pl,bY,R,f.afo ⟨c.h0,(aA _).symm▸c.h1,Z,ao⟩,c.hi,c.hn,c.hl,c.hk,c.h0,c.h1,c.hr,c.b1,c.b3,c.b4⟩
def afp{pre:af}(E:D' b w e b' m H bump)(n:m.bE=bE)(j:cC w e rest)(l:AQ f)(i:qG Q (k+1) bE b rest pre pg):
  ∀d,8<=d->∃h s,pr (gF d) O6 300 x_ ⟨f,pg⟩=O (h,s)/\s.pg.bD=pg.bD+bump/\∃c,(∀g,cu g (br m.new (Gm rest H) []) (br m.new c []))/\qG Q k J b' (rest.mv m) (ll m pre c) s.pg:=λd o=>by
 obtain⟨g,T,pl,bY,R,c⟩:=i;have i:=Gn c.h0 c.h1 c.hr j;refine rsE E λh s j p q r=>?_;obtain⟨⟨s,t⟩,u,_,h⟩:=AN 300 x_ (Gp o) ⟨IY,lD b w e⟩ ⟨f,pg⟩ ⟨l.rel,c.R.yo i⟩ _ p;refine⟨s,t,u,h.pg.bD.trans (by rw[q,c.R.bD];exact(hJ _ _).trans (by rw[show(lD b [] J).bD=0 from Z,hH])),O9 h.pg r n c.hi c.hn c.hl c.hk c.h0 ?_ c.hr c.b1 c.b3 c.b4⟩;exact gM (yJ (ju.mpr (aB w▸cw j)) _) i.2
def Gq{P:Prop}{c f:St}(h:O (Fl.brk,c)=O (Fl.next,f)):P:=ao (ah (λo:qY=>oc o (λp=>vK p.1 U J λ_=>J) J) h)
def Gr{P:Prop}{v:V}{c f:St}(h:O (Fl.ret v,c)=O (Fl.next,f)):P:=ao (ah (λo:qY=>oc o (λp=>vK p.1 U J λ_=>J) J) h)
def abe{a b i:S}{s:St}(h:pr G c n (sq [a,b,i]) s=O (.next,j)):pr G c n (.cons a (.cons b (.cons i r))) s=pr G c n r j:=by refine aQ (show bh (pr G c n a) (pr G c n (sq [b,i])) s=O (.next,j)from h) λf q l h=>?_;refine Fl.casesOn f (λl h=>?_) (λ_ h=>Gq h) (λ_ _ h=>Gr h) l h;refine aQ (show bh (pr G c n b) (pr G c n (sq [i])) q=O (.next,j)from h) λf t o h=>?_;refine Fl.casesOn f (λo h=>?_) (λ_ h=>Gq h) (λ_ _ h=>Gr h) o h;refine aQ (show bh (pr G c n i) nx t=O (.next,j)from h) λf s3 p h=>?_;refine Fl.casesOn f (λp h=>?_) (λ_ h=>Gq h) (λ_ _ h=>Gr h) p h;have u:s3=j:=ah Fk (au h);show bh (pr G c n a) (bh (pr G c n b) (bh (pr G c n i) (pr G c n r))) s=_;unfold bh;rw[l];show(ax (pr G c n b q) λf s=>vK f (ax (pr G c n i s) λf s=>vK f (pr G c n r s) (O (Fl.brk,s)) λv=>O (Fl.ret v,s)) (O (Fl.brk,s)) λv=>O (Fl.ret v,s))=_;rw[o];show(ax (pr G c n i t) λf s=>vK f (pr G c n r s) (O (Fl.brk,s)) λv=>O (Fl.ret v,s))=_;rw[p,u];rfl
def Ys{h:cz}{i:PG}{s:St}(j:pr (gF d) O6 300 x1 ⟨IY,c⟩=O (.next,⟨h,i⟩))(l:pr (gF d) O6 300 x_ ⟨h,i⟩=O (f,s)):(pS (d+1)).av bG [] [] c=O (km f,s.pg):=by show ax (pr (gF d) O6 300 cK ⟨IY,c⟩) (λf s=>O (km f,s.pg))=_;rw[show pr (gF d) O6 300 cK ⟨IY,c⟩=pr (gF d) O6 300 x_ ⟨h,i⟩from abe j,l];rfl
def kR{pre:af}(h:qG Q k bE b rest pre pg)(c:fK a=J):aj a pg.par=C:=by obtain⟨g,T,pl,bY,R,f⟩:=h;exact none_of f.R c
end
def LN(p q:Sy):I:=qt q J (off:=λa b=>qt p J (off:=λk n=>br (ac k a) (br (ac k 2) J (br (ac k 6) J (a? (n=b)))) J)) (nn:=qt p J (nn:=U))
def L0(p q:Sy):I:=qt q J (off:=λa b=>qt p J (off:=λk n=>br (ac k a) (br (ac k 2) J (br (ac k 5) J (br (ac k 6) J (a? (n=b))))) (br (ac k 5) (br (ac a 2) (a? (n=b)) J) J))) (nn:=qt p J (nn:=U))
def W_(x:PA):I:=oc (bn (Ŕ x) iI) (λp=>qt p J (off:=λk n=>br (ac k 2) (a? (n=0)) J)) J
def Õ(b:Sy->Sy->I)(a:W)(x y:PA):I:=br (ac a aN) U (br (ac a aH) (W_ x&&W_ y) (OZ b Sv x y))
def Vl(q:PA):N (af):=xZ q aaG aaG aaG aaG O
def Œ(q:PA):N (af):=xZ q aaG O aaG aaG λ_=>C
def Gu(b:aC):I:=oG (Õ LN) (lD b [] J).par (lD b [] J).par&&oc (bn (aj aN (lD b [] J).par) Vl) (λus=>xn LN Sv us us) J
def tv(b a:aC):I:=oG (Õ L0) (lD b [] J).par (lD a [] J).par&&oc (bn (aj aN (lD b [] J).par) Vl) (λus=>oc (bn (aj aN (lD a [] J).par) Œ) (xn L0 Sv us) J) J
def xr(T:D)(b:af)(a:PG):PG:={a with par:=put aN (.lst b) (put aH (.val (.int (T+1))) a.par)}
def Pf(g:Gb):Gb:={g with base:=λk=>br (ac k 2) (g.base 2+1) (br (ac k 6) (g.base 6-1) (g.base k))}
def La(g:Gb):Gb:={g with base:=λk=>br (ac k 2) (g.base 2+1) (br (ac k 5) (g.base 2+1+1) (br (ac k 6) 1 (g.base k)))}
section
variable{x:PA}{v:V}{l:af}
def Vm:Ŕ x=O v->x=.val v:=PA.casesOn x (λ_ e=>ah PA.val (au e)) bX bX bX λ_=>aa
def I1:Vl x=O l->x=.Hq l:=PA.casesOn x bX bX bX bX λ_ e=>ah PA.Hq (au e)
def Vn:Œ x=O l->x=.lst l:=PA.casesOn x bX (λ_ e=>ah PA.lst (au e)) bX bX λ_=>aa
def Pg(h:W_ x):x=.val (.sym (.off 2 0)):=jm h λp a e=>bL a λv b a=>by rw[Vm b,CS a];exact Sy.casesOn p (λk n e=>cp e λh e=>by rw[aK h,aO e]) iw ao aV aV e
end
section
variable{B:W->N PA}{g g':Gb}{u:dy g}{A:dy g'}{pre pre':af}{pl:(pre.length:D)=g.base 6}{G:pre.length<=100000}{H:(pre'.length:D)=g'.base 6}{plen':pre'.length<=100000}{E k:W}{L:I}{b b2:aC}{rest:Rs}{pg:PG}{a:W}{fs:Sy->Sy->I}{v:af}{y0:PA}{Q c1:V}{z:D}{p q:Sy}
def lU(c:a≠aN)(d:a≠aH):aj a (xr T v pg).par=aj a pg.par:=(bZ c).trans (bZ d)
def Yt(h:RP (oM B g u pre pl G E) (lD b [] J) pg)(K:oH g g' fs Sv)(f:g'.base 2=g.base 2+1)(F:oG (Õ fs) (lD b [] J).par (lD b2 [] J).par=U)(i:aj aN pg.par=O y0)(o:∀y,aj aN (lD b2 [] J).par=O y->ym (oM B g' A pre' H plen' E) y (.lst v)):
  ∃T,aj aH pg.par=O (.val (.int T))/\RP (oM B g' A pre' H plen' E) (lD b2 [] J) (xr T v pg):=by
 have j:aN≠aH:=by decide
 have c:∃T,aj aH pg.par=O (.val (.int T))/\T=g.base 2+0:=by refine(lT aH F).elim (λz=>ao (il (ah sn z.1) (h.zh aH))) λz=>?_;obtain⟨x,y,e,_,m⟩:=z;obtain⟨l,d,f⟩:=(h.tC aH Z).ro x e;rw[Pg (bO (m)).1]at f;obtain⟨w,e,t,m,r⟩:=f;exact⟨t,d.trans (by rw[e,m]),r⟩
 obtain⟨T,d,s⟩:=c;refine⟨T,d,h.fit Z Z F (λa x y l c m e r t=>?_) (λa c n=>?_) (λa c=>(lU (λq=>ao (il (show iW aN=J from Z) (q▸c))) λq=>ao (il (show iW aH=J from Z) (q▸c))).trans (h.j a c)) h.bD ?_⟩
 ·refine ny e (λq _=>?_) λq e=>ny e (λc e=>?_) λc e=>?_
  ·have q:=aK q
   rw[q]at m ⊢;exact⟨.lst v,dk,o y m⟩
  ·have c:=aK c
   rw[c];refine⟨.val _,(bZ j.symm).trans dk,?_⟩;rw[Pg (bO e).2];exact⟨_,Z,_,Z,show T+1=g'.base 2+0 by rw[f,s,aA,aA]⟩
  ·exact⟨l,(lU (hY q) (hY c)).trans t,Dn K e r⟩
 ·by_cases q:a=aN
  ·rw[q]at n;exact aa (il n i)
  ·by_cases c:a=aH
   ·rw[c]at n;exact aa (il n d)
   ·exact(lU q c).trans n
 ·exact ay (cZ ((kJ ((bZ j).trans i)).trans (kJ d))) h.len
def abg(e:LN p q)(r:CP g z p):CP (Pf g) z q:=by refine Sy.casesOn q (λc d=>?_) iw ?_ aV aV e;refine Sy.casesOn p (λk n r e=>cp e λh e=>ny e aV λf e=>ny e aV λi e=>?_) pf aV iw iw r;show z=(Pf g).base c+d;rw[<-aK h,show(Pf g).base k=g.base k from(dw f).trans (dw i),<-aO e];exact r;exact Sy.casesOn p pf pf (λr _=>r) iw iw r
def abh(u:dy g)(one:g.base 6=1)(e:L0 p q)(r:CP g z p):CP (La g) z q:=by refine Sy.casesOn q (λd f=>?_) iw ?_ aV aV e;refine Sy.casesOn p (λk n r e=>ny e (λh e=>ny e aV λc e=>ny e aV λi e=>ny e aV λj e=>?_) λ_ e=>cp e λh e=>cp e λc e=>?_) pf aV iw iw r;show z=(La g).base d+f;rw[<-aK h,show(La g).base k=g.base k from(dw c).trans ((dw i).trans (dw j)),<-aO e];exact r;show z=(La g).base d+f;rw[aK c,<-aO e,r,aK h,u.ti,one];rfl;exact Sy.casesOn p pf pf (λr _=>r) iw iw r
def ve{a:D}(h:0<=a):0<=a+1:=gM h (uf (aO Z))
def wfT(u:dy g)(h:2<=g.base 6):dy (Pf g)where
 pos:=λk=>by
  show 0<=br _ _ _;cases ac k 2 with
  |true=>exact ve (u.pos 2)
  |false=>cases ac k 6 with
   |true=>exact r6.mpr (gM (aO Z) h)
   |false=>exact u.pos k
 le:=u.le
 lt:=u.lt
 Yk:=λj c=>h! (u.Yk j c) (I' _)
 ti:=show g.base 5=g.base 2+1+(g.base 6-1) by rw[u.ti,ej,nO 1,qr]
 six:=Int.le_sub_right_of_add_le h
def wfD(u:dy g):dy (La g)where
 pos:=λk=>by
  show 0<=br _ _ _;cases ac k 2 with
  |true=>exact ve (u.pos 2)
  |false=>cases ac k 5 with
   |true=>exact ve (ve (u.pos 2))
   |false=>cases ac k 6 with
    |true=>exact(show(0)<=1 by decide)
    |false=>exact u.pos k
 le:=u.le
 lt:=u.lt
 Yk:=λj c=>h! (u.Yk j c) (I' _)
 ti:=Z
 six:=pJ _
def Dq(d:RP (oM B g u pre pl G E) (lD b [] J) pg){us:af}(e:bn (aj aN (lD b [] J).par) Vl=O us):∃c,aj aN pg.par=O (.lst (pre++c))/\cu g us c:=bL e λx f e=>by refine gq λP h=>?_;obtain⟨c,i,c⟩:=(d.tC aN Z).ro x f;rw[I1 e]at c;obtain⟨l,q,k,d,r⟩:=c;refine h ?_;exact⟨k,by rw[i,q,d];rfl,r⟩
def Vo{pre:af}(F:Gu b)(h:qG B k L b rest (Q::c1::pre) pg):∃T v,aj aH pg.par=O (.val (.int T))/\aj aN pg.par=O (.lst (Q::v))/\qG B k L b rest (c1::pre) (xr T v pg):=ag F λi e=>jm e λus d e=>by refine gq λP j=>?_;obtain⟨g,u,pl,G,E,c⟩:=h;obtain⟨h,f,r⟩:=Dq c.R d;have K:oH g _ LN Sv:=⟨λ_ _ _ l r=>abg l r,λ_ _=>ao,⟨c.h0,(aA _).symm▸c.h1,Z,ao⟩,Z⟩;have l:=il (wS ((c1::pre).length) 1) (ah (·-1) pl);have A:=wfT u (pl▸ju.mpr (nN _ _));have m:=ay (iF _) G;(obtain⟨T,n,R⟩:=Yt c.R K Z i f λy i=>bL d λx o d=>by rw[au (il i o),I1 d];exact⟨_,Z,h,Z,kM K e r⟩);refine j ?_;exact⟨T,_,n,f,Pf g,A,l,m,E,R,c.hi,c.hn,c.hl,ay (dh (iF _) _) c.hk,c.h0,c.h1,c.hr,c.b1,c.b3,c.b4⟩
def Vp(F:tv b b2)(h:qG B k L b rest [Q] pg):∃T v,aj aH pg.par=O (.val (.int T))/\aj aN pg.par=O (.lst (Q::v))/\qG B k L b2 rest [.none] (xr T v pg):=ag F λi d=>jm d λus j d=>jm d λc e d=>by refine gq λP l=>?_;obtain⟨g,u,pl,G,E,c⟩:=h;obtain⟨h,f,r⟩:=Dq c.R j;have K:oH g _ L0 Sv:=⟨λ_ _ _ j r=>abh u pl.symm j r,λ_ _=>ao,⟨c.h0,(aA _).symm▸c.h1,Z,ao⟩,Z⟩;(obtain⟨T,j,R⟩:=Yt (pre':=[V.none]) (plen':=by decide) c.R K Z i f λy i=>bL e λx m e=>by rw[au (il i m),Vn e];exact⟨_,Z,kM K d r⟩);refine l ?_;exact⟨T,h,j,f,La g,wfD u,Z,by decide,E,R,c.hi,c.hn,c.hl,c.hk,c.h0,c.h1,c.hr,c.b1,c.b3,c.b4⟩
end
def Lb(b a:aC):=∃v,NM (lD b [] J)=O (v,lD a [] J)/\eQ v=O J
abbrev yq(b:aC):Prop:=Lb b b
def dA(v:V):I:=dP v J (ob:=λ_ _=>U)
abbrev MARK:V:=.none
def SkP(d:I)(b a:aC)(f:Rs)(m:Mv)(c:af):=∃w e,S' b w e a m c/\m.bE=d/\cC w e f=U
def RsP(f:I)(b a:aC)(g:Rs)(m:Mv)(c:af)(d:W):=∃w e,D' b w e a m c d/\m.bE=f/\cC w e g=U
def Ô(b a:aC)(c:Rs):=∃w e r s,NM (lD b w e)=O r/\eQ r.1=O U/\r.2.bD=0/\G! r.2=O (.next,s)/\K8 s.loc/\s.pg=lD a w e/\cC w e c=U
def P'(a:W)(L b:af):=(a=0/\b=L)∨(a=1/\b=MARK::L/\oc L.head? dA J=U)
def O'(b d:aC)(a c:af)(t:V):=yq b/\dA t/\((∃u r,a=t::u::r/\c=u::r/\Gu b/\d=b)∨(a=[t]/\c=[.none]/\tv b d=U))
inductive Sn:W->I->I->aC->Rs->af->af->Prop
 |skip {k:W} {bE:I} {b b':aC} {rest:Rs} {m:Mv} {emit:af} {ZB L:af}:SkP bE b b' rest m emit->Sn k J U b' (rest.mv m) (ll m ZB (Gm rest emit)) L->Sn (k+1) bE J b rest ZB L
 |Ld {k:W} {bE:I} {b b':aC} {rest:Rs} {ZB L:af}:Ô b b' rest->Sn k bE U b' rest ZB L->Sn k bE J b rest ZB L
 |xt {k:W} {bE:I} {b b':aC} {rest:Rs} {m:Mv} {emit:af} {bump:W} {ZB L L':af}:RsP bE b b' rest m emit bump->P' bump L L'->Sn k J J b' (rest.mv m) (ll m ZB (Gm rest emit)) L->Sn (k+1) bE U b rest ZB L'
 |take {k:W} {bE:I} {b A4:aC} {rest:Rs} {ZB pre2:af} {t:V} {L:af}:O' b A4 ZB pre2 t->Sn k bE J A4 rest pre2 L->Sn k bE J b rest ZB (t::L)
 |settle {k:W} {bE:I} {b G2:aC} {rest:Rs} {ZB L:af}:Lb b G2->yq G2->Sn k bE J G2 rest ZB L->Sn k bE J b rest ZB L
 |fin {k:W} {bE:I} {b A4:aC} {rest:Rs} {ZB pre2:af} {t:V}:O' b A4 ZB pre2 t->Sn k bE J b rest ZB [t]
section
variable(f:W->N PA)(k:W)(L:af)(pg:PG)
def PQ:=L=[]∨∃a b c d e,qG f k a b c d pg/\(∀g,cu g e d)/\Sn k a J b c e L
def RQ:=∃a b c d e,qG f k a b c d pg/\(∀g,cu g e d)/\Sn k a J b c e L/\yq b
def FrQ:=∃t a c b T,L=t::a/\dA t/\(∀g,Ga g t c)/\aj aN pg.par=O (.lst (c::b))/\aj aH pg.par=O (.val (.int T))/\PQ f k a (xr T b pg)
end
abbrev pG(d:W)(gv:ae):cQ:={pS d with gl:=yd (pS d).gl gv}
section
variable{Fr:W->N PA}{k d n:W}{bE:I}{b b1:aC}{rest:Rs}{pre pre' L:af}{pg:PG}{c:V}{gv:ae}
def AR(h:qG Fr k bE b rest pre pg)(f:Lb b b1)(g:9<=d):∃v e,(pS d).av bt [] [] pg=O (v,e)/\eQ v=O J/\e.bD=pg.bD/\qG Fr k bE b1 rest pre e:=by refine gq λP i=>?_;obtain⟨j,l,m,o,p,a⟩:=h;obtain⟨v,h,q⟩:=f;obtain⟨r,e,s,t,f⟩:=m0 g a.R h;obtain⟨g,g,h⟩:=jX t _ q;refine i ?_;exact⟨r,e,s,g.trans (ah O h.symm),f.bD.trans a.R.bD.symm,j,l,m,o,p,f,a.hi,a.hn,a.hl,a.hk,a.h0,a.h1,a.hr,a.b1,a.b3,a.b4⟩
def set_same(h:Lb b b1)(a:yq b):b1=b:=by obtain⟨v,e,_⟩:=h;obtain⟨f,f,_⟩:=a;exact ah (λo:N _=>oc o (λp=>p.2.par.tail.tail) []) (il e f)
def Le(h:∀g,cu g [c] pre):∃u,pre=[u]/\∀g,Ga g c u:=by induction pre with|nil=>obtain⟨_,_,q,_⟩:=h ⟨λ_=>0,λ_=>0,0,[]⟩;exact ch q.symm (bN _ _)|cons u us _=> obtain⟨_,_,q,_,r⟩:=h ⟨λ_=>0,λ_=>0,0,[]⟩;have:us=[]:=(fq q).2.trans r;exact⟨u,by rw[this],λg=>by obtain⟨_,_,q,r,_⟩:=h g;exact(fq q).1▸r⟩
def Lg{t0 a:V}{l:af}(h:∀g,cu g (t0::a::l) pre):∃u v m,pre=u::v::m/\(∀g,Ga g t0 u)/\∀g,cu g (a::l) (v::m):=by refine gq λP a=>?_;obtain⟨u,m0,q,_,r⟩:=h ⟨λ_=>0,λ_=>0,0,[]⟩;obtain⟨v,m,e,_,_⟩:=(r);refine a ?_;rw[e]at q;refine⟨u,v,m,q,λg=>?_,λg=>?_⟩;obtain⟨_,_,a,e,_⟩:=h g;rw[q]at a;exact(fq a).1▸e;obtain⟨_,_,a,_,e⟩:=h g;rw[q]at a;exact(fq a).2▸e
def Ph{e:aC}{m:Mv}{f:af}{P:Prop}(g:yq b)(E:SkP bE b e rest m f)(a:qG Fr (k+1) bE b rest pre pg):P:=by obtain⟨w,e,E,e,f⟩:=E;obtain⟨v,h,h,i,_⟩:=AR a g (aU 9);obtain⟨g,j,b1,j,_⟩:=Yr E e f a 9 (aU 9);have:v=g:=ah v6 (au (il h b1));exact ao (au (il i (this▸j)))
def Pj{P:Prop}(f:yq b)(E:Ô b e rest)(a:qG Fr k bE b rest pre pg):P:=by obtain⟨w,e,r,s,e,g,h,i,j,l,m⟩:=E;obtain⟨v,o,o,p,_⟩:=AR a f (aU 9);obtain⟨f,q,b1,q,_⟩:=Pd e g h i j l m a 9 (aU 9);have:v=f:=ah v6 (au (il o b1));exact ao (au (il p (this▸q)))
def Pk{i:aC}{t:V}(h:O' b i pre' j t)(f:qG Fr k bE b rest pre pg)(e:∀g,cu g pre' pre):∃c T a l,(∀g,Ga g t c)/\aj aH pg.par=O (.val (.int T))/\aj aN pg.par=O (.lst (c::a))/\qG Fr k bE i rest l (xr T a pg)/\∀g,cu g j l:=by obtain⟨_,_,h⟩:=h;refine h.elim (λh=>?_) λh=>?_;obtain⟨u,r,i,j,l,s⟩:=h;rw[i]at e;obtain⟨u,v,t,q,m,w⟩:=Lg e;rw[q]at f;obtain⟨T,a,o,p,r⟩:=Vo l f;exact⟨u,T,a,v::t,m,o,p,s▸r,j▸w⟩;obtain⟨i,j,l⟩:=h;rw[i]at e;obtain⟨u,q,m⟩:=Le e;rw[q]at f;obtain⟨T,a,o,p,r⟩:=Vp l f;exact⟨u,T,a,_,m,o,p,r,λg=>by rw[j];exact⟨.none,[],Z,Z,Z⟩⟩
def Dr{z:I}(S:Sn k bE z b rest pre' L):∀{pre:af},z=J->yq b->qG Fr k bE b rest pre pg->(∀g,cu g pre' pre)->FrQ Fr k L pg:=by induction S with|skip E _ _=>exact λ_ a e _=>Ph a E e|Ld E _ _=>exact λ_ a e _=>Pj a E e|xt _ _ _ _=>exact λg=>ao g.symm|settle i _ _ j=>exact λg a e f=>j g (set_same i a▸a) (set_same i a▸e) f|take h S _=> intro pre _ a e f;obtain⟨c,T,g,p,i,j,l,m,o⟩:=Pk h e f;exact⟨_,_,c,g,T,Z,h.2,i,l,j,.inr ⟨_,_,_,_,_,m,o,S⟩⟩|fin h=> intro pre _ a e f;obtain⟨c,T,g,p,i,j,l,m,o⟩:=Pk h e f;exact⟨_,_,c,g,T,Z,h.2,i,l,j,.inl Z⟩
def Pm(h:RQ Fr k L pg):FrQ Fr k L pg:=by obtain⟨bE,b,rest,pre,pre',a,e,f,g⟩:=h;exact Dr f Z g a e
def Du{t:I}(h:aq e x)(i:aj x a=O (.val .par))(o:G.du m)(p:G.ro=J)(l:aj m pg.par=C)(j:BC G e g ⟨a,pg⟩=O (f,⟨a,pg⟩):=by rfl):ev G e t (.fw (.aR x) m g [] .nil) ⟨a,pg⟩=ax (G.av m f [] pg) λv pg=>fin t v ⟨a,pg⟩:=by(have q:gy G e ⟨a,pg⟩ (O (.loc x))=C:=by show mp (gd _ _) _=C;rw[h,i];rfl);(have r:BW G e x J ⟨a,pg⟩=O (.par,⟨a,pg⟩):=by show ax (br _ _ _) _=_;rw[h,i];rfl);show oc (gy G e ⟨a,pg⟩ (O _)) _ (ax (BW G e x J ⟨a,pg⟩) λy a=>ax (BC G e g a) λf s=>br _ _ _)=_;rw[q,r];show ax _ (λf s=>Hu G _ m _ f [] t s)=_;rw[j];show oc _ _ (gd _ (ax (br G.ro C _) _))=_;rw[l,o,p];cases G.av m f [] pg<;>rfl
def Vq:(pG d gv).du bt=U:=by cases d<;>rfl
def Pn:(pG d gv).du bG=U:=by cases d<;>rfl
def p9:(pG d gv).ro=J:=by cases d<;>rfl
def vf:fK bt=J:=Z
def Dv:fK bG=J:=Z
def uA:X:=.fw (.aR 0) bt .nil [] .nil
def Po{c:fc}{b:gz}{s:St}(h:c U s=O (.bool U,a))(k:b a=O (.next,e)):uE c b (n+1) s=uE c b n e:=by show ax _ (λv s=>bn (gH v) λx=>br x (ax (b s) λf s=>turn f s _) (nx s))=_;rw[h];show ax _ (λf s=>turn f s _)=_;rw[k];rfl
def Pp{c:fc}{b:gz}{s:St}(h:c U s=O (.bool J,a)):uE c b (n+1) s=O (.next,a):=by show ax _ (λv s=>bn (gH v) λx=>br x (ax (b s) λf s=>turn f s _) (nx s))=_;rw[h];rfl
def Yu{s:St}{z:I}(h:eQ v=O z):fin U v s=O (.bool z,s):=ah _ h
def Yv(Fr:W->N PA)(d:W)(gv h:ae)(f:cz)(c:gz)(k n:W)(L:af)(pg:PG):=∃g e a,uE (ev (pG d gv) h · uA) c n ⟨f,pg⟩=O (.next,⟨f,a⟩)/\g<=k/\RQ Fr g e a/\((L=MARK::e/\a.bD=pg.bD+1)∨(L=e/\a.bD=pg.bD))
variable{lv:ae}{loc:cz}{C:gz}
def vg{z:I}(e:aq lv 0)(f:aj 0 loc=O (.val .par))(g:aj bt pg.par=none)(h:(pS d).av bt [] [] pg=O (v,a))(t:eQ v=O z):ev (pG d gv) lv U uA ⟨loc,pg⟩=O (.bool z,⟨loc,a⟩):=by refine(Du e f Vq p9 g).trans ?_;rw[show(pG d gv).av bt [] [] pg=O _ from h];exact Yu t
def xu(f:9<=d)(h:aq lv 0)(i:aj 0 loc=O (.val .par))(a:qG Fr k bE b rest pre pg)(j:∀g,cu g pre' pre)(e:Lb b b1)(l:yq b1)(S:Sn k bE J b1 rest pre' L):Yv Fr d gv lv loc C k (n+1) L pg:=by obtain⟨v,g,m,o,p,q⟩:=AR a e f;exact⟨k,L,g,Pp (vg h i (kR a vf) m o),aU _,⟨bE,b1,rest,pre,pre',q,j,S,l⟩,.inr ⟨Z,p⟩⟩
def I3(i:∀g,cu g pre' pre)(f:∀g,cu g (br m.new a []) (br m.new e []))(g:Gb):cu g (ll m pre' a) (ll m pre e):=by unfold ll;have h:=f g;cases q:m.new with|false=>exact⟨.none,[],Z,Z,Z⟩|true=>rw[q]at h;cases m.old with|true=>exact(i g).app h|false=>exact h
def ő(d:W)(loc:cz)(C:gz):=∀v a e,aj bG a.par=none->(pS d).av bG [] [] a=O (v,e)->C ⟨loc,a⟩=O (.next,⟨loc,e⟩)
def afs(Fr:W->N PA)(d:W)(gv lv:ae)(loc:cz)(c:gz)(k n:W)(L:af)(pg:PG):=∀f,AQ f->∃h s g e a,pr (gF d) O6 300 x_ ⟨f,pg⟩=O (h,s)/\uE (ev (pG (d+1) gv) lv · uA) c n ⟨loc,s.pg⟩=O (.next,⟨loc,a⟩)/\g<=k/\RQ Fr g e a/\((L=MARK::e/\a.bD=pg.bD+1)∨(L=e/\a.bD=pg.bD))
def Vr{p:I}(A:8<=d)(i:aq lv 0)(j:aj 0 loc=O (.val .par))(hC:ő (d+1) loc C)(S:Sn k bE p b rest pre' L):∀{pre:af}{pg:PG}{n:W},qG Fr k bE b rest pre pg->(∀B,cu B pre' pre)->k<=n->br p (afs Fr d gv lv loc C k n L pg) (Yv Fr (d+1) gv lv loc C k (n+1) L pg):=by
 have m:=eN A
 induction S with
 |skip E _ o=> intro pre pg n a e g;obtain⟨a',b',E,F,p⟩:=E;obtain⟨c',G,H,K,M,P,Q⟩:=Yr E F p a _ m;obtain⟨B,pg2,c1,R,r,es,c3,t⟩:=Q d A;obtain⟨T,s,u,v,w,V,x,y,z,f⟩:=(o t (I3 e c3) (n4 g)) B R;refine⟨u,v,w,(Po (vg i j (kR a vf) H K) (hC _ G s.pg (P _ Dv) (Ys c1 V))).trans x,vF y,z,?_⟩;rw[r,M]at f;exact f
 |Ld E _ o=> intro pre pg n a e g;obtain⟨a',b',d',s,X,h2,h3,h4,h5,h6,p⟩:=E;obtain⟨c',G,H,K,M,P,Q⟩:=Pd X h2 h3 h4 h5 h6 p a _ m;obtain⟨B,pg2,c1,R,r,t⟩:=Q d A;obtain⟨T,s,u,v,w,V,x,y,z,f⟩:=(o t e g) B R;refine⟨u,v,w,(Po (vg i j (kR a vf) H K) (hC _ G s.pg (P _ Dv) (Ys c1 V))).trans x,y,z,?_⟩;rw[r,M]at f;exact f
 |xt E hm _ o=>
  intro pre pg n a e g B B;obtain⟨a',b',E,F,p⟩:=E;obtain⟨T,s,c1,r,es,c3,t⟩:=afp E F p B a d A
  induction n with
  |zero=>exact ch g (zS _)
  |succ n _=>
  obtain⟨u,v,w,x,y,z,f⟩:=(o t (I3 e c3) (vC g));refine⟨T,s,u,v,w,c1,x,vF y,z,?_⟩;rw[r]at f;refine hm.elim (λh=>?_) λh=>?_
  ·rw[h.2];rw[h.1]at f;exact f
  ·rw[h.2]
   rw[h.1]at f;exact f.elim (λq=>ao (il (ah (λl:af=>oc l.head? dA J) q.1) h.3)) λq=>.inl ⟨ah _ q.1,q.2⟩
 |settle X h2 S _=>exact λa e _=>xu m i j a e X h2 S
 |take h S _=>exact λa e _=>xu m i j a e h.1 h.1 (.take h S)
 |fin h=>exact λa e _=>xu m i j a e h.1 h.1 (.fin h)
end
section
variable{a b:gz}{c:fc}{s s1:St}{v:V}
def eB(h:a s=O (.next,s1)):bh a b s=b s1:=by show ax (a s) _=_;rw[h];rfl
def mK(h:a s=O (.ret v,s1)):bh a b s=O (.ret v,s1):=by show ax (a s) _=_;rw[h];rfl
def zp(h:c U s=O (.bool U,s1)):BD c a b s=a s1:=by show ax (c U s) _=_;rw[h];rfl
def I4(h:c U s=O (.bool J,s1)):BD c a b s=b s1:=by show ax (c U s) _=_;rw[h];rfl
def Gv(h:c J s=O (v,s1)):sT J c s=O (.ret v,s1):=by show ax (c J s) (λv s=>O (Fl.ret v,s))=_;rw[h];rfl
end
section
variable{G:cQ}{lv:ae}{loc:cz}{pg:PG}{c:V}{b:af}
variable(d:aq lv 0)(h0:aj 0 loc=O (.val .par))(ht:aj aN pg.par=O (.lst b))
def xv:iQ G lv ⟨loc,pg⟩ (.bU 44)=O (.lst b):=by show gd (br (aq lv 0) (oc (aj 0 loc) (λl=>J6 l jw λ_=>J) J) J) (oc (aj 44 pg.par) (Mn G) _)=_;rw[d,h0,show aj 44 pg.par=O (.lst b)from ht];rfl
def Gw:gy G lv ⟨loc,pg⟩ (O (.bU 44))=O (.bU 44,.lst b):=ah (mp · λc=>(Pl.bU 44,c)) (xv d h0 ht)
def xw(ht:aj aN pg.par=O (.lst (c::b))):ev G lv U (.bU (.aR 0) 44) ⟨loc,pg⟩=O (.bool U,⟨loc,pg⟩):=by show oc (gy G lv ⟨loc,pg⟩ (O (.bU 44))) _ _=_;rw[Gw d h0 ht];rfl
def zq{s:St}:calm s s:=cf _
def zr(ht:aj aN pg.par=O (.lst (c::b))):ev G lv J (.sub (.bU (.aR 0) 44) (.int 0)) ⟨loc,pg⟩=O (c,⟨loc,pg⟩):=by show oc (gy G lv ⟨loc,pg⟩ (O (.bU 44))) (λa=>gd (calm ⟨loc,pg⟩ ⟨loc,pg⟩) (bn (iQ G lv ⟨loc,pg⟩ a.1) λc=>bn (qv c (.int 0)) λw=>fin J w ⟨loc,pg⟩)) _=_;rw[Gw d h0 ht];show gd (calm ⟨loc,pg⟩ ⟨loc,pg⟩) (bn (iQ G lv ⟨loc,pg⟩ (.bU 44)) _)=_;rw[zq,xv d h0 ht];rfl
end
section
variable{y:W->N PA}{k d:W}{L:af}{pg:PG}{u:V}{gv lv:ae}{loc:cz}
def ahJ(b:aq lv 0)(c:aj 0 loc=O (.val .par)):ő d loc (pr (pG d gv) lv 300 (sq [.expr (.fw v0 52 .nil [] .nil)])):=λv a e f g=>by refine eB (a:=vT (ev (pG d gv) lv · (.fw (.aR 0) bG .nil [] .nil))) (b:=nx) ?_;show ax (ev (pG d gv) lv J (.fw (.aR 0) bG .nil [] .nil) ⟨loc,a⟩) _=_;rw[Du b c Pn p9 f,show(pG d gv).av bG [] [] a=O (v,e)from g];rfl
def I5(y:W->N PA)(k:W)(L:af)(pg:PG)(c:W)(a:af)(b:PG)(e:V):=c<=k/\RQ y c a b/\((L=MARK::a/\b.bD=pg.bD+1)∨(L=a/\b.bD=pg.bD))/\∃t b,a=t::b/\dA t/\∀g,Ga g t e
def I6(g:9<=d)(i:aq lv 0)(j:aj 0 loc=O (.val .par))(h:PQ y k L pg)(l:L≠[])(m:k<300):∃b e a c f,uE (ev (pG d gv) lv · uA) (pr (pG d gv) lv 300 (sq [.expr (.fw v0 52 .nil [] .nil)])) 300 ⟨loc,pg⟩=O (.next,⟨loc,a⟩)/\I5 y k L pg b e a c/\aj aN a.par=O (.lst (c::f)):=by
 refine h.elim (λh=>ch h l) λh=>?_;obtain⟨l,l,l,l,l,n,o,S⟩:=h
 induction d with
 |zero=>exact ch g (zS _)
 |succ d _=>
 obtain⟨b,e,a,l,p,h,q⟩:=(Vr (gv:=gv) (vC g) i j (ahJ (gv:=gv) i j) S n o (sB m));obtain⟨t,g,c,f,T,i,j,m,n,_⟩:=Pm h;exact⟨b,e,a,c,f,l,⟨p,h,q,t,g,i,j,m⟩,n⟩
def Pq(g:9<=d)(h:PQ y k L pg)(i:L≠[])(j:k<300):∃b e a c,(pS (d+1)).av mq [] [] pg=O (c,a)/\I5 y k L pg b e a c:=by obtain⟨b,e,a,c,f,w,H,f⟩:=I6 (gv:=[]) (lv:=[0]) (loc:=[(0,.val .par)]) g Z Z h i j;refine⟨b,e,a,c,?_,H⟩;show ax (bh (uE (ev (pG d []) [0] · uA) (pr (pG d []) [0] 300 (sq [.expr (.fw v0 52 .nil [] .nil)])) 300) (bh (BD (ev (pG d []) [0] · (.bU (.aR 0) 44)) (bh (sT J (ev (pG d []) [0] · (.sub (.bU (.aR 0) 44) (.int 0)))) nx) λ_=>C) nx) ⟨[(0,.val .par)],pg⟩) (λa s=>O (km a,s.pg))=_;rw[eB w,mK ((zp (c:=(ev (pG d []) [0] · (.bU (.aR 0) 44))) (xw Z Z f)).trans (mK (Gv (c:=(ev (pG d []) [0] · (.sub (.bU (.aR 0) 44) (.int 0)))) (zr Z Z f))))];rfl
def Gx(G:cQ)(t u:V):fP:=bn (jk G t Ŭ ⟨[],⟨[],[],0⟩⟩) λi=>pe .In i u
def Dw{t:V}{s:St}:dA t->jk G t a s=jk G t a s':=by refine V.casesOn (motive_1:=λt=>dA t=U->jk G t a s=jk G t a s') t ao aV aV aV aV aV (λ_ _ _=>Z) aV aV aV aV aV ao ao aV iw ao aV
def Dx{t:V}(h:Ga g t c)(a:dA t):dA c:=by refine V.casesOn (motive_1:=λt=>dA t=U->Ga g t c->dA c=U) t ao aV aV aV aV aV (λ_ _ _ h=>?_) aV aV aV aV aV ao ao aV iw ao aV a h;obtain⟨l,q,_⟩:=h;rw[q];rfl
def Pr(h:aj x loc=O (.val u))(a:dZ u=J):gy G lv ⟨loc,pg⟩ (O (.loc x))=C:=by show mp (gd (aq lv x) (bn (aj x loc) _)) _=C;rw[h];show mp (gd (aq lv x) (gd (dZ u) _)) _=C;rw[a];cases aq lv x<;>rfl
def Pu{t:I}(a:aq lv x)(h:aj x loc=O (.val u))(b:dZ u=J):ev G lv t (.aR x) ⟨loc,pg⟩=fin t u ⟨loc,pg⟩:=by(have k:ax (J7 G lv x ⟨loc,pg⟩) (λv s=>fin t v s)=fin t u ⟨loc,pg⟩:=by show ax (br (aq lv x) (bn (aj x loc) _) _) _=_;rw[a,h];rfl);show br t (oc (gy G lv ⟨loc,pg⟩ (O (.loc x))) _ _) _=_;rw[Pr h b,k];cases t<;>rfl
def Lh(i:9<=d)(j:PQ y k L pg)(l:L≠[])(m:k<300)(f:eQ u=O U):∃b g a c,I5 y k L pg b g a c/\∀e,Gx (pG d []) c u=O e->(pS (d+1)).av kY [u] [] pg=O (.bool e,a):=by
 obtain⟨b,g,a,c,h,w,H,h⟩:=I6 (gv:=[]) (lv:=[0,53]) (loc:=[(0,.val .par),(53,.val u)]) i Z Z j l m;refine⟨b,g,a,c,H,λe g=>bL g λi o g=>?_⟩;have j:dZ u=J:=d8.mpr λq=>by rw[sX q]at f;exact aa f
 have p:dA c:=by obtain⟨_,_,_,t,_,_,q,r⟩:=H;exact Dx (r ⟨λ_=>0,λ_=>0,0,[]⟩) q
 have l:aj 0 [(0,LV.val .par),(53,LV.val u)]=O (.val .par):=Z;have m:aj 53 [(0,LV.val .par),(53,LV.val u)]=O (.val u):=Z
 have r:ev (pG d []) [0,53] U (.nt (.aR 53)) ⟨[(0,.val .par),(53,.val u)],a⟩=O (.bool J,⟨[(0,.val .par),(53,.val u)],a⟩):=by show ax (ev (pG d []) [0,53] U (.aR 53) ⟨[(0,.val .par),(53,.val u)],a⟩) (λv s=>mp (eQ v) λb=>(V.bool !b,s))=_;rw[Pu Z m j,Yu f];rfl
 have f:ev (pG d []) [0,53] J (.bU (.sub (.bU (.aR 0) 44) (.int 0)) 54) ⟨[(0,.val .par),(53,.val u)],a⟩=O (i,⟨[(0,.val .par),(53,.val u)],a⟩):=by show ax (ev (pG d []) [0,53] J (.sub (.bU (.aR 0) 44) (.int 0)) _) (λv s=>bn (jk (pG d []) v 54 s) λv=>fin J v s)=_;rw[zr Z l h];show bn (jk (pG d []) c 54 _) _=_;rw[Dw (s':=⟨[],⟨[],[],0⟩⟩) p,show jk (pG d []) c 54 ⟨[],⟨[],[],0⟩⟩=O i from o];rfl
 have n3:ev (pG d []) [0,53] U (.cmp (.bU (.sub (.bU (.aR 0) 44) (.int 0)) 54) [.In] (.cons (.aR 53) .nil)) ⟨[(0,.val .par),(53,.val u)],a⟩=O (.bool e,⟨[(0,.val .par),(53,.val u)],a⟩):=by show ax (ev (pG d []) [0,53] J (.bU (.sub (.bU (.aR 0) 44) (.int 0)) 54) ⟨[(0,.val .par),(53,.val u)],a⟩) (λv s=>ax (oc (gy (pG d []) [0,53] s (O (.loc 53))) (λo=>gd U (mp (Ff .In (vO o.2 v)) λb=>(b,s))) (ax (ev (pG d []) [0,53] J (.aR 53) s) λw s=>bn (pe .In v w) λb=>O (b,s))) λb s=>O (V.bool b,s))=_;rw[f];show ax (oc (gy (pG d []) [0,53] ⟨[(0,.val .par),(53,.val u)],a⟩ (O (.loc 53))) _ (ax (ev (pG d []) [0,53] J (.aR 53) ⟨[(0,.val .par),(53,.val u)],a⟩) λw s=>bn (pe .In i w) λb=>O (b,s))) (λb s=>O (V.bool b,s))=_;rw[Pr m j];show ax (bn (pe .In i u) λb=>O (b,(⟨[(0,.val .par),(53,.val u)],a⟩:St))) (λb s=>O (V.bool b,s))=_;rw[g];rfl
 have n:BD (ev (pG d []) [0,53] · (.bU (.aR 0) 44)) (bh (BD (ev (pG d []) [0,53] · (.nt (.aR 53))) aaG nx) (bh (BD (ev (pG d []) [0,53] · (.cmp (.bU (.sub (.bU (.aR 0) 44) (.int 0)) 54) [.In] (.cons (.aR 53) .nil))) (bh (sT J (sS (.bool U))) nx) nx) nx)) nx ⟨[(0,.val .par),(53,.val u)],a⟩=O (br e (.ret (.bool U)) .next,⟨[(0,.val .par),(53,.val u)],a⟩):=by
  rw[zp (c:=(ev (pG d []) [0,53] · (.bU (.aR 0) 44))) (xw Z l h),eB (I4 (c:=(ev (pG d []) [0,53] · (.nt (.aR 53)))) r)]
  induction e with
  |true=>exact mK (zp n3)
  |false=>exact eB (I4 n3)
 show ax (bh (uE (ev (pG d []) [0,53] · uA) (pr (pG d []) [0,53] 300 (sq [.expr (.fw v0 52 .nil [] .nil)])) 300) (bh (BD (ev (pG d []) [0,53] · (.bU (.aR 0) 44)) (bh (BD (ev (pG d []) [0,53] · (.nt (.aR 53))) aaG nx) (bh (BD (ev (pG d []) [0,53] · (.cmp (.bU (.sub (.bU (.aR 0) 44) (.int 0)) 54) [.In] (.cons (.aR 53) .nil))) (bh (sT J (sS (.bool U))) nx) nx) nx)) nx) (bh (sT J (sS (.bool J))) nx)) ⟨[(0,.val .par),(53,.val u)],pg⟩) (λf s=>O (km f,s.pg))=_;rw[eB w]
 induction e with
 |true=>rw[mK n];rfl
 |false=>rw[eB n];rfl
end
section
variable{A:W->N PA}{k d:W}{B:I}{b:aC}{rest:Rs}{pre L:af}{pg:PG}{c:V}{E:af}{T:D}
def qG.frame(h:qG A k B b rest pre pg):(∀a,iW a->aj a pg.par=A a)/\pg.par.length<=900000:=by obtain⟨g,a,a,a,a,a⟩:=h;exact⟨a.R.j,a.R.len⟩
def Vs(a:pg.par.length<=900000)(e:aj aH pg.par=O (.val (.int T))):pr (pG d []) [0] 300 (.J2 v0 46 .Add (.int 1)) ⟨[(0,.val .par)],pg⟩=O (.next,⟨[(0,.val .par)],{pg with par:=put aH (.val (.int (T+1))) pg.par}⟩):=by have e:aj 46 pg.par=O (.val (.int T)):=e;show bn (bn (aj 46 pg.par) pL) (λv=>bn (J5 .Add v (.int 1)) λu=>hO (pG d []).ro ⟨[(0,.val .par)],pg⟩ 46 (.val u))=_;rw[e];show br (pG d []).ro C (gd (bd (ak pg.par) 900000) (O (Fl.next,(⟨[(0,LV.val .par)],⟨put 46 (.val (.int (T+1))) pg.par,pg.aG,br (oc (aj 46 pg.par) Hs J) (pg.bD+1) pg.bD⟩⟩:St))))=_;rw[p9,aB,g8 a,e];rfl
def Vt(e:aj aN pg.par=O (.lst (c::E))):ev (pG d []) [0] J (.fw (.bU (.aR 0) 44) 55 (.cons (.int 0) .nil) [] .nil) ⟨[(0,.val .par)],pg⟩=O (c,⟨[(0,.val .par)],{pg with par:=put aN (.lst E) pg.par}⟩):=by show oc (gy (pG d []) [0] ⟨[(0,.val .par)],pg⟩ (O (.bU 44))) (λf=>gd (vP f.2) (gd (calm ⟨[(0,.val .par)],pg⟩ ⟨[(0,.val .par)],pg⟩) (bn (iQ (pG d []) [0] ⟨[(0,.val .par)],pg⟩ f.1) λc=>ax (cX (pG d []) c 55 [.int 0]) λv a=>bn (hM (pG d []).ro ⟨[(0,.val .par)],pg⟩ f.1 a) λs=>O (v,s)))) _=_;rw[Gw Z Z e];show gd (calm ⟨[(0,.val .par)],pg⟩ ⟨[(0,.val .par)],pg⟩) (bn (iQ (pG d []) [0] ⟨[(0,.val .par)],pg⟩ (.bU 44)) λc=>ax (cX (pG d []) c 55 [.int 0]) λv a=>bn (hM (pG d []).ro ⟨[(0,.val .par)],pg⟩ (.bU 44) a) λs=>O (v,s))=_;rw[zq,xv Z Z e];show ax (cX (pG d []) (.lst (c::E)) 55 [.int 0]) (λv a=>bn (hM (pG d []).ro ⟨[(0,.val .par)],pg⟩ (.bU 44) a) λs=>O (v,s))=_;rw[show cX (pG d []) (.lst (c::E)) 55 [.int 0]=O (c,.lst E) by cases d<;>rfl,p9];show bn (bn (aj 44 pg.par) λq=>gd (BR q) (O (Fb ⟨[(0,.val .par)],pg⟩ 44 (.lst E)))) (λs=>O (c,s))=_;rw[show aj 44 pg.par=O (.lst (c::E))from e];rfl
structure ahK(A:W->N PA)(k d:W)(L:af)(pg:PG)(t:V)(L':af)(c:V)(pg1:PG):Prop where
 L:L=t::L'
 o:dA t=U
 ga:∀g,Ga g t c
 run:(pS (d+1)).av oi [] [] pg=O (c,pg1)
 q:PQ A k L' pg1
 bD:pg1.bD=pg.bD
 lh:∀a,iW a->aj a pg1.par=A a
 no:∀a,fK a=J->aj a pg1.par=C
 len:pg1.par.length<=900000
def Vu(i:9<=d)(h:RQ A k L pg):∃t e c a,ahK A k d L pg t e c a:=by
 refine gq λP n=>?_;obtain⟨B,b,rest,pre,a,j,o,p,a⟩:=h;obtain⟨v,f,r,s,u,g⟩:=AR j a i;obtain⟨t,e,c,E,T,v,w,y,l,m,z⟩:=Dr p Z a g o;refine n ?_;have F:=g.frame;have a:aN≠aH:=by decide
 have n:aj aN (put aH (PA.val (.int (T+1))) f.par)=O (.lst (c::E)):=(bZ a).trans l;have o:∀{a x},fK x->fK a=J->a≠x:=λh i q=>ao (il i (q▸h));have p:∀{a x},iW x=J->iW a->a≠x:=λh i q=>ao (il h (q▸i));refine⟨t,e,c,xr T E f,v,w,y,?_,z,u,λa e=>(lU (p Z e) (p Z e)).trans (F.1 a e),λa e=>(lU (o Z e) (o Z e)).trans (kR g e),ay (cZ ((kJ n).trans (kJ m))) F.2⟩;show ax (bh (uE (ev (pG d []) [0] · uA) aaG 300) (bh (BD (ev (pG d []) [0] · (.bU (.aR 0) 44)) (bh (pr (pG d []) [0] 300 (.J2 v0 46 .Add (.int 1))) (bh (sT J (ev (pG d []) [0] · (.fw (.bU (.aR 0) 44) 55 (.cons (.int 0) .nil) [] .nil))) nx)) nx) nx) ⟨[(0,.val .par)],pg⟩) (λa e=>O (km a,e.pg))=_;have w:uE (ev (pG d []) [0] · uA) aaG 300 ⟨[(0,.val .par)],pg⟩=O (.next,⟨[(0,.val .par)],f⟩):=Pp (vg Z Z (kR j vf) r s);rw[eB w,mK ((zp (c:=(ev (pG d []) [0] · (.bU (.aR 0) 44))) (xw Z Z l)).trans ((eB (Vs F.2 m)).trans (mK (Gv (c:=(ev (pG d []) [0] · (.fw (.bU (.aR 0) 44) 55 (.cons (.int 0) .nil) [] .nil))) (Vt n)))))];rfl
def RQ.pq(h:RQ A k L pg):PQ A k L pg:=by obtain⟨B,b,rest,pre,a,e,f,g,_⟩:=h;exact .inr ⟨B,b,rest,pre,a,e,f,g⟩
def P_(A:W->N PA)(a:W)(x:PA)(c:W):N PA:=if c=a then O x else A c
def qG.put(h:qG A k B b rest pre pg){e:W}(g:iW e)(f:(aj e pg.par).isSome=U)(x:PA)(n:W):qG (P_ A e x) k B b rest pre {pg with par:=put e x pg.par,bD:=n}:=by refine gq λP i=>?_;obtain⟨j,l,m,o,a,a⟩:=h;obtain⟨y,h⟩:=BJ.mp f;refine i ?_;refine⟨j,l,m,o,n,⟨λc f=>?_,a.R.abs,λc f=>?_,(hH _).symm,ay (cZ (kJ h)) a.R.len,a.R.zh⟩,a.hi,a.hn,a.hl,a.hk,a.h0,a.h1,a.hr,a.b1,a.b3,a.b4⟩;rw[show aj c (Ev.put e x pg.par)=aj c pg.par from bZ λq:c=e=>ao (il (f) (q▸g))];exact a.R.tC c f;by_cases q:c=e;rw[q];exact dk.trans (eP Z).symm;exact(bZ q).trans ((a.R.j c f).trans (eH q).symm)
def PQ.put(h:PQ A k L pg){a:W}(e:iW a)(f:(aj a pg.par).isSome=U)(x:PA)(n:W):PQ (P_ A a x) k L {pg with par:=Ev.put a x pg.par,bD:=n}:=h.imp id λh=>by obtain⟨B,b,rest,pre,a,g,r,z⟩:=h;exact⟨B,b,rest,pre,a,g.put e f x n,r,z⟩
def RQ.put(h:RQ A k L pg){a:W}(e:iW a)(f:(aj a pg.par).isSome=U)(x:PA)(n:W):RQ (P_ A a x) k L {pg with par:=Ev.put a x pg.par,bD:=n}:=by obtain⟨B,b,rest,pre,a,g,r,z,y⟩:=h;exact⟨B,b,rest,pre,a,g.put e f x n,r,z,y⟩
def JM(t:af)(pg:PG):=∃A k,k<=250/\((∃L,t=.bool U::L/\RQ A k L pg)∨PQ A k t pg)
def JT(t:af)(pg:PG):=(∀a,iW a->(aj a pg.par).isSome=U)/\JM t pg
def JT.put{t:af}(h:JT t pg){a:W}(e:iW a)(x:PA)(n:W):JT t {pg with par:=Ev.put a x pg.par,bD:=n}:=by obtain⟨f,A,k,g,i⟩:=h;refine⟨λc j=>?_,P_ A a x,k,g,i.imp (λh=>by obtain⟨L,g,r⟩:=h;exact⟨L,g,r.put e (f a e) x n⟩) λh=>h.put e (f a e) x n⟩;by_cases q:c=a;rw[q];exact ah sn dk;exact(ah sn (bZ q)).trans (f c j)
def Sn.nb{z:I}(S:Sn k B z b rest f L):∀X,L≠.bool U::X:=by have e:∀{b f pre g t}{l X:af},O' b f pre g t->t::l≠.bool U::X:=λh q=>ao (il (ah dA (fq q).1) h.2);induction S with|skip _ _ a=>exact a|Ld _ _ a=>exact a|xt _ i _ a=>exact λX q=>i.elim (λh=>a X (h.2▸q)) λh=>ao (ah (λl:af=>oc l.head? (λv=>dP v J (bo:=id)) J) (il h.2 q))|settle _ _ _ a=>exact a|take h _ _=>exact λX=>e h|fin h=>exact λX=>e h
def PQ.nb{X:af}{P:Prop}(h:PQ A k (.bool U::X) pg):P:=h.elim (λq=>ch q (bN _ _)) λh=>by obtain⟨_,_,_,_,_,_,_,S⟩:=h;exact ch Z (S.nb X)
end
def AS(g:Gb)(b:dy g)(a:af)(c:(a.length:D)=g.base 6)(d:a.length<=100000)(e:W):Ab:={g:=g,gw:=b,lh:=atS,dm:=iW,pre:=a,pl:=c,bY:=d,J:=JT,ë:=λ_ _ _ x k _ h j=>j.put h x k,δ:=e}
def I7(x:V):I:=dP x J (bo:=id)
def Pw(x:V):I:=dP x J (no:=U)
def Ó(l:af):N (W×V×af):=lc l C λx r=>br (I7 x) (lc r C λt L=>gd (dA t) (O (0,t,L))) (br (Pw x) (lc r C λt L=>gd (dA t) (O (1,t,L))) (gd (dA x) (O (0,x,r))))
def Yw(t a:V):fP:=Gx (OW oK iW) t a
def S3(p:PG)(r:W×V×af):PG:={p with aG:=.bool U::r.2.1::r.2.2,bD:=p.bD+r.1}
def Ő(a:V)(p:PG):dR:=bn (Ó p.aG) λr=>gd (oc (eQ a) id J) (mp (Yw r.2.1 a) λb=>(.bool b,S3 p r))
def Ą(p:PG):dR:=mp (Ó p.aG) λr=>(r.2.1,S3 p r)
def Ğ(p:PG):dR:=lc p.aG C λx r=>gd (I7 x) (lc r C λt L=>O (t,{p with aG:=L}))
def Px(c:yn):yn:=λm a b p=>br (ac m kY) (one a λd=>lc b (Ő d p) λ_ _=>C) (br (ac m mq) (lc a (lc b (Ą p) λ_ _=>C) λ_ _=>C) (br (ac m oi) (lc a (lc b (Ğ p) λ_ _=>C) λ_ _=>C) (c m a b p)))
def Gy(d:W):cQ:=ul (motive:=λ_=>cQ) (Gj oK iW (Px λ_ _ _ _=>C) λ_ _ _ _=>C) (λ_ G=>Gj oK iW (Px (Dj G)) (Dk oK G)) d
def Dy:I7 x->x=.bool U:=V.casesOn x ao (λb h=>ah V.bool h) aV aV aV aV iw aV aV aV aV aV ao ao aV iw ao λ_=>ao
def Dz:Pw x->x=.none:=V.casesOn x (λ_=>Z) aV aV aV aV aV iw aV aV aV aV aV ao ao aV iw ao λ_=>ao
section
variable{g:Gb}{B:dy g}{pre:af}{pl:(pre.length:D)=g.base 6}{P:pre.length<=100000}{F d n k k':W}{p A w pg:PG}{t c Q H:V}{L E T t0:af}{y:W->N PA}{a:W}
def I8:IU (AS g B pre pl P F) iW fK where
 mh:=λ_ h=>yp xp h λa _ _ _=>a
 LW:=λ_ h=>yp xp h λ_ a _ _=>a
 attr:=λ_ h=>yp rT h λ_ _ a b=>⟨b,a,h⟩
def abk(G:cQ)(h:G.cls=λc=>aj c yf)(e:dA t)(b:Ga g t c)(a:W)(s:St):RO (Ga g) (jk (OW oK iW) t a s) (jk G c a s):=by refine V.casesOn t ao aV aV aV aV aV (λn l _ b=>?_) aV aV aV aV aV ao ao aV iw ao aV e b;obtain⟨m,q,r⟩:=b;rw[q];refine .oc (o4.lk a r) (λ_ _ q=>.so q) ?_;rw[h];exact λv e=>⟨v,e,bL e λb f e=>tp (CZ (bO (oE (f:=λb:XD=>Yl b.params&&u_ b.consts) IV f)).2 e)⟩
def Vv(B:dy g)(e:dA t)(f:Ga g t c)(h:Ga g Q H){b:I}(i:Yw t Q=O b):Gx (pG d []) c H=O b:=by obtain⟨l,j,q⟩:=(RO.bn (abk (pG d []) (by cases d<;>rfl) e f Ŭ ⟨[],⟨[],[],0⟩⟩) λe e q=>IB B q h) b i;exact j.trans (ah O (I! q))
def Py(h:JT t0 pg){r:W×V×af}(e:Ó t0=O r):∃y k E,k<=250/\PQ y k E pg/\dA r.2.1/\P' r.1 (r.2.1::r.2.2) E:=mX e λx l b e=>by obtain⟨_,y,k,f,h⟩:=h;rw[b]at h;refine jg e (λj e=>mX e λt L i e=>bW e λb e=>?_) λj e=>jg e (λm e=>mX e λt L i e=>bW e λb e=>?_) λm e=>bW e λb e=>?_;rw[Dy j,i]at h;rw[<-au e];refine h.elim (λh=>?_) λh=>h.nb;obtain⟨L,q,r⟩:=h;exact⟨y,k,_,f,r.pq,b,.inl ⟨Z,(fq q).2.symm⟩⟩;rw[Dz m,i]at h;rw[<-au e];refine h.elim (λh=>?_) λh=>⟨y,k,_,f,h,b,.inr ⟨Z,Z,b⟩⟩;obtain⟨L,q,_⟩:=h;exact ao ((ah I7 (fq q).1));rw[<-au e];refine h.elim (λh=>?_) λh=>⟨y,k,_,f,h,b,.inl ⟨Z,Z⟩⟩;obtain⟨L,q,_⟩:=h;exact ao (il (ah dA (fq q).1) b)
def rU(h:atS a=J):iW a=U∨fK a=J:=(Bool.eq_false_or_eq_true _).imp id λb=>d8.mpr λq=>(gU.mp (fT q)).elim (λz=>ao (il h (o3 z))) λz=>ao (il b (o3 z))
variable(h:RP (AS g B pre pl P F) p A)
def RP.Yx(e:∀a,atS a=J->aj a w.par=aj a A.par)(j:JM t0 w)(f:w.bD=n+F)(i:w.par.length<=900000):RP (AS g B pre pl P F) {p with aG:=t0,bD:=n} w where
 tC:=λa b=>(e a b).symm▸h.tC a b
 abs:=h.abs
 j:=⟨λa b=>(ah sn (e a (yp rT b λ_ _ z _=>z))).trans (h.j.1 a b),j⟩
 bD:=f
 len:=i
 zh:=h.zh
def agree{f i2:I}{i:aC}{q:Rs}{l:af}(h:qG y e f i j l A)(b:qG y m i2 o q r w)(a:W)(s:atS a=J):aj a w.par=aj a A.par:=(rU s).elim (λz=>(b.frame.1 a z).trans (h.frame.1 a z).symm) λz=>(kR b z).trans (kR h z).symm
def zt(j:dA r.2.1)(f:P' r.1 (r.2.1::r.2.2) E)(o:k<=250)(l:PQ y k E A)(e:I5 y k E A k' T w c):RP (AS g B pre pl P F) (S3 p r) w/\∀g,Ga g r.2.1 c:=by obtain⟨s,R,b,i,i,i,u,v⟩:=e;(have e:T=r.2.1::r.2.2/\w.bD=A.bD+r.1:=by refine f.elim (λm=>?_) λm=>?_;rw[m.2]at b;rw[m.1];exact b.elim (λq=>ao (il (ah dA (fq q.1).1) j)) λq=>⟨q.1.symm,q.2⟩;rw[m.2]at b;rw[m.1];refine b.elim (λq=>⟨(fq q.1).2.symm,q.2⟩) λq=>?_;exact ao ((ah dA (fq (q.1.trans i)).1).trans u));have b:=f.elim (λm=>m.2▸bN _ _) λm=>m.2▸bN _ _;obtain⟨_,_,_,_,_,f,_⟩:=l.resolve_left b;have j:=R;obtain⟨_,_,_,_,_,b,_⟩:=j;refine⟨h.Yx (agree f b) ⟨y,k',ay s o,.inl ⟨_,Z,e.1▸R⟩⟩ (e.2.trans (by rw[h.bD];exact jI _ _ _)) b.frame.2,?_⟩;exact(fq (il i e.1)).1▸v
end
section
variable{g:Gb}{gw:dy g}{pre:af}{pl:(pre.length:D)=g.base 6}{bY:pre.length<=100000}{δ d n:W}{p p' pg T:PG}{a:W}{v:V}{par:aC}{t:af}
def DA{n:W}{t:V}(c:P' n (t::L) b):b≠[]:=c.elim (λm=>m.2▸bN _ _) λm=>m.2▸bN _ _
def Vw(h:oc (eQ b) id J=U):eQ b=O U:=jm h λb b e=>b.trans (ah O e)
def Vx(k:9<=d){b c:V}(f:Ga g b c)(h:RP (AS g gw pre pl bY δ) p p'):RO (UO (AS g gw pre pl bY δ)) (Ő b p) ((pS (d+1)).av kY [c] [] p'):=λz e=>bL e λr l e=>bW e λm e=>iH e λo q e=>by obtain⟨b,b,b,b,c,i,j⟩:=Py h.j l;obtain⟨l,l,r⟩:=jX f _ (Vw m);obtain⟨m,m,T,m,m,R⟩:=Lh k c (DA j) (fQ b (aO Z)) (l.trans (ah O (I! r)));have k:=zt h i j b c m;exact⟨_,R o (Vv gw i (k.2 g) f q),e▸⟨Z,k.1⟩⟩
def abl(i:9<=d)(h:RP (AS g gw pre pl bY δ) p p'):RO (UO (AS g gw pre pl bY δ)) (Ą p) ((pS (d+1)).av mq [] [] p'):=λz e=>iH e λr j e=>by obtain⟨b,k,b,b,c,k,f⟩:=Py h.j j;obtain⟨j,j,T,j,R,l⟩:=Pq i c (DA f) (fQ b (aO Z));have i:=zt h k f b c l;exact⟨(j,T),R,e▸⟨i.2 g,i.1⟩⟩
def abm(c:9<=d)(h:RP (AS g gw pre pl bY δ) p p'):RO (UO (AS g gw pre pl bY δ)) (Ğ p) ((pS (d+1)).av oi [] [] p'):=λz e=>mX e λx r b e=>bW e λf e=>mX e λt L i e=>by refine gq λP k=>?_;obtain⟨_,l,m,o,j⟩:=h.j;rw[b,Dy f,i]at j;have j:=j.elim (λj=>by obtain⟨b,q,r⟩:=j;exact(fq q).2▸r) λj=>j.nb;obtain⟨f,b,b,T,b⟩:=Vu c j;obtain⟨_,_,_,_,_,c,_⟩:=j;refine k ?_;have q:=fq b.L;have R:=h.Yx (λa f=>(rU f).elim (λz=>(b.lh a z).trans (c.frame.1 a z).symm) λz=>(b.no a z).trans (kR c z).symm) ⟨l,m,o,.inr (q.2▸b.q)⟩ (b.bD.trans h.bD) b.len;exact⟨_,b.run,au e▸⟨q.1▸b.ga g,R⟩⟩
def zu(k:9<=d){b:yn}(h:Gk (AS g gw pre pl bY δ) b (pS (d+1)).av):Gk (AS g gw pre pl bY δ) (Px b) (pS (d+1)).av:=λo r m s i p p' b c j z e=>by refine jg e (λf e=>?_) λ_ e=>jg e (λf e=>?_) λ_ e=>jg e (λf e=>?_) λ_ e=>h o r m s i p p' b c j z e;refine yj e λh o e=>lb e λh e=>?_;rw[o]at b;rw[h]at c;obtain⟨o,l,q,r,o⟩:=b.un;rw[q,show l=[]from o,show i=[]from c,aK f];exact Vx k r j z e;refine lb e λo e=>lb e λh e=>?_;rw[o]at b;rw[h]at c;rw[show m=[]from b,show i=[]from c,aK f];exact abl k j z e;refine lb e λo e=>lb e λh e=>?_;rw[o]at b;rw[h]at c;rw[show m=[]from b,show i=[]from c,aK f];exact abm k j z e
def DB(k:W):∀d,k+10<=d->iz (AS g gw pre pl bY δ) (Gy k) (pS d):=by induction k with|zero=>(intro d h;induction d with|zero=>exact ch h (aO Z)|succ d _=>exact oF I8 (zu (vC (show 10<=d+1 from(hH 10).symm▸h)) tJ) tJ)|succ k c=>intro d h;induction d with|zero=>exact ch h (zS _)|succ d _=> have h:=vC ((jI k 1 10).symm▸h);have b:=c d h;exact oF I8 (zu (ay (ay (aO Z) (nN _ _)) h) (zm b)) (zo AP b)
def EQ(par:aC)(t:af)(pg:PG):=∃g,∃gw,∃pre,∃pl,∃bY,∃δ,RP (AS g gw pre pl bY δ) ⟨par,t,0⟩ pg
def xx(p:PG):N (N V×PG):=ax ((Gy 9).av bP [] [] p) λe b=>br (Pw e) (O (C,b)) (gd (dA e) (ax ((Gy 9).func gh [e] [] b) λt c=>bn (jk (Gy 9) e 7 ⟨[],b⟩) λm1=>ax ((Gy 9).func fy [m1] [] c) λc f=>bn (jk (Gy 9) e 8 ⟨[],b⟩) λm2=>ax ((Gy 9).func fy [m2] [] f) λe f=>gd (ac b.bD f.bD) (gd (dat 30 (.tup [t,.lst [c,e]])) (O (O (.tup [t,.lst [c,e]]),f)))))
def RP.afv(h:RP (AS g gw pre pl bY δ) p pg):EQ p.par p.aG pg:=⟨g,gw,pre,pl,bY,p.bD+δ,h.tC,h.abs,h.j,h.bD.trans (hH _).symm,h.len,h.zh⟩
def RP.no(h:RP (AS g gw pre pl bY δ) p pg)(b:atS a=J)(c:iW a=J):aj a pg.par=C:=(h.tC a b).elim (λz=>z.2) λz=>by obtain⟨x,_,z,_⟩:=z;exact ao (il c (il (h.zh a) (ah sn z)))
structure Pz(d:W)(pg:PG)(v:V)(p':PG)(e:V)(T pg4:PG):Prop where
 ob:dA e=U
 gt:(pS d).av bP [] [] pg=O (e,T)
 td:∃t pg2 m1 u1,∃pg3 m2 u2,(pS d).func gh [e] [] T=O (t,pg2)/\jk (pS d) e 7 ⟨[],T⟩=O m1/\(pS d).func fy [m1] [] pg2=O (u1,pg3)/\jk (pS d) e 8 ⟨[],T⟩=O m2/\(pS d).func fy [m2] [] pg3=O (u2,pg4)/\v=.tup [t,.lst [u1,u2]]
 bD:pg4.bD=T.bD
 q:EQ p'.par p'.aG pg4
def E!{A:Ab}{v:V}(h:Ga A.g v w):cu A.g [v] [w]:=.mk h (Z)
def Vy(c:19<=d)(h:EQ par t pg)(e:xx ⟨par,t,0⟩=O (O v,p')):∃e T f,Pz d pg v p' e T f:=by obtain⟨g,gw,pre,pl,bY,δ,k⟩:=h;have b:iz (AS g gw pre pl bY δ) _ _:=DB 9 d c;refine aQ e λh l m e=>jg e (λ_ e=>iu e λq _=>aa q) λ_ e=>bW e λo e=>aQ e λt c r e=>bL e λm1 s e=>aQ e λi c u e=>bL e λm2 w e=>aQ e λj c x e=>bW e λy e=>bW e λz e=>iu e λA B=>?_;obtain⟨⟨E,T⟩,F,c,e⟩:=b.av _ [] [] [] [] _ _ Z Z k _ m;have k:RS _ ⟨[],l⟩ ⟨[],T⟩:=⟨λ_=>.no,e⟩;obtain⟨⟨l,m⟩,G,H,K⟩:=b.func _ _ _ [] [] _ _ (E! c) Z e _ r;obtain⟨r,c1,L⟩:=xh b k 7 c _ s;obtain⟨⟨s,M⟩,P,Q,R⟩:=b.func _ _ _ [] [] _ _ (E! L) Z K _ u;obtain⟨u,h,K⟩:=xh b k 8 c _ w;obtain⟨⟨k,f⟩,f1,w,f3⟩:=b.func _ _ _ [] [] _ _ (E! K) Z R _ x;have b:Ga g (.tup [t,.lst [i,j]]) _:=⟨_,Z,cu.mk H (E! (v:=.lst [i,j]) ⟨_,Z,cu.mk Q (E! w)⟩)⟩;exact⟨E,T,f,Dx c o,F,⟨l,m,r,s,M,u,k,G,c1,P,h,f1,il (au A) (tq 30 z b).symm⟩,f3.bD.trans ((ah (·+δ) (aK y).symm).trans e.bD.symm),B▸f3.afv⟩
def Vz(b:19<=d)(h:EQ par t pg)(e:xx ⟨par,t,0⟩=O (C,p')):∃T,(pS d).av bP [] [] pg=O (.none,T):=by obtain⟨g,gw,pre,pl,bY,δ,c⟩:=h;have f:iz (AS g gw pre pl bY δ) _ _:=DB 9 d b;refine aQ e λb b h e=>jg e (λi _=>?_) λ_ e=>bW e λ_ e=>aQ e λq b _ e=>bL e λ_ _ e=>aQ e λ_ _ _ e=>bL e λ_ _ e=>aQ e λu b _ e=>bW e λ_ e=>bW e λ_ e=>iu e λq _=>aa q.symm;obtain⟨⟨b,T⟩,e,b,j⟩:=f.av _ [] [] [] [] _ _ Z Z c _ h;rw[Dz i]at b;exact⟨T,(b)▸e⟩
end
def Pa(c:af):aC->af->Prop:=bm (motive:=λ_=>aC->af->Prop) (λb t=>∃a,xx ⟨b,t,0⟩=O (C,a)) (λv _ d b t=>∃a,xx ⟨b,t,0⟩=O (O v,a)/\d a.par a.aG) c
def Li:X:=.fw (.aR 235) bP .nil [] .nil
def DC:X:=.cmp (.aR 171) [.IsNot] (xq [.pd])
def VA(a:W):X:=.bF fy (xq [.bU (.aR 171) a]) [] .nil
def VB:X:=.tup (xq [.bF gh (xq [.aR 171]) [] .nil,.yO (xq [VA 7,VA 8])])
def DD:S:=sq [.expr (.fw (.aR 238) jb (xq [VB]) [] .nil),.set [171] Li]
def qa:ae:=[236,235,238,171]
abbrev pR(d:W):cQ:=pG d [237,241,260]
def fG(a:V)(b:af)(e:V):cz:=[(236,.val a),(235,.val .par),(238,.own b),(171,.val e)]
section
variable{G:cQ}{lv:ae}{d n H f:W}{s s1:St}{v w c:V}{pg y A E F:PG}{tx:V}{vs B t:af}{par:aC}{b:I}{x:X}
def PB{z:I}(a:aq lv f=J)(e:G.gl f=O (.fn f))(h:G.ro=J)(g:ev G lv J x s=O (v,s1))(i:G.func f [v] [] s1.pg=O (w,A)):ev G lv z (.bF f (xq [x]) [] .nil) s=fin z w ⟨s1.loc,A⟩:=by(have j:uI G lv f []=J:=by unfold uI;rw[a,e];rfl);show oc _ _ (ax (br _ _ _) λk s=>ax (ax (ev G lv J x s) λv s=>ax (yc s) λvs s=>O (v::vs,s)) λvs s=>ax _ λv s=>fin z v s)=_;rw[j,a,e];show ax _ (λvs s=>ax (br G.ro C (back s (G.func f vs [] s.pg))) λv s=>fin z v s)=_;rw[g];show ax _ (λv s=>fin z v s)=_;rw[h,i];rfl
def Lj{G:cQ}(h:e J s=O (v,s1))(a:pe .IsNot v .none=O b):Mq e (BY G lv U C (sS .none) λ_ _ _=>C) [.IsNot] U s=O (.bool b,s1):=by show ax _ (λv s=>ax (bn _ λb=>O _) λb s=>O _)=_;rw[h];show ax _ (λb s=>O (V.bool b,s))=_;rw[a];rfl
def PC:dA v->pe .IsNot v .none=O U:=V.casesOn v ao aV aV aV aV aV (λ_ _ _=>Z) aV aV aV aV aV ao ao aV iw ao λ_=>ao
def EQ.none(h:EQ par t pg){a:W}(e:atS a=J)(g:iW a=J):aj a pg.par=C:=by obtain⟨a,a,a,a,a,a,a⟩:=h;exact a.no e g
def PD:(pR d).du bP=U:=by cases d<;>rfl
def VC:(pR d).gl gh=O (.fn gh):=by cases d<;>rfl
def VD:(pR d).gl fy=O (.fn fy):=by cases d<;>rfl
variable{e z:V}
def I9(a:pe .IsNot e .none=O b):ev (pR d) qa U DC ⟨fG tx vs e,pg⟩=O (.bool b,⟨fG tx vs e,pg⟩):=Lj (G:=pR d) (lv:=qa) (s:=⟨fG tx vs e,pg⟩) (e:=(ev (pR d) qa · (.aR 171))) (Z) a
def abn(a:aj bP pg.par=C)(h:(pS d).av bP [] [] pg=O (v,y)):ev (pR d) qa J Li ⟨fG tx vs e,pg⟩=O (v,⟨fG tx vs e,y⟩):=by unfold Li;rw[Du Z Z PD p9 a,show(pR d).av bP [] [] pg=O _ from h];rfl
def Ja(h:dA e)(i:jk (pS d) e a ⟨[],pg⟩=O m)(g:(pS d).func fy [m] [] y=O (u,A)):ev (pR d) qa J (VA a) ⟨fG tx vs e,y⟩=O (u,⟨fG tx vs e,A⟩):=by refine PB (s1:=⟨fG tx vs e,y⟩) Z VD p9 ?_ g;show bn _ (λv=>fin J v ⟨fG tx vs e,y⟩)=_;rw[show jk (pR d) e a ⟨fG tx vs e,y⟩=jk (pS d) e a ⟨fG tx vs e,y⟩from Z,Dw h,i];rfl
def abo(Q:Pz d pg v F e y A):ev (pR d) qa J VB ⟨fG tx vs e,y⟩=O (v,⟨fG tx vs e,A⟩):=by obtain⟨t,a,m1,g,h,m2,h,i,j,k,l,m,o⟩:=Q.td;rw[o];have o:ev _ qa J (.bF gh (xq [.aR 171]) [] .nil) ⟨fG tx vs e,y⟩=O _:=PB (s1:=⟨fG tx vs e,y⟩) Z VC p9 Z i;(have i:ev (pR d) qa J (.yO (xq [VA 7,VA 8])) ⟨fG tx vs e,a⟩=O (.lst [g,h],⟨fG tx vs e,A⟩):=by show ax (ax (ev _ qa J (VA 7) ⟨fG tx vs e,a⟩) λv s=>ax (ax (ev _ qa J (VA 8) s) λv s=>ax (yc s) λvs s=>O (v::vs,s)) λvs s=>O (v::vs,s)) (λvs s=>fin J (.lst vs) s)=_;rw[Ja Q.ob j k];show ax (ax _ λvs s=>O (g::vs,s)) (λvs s=>fin J _ s)=_;rw[Ja Q.ob l m];rfl);show ax (ax (ev _ qa J (.bF gh _ [] .nil) ⟨fG tx vs e,y⟩) λv s=>ax (ax (ev _ qa J (.yO (xq [VA 7,VA 8])) s) λv s=>ax (yc s) λvs s=>O (v::vs,s)) λvs s=>O (v::vs,s)) (λvs s=>fin J (.tup vs) s)=_;rw[o];show ax (ax _ λvs s=>O (t::vs,s)) (λvs s=>fin J _ s)=_;rw[i];rfl
def VE(a:vs.length<=900000)(Q:Pz d pg v F e y A)(h:aj bP A.par=C)(i:(pS d).av bP [] [] A=O (z,E)):pr (pR d) qa H DD ⟨fG tx vs e,y⟩=O (.next,⟨fG tx (vs++[v]) z,E⟩):=by
 have j:calm ⟨fG tx vs e,y⟩ ⟨fG tx vs e,A⟩:=by show ac y.bD A.bD=U;rw[Q.bD];exact cf _
 have k:cX (pR d) (.lst vs) jb [v]=O (.none,.lst (vs++[v])):=by
  have:cX (pR d) (.lst vs) jb [v]=gd (bd (ak vs) 900000) (O (.none,.lst (vs++[v]))):=by cases d<;>rfl
  rw[this,aB,g8 a];rfl
 have l:ev (pR d) qa J (.fw (.aR 238) jb (xq [VB]) [] .nil) ⟨fG tx vs e,y⟩=O (.none,⟨fG tx (vs++[v]) e,A⟩):=by show ax (ax (ev _ qa J VB ⟨fG tx vs e,y⟩) λv s=>ax (yc s) λvs s=>O (v::vs,s)) (λg a=>gd (calm ⟨fG tx vs e,y⟩ a) (bn (iQ _ qa a _) λc=>ax (cX _ c jb g) λv g=>bn (hM (pR d).ro a _ g) λs=>O (v,s)))=_;rw[abo Q];show gd _ (ax _ λv g=>bn (hM (pR d).ro ⟨fG tx vs e,A⟩ _ g) λs=>O (v,s))=_;rw[j,k,p9];rfl
 refine(eB (s1:=⟨fG tx (vs++[v]) e,A⟩) ?_).trans ?_
 ·show ax (ev _ qa J _ ⟨fG tx vs e,y⟩) (λ_ s=>nx s)=_
  rw[l];rfl
 ·refine eB ?_
  show ax (ev _ qa J Li ⟨fG tx _ e,A⟩) (λv s=>nx (oV v [171] s))=_;rw[abn h i];rfl
def VF(m:19<=d)(B:af):∀{par:aC}{t:af}{pg:PG},Pa B par t->EQ par t pg->∃e y,(pS d).av bP [] [] pg=O (e,y)/\∀(vs:af)n,B.length<n->vs.length+B.length<=1000->∃g,uE (ev (pR d) qa · DC) (pr (pR d) qa H DD) n ⟨fG tx vs e,y⟩=O (.next,⟨fG tx (vs++B) .none,g⟩):=by
 induction B with
 |nil=>
  intro par t pg h i;obtain⟨F,e⟩:=h;obtain⟨y,j⟩:=Vz m i e;refine⟨_,y,j,λvs n a k=>?_⟩
  induction n with
  |zero=>exact ch a (BK _)
  |succ n _=>rw[eq];exact⟨y,Pp (I9 Z)⟩
 |cons v B l=>
  intro par t pg h i;obtain⟨F,e,h⟩:=h;obtain⟨e,y,A,Q⟩:=Vy m i e;obtain⟨z,E,j,l⟩:=l h Q.q;refine⟨e,y,Q.gt,λvs n a k=>?_⟩
  induction n with
  |zero=>exact ch a (BK _)
  |succ n _=> have h:=jI vs.length B.length 1▸k;obtain⟨g,r⟩:=l (vs++[v]) n (IR a) (by rw[aX];exact h);refine⟨g,(Po (I9 (PC Q.ob)) (VE (ay (ay (fY _ _) k) (aO Z)) Q (Q.q.none Z Z) j)).trans (r.trans ?_)⟩;rw[am];rfl
end
def alpha:ae:=[10,13,32,33,34,35,38,39,42,45,46,58,62,91,92,93,97,98,99,100,101,102,103,104,105,106,107,108,109,110,114,116,120,122,124,133]
def gE(t:ae):I:=aI (aq alpha) t
def abp(G:cQ)(a:PG):alpha.map (λc=>run G 300 jP [.str [c]] [] a)=alpha.map λ_=>O (.bool U,a):=by kernel_rfl
section
variable{d c:W}{s:St}{v:V}{pg:PG}{t x:ae}{f:W->W->gz}{l:ae}
def abq(h:aq alpha c):(pS (d+1)).func 37 [.str [c]] [] pg=O (.bool U,pg):=(Ix.mp (abp _ pg) c (fT h))
def PF(h:∀i c s,c∈l->∃a,f i c s=O (.next,a)/\a.pg=s.pg):∀i s,∃a,vV f l i s=O (.next,a)/\a.pg=s.pg:=by
 induction l with
 |nil=>exact λi s=>⟨s,Z,Z⟩
 |cons c l b=> intro i s;obtain⟨a,e,g⟩:=h i c s gV;obtain⟨j,k,m⟩:=b (λi c s b=>h i c s (.tail _ b)) _ a;refine⟨j,?_,m.trans g⟩;show ax _ (λa s=>turn a s _)=_;rw[e];exact k
abbrev Sw:ae:=[36,37,271,272,30]
def VG:ae:=[0,35,33,34,270]
def afw:(pG d Sw).gl 37=O (.fn 37):=by cases d<;>kernel_rfl
def PH(h:gE t):(pS (d+2)).av rj [.str t] [] pg=O (.none,pg):=by
 obtain⟨a,b,e⟩:=PF (f:=λi c s=>bh (BD (ev (pG (d+1) Sw) VG · (.nt (.bF 37 (xq [.aR 34]) [] .nil))) aaG nx) nx (aE (aE s 33 (.val (.int i))) 34 (.val (.str [c])))) (λi c s m=>by refine⟨aE (aE s 33 (.val (.int i))) 34 (.val (.str [c])),eB (I4 ?_),Z⟩;have g:ev (pG (d+1) Sw) VG J (.aR 34) (aE (aE s 33 (.val (.int i))) 34 (.val (.str [c])))=O (.str [c],aE (aE s 33 (.val (.int i))) 34 (.val (.str [c]))):=Pu Z dk Z;show ax (ev (pG (d+1) Sw) VG U (.bF 37 (xq [.aR 34]) [] .nil) _) (λv s=>mp (eQ v) λi=>(V.bool !i,s))=_;rw[PB Z afw p9 g (abq (ai h m))];rfl) 0 ⟨[(0,.val .par),(35,.val (.str t))],pg⟩
 have g:q5 (pG (d+1) Sw) VG (uo (.bF 36 (xq [.aR 35]) [] .nil))=O (4,.aR 35):=by kernel_rfl
 show ax (bh (q8 (pG (d+1) Sw) VG 33 34 (q5 (pG (d+1) Sw) VG (uo (.bF 36 (xq [.aR 35]) [] .nil))) (bh (BD (ev (pG (d+1) Sw) VG · (.nt (.bF 37 (xq [.aR 34]) [] .nil))) aaG nx) nx)) nx ⟨[(0,.val .par),(35,.val (.str t))],pg⟩) (λf s=>O (km f,s.pg))=_;have h:q8 (pG (d+1) Sw) VG 33 34 (O (4,.aR 35)) (bh (BD (ev (pG (d+1) Sw) VG · (.nt (.bF 37 (xq [.aR 34]) [] .nil))) aaG nx) nx) ⟨[(0,.val .par),(35,.val (.str t))],pg⟩=O (.next,a):=b;rw[g,eB h];show O (V.none,a.pg)=_;rw[e]
def oO:ae:=[60,117,110,105,99,111,100,101,32,115,116,114,105,110,103,62]
def oP(a b:V):nQ:=[(1,.val a),(21,.val .none),(22,.val (.int 0)),(23,.val (.bool U)),(5,.val b),(6,.val (.int 0)),(24,.val .none),(25,.val .none),(9,.val .none),(2,.val (.int 0)),(3,.val (.int 0)),(4,.val (.int 0))]
abbrev pI:cQ:=pG 20 [27,26]
def jY(t:ae):cz:=[(0,.val .par),(21,.val (.str t))]
abbrev sa(a:W)(x:X):gz:=pr pI [0,21] 300 (.E8 v0 a x)
def VH(t:ae)(k:gz):bh (sa 1 .pd) (bh (sa 21 .pd) (bh (sa 22 (.int 0)) (bh (sa 23 .yN) (bh (sa 5 (.str [])) (bh (sa 6 (.int 0)) (bh (sa 24 .pd) (bh (sa 25 .pd) (bh (sa 9 .pd) (bh (sa 2 (.int 0)) (bh (sa 3 (.int 0)) (bh (sa 4 (.int 0)) k))))))))))) ⟨jY t,⟨[],[],0⟩⟩=k ⟨jY t,⟨oP .none (.str []),[],0⟩⟩:=by kernel_rfl
def abr(t:ae):ev pI [0,21] U (.bF 27 (xq [.aR 21,.aR 26]) [] .nil) ⟨jY t,⟨oP .none (.str []),[],0⟩⟩=O (.bool U,⟨jY t,⟨oP .none (.str []),[],0⟩⟩):=by kernel_rfl
def abt(t:ae):sa 1 (.str oO) ⟨jY t,⟨oP .none (.str []),[],0⟩⟩=O (.next,⟨jY t,⟨oP (.str oO) (.str []),[],0⟩⟩):=by kernel_rfl
def VI(t:ae)(l:ae):hO J ⟨jY t,⟨oP (.str oO) (.str []),[],0⟩⟩ 5 (.val (.str l))=O (.next,⟨jY t,⟨oP (.str oO) (.str l),[],0⟩⟩):=by kernel_rfl
def VJ(h:t.length<=800):ev pI [0,21] J (.bin .Add (.aR 21) (.str [0])) ⟨jY t,pg⟩=O (.str (t++[0]),⟨jY t,pg⟩):=by show bn (gd (bd (ak t+1) 1000000) _) (λu=>O _)=_;rw[aB,g8 (ay (eN h) (aO Z))];rfl
def Lk(a:gE t)(b:t.length<=800):run (pS 20) 300 kW [.par,.str t] [] ⟨[],[],0⟩=O (.none,⟨oP (.str oO) (.str (t++[0])),[],0⟩):=by
 have e:vT (ev pI [0,21] · (.fw (.aR 0) 28 (xq [.aR 21]) [] .nil)) ⟨jY t,⟨oP (.str oO) (.str []),[],0⟩⟩=O (.next,⟨jY t,⟨oP (.str oO) (.str []),[],0⟩⟩):=by show ax (ev pI [0,21] J (.fw (.aR 0) 28 (xq [.aR 21]) [] .nil) _) (λ_ s=>nx s)=_;rw[Du Z Z (by kernel_rfl) Z (by kernel_rfl),show pI.av 28 [.str t] [] ⟨oP (.str oO) (.str []),[],0⟩=O (.none,⟨oP (.str oO) (.str []),[],0⟩)from PH (d:=18) a];rfl
 have s3:sa 5 (.bin .Add (.aR 21) (.str [0])) ⟨jY t,⟨oP (.str oO) (.str []),[],0⟩⟩=O (.next,⟨jY t,⟨oP (.str oO) (.str (t++[0])),[],0⟩⟩):=by show gd (pI.bw 5) (ax (ev pI [0,21] J (.bin .Add (.aR 21) (.str [0])) _) λv s=>hO J s 5 (.val v))=_;rw[VJ b];exact VI t _
 show ax (bh (sa 1 .pd) (bh (sa 21 .pd) (bh (sa 22 (.int 0)) (bh (sa 23 .yN) (bh (sa 5 (.str [])) (bh (sa 6 (.int 0)) (bh (sa 24 .pd) (bh (sa 25 .pd) (bh (sa 9 .pd) (bh (sa 2 (.int 0)) (bh (sa 3 (.int 0)) (bh (sa 4 (.int 0)) (bh (BD (ev pI [0,21] · (.bF 27 (xq [.aR 21,.aR 26]) [] .nil)) (bh (sa 1 (.str oO)) (bh (vT (ev pI [0,21] · (.fw (.aR 0) 28 (xq [.aR 21]) [] .nil))) (bh (sa 5 (.bin .Add (.aR 21) (.str [0]))) nx))) nx) nx)))))))))))) ⟨jY t,⟨[],[],0⟩⟩) (λf s=>O (km f,s.pg))=_;rw[VH,eB ((zp (c:=(ev pI [0,21] · (.bF 27 (xq [.aR 21,.aR 26]) [] .nil))) (abr t)).trans ((eB (abt t)).trans ((eB e).trans (eB s3))))];rfl
variable(b:V)
def Č:V:=.obj MB [(1,.str oO),(2,.int 0),(3,.int 0),(4,.int 0),(5,b),(6,.int 0)]
def VK:V:=.obj qz [(7,Č b),(8,Č b),(9,.none)]
def PI:nQ:=oP (.str oO) b++[(42,.val (.bool J)),(43,.val (.int 0)),(44,.lst [VK b]),(46,.val (.int 0)),(47,.val (.int (-1))),(48,.lst []),(49,.val (.bool U)),(50,.kU [])]
def Gz:nQ:=PI b++[(162,.val .none),(163,.val .none),(164,.kU []),(165,.lst []),(166,.lst []),(167,.val (.av 168))]
end
structure Mk where
 n:D
 m:D
 s:I
 c:D
structure Em where
 k:W
 a:Mk
 b:Mk
abbrev aw:=D×D×D
structure Tk where
 k:W
 a:aw
 b:aw
def V!(i l c:V):V:=.obj MB [(Fm,.Ho),(z6,i),(Fn,l),(v7,c),(eA,.Ho),(lH,.Ho)]
structure Kd where
 c:W
 x:aY
 y:aY
def kS(c:W):Kd:=⟨c,[],[]⟩
def kV(c:W)(s:ae):Kd:=⟨c,[(10,.str s)],[]⟩
def kP(s:ae):Kd:=⟨151,[(10,.str s),(11,.bool U)],[(12,.none)]⟩
def kQ(s:ae)(q:W):Kd:=⟨151,[(10,.str s),(11,.bool J)],[(12,.str [q])]⟩
def Ę:Y Kd:=[⟨95,[],[(9,.none)]⟩,kS 96,kS 97,kS 99,kS 93,kS 111,kS 115,kS 112,kS 113,kS 116,kS 102,kS 106,kV 117 [120],kV 119 [120],kV 119 [122],⟨134,[(10,.tup [.str [33],.str [116]])],[]⟩,kP [107],kP [97],kP [98,32,99],kP [100,32,101],kP [106],kQ [102,32,103] 39,kQ [104,105] 34,kQ [108,10] 124,kQ [109,32,110] 62]
def PJ(k:W):Kd:=bm (motive:=λ_=>W->Kd) (λ_=>kS 96) (λa _ b n=>gc n a b) Ę k
def zi(k:Kd)(a b:V):V:=.obj k.c (k.x++(7,a)::(8,b)::k.y)
def K_(z:I)(x:Mk):V:=V! (br z (.int x.n) (.sym (.off 0 (x.n+1)))) (.sym (.off 1 x.m)) (br x.s (.sym (.off 3 x.c)) (.int x.c))
def Ll(z:I)(e:Em):V:=zi (PJ e.k) (K_ z e.a) (K_ z e.b)
def qc(R:Rs)(x:Mk):aw:=(R.ix+x.n,R.ln+x.m,br x.s (R.cb+x.c) x.c)
def Yy(R:Rs)(e:Em):Tk:=⟨e.k,qc R e.a,qc R e.b⟩
def tL(p:aw):V:=V! (.int p.1) (.int p.2.1) (.int p.2.2)
def aM(t:Tk):V:=zi (PJ t.k) (tL t.a) (tL t.b)
def j8(a n:D):a-1+(n+1)=a+n:=by rw[nO n 1,<-ej,qr]
section
variable{R:Rs}{z:I}
def PK(a:z->R.ix=0)(x:Mk):ins R (K_ z x)=tL (qc R x):=by(have b:ins R (br z (.int x.n) (.sym (.off 0 (x.n+1))))=.int (R.ix+x.n):=by induction z with|true=>show V.int x.n=_;rw[a Z,iO]|false=>exact ah V.int (j8 _ _));(have c:ins R (br x.s (.sym (.off 3 x.c)) (.int x.c))=.int (br x.s (R.cb+x.c) x.c):=by cases x.s<;>rfl);show V! (ins R _) _ (ins R _)=_;rw[b,c];rfl
def tM(k:Kd):=∀(R:Rs)(a b:V),ins R (zi k a b)=zi k (ins R a) (ins R b)
def Lm:∀k,tM (PJ k):=by
 have h:∀l:Y Kd,(∀k∈l,tM k)->∀n,tM (bm (λ_=>kS 96) (λa _ b n=>gc n a b) l n):=by
  intro l
  induction l with
  |nil=>exact λ_ _ _ _ _=>Z
  |cons a l b=>
   intro c n
   induction n with
   |zero=>exact c a gV
   |succ n _=>exact b (λk m=>c k (.tail _ m)) n
 refine h Ę ?_
 have d:∀{a:Kd}{l:Y Kd},tM a->(∀k∈l,tM k)->∀k∈a::l,tM k:=λe f k m=>by
  cases m with
  |head=>exact e
  |tail _ m=>exact f k m
 iterate 25 refine d (λ_ _ _=>Z) ?_
 exact λk m=>nomatch m
def abu(a:z->R.ix=0)(e:Em):ins R (Ll z e)=aM (Yy R e):=by show ins R (zi _ _ _)=_;rw[Lm e.k R,PK a,PK a];rfl
def AU(a:z->R.ix=0)(l:Y Em):Gm R (l.map (Ll z))=l.map λe=>aM (Yy R e):=by show(l.map _).map _=_;rw[jv];exact k? λe _=>abu a e
def Jb(l:Y Tk):aI dA (l.map aM)=U:=by induction l with|nil=>rfl|cons b l a=>exact a
end
def eqB{a:Type}(f:a->a->I)(l:Y a):Y a->I:=bm (motive:=λ_=>Y a->I) tm (λa _ i=>tg (f a) i) l
def ŏ(p q:Sy):I:=qt p J (off:=λk n=>qt q J (off:=λa b=>ac k a&&a? (n=b))) (nn:=qt q J (nn:=U))
def GA(n:W):V->V->I:=ul (motive:=λ_=>V->V->I) (λ_ _=>J) (λ_ a v=>dP v aay (no:=λw=>dP w J (no:=U)) (bo:=λb w=>dP w J (bo:=λc=>b==c)) (i:=λb w=>dP w J (i:=λc=>a? (b=c))) (s:=λs w=>dP w J (s:=cW s)) (tu:=λl w=>dP w J (tu:=eqB a l)) (ob:=λc l w=>dP w J (ob:=λd m=>br (ac c d) (eqB (λp q=>F2 p.1 (a p.2) q) l m) J)) (un:=λw=>dP w J (un:=U)) (sy:=λp w=>dP w J (sy:=ŏ p)) (bu:=λl e w=>dP w J (bu:=λm d=>cW l m&&(e==d)))) n
def eqQ(x y:PA):I:=xZ x (λv=>xZ y (GA 6 v) aay aay aay λ_=>J) (λl=>xZ y aay (eqB (GA 6) l) aay aay λ_=>J) (λl=>xZ y aay aay (eqB (λp q:D×V=>a? (p.1=q.1)&&GA 6 p.2 q.2) l) aay λ_=>J) aay λl=>xZ y aay aay aay aay (eqB (GA 6) l)
def Y_(p q:PG):I:=eqB (λa b:W×PA=>ac a.1 b.1&&eqQ a.2 b.2) p.par q.par&&p.aG.isEmpty&&q.aG.isEmpty&&ac p.bD q.bD
def setB(b a:aC):I:=oc (NM (lD b [] J)) (λr=>oc (eQ r.1) ù J&&Y_ r.2 (lD a [] J)) J
def tP{a:Type}{f:a->a->I}(d:∀{b c},f b c->b=c){l:Y a}:∀{m:Y a},eqB f l m=U->l=m:=by induction l with|nil=>exact λh=>(Yp h).symm|cons b l e=>exact λh=>Gl h λc r a h=>cp h λb c=>by rw[a,d b,e c]
def VL{p q:Sy}:ŏ p q->p=q:=Sy.casesOn p (λk n=>Sy.casesOn q (λa a e=>ag e λa b=>by rw[aK a,aO b]) iw ao aV λ_=>ao) iw (Sy.casesOn q iw iw (λ_=>Z) aV λ_=>ao) aV λ_=>ao
def AV(n:W):∀{v u:V},GA n v u->v=u:=by induction n with|zero=>exact ao|succ n d=>intro v u;exact Vc (M:=λv=>GA _ v u=U->v=u) v (no:=Vc (M:=λu=>GA _ .none u=U->V.none=u) u (no:=λ_=>Z)) (bo:=λb=>Vc (M:=λu=>GA _ _ u=U->V.bool b=u) u (bo:=λc e=>ah V.bool (fZ.mp e))) (i:=λb=>Vc (M:=λu=>GA _ _ u=U->V.int b=u) u (i:=λc e=>ah V.int (aO e))) (s:=λs=>Vc (M:=λu=>GA _ _ u=U->V.str s=u) u (s:=λc e=>ah V.str (oJ e))) (tu:=λl=>Vc (M:=λu=>GA _ _ u=U->V.tup l=u) u (tu:=λm e=>ah V.tup (tP d e))) (ob:=λc l=>Vc (M:=λu=>GA _ _ u=U->V.obj c l=u) u (ob:=λf m e=>cp e λa g=>by rw[aK a,tP (λ{p q}h=>cp h λa b=>?_) g];exact pt (aK a) (d b))) (un:=Vc (M:=λu=>GA _ .Ho u=U->V.Ho=u) u (un:=λ_=>Z)) (sy:=λp=>Vc (M:=λu=>GA _ _ u=U->V.sym p=u) u (sy:=λq e=>ah V.sym (VL e))) (bu:=λl f=>Vc (M:=λu=>GA _ _ u=U->V.buf l f=u) u (bu:=λm c e=>ag e λa b=>by rw[oJ a,fZ.mp b]))
def abv:eqQ x y->x=y:=PA.casesOn x (λv=>PA.casesOn y (λu e=>ah PA.val (AV 6 e)) aV aV aV λ_=>ao) (λv=>PA.casesOn y aV (λu e=>ah PA.lst (tP (AV 6) e)) aV aV λ_=>ao) (λv=>PA.casesOn y aV aV (λu e=>ah PA.kU (tP (λ{p q}e=>ag e λa b=>pt (aO a) (AV 6 b)) e)) aV λ_=>ao) aV (λv=>PA.casesOn y aV aV aV aV (λu e=>ah PA.Hq (tP (AV 6) e)))
def PM{p q:PG}(e:Y_ p q):p=q:=ag e λe c=>ag e λe d=>ag e λa b=>by obtain⟨f,g,h⟩:=p;obtain⟨i,j,k⟩:=q;rw[show f=i from tP (λ{p q}e=>ag e λa b=>pt (aK a) (abv b)) a,show g=[]from cO.mp b,show j=[]from cO.mp d,show h=k from aK c]
def rW(h:setB b a):Lb b a:=jm h λr a h=>ag h λc d=>⟨r.1,by rw[a,<-PM d],jm c λb a e=>a.trans (ah O ((im _).mp e))⟩
structure Sp where
 kd:W
 b:aC
 m:Mv
 em:Y Em
def sb(m:Mv)(h:I)(a:Y Em):I:=(m.old==h)&&br m.new (m.old||!a.isEmpty) (a.isEmpty&&!m.old)
def ip(h:I)(a:af):af:=br h a []
def BF(l:Y Sp):Rs->Y Tk:=bm (motive:=λ_=>Rs->Y Tk) (λ_=>[]) (λs _ a R=>gc s.kd (s.em.map (Yy R)++a (R.mv s.m)) λk=>gc k (s.em.map (Yy R)++a (R.mv s.m)) λ_=>a R) l
def VM(l:Y Sp):I:=aI (λs=>!ac s.kd 3) l
def Ŏ(b:aC)(w:ae)(e:I)(a:aC):I:=oc (NM (lD b w e)) (λr=>br (oc (eQ r.1) id J) (br (ac r.2.bD 0) (oc (G! r.2) (λq=>vK q.1 (K8 q.2.loc&&Y_ q.2.pg (lD a w e)) J λ_=>J) J) J) J) J
def aZ(l:Y Sp):I->I->aC->ae->I->I->I:=bm (motive:=λ_=>I->I->aC->ae->I->I->I) (λ_ _ _ _ _ _=>U) (λs _ c z a b w e h=>gc s.kd (!z&&(s.m.bE==a)&&sb s.m h s.em&&S' b w e s.b s.m (s.em.map (Ll a))&&c U J s.b (w.drop s.m.lC) e s.m.new) λk=>gc k (z&&(s.m.bE==a)&&sb s.m h s.em&&D' b w e s.b s.m (s.em.map (Ll a)) 0&&c J J s.b (w.drop s.m.lC) e s.m.new) λk=>gc k (!z&&setB b s.b&&setB s.b s.b&&c J a s.b w e h) λk=>gc k (!z&&h&&setB b b&&Gu b&&tv b s.b&&c J a s.b w e J) λ_=>!z&&Ŏ b w e s.b&&c U a s.b w e h) l
def F4(R:Rs)(l:Y Em):Y Tk:=l.map (Yy R)
def AW(R:Rs)(a:af)(s:Sp):af:=ll s.m a ((F4 R s.em).map aM)
def DE(l:Y Sp):I->I:=bm (motive:=λ_=>I->I) (λz=>z) (λs _ a z=>a (gc s.kd U λk=>gc k J λk=>gc k J λk=>gc k J λ_=>U)) l
def DF(l:Y Sp):I->I:=bm (motive:=λ_=>I->I) (λz=>z) (λs _ a z=>a (gc s.kd J λk=>gc k J λ_=>z)) l
def DG(l:Y Sp):aC->aC:=bm (motive:=λ_=>aC->aC) (λb=>b) (λs _ a _=>a s.b) l
def yr(l:Y Sp):I->I:=bm (motive:=λ_=>I->I) (λz=>z) (λs _ a z=>a (gc s.kd s.m.new λk=>gc k s.m.new λk=>gc k z λk=>gc k J λ_=>z)) l
def PN(l:Y Sp):Rs->Rs:=bm (motive:=λ_=>Rs->Rs) (λR=>R) (λs _ a R=>a (gc s.kd (R.mv s.m) λk=>gc k (R.mv s.m) λ_=>R)) l
def VN(l:Y Sp):Rs->af->af:=bm (motive:=λ_=>Rs->af->af) (λ_ p=>p) (λs _ a R p=>gc s.kd (a (R.mv s.m) (AW R p s)) λk=>gc k (a (R.mv s.m) (AW R p s)) λk=>gc k (a R p) λk=>gc k (a R [.none]) λ_=>a R p) l
def VO(l:Y Sp):Rs->af->af:=bm (motive:=λ_=>Rs->af->af) (λ_ _=>[]) (λs _ a R p=>gc s.kd (a (R.mv s.m) (AW R p s)) λk=>gc k (a (R.mv s.m) (AW R p s)) λk=>gc k (a R p) λk=>gc k (p++a R [.none]) λ_=>a R p) l
def qH(h:I)(a:af):=br h (a≠[]/\aI dA a=U) (a=[.none])
section
variable{k:W}{G z h e:I}{b b2:aC}{R:Rs}{w:ae}{L pre:af}{m:Mv}
def Sn.drain(a:yq b)(f:Gu b)(d:tv b b2)(S:Sn k G J b2 R [.none] L):∀{pre:af},pre≠[]->aI dA pre=U->Sn k G J b R pre (pre++L):=by intro pre;induction pre with|nil=>exact λh _=>ch Z h|cons t pre g=>refine λ_ i=>cp i λc j=>?_;cases pre with|nil=>exact .take ⟨a,c,.inr ⟨Z,Z,d⟩⟩ S|cons u pre=>exact .take ⟨a,c,.inl ⟨u,pre,Z,Z,f,Z⟩⟩ (g (bN _ _) j)
def Sn.done(a:yq b)(f:Gu b)(d:tv b b2):∀{pre:af},pre≠[]->aI dA pre=U->Sn k G J b R pre pre:=by intro pre;induction pre with|nil=>exact λh _=>ch Z h|cons t pre g=>refine λ_ i=>cp i λc j=>?_;cases pre with|nil=>exact .fin ⟨a,c,.inr ⟨Z,Z,d⟩⟩|cons u pre=>exact .take ⟨a,c,.inl ⟨u,pre,Z,Z,f,Z⟩⟩ (g (bN _ _) j)
def fU{a:Type}{f:a->I}{l m:Y a}(d:aI f l=U)(c:aI f m=U):aI f (l++m)=U:=by induction l with|nil=>exact c|cons i l g=>exact cp d λa c=>(dM a).trans (g c)
def rX{s:Sp}(g:sb s.m h s.em)(f:qH h pre):qH s.m.new (AW R pre s)/\ip s.m.new (AW R pre s)=ip h pre++(F4 R s.em).map aM:=ag g λa c=>by have a:=fZ.mp a;unfold AW ll;cases g:s.m.new with|false=> rw[g]at c;refine ag (c) λi j=>?_;have d:=a▸(im _).mp j;rw[d,cO.mp i];exact⟨Z,Z⟩|true=>rw[g]at c;cases d:s.m.old with|true=> rw[d]at a;rw[<-a]at f;rw[<-a];exact⟨⟨λq=>f.1 (t1.mp q).1,fU f.2 (Jb _)⟩,Z⟩|false=>rw[d]at a c;rw[<-a];refine⟨⟨λq=>?_,Jb _⟩,Z⟩;cases a:s.em with|nil=>rw[a]at c;exact ao c|cons x l=>rw[a]at q;exact ch q (bN _ _)
def GB:∀{w t:ae},dz w t->dz (w.drop n) (t.drop n):=by induction n with|zero=>exact λh=>h|succ n a=>intro w t h;cases w with|nil=>rfl|cons c w=>exact Gl h λb y c h=>cp h λ_ h=>by rw[c];exact a h
def DH(a:bd m.lC (ak w))(h:cC w e R):cC (w.drop m.lC) e (R.mv m):=ag h λa c=>by have d:dz _ (R.mv m).t=U:=GB a;show(dz _ (R.mv m).t&&br e _ U)=U;rw[d];cases e with|false=>rfl|true=>(have q:w.length=R.t.length:=by rw[<-aB w,<-aB R.t];exact aK c);show ac _ (ak (R.t.drop m.lC))=U;rw[aB,aB,ud,ud,q];exact cf _
def Sn.bS(S:Sn k G z b R pre L):Sn (k+1) G z b R pre L:=by induction S with|skip E _ a=>exact .skip E a|Ld E _ a=>exact .Ld E a|xt E m _ a=>exact .xt E m a|take h _ a=>exact .take h a|settle c d _ a=>exact .settle c d a|fin h=>exact .fin h
def abw(H:Ŏ b w e b2)(c:cC w e R):Ô b b2 R:=jm H λr d H=>cp H λf H=>cp H λg H=>jm H λq a H=>by obtain⟨i,s⟩:=q;refine Fl.casesOn i (λa H=>ag H λi j=>⟨w,e,r,s,d,jm f λb d e=>d.trans (ah O e),aK g,a,i,PM j,c⟩) aV iw a H
def PS(l:Y Sp):∀{z G:I}{b:aC}{w:ae}{h:I}{R:Rs}{pre:af},aZ l z G b w e h->cC w e R->(G->R.ix=0)->qH h pre->Sn k (DF l G) (DE l z) (DG l b) (PN l R) (VN l R pre) L->Sn (k+l.length) G z b R pre (VO l R pre++L):=by
 induction l with
 |nil=>exact λ_ _ _ _ S=>S
 |cons u l o=>
  intro z G b w h R pre H f p i S;obtain⟨g,v,m,r⟩:=u;cases g with
  |zero=> refine ag H λH j=>ag H λH a=>ag H λH n=>ag H λc d=>?_;rw[(im _).mp c];have s:=a;refine ag s λt _=>?_;have X:=o j (DH t f) (λq=>ao q) (rX n i).1 S;refine .skip ⟨w,e,a,fZ.mp d,f⟩ ?_;rw[AU p];have q:(r.map λe=>aM _)=(F4 R r).map aM:=(jv (g:=aM)).symm;rw[q];exact X
  |succ g=>cases g with
   |zero=> refine ag H λH j=>ag H λH a=>ag H λH n=>ag H λc d=>?_;rw[c];have s:=a;refine ag s λt _=>?_;have X:=o j (DH t f) (λq=>ao q) (rX n i).1 S;refine .xt ⟨w,e,a,fZ.mp d,f⟩ (.inl ⟨Z,Z⟩) ?_;rw[AU p];have q:(r.map λe=>aM _)=(F4 R r).map aM:=(jv (g:=aM)).symm;rw[q];exact X
   |succ g=>cases g with
    |zero=> refine ag H λH j=>ag H λH a=>ag H λc d=>?_;rw[(im _).mp c];exact Sn.bS (.settle (rW d) (rW a) (o j f p i S))
    |succ g=>cases g with
     |zero=> refine ag H λH r=>ag H λH j=>ag H λH a=>ag H λH n=>ag H λc d=>?_;rw[(im _).mp c];rw[d]at i;have X:=o r f p Z S;have r:=Sn.bS (Sn.drain (rW n) a j X i.1 i.2);exact(am pre _ L).symm▸r
     |succ g=> refine ag H λH n=>ag H λc d=>?_;rw[(im _).mp c];exact Sn.bS (.Ld (abw d f) (o n f p i S))
def zv(l:Y Sp):∀{z G:I}{b:aC}{w:ae}{h:I}{R:Rs}{pre:af},aZ l z G b w e h->qH h pre->qH (yr l h) (VN l R pre)/\VO l R pre++ip (yr l h) (VN l R pre)=ip h pre++(BF l R).map aM:=by
 induction l with
 |nil=>exact λ_ d=>⟨d,(eq _).symm⟩
 |cons s l f=>
  intro z G b w h R pre H d;obtain⟨a,j,m,j⟩:=s;have i:∀{j n:Y Tk}{A B:af},A=ip h pre++j.map aM->B=A++n.map aM->B=ip h pre++(j++n).map aM:=λj n=>by rw[n,j,l9,am]
  cases a with
  |zero=> refine ag H λH c=>ag H λH _=>ag H λ_ g=>?_;have P:=rX (R:=R) g d;have Q:=f (R:=R.mv m) c P.1;exact⟨Q.1,i P.2 Q.2⟩
  |succ a=>cases a with
   |zero=> refine ag H λH c=>ag H λH _=>ag H λ_ g=>?_;have P:=rX (R:=R) g d;have Q:=f (R:=R.mv m) c P.1;exact⟨Q.1,i P.2 Q.2⟩
   |succ a=>cases a with
    |zero=>exact ag H λ_ c=>f c d
    |succ a=>cases a with
     |zero=> refine ag H λH g=>ag H λH _=>ag H λH _=>ag H λH _=>ag H λ_ i=>?_;have Q:=f (R:=R) g Z;rw[i];refine⟨Q.1,?_⟩;show(pre++VO l R [.none])++ip (yr l J) (VN l R [.none])=pre++(BF l R).map aM;rw[am,Q.2];rfl
     |succ a=>exact ag H λ_ c=>f c d
def PT(l:Y Sp):∀{R:Rs}{pre:af},VM l->VO l R pre=[]:=by
 induction l with
 |nil=>exact λ_=>Z
 |cons s l c=>
  intro R pre H;obtain⟨a,g,m,g⟩:=s;refine cp H λf d=>?_;cases a with
  |zero=>exact c d
  |succ a=>cases a with
   |zero=>exact c d
   |succ a=>cases a with
    |zero=>exact c d
    |succ a=>cases a with
     |zero=>exact ao f
     |succ a=>exact c d
def Go(k:W)(z G:I)(b:aC)(h:I)(R:Rs)(L:af):=∀pre,qH h pre->Sn k G z b R pre (ip h pre++L)
def iX(k:W)(z G:I)(b:aC)(h:I)(R:Rs)(L:af):=∀pre,qH h pre->Sn k G z b R pre (MARK::(ip h pre++L))
def Go.link{l:Y Sp}(H:aZ l z G b w e h)(c:cC w e R)(d:G->R.ix=0)(S:Go k (DE l z) (DF l G) (DG l b) (yr l h) (PN l R) L):Go (k+l.length) z G b h R ((BF l R).map aM++L):=λpre a=>by have F:=zv (R:=R) l H a;have X:=PS l H c d a (S _ F.1);rw[<-am,F.2,am]at X;exact X
def iX.link{l:Y Sp}(f:VM l)(H:aZ l z G b w e h)(c:cC w e R)(d:G->R.ix=0)(S:iX k (DE l z) (DF l G) (DG l b) (yr l h) (PN l R) L):iX (k+l.length) z G b h R ((BF l R).map aM++L):=λpre a=>by have F:=zv (R:=R) l H a;have X:=PS l H c d a (S _ F.1);rw[PT l f]at X F;have a:ip _ _=ip h pre++(BF l R).map aM:=F.2;rw[a,am]at X;exact X
def VP(b:aC)(G h:I)(s:Sp)(b2:aC):I:=sb s.m h s.em&&s.m.new&&(s.m.bE==G)&&D' b [0] U s.b s.m (s.em.map (Ll G)) 1&&setB s.b s.b&&Gu s.b&&tv s.b b2
def iX.fin{s:Sp}{b2:aC}(H:VP b G h s b2)(f:cC [0] U R)(g:G->R.ix=0):iX (k+1) U G b h R ((s.em.map (Yy R)).map aM):=λpre i=>by
 refine ag H λH j=>ag H λH n=>ag H λH o=>ag H λH p=>ag H λH r=>ag H λt u=>?_;obtain⟨c,d,m,a⟩:=s;have P:=rX (R:=R) t i;rw[u]at P;refine .xt ⟨[0],U,p,fZ.mp r,f⟩ (.inr ⟨Z,ah _ P.2.symm,?_⟩) ?_
 ·show oc (AW R pre ⟨c,d,m,a⟩).head? dA J=U
  cases f:AW R pre ⟨c,d,m,a⟩with
  |nil=>exact ch f P.1.1
  |cons x l=>have z:=P.1.2;rw[f]at z;exact cp z λc _=>c
 ·rw[AU g]
  have q:(a.map λe=>aM _)=(F4 R a).map aM:=(jv (g:=aM)).symm;rw[q];exact Sn.done (rW o) n j P.1.1 P.1.2
def iX.go(S:iX k z G b J R L):Go k z G b J R (MARK::L):=λpre a=>S pre a
end
def tl0:aC:=[(B8,.val .none),(rg,.val .none),(Fm,.val (.str oO)),(lI,.val (.int 0)),(XN,.val (.bool U)),(rh,.val .none),(v8,.val .none)]
def E3(a:Y D):PA:=.lst (lc a [] λ_ r=>((r++[-1]).reverse.map V.int))
def V'(b c:V)(d:D)(e:PA)(f:eu)(g h:I)(a:Y D):aC:=(z6,.val b)::(v7,.val c)::(Fn,.val (.sym (.off 1 0)))::(rt,.val (.int d))::(aN,e)::(hU,.kU f)::(aH,.val (.sym (.off 2 0)))::(jR,.val (.bool g)):: (Ca,.val (.int (lc a (-1) λc _=>c)))::(MC,.val (.bool h))::(eR,E3 a)::tl0
def s3(n:D):V:=.sym (.off 3 n)
def nB(a:V)(c:PA)(d:eu)(e:I)(b:D)(f:Y D):aC:=V' (.sym (.off 0 1)) a b c d e J f
def top(a:Y D):D:=lc a (-1) λc _=>c
def lq(h:I):PA:=br h (.Hq []) (.lst [])
def W'(n:V)(r:I)(l:D)(c:V)(m:V):V:=.obj 92 [(38,n),(39,.bool r),(2,.sym .nn),(3,.sym (.off 1 l)),(4,c),(40,m)]
def ko(k:N D):eu:=oc k (λd=>[(0,W' (.sym (.off 2 0)) J (-d) .Ho .Ho)]) []
def nD(h:I)(a:Y D):aC:=nB (.int (top a+1)) (lq h) [] U 0 a
def nV(h:I)(a:Y D):aC:=nB (.int (top a+2)) (lq h) [] J 0 a
def nL(h b:I)(k:N D)(a:Y D):aC:=nB (s3 (top a+1)) (lq h) (ko k) b 0 a
def nR(h:I)(k:N D)(a:D)(b:Y D):aC:=nB (.int a) (lq h) (ko k) U 0 b
def sp(n:D):ae:=rep [32] n.toNat
def zw(c:W)(d:D)(a:I)(b:W)(e:I)(dc:D):Mv:=⟨c,J,d,a,br a U (!ac b 0),b,e,dc⟩
structure Lf where
 f:W
 e:W
 p:W
 z:W
def mt:Mv:=zw 0 0 J 0 U 0
def ku{a:Type}(n:W)(l:Y a)(d:a):a:=bm (motive:=λ_=>W->a) (λ_=>d) (λa _ b n=>gc n a b) l n
def DI(c:D)(l:Lf):ae:=sp (c+l.p)
def dv(c:D)(l:Lf):ae:=ku l.f [[97],[98,32,99],[100,10]++DI c l++[101],[39,102,10,103,39],[34,104,92,10,32,105,34],[42,120],[38,120,32,33,116,32,106],[91,107,93],[124,10]++DI c l++[108,10]++rep [10] l.z,[62,45,10]++DI c l++[109,10]++DI c l++[110,10],[106],[107]] []
def GC(e:W):ae:=ku e [[10],[13,10],[32,35,32,114,10],[133],[2097153],[]] []
def pE(l:Lf):I:=br (ac l.f 8) U (ac l.f 9)
def VQ{M:W->Prop}(a:M 0)(b:M 1)(c:M 2)(d:M 3)(e:M 4)(f:M 5)(g:M 6)(h:M 7)(i:M 8)(j:M 9)(k:∀n,M (n+10)):∀n,M n
 |0=>a|1=>b|2=>c|3=>d|4=>e|5=>f|6=>g|7=>h|8=>i|9=>j|n+10=>k n
def AX(l:Lf):I:=br (bd l.f 2) U (bd 10 l.f)
def jD(l:Lf):ae:=br (pE l) [] (GC l.e)
def lV(l:Lf):I:=br (pE l) U (br (AX l) (!(br (ac l.e 2) U (ac l.e 5))) J)
def half(l:Lf):W:=br (AX l) (br (ac l.e 2) 1 0) 0
def AY(l:ae):D:=(ak l:W)
def rows(l:Lf):D:=ku l.f [0,0,1,1,1,0,0,0,(2+l.z:W),3] 0
def zk(l:Lf):W:=ku l.f [17,18,19,21,22,12,0,0,23,24,20,16] 0
def on(a:Y D)(n:D):Mk:=⟨n,0,U,top a+1+n⟩
def lfZ(a:Y D)(l:Lf):Mk:=ku l.f [on a 1,on a 3,⟨AY (dv (top a) l),1,J,top a+l.p+1⟩,⟨5,1,J,2⟩,⟨7,1,J,3⟩,on a 2] (on a 1)
def nK(h:I)(k:N D)(a:Y D):aC:=nB (s3 0) (lq h) (ko k) J 0 a
def Ez(b:Y D)(k:I)(l:Lf)(c:D)(a:D):aC:=br (lV l) (nR U (br (pE l) C (br k (O a) C)) c b) (nK U (br k (O a) C) b)
def iq(b:ae)(l:Lf)(a:D):W:=ak b+br (lV l) (ak (jD l)+a.toNat) (half l)
def qe(l:Lf):D:=br (lV l) (br (pE l) (rows l) (rows l+1)) (rows l)
def LX(l:Lf)(z:Mk):I×D:=br (lV l) (U,0) (!z.s,z.c+half l)
def blZ(a:Y D)(l:Lf):Mk:=⟨AY (dv (top a) l),rows l,J,0⟩
def dB(a:Y D)(l:Lf):Mk:=br (pE l) (blZ a l) (lfZ a l)
def AZ(h k:I)(a:Y D)(l:Lf)(b:D):Sp:=⟨1,Ez a k l b (qe l),zw (iq (dv (top a) l) l b) (qe l) h 1 (LX l (dB a l)).1 (LX l (dB a l)).2,[⟨zk l,on a 0,dB a l⟩]⟩
def Yz(h:I)(a:Y D)(b:aC)(n k:W):Sp:=⟨1,b,zw n 0 h 1 J n,[⟨k,on a 0,on a n⟩]⟩
def dr(b:aC):Sp:=⟨3,b,mt,[]⟩
def se(b:aC):Sp:=⟨2,b,mt,[]⟩
def EB(b:aC):Sp:=⟨4,b,mt,[]⟩
def J'(h:I)(b:aC):Sp:=⟨0,b,zw 1 0 h 0 J 1,[]⟩
def k0(a:I):N D:=br a (O 0) C
def Z'(a:Y D)(b:I):Y Sp:=br b [Yz J a (nL U J (O 0) a) 2 13,J' U (nL U J (O 0) a),Yz U a (nL U J (O 0) a) 2 15,J' U (nL U J (O 0) a)] [Yz J a (nL U J C a) 2 13,dr (nL J J C a),J' J (nL J J C a),Yz J a (nL U J C a) 2 15,dr (nL J J C a),J' J (nL J J C a)]
def nF(h:I)(b:eu)(c:I)(a:Y D):aC:=nB (s3 (top a+1)) (lq h) b c 1 a
def kz(j:D)(n:V):D×V:=(j,W' n J 0 .Ho .Ho)
def Z_(a:Y D)(b:I):Y Sp:=let c:eu:=br b [kz 0 (.sym (.off 2 0)),kz 1 (.sym (.off 5 (-1)))] [kz 1 (.sym (.off 2 0))];Yz J a (nF U (br b [kz 0 (.sym (.off 2 0))] []) U a) 1 10::(br b [] [dr (nF J [] U a)]++[EB (nF b (br b [kz 0 (.sym (.off 2 0))] []) U a),Yz b a (nF U c J a) 1 16,EB (nF U c J a),⟨1,nK U (k0 b) a,zw 1 0 U 1 J (top a+2),[⟨11,on a 0,on a 1⟩]⟩])
def cJ(c:D)(a:Y D):W:=bm (motive:=λ_=>W) 0 (λb _ d=>br (a? (c<b)) (d+1) 0) a
def mM(c:D)(a:Y D):Y D:=a.drop (cJ c a)
def Ln{a:Type}(n:W)(b:a):Y a:=ul [] (λ_ r=>b::r) n
def iA(l:ae):D:=(bm (motive:=λ_=>W) 0 (λc _ a=>br (ac c 10) (a+1) (br (ac c 133) (a+1) (br (ac c 2097153) (a+1) a))) l:W)
def here(n m c:D):Mk:=⟨n,m,J,c⟩
def at2(k:W)(n m c:D):Em:=⟨k,here n m c,here n m c⟩
def nz(n:W):I:=!ac n 0
def gap(h:I)(g:ae)(c:D)(a:Y D):Sp:=⟨0,nR (br h U (nz (cJ c a))) C c (mM c a),zw (ak g) (iA g) h (cJ c a) U 0,Ln (cJ c a) (at2 4 (AY g) (iA g) c)⟩
def A3(k:N D)(g:ae)(c:D)(a:Y D):Y Sp:=oc k (λd=>br (a? (d=0)) [gap U g c a] [se (nK U C a),dr (nK J C a),gap J g c a]) [dr (nK J C a),gap J g c a]
def PU(k:N D)(g:ae)(b c:D)(a:Y D):Y Sp:=oc k (λ_=>[se (nR U C b a)]) []++dr (nR J C b a)::br (br g.isEmpty (!nz (cJ c a)) J) [EB (nR J C b a)] [gap J g c a]
def K2(z:I)(m:Mv):Mv:=⟨m.lC,z,m.dl,m.old,m.new,m.c0,m.ci,m.dc⟩
def J_(z h:I)(c:D)(a:Y D):Y Sp:=br (a? (top a<c)) [⟨1,nD U (c::a),K2 z (zw 1 0 h 2 U 0),[at2 5 0 0 c,⟨7,here 0 0 c,here 1 0 (c+1)⟩]⟩,dr (nD J (c::a))] [⟨1,nD U a,K2 z (zw 1 0 h 1 U 0),[⟨7,here 0 0 c,here 1 0 (c+1)⟩]⟩,dr (nD J a)]
def nY(h:I)(c:D)(a:Y D):aC:=nB (.int (c+1)) (br h PA.Hq PA.lst [Ll J ⟨16,here (-1) 0 c,here 0 0 (c+1)⟩]) [(0,W' (br h (.sym (.off 5 0)) (.sym (.off 2 0))) (a? (top a=c)) 0 (.int c) (K_ J (here (-1) 0 c)))] J 0 a
def S_(z h:I)(c:D)(a:Y D):Y Sp:=⟨1,nY h c a,K2 z (zw 1 0 h 0 U 0),[]⟩::(br h [dr (nY J c a)] []++[EB (nY J c a)]++br (a? (top a<c)) [⟨1,nV U (c::a),zw 1 0 J 4 U 0,[at2 6 (-1) 0 c,at2 8 (-1) 0 c,⟨16,here (-1) 0 c,here 0 0 (c+1)⟩,⟨9,here 0 0 (c+1),here 1 0 (c+2)⟩]⟩,dr (nV J (c::a))] [⟨1,nV U a,zw 1 0 J 3 U 0,[at2 8 (-1) 0 c,⟨16,here (-1) 0 c,here 0 0 (c+1)⟩,⟨9,here 0 0 (c+1),here 1 0 (c+2)⟩]⟩,dr (nV J a)])
def nI(h:I):aC:=V' (.int 0) (.int 0) 0 (lq h) [] U J []
def nS(h:I):aC:=nB (.int 3) (lq h) [] J 0 []
def jZ:W->ae:=λn=>ku n [[],[45,45,45,10],[35,32,114,10],[45,45,45,32,35,32,114,10]] []
def Lo(a:W)(b:D)(c:I)(d:W)(dc:D):Mv:=⟨a,U,b,J,c,d,U,dc⟩
def F!(a:W)(c:D):Y Sp:=dr (nI J)::br (aq [1,3] a) [EB (nI J),⟨1,nS U,Lo 3 0 U 1 0,[⟨2,here 0 0 0,here 3 0 3⟩]⟩,dr (nS J),gap J ((jZ a).drop 3++sp c) c []] (br (br (ac a 0) (a? (c=0)) J) [EB (nI J)] [⟨0,nR J C c [],Lo (ak (jZ a++sp c)) (iA (jZ a)) J 0 0,[]⟩])
def Ò(a:W)(c:D):I:=br (ac a 0) (a? (c=0)) J
def E5(x:D)(b:I)(g:ae)(a:Y D):Sp:=let c:=br (ac (ak g) 1) (x+1) (AY g-1);⟨0,nL J b C a,zw (ak g) (iA g) J 0 U (c-(top a+1)),[]⟩
def jE:Y (Y D):=[[0],[1],[2],[3],[4],[1,0],[2,0],[2,1],[3,1],[3,2],[4,2]]
abbrev Ctx:=D×ae×I
def z_(c:D):Y Ctx:=br (a? (c=0)) [(0,[2097154,2097155,anyS,anyS],J),(0,[45,10,0],U)] [(c,[2097154,anyS,anyS],J)]
def z!(a:Y D):Y Ctx:=(0,[46,46,46,10,0],U)::(0,[35,32,114,10,0],U)::(0,[0],U)::br (a? (a.length=1)) (br (a? (1<top a)) [(1,[0],U)] []++br (a? (2<top a)) [(2,[0],U)] []) []
def cx(a:Y D):Y Ctx:=(a.map z_).flatten++z! a
def PV:Y Lf:=[⟨0,4,1,0⟩,⟨0,1,1,0⟩,⟨1,4,1,0⟩,⟨1,1,1,0⟩,⟨2,4,1,0⟩,⟨2,1,1,0⟩,⟨2,4,2,0⟩,⟨2,1,2,0⟩,⟨8,0,1,0⟩,⟨8,0,2,0⟩,⟨8,0,1,1⟩,⟨8,0,2,1⟩,⟨9,0,1,0⟩,⟨9,0,2,0⟩]
def Wl:Y Lf:=[⟨10,4,1,0⟩,⟨10,1,1,0⟩]
def Ñ(h b:I)(a:Y D):aC:=br h (nL U J (O 0) a) (nL J b C a)
def N0(h a:I)(b:Y D)(l:Lf)(c:D)(w:ae)(e:I):I:=aZ [AZ h (br h U a) b l c] U J (Ñ h a b) w e h
def W2:ae:=[32,35,anyS]
def ē:ae:=[anyS,anyS]
def DJ:Y Lf:=[⟨0,2,1,0⟩,⟨1,2,1,0⟩,⟨2,2,1,0⟩,⟨2,2,2,0⟩]
def ď:Y (I×Lf×ae):=(J,⟨4,0,1,0⟩,ē)::(U,⟨10,2,1,0⟩,W2)::(DJ.map (λl=>(J,l,W2))++([10,13,32,133].map (λc=>(J,⟨3,0,1,0⟩,[c,anyS]))++[10,13,32,133].map λc=>(J,⟨5,0,1,0⟩,[c,anyS])))
abbrev Ck:=I×I×Lf×D×ae×I
def us(c:D):Y D:=c::ku c.toNat [[],[0],[0,1],[1,2],[2]] []
def M!(a:I)(b:Y D)(j:I)(l:Lf)(x:Ctx):Ck:=(br j a J,br j J a,l,x.1,dv (top b) l++jD l++sp x.1++x.2.1,x.2.2)
def Ĭ(a:I)(b:Y D)(t:I×Lf×ae):Ck:=(br t.1 a J,br t.1 J a,t.2.1,0,dv (top b) t.2.1++t.2.2,J)
def Z4(b:I)(a:Y D):Y Ck:=(((us (top a)).map z_).flatten++z! [top a]).flatMap (λx=>PV.map (M! b a J · x)++Wl.map (M! b a U · x))++ď.map (Ĭ b a)
def rY(l:nQ):Y PA:=bm [] (λp _ a=>br (ac p.1 eR) (p.2::a) a) l
def X0(f:W->PA->PA->I)(a:W)(x y:PA):I:=br (ac a eR) U (f a x y)
def Ă(b:aC)(w:ae)(e:I)(c:aC)(m:Mv)(a:Y Em)(h:I):I×Y PA:=oc (é (lD b w e)) (λq=>((m.bE==J)&&sb m h a&&(bd m.lC (ak w)&&(ac q.2.pg.bD 0&&IX (X0 (O3 m (a.map (Ll J)))) q.2.pg c m (a.map (Ll J)))),rY q.2.pg.par)) (J,[])
def ckS(h a:I)(b:Y D)(l:Lf)(c:D)(w:ae)(e:I)(s:Sp):I×Y PA:=Ă (Ñ h a b) w e s.b s.m s.em h
def ckW(a:Y D)(t:Ck):I×Y PA:=ckS t.1 t.2.1 a t.2.2.1 t.2.2.2.1 t.2.2.2.2.1 t.2.2.2.2.2 (AZ t.1 (br t.1 U t.2.1) a t.2.2.1 t.2.2.2.1)
def EN{a b:Type}(f:a->b)(l:Y a):Y b:=bm [] (λa _ b=>f a::b) l
abbrev GD(al:I)(st:Y D):Prop:=(Z4 al st).map (ckW st)=EN (λ_=>(U,[E3 st])) (Z4 al st)
def U'(a:I)(b:Y D):I:=aZ (Z' b a) U J (nL J a C b) [38,120,32,33,116,32,106,anyS] J J&&aZ (Z_ b a) U J (nL J a C b) [91,107,93,anyS,anyS] J J
def nE(h:I)(c:V):aC:=V' (.sym (.off 0 1)) c 0 (lq h) [] J U []
def ahL(l:Lf):I:=aZ [AZ J U [] l 0] U J (nL J U C []) (dv (-1) l++[0]) U J
def Ħ(s:N D)(r:I)(h:I):Sp:=⟨1,nE U (br r (.int 0) (s3 0)),zw 0 0 h 1 r 0,[⟨1,⟨0,0,!r,0⟩,⟨0,0,!r,0⟩⟩]⟩
def E_:uF:=[[2097153],[13,10],[32,35,32,114,10],[35,32,114,10]]
def cg:ae:=[35,32,114,10]
def gx(a:Y D):Y Ctx:=(a.map λc=>((c,[2097154,anyS],J):Ctx))++(0,[46,anyS],J)::(0,[0],U)::br (a? (a.length=1)) (br (a? (1<top a)) [(1,[0],U)] []++br (a? (2<top a)) [(2,[0],U)] []) []
def ckK(a:Y D)(k:N D)(g:ae)(x:Ctx):I:=aZ (A3 k (g++sp x.1) x.1 a) J J (nK U k a) (g++sp x.1++x.2.1) x.2.2 U
def ahM(a:Y D)(k:N D)(g:ae):I:=aZ (A3 k (g++cg) 0 a) J J (nK U k a) (g++cg++[0]) U U
def ckQ(a:Y D)(k:N D)(x:Ctx):I:=aZ (PU k [] x.1 x.1 a) J J (nR U k x.1 a) x.2.1 x.2.2 U
def ahN(a:Y D)(k:N D):I:=aZ (PU k cg 0 0 a) J J (nR U k 0 a) (cg++[0]) U U
def s_:Y (N D):=[C,O 0,O 1]
def za:Y (N D):=[C,O 1,O 2]
def LY(a:Y D):I:=aI (λk=>aI (λg=>aI (ckK a k g) (gx a)&&ahM a k g) E_) s_&&aI (λk=>aI (ckQ a k) (gx a)&&ahN a k) za
def sgX:Y (ae×ae×I):=[([45],[2097156,anyS,anyS],J),([45],[10,0],U)]
def NW(z h:I)(c:D)(a:Y D):I:=aI (λx=>aZ (J_ z h c a) U z (br z (nI J) (nR h C c a)) (x.1++x.2.1) x.2.2 h) sgX
def M_(z h:I)(c:D)(a:Y D):I:=aZ (S_ z h c a) U z (br z (nI J) (nR h C c a)) [107,58,2097156,anyS] J h
def Lp(h:I)(c:D)(a:Y D):I:=NW J h c a&&M_ J h c a
def ahO(a:Y D):I:=Lp U (top a) a&&Lp J (top a) a
def ahP:I:=aI (λc=>aI (λh=>Lp h c []) [J,U]) [0,1,2,3,4]&&NW U J 0 []&&M_ U J 0 []&&aI (λr=>aI (λb=>aI (λh=>Lp h (r+b) [r]) [J,U]) [1,2]) [0,1,2]
def M?(v:I)(a:Y D)(g:ae)(b:W):I:=aZ [E5 (top a+br v 2 1) (br v (bd 2 (ak g)) U) g a] J J (br v (nV J a) (nD J a)) (g++[b,anyS]) J J
def YA(v:I)(a:Y D)(x:Ctx):I:=aZ [gap J ([10]++sp x.1) x.1 a] J J (br v (nV J a) (nD J a)) ([10]++sp x.1++x.2.1) x.2.2 J
def Ð(v:I)(a:Y D):I:=aZ [gap J ([10]++cg) 0 a] J J (br v (nV J a) (nD J a)) ([10]++cg++[0]) U J
def į(a:Y D):I:=aZ [gap J [32] (top a+2) a] J J (nD J a) [32,2097154,anyS] J J
def chA(c:I)(b:D)(a:Y D):Y Sp:=br c [Yz J a (nL U J (O 0) a) 2 14,gap U ([10]++sp b) b a] [Yz J a (nL U J C a) 2 14,dr (nL J J C a),gap J ([10]++sp b) b a]
def VR(a:I)(c:D)(b:Y D):I:=aZ (chA a c b) U J (nL J a C b) ([38,122,10]++sp c++[2097154,anyS]) J J
def okI(a:Y D):I:=aI (λv=>aI (λg=>M? v a g 2097157) [[32],[10]++sp (top a+1),[10]++sp (top a+2)]&&aI (YA v a) (gx a)&&Ð v a) [J,U]
def ō(a:Y D):I:=į a&&aI (λv=>aI (λb=>YA v a (top a+b,[2097154,anyS],J)&&VR (!v) (top a+b) a) [1,2]) [J,U]&&VR J (top a) a
def Į(a:W)(c:D)(b:ae):I:=aZ (F! a c) J U (nI U) (jZ a++sp c++b) J U
def eoS(h:I)(t:D)(a:Y D):Sp:=⟨1,nE U (.int t),zw 0 0 h (a.length+1) U 0,Ln a.length (at2 4 0 0 t)++[at2 1 0 0 t]⟩
def z?(h:I)(t:D)(a:Y D):I:=VP (nR h C t a) J h (eoS h t a) (nE J (.int t))
def İ(h:I)(a:Y D):Y Sp:=[⟨1,nS U,zw 3 0 h (a.length+1) U 0,Ln a.length (at2 4 0 0 0)++[⟨3,here 0 0 0,here 3 0 3⟩]⟩,dr (nS J),gap J [10] 0 []]
def ĭ(h:I)(a:Y D):I:=aZ (İ h a) U J (nR h C 0 a) [46,46,46,10,0] U h
def okF:I:=aI (λh=>aI (ĭ h) [[],[0]]&&aI (λt=>z? h t []) [0,1,2]&&aI (λa=>z? h (top a) a) [[0],[1],[2]]) [J,U]
def ahQ:aI LY (jE.take 6)=U:=by kernel_rfl
def ahR:aI LY (jE.drop 6)=U:=by kernel_rfl
def PW:aI ahO jE=U:=by kernel_rfl
def xy:ahP:=by kernel_rfl
def VS:aI okI jE=U:=by kernel_rfl
def A6:aI ō [[0],[1],[2]]=U:=by kernel_rfl
def VT:okF:=by kernel_rfl
def A7{b c:Type}{f g:b->c}{l:Y b}(h:l.map f=EN g l):∀a∈l,f a=g a:=by induction l with|nil=>exact λ_ m=>nomatch m|cons e l d=>refine λa m=>?_;cases m with|head=>exact(fq h).1|tail _ m=>exact d (fq h).2 a m
section
variable{f:W->PA->PA->I}{l m:nQ}{b b':aC}{w:ae}{e h v:I}{u:Y Em}{x:PA}{s:Mv}{st:Y D}{t:Ck}
def abA:∀{m},oG (X0 f) l m->(∀x∈rY l,∀y∈rY m,f eR x y=U)->oG f l m:=by induction l with|nil=>exact λe _=>e|cons p l d=>intro m e H;refine Gl e λq r g e=>cp e λc e=>cp e λi j=>?_;rw[g]at H ⊢;(have a:∀{p:W×PA}{l:nQ}{x},x∈rY l->x∈rY (p::l):=λ{p}{l}{x}h=>by show x∈br (ac p.1 eR) (p.2::rY l) (rY l);cases ac p.1 eR with|true=>exact .tail _ h|false=>exact h);refine(dM c).trans ((dM ?_).trans (d j λx d y g=>H x (a d) y (a g)));refine ny i (λa _=>?_) λ_ e=>e;(have d:∀{p:W×PA}{l:nQ},ac p.1 eR->p.2∈rY (p::l):=λ{p}{l}h=>by show p.2∈br (ac p.1 eR) (p.2::rY l) (rY l);rw[h];exact .head _);have:=H p.2 (d a) q.2 (d (aK c▸a));rw[aK a];exact this
def abB(H:Ă b w e b' s u h=(U,[x]))(g:rY (lD b' [] J).par=[x])(i:O3 s (u.map (Ll J)) eR x x):aZ [⟨1,b',s,u⟩] U J b w e h:=by(have K:∀o:qY,oc o (λq=>((s.bE==J)&&sb s h u&&(bd s.lC (ak w)&&(ac q.2.pg.bD 0&&IX (X0 (O3 s (u.map (Ll J)))) q.2.pg b' s (u.map (Ll J)))),rY q.2.pg.par)) (J,[])=(U,[x])->(U&&(s.bE==J)&&sb s h u&&(bd s.lC (ak w)&&oc o (λq=>ac q.2.pg.bD 0&&Dp q.2.pg b' s (u.map (Ll J))) J)&&U):=λo=>by cases o with|none=>exact λH=>ao (ah v6 H)|some q=>refine λH=>ag (ah v6 H:(_&&_)) λa h=>ag a λa j=>ag h λk h=>ag h λn c=>?_;(have F:Dp q.2.pg b' s (u.map (Ll J)):=ag c λF f7=>ag F λF f6=>ag F λF f5=>ag F λF f4=>ag F λF f3=>ag F λf1 o=>by(have f1:=abA f1 λx c y d=>by rw[show rY q.2.pg.par=_ from ah Fk H]at c;rw[g]at d;rw[eC.mp c,eC.mp d];exact i);unfold Dp IX;rw[f1,o,f3,f4,f5,f6,f7];rfl);rw[a,j,k];show(U&&(U&&(_&&_))&&U)=U;rw[n,F];rfl);exact K _ H
def abC(m:Mv)(u:af):aI (λst=>O3 m u eR (E3 st) (E3 st)) jE=U:=by kernel_rfl
def afA{k:I}{l:Lf}:rY (lD (Ez st k l c d) [] J).par=[E3 st]:=by unfold Ez;cases lV l<;>rfl
def GF(c:st∈jE)(H:GD v st)(a:t∈Z4 v st):N0 t.1 t.2.1 st t.2.2.1 t.2.2.2.1 t.2.2.2.2.1 t.2.2.2.2.2:=abB (A7 H t a) afA (ai (abC _ _) c)
end
def ahS(r:Y D):GD U (0::r):=by kernel_rfl
def ť(r:Y D):GD U (1::r):=by kernel_rfl
def Þ(r:Y D):GD U (2::r):=by kernel_rfl
def Ý(r:Y D):GD U (3::r):=by kernel_rfl
def Ť(r:Y D):GD U (4::r):=by kernel_rfl
def ahT(r:Y D):GD J (0::r):=by kernel_rfl
def ţ(r:Y D):GD J (1::r):=by kernel_rfl
def Ü(r:Y D):GD J (2::r):=by kernel_rfl
def Û(r:Y D):GD J (3::r):=by kernel_rfl
def Ţ(r:Y D):GD J (4::r):=by kernel_rfl
def afF:aI (U' U) jE=U:=by kernel_rfl
def afG:aI (U' J) jE=U:=by kernel_rfl
def v_all(a:I):∀b∈jE,GD a b:=by(have c:∀{b:Y D}{l:Y (Y D)},GD a b->(∀k∈l,GD a k)->∀k∈b::l,GD a k:=λd e k m=>by cases m with|head=>exact d|tail _ m=>exact e k m);cases a with|true=>exact c (ahS []) (c (ť []) (c (Þ []) (c (Ý []) (c (Ť []) (c (ť [0]) (c (Þ [0]) (c (Þ [1]) (c (Ý [1]) (c (Ý [2]) (c (Ť [2]) (λk m=>nomatch m)))))))))))|false=>exact c (ahT []) (c (ţ []) (c (Ü []) (c (Û []) (c (Ţ []) (c (ţ [0]) (c (Ü [0]) (c (Ü [1]) (c (Û [1]) (c (Û [2]) (c (Ţ [2]) (λk m=>nomatch m)))))))))))
def afH:∀a∈jE,∀c∈a,c∈us (top a):=by decide
def YB(b:a∈jE){x:Ctx}(h:x∈cx a):x∈((us (top a)).map z_).flatten++z! [top a]:=by
 refine(gU.mp h).elim (λh=>?_) λh=>db _ ?_
 ·obtain⟨_,d,e⟩:=AC.mp h
  obtain⟨c,f,g⟩:=eO.mp d;exact h? _ (AC.mpr ⟨_,eO.mpr ⟨c,afH a b c f,Z⟩,g▸e⟩)
 ·unfold z! at h
  cases q:a? (a.length=1)with
  |true=>rw[q]at h;exact h
  |false=>rw[q]at h;exact h? (as:=[_,_,_]) _ h
def š{l:Lf}(c:a∈jE)(b:I)(e:x∈cx a):(l∈PV->N0 J b a l x.1 (dv (top a) l++jD l++sp x.1++x.2.1) x.2.2=U)/\(l∈Wl->N0 b J a l x.1 (dv (top a) l++jD l++sp x.1++x.2.1) x.2.2=U):=⟨λd=>GF (t:=M! b a J l x) c (v_all b a c) (h? _ (n8.mpr ⟨x,YB c e,h? _ (fm d)⟩)),λd=>GF (t:=M! b a U l x) c (v_all b a c) (h? _ (n8.mpr ⟨x,YB c e,db _ (fm d)⟩))⟩
def PX{l:Lf}(c:a∈jE)(b j:I)(d:(j,l,la)∈ď):N0 (br j b J) (br j J b) a l 0 (dv (top a) l++la) J:=GF (t:=Ĭ b a (j,l,la)) c (v_all b a c) (db _ (fm d))
def vh(c:a∈jE)(b:I):U' b a:=by cases b with|true=>exact ai afF c|false=>exact ai afG c
def A8(l:Y Sp):W:=bm (motive:=λ_=>W) 0 (λs _ a=>gc s.kd (s.m.lC+a) λk=>gc k (s.m.lC+a) λ_=>a) l
def YC(l:Y Sp):D:=bm (motive:=λ_=>D) 0 (λs _ a=>gc s.kd (s.m.dl+a) λk=>gc k (s.m.dl+a) λ_=>a) l
def t4(l:Y Sp):D->D:=bm (motive:=λ_=>D->D) (λc=>c) (λs _ a c=>gc s.kd (a (br s.m.ci 0 c+s.m.dc)) λk=>gc k (a (br s.m.ci 0 c+s.m.dc)) λ_=>a c) l
section
variable{k n:W}{F z h e:I}{b:aC}{R:Rs}{w t:ae}{L pre:af}{m:Mv}{p:aw}{cb:D}{l:Y Sp}
def vi(l:Y Sp):∀R:Rs,PN l R=⟨R.t.drop (A8 l),R.ix+(A8 l:W),R.ln+YC l,t4 l R.cb⟩:=by
 induction l with
 |nil=>intro R;exact vo (vo (vo (ah Rs.mk Z) (aA _).symm) (aA _).symm) Z
 |cons s l c=>
  intro R;obtain⟨a,d,m,d⟩:=s
  have H:PN l (R.mv m)=⟨R.t.drop (m.lC+A8 l),R.ix+((m.lC+A8 l)),R.ln+(m.dl+YC l),t4 l (br m.ci 0 R.cb+m.dc)⟩:=by rw[c];show Rs.mk ((R.t.drop m.lC).drop _) (R.ix+m.lC+_) (R.ln+m.dl+YC l) _=_;rw[e8,ej,ej];rfl
  induction a with
  |zero=>exact H
  |succ a=>induction a with
   |zero=>exact H
   |succ a _=>exact c R
def At(k:W)(z:I)(b:aC)(h:I)(t:ae)(p:aw)(L:af):=∀cb,Go k z J b h ⟨t,p.1,p.2.1,cb⟩ L
def AtE(k:W)(z:I)(b:aC)(h:I)(t:ae)(p:aw)(L:af):=∀cb,iX k z J b h ⟨t,p.1,p.2.1,cb⟩ L
def Go.bS(S:Go k z F b h R L)(j:W):Go (k+j) z F b h R L:=by induction j with|zero=>exact S|succ j a=>exact λpre c=>Sn.bS (a pre c)
def iX.bS(S:iX k z F b h R L)(j:W):iX (k+j) z F b h R L:=by induction j with|zero=>exact S|succ j a=>exact λpre c=>Sn.bS (a pre c)
def Go.le{k':W}(S:Go k z F b h R L)(q:k<=k'):Go k' z F b h R L:=by obtain⟨j,a⟩:=hh q;exact a▸S.bS j
def iX.le{k':W}(S:iX k z F b h R L)(q:k<=k'):iX k' z F b h R L:=by obtain⟨j,a⟩:=hh q;exact a▸S.bS j
def aW(p:aw)(n:W)(d:D)(c:D):aw:=(p.1+(n:D),p.2.1+d,c)
def fV{a f:I}{n:W}{i:D}(H:aZ l z J b w e h)(o:cC w e ⟨t,p.1,p.2.1,cb⟩)
 (r:DE l z=a)(s:DF l J=J)(u:DG l b=c)(v:yr l h=f)(en:A8 l=n)(x:YC l=d)(A:t.drop n=g)(y:t4 l cb=i)(j:BF l ⟨t,p.1,p.2.1,cb⟩=T)
 (S:Go k a J c f ⟨g,(aW p n d c').1,(aW p n d c').2.1,i⟩ L):Go (k+l.length) z J b h ⟨t,p.1,p.2.1,cb⟩ (T.map aM++L):=by
 rw[<-j];refine Go.link H o (λq=>ao q) ?_;rw[vi,r,s,u,v,en,x,y];rw[A];exact S
def j9{i:D}{a f:I}{n:W}(r:VM l)(H:aZ l z J b w e h)(s:cC w e ⟨t,p.1,p.2.1,cb⟩)
 (u:DE l z=a)(v:DF l J=J)(x:DG l b=c)(y:yr l h=f)(en:A8 l=n)(A:YC l=d)(E:t.drop n=g)(B:t4 l cb=j)(o:BF l ⟨t,p.1,p.2.1,cb⟩=T)
 (S:iX k a J c f ⟨g,(aW p n d i).1,(aW p n d i).2.1,j⟩ L):iX (k+l.length) z J b h ⟨t,p.1,p.2.1,cb⟩ (T.map aM++L):=by
 rw[<-o];refine iX.link r H s (λq=>ao q) ?_;rw[vi,u,v,x,y,en,A,B];rw[E];exact S
end
section
variable{k:W}{h:I}{t:ae}{L:af}{p:aw}{c:D}{st:Y D}
def GG(t:ae):=t=[10,0]∨∃a b c r,t=a::b::c::r/\x9 2097156 a=U
def GH(t:ae):=∃a b r,t=a::b::r/\x9 2097156 a=U
def Š(h:p.2.2=c):aW p 0 0 c=p:=by obtain⟨a,b,d⟩:=p;show(a+_,b+0,c)=_;rw[<-h,aA];exact pt (aA _) Z
def VU:aW (aW p n d x) m e y=aW p (n+m) (d+e) y:=by show(p.1+_+_,p.2.1+d+e,y)=_;rw[ej,ej];rfl
def stI(c:D)(st:Y D):Y D:=br (a? (top st<c)) (c::st) st
def C!(c:D)(st:Y D)(p:aw):Y Tk:=br (a? (top st<c)) [⟨5,p,p⟩,⟨7,p,aW p 1 0 (c+1)⟩] [⟨7,p,aW p 1 0 (c+1)⟩]
def J1(c:D)(st:Y D)(p:aw):Y Tk:=br (a? (top st<c)) [⟨6,p,p⟩,⟨8,p,p⟩,⟨16,p,aW p 1 0 (c+1)⟩,⟨9,aW p 1 0 (c+1),aW p 2 0 (c+2)⟩] [⟨8,p,p⟩,⟨16,p,aW p 1 0 (c+1)⟩,⟨9,aW p 1 0 (c+1),aW p 2 0 (c+2)⟩]
def GI{a:Type}{f:a->I}{b d:a}(H:aI f [b,d]=U):f b/\f d:=cp H λa H=>cp H λb _=>⟨a,b⟩
def mN(h:dz w R.t):cC w J R:=by show(dz w R.t&&U)=U;rw[h];rfl
def bK{x y:W}(h:x9 x y)(k:dz w r):dz (x::w) (y::r):=(dM h).trans k
def xA:x9 anyS y:=Z
def ahU(h:y<2097152):x9 y y:=by have z:bd anyS y=J:=d8.mpr λq=>ch (cw q) (Nat.not_le_of_lt h);show br _ _ _=U;rw[z];exact cf y
def ahV(F:NW J h c st)(f:GG t)(e:p.2.2=c)(S:At k J (nD J (stI c st)) J t (aW p 1 0 (c+1)) L):At (k+2) U (nR h C c st) h (45::t) p ((C! c st p).map aM++L):=λa=>by
 obtain⟨g,i⟩:=GI F;have b:=Š e
 have K:∀{w e},aZ (J_ J h c st) U J (nR h C c st) w e h->cC w e ⟨45::t,p.1,p.2.1,a⟩->Go (k+2) U J _ h ⟨45::t,p.1,p.2.1,a⟩ ((C! c st p).map aM++L):=λ{w e}H d=>by
  unfold J_ at H;unfold stI at S;unfold C!;cases q:a? (top st<c)with
  |true=>
   rw[q]at H S
   exact fV H d Z Z Z Z Z Z Z Z (by show[Tk.mk 5 (aW p 0 0 c) (aW p 0 0 c),Tk.mk 7 (aW p 0 0 c) _]=_;rw[b];rfl) (S _)
  |false=>
   rw[q]at H S
   exact fV H d Z Z Z Z Z Z Z Z (by show[Tk.mk 7 (aW p 0 0 c) _]=_;rw[b];rfl) (S _)
 refine f.elim (λq=>K i (by rw[q];rfl)) λq=>?_;obtain⟨a,b,d,r,q,a⟩:=q;exact K g (mN (by rw[q];exact bK Z (bK a (bK xA (bK xA Z)))))
def ahW(F:M_ J h c st)(f:GH t)(g:p.2.2=c)(S:At k J (nV J (stI c st)) J t (aW p 2 0 (c+2)) L):At (k+5) U (nR h C c st) h (107::58::t) p ((J1 c st p).map aM++L):=λi=>by obtain⟨j,j,r,q,j⟩:=f;have a:cC [107,58,2097156,anyS] J ⟨107::58::t,p.1,p.2.1,i⟩:=mN (by rw[q];exact bK Z (bK Z (bK j (bK xA Z))));have F:aZ (S_ J h c st) U J (nR h C c st) [107,58,2097156,anyS] J h:=F;unfold stI at S;unfold J1;unfold S_ at F;(have b:(p.1+((1:W):D)+(-1:D),p.2.1+0+0,c)=p:=by obtain⟨x,y,z⟩:=p;rw[aA,aA];exact pt (wS x 1) (pt Z g.symm));(have d:(p.1+((1:W):D)+(0:D),p.2.1+0+0,c+1)=aW p 1 0 (c+1):=by rw[aA];exact pt Z (pt (aA _) Z));(have e:(p.1+((1:W):D)+(1:D),p.2.1+0+0,c+2)=aW p 2 0 (c+2):=by rw[ej,ej];rfl);cases q:a? (top st<c)with|true=>(rw[q]at F S;induction h with|true=>exact(fV (n:=2) (d:=0) (c':=c+2) F a Z Z Z Z Z Z Z Z (by show[Tk.mk 6 (p.1+((1:W):D)+(-1:D),p.2.1+0+0,c) (p.1+((1:W):D)+(-1:D),p.2.1+0+0,c),Tk.mk 8 (p.1+((1:W):D)+(-1:D),p.2.1+0+0,c) (p.1+((1:W):D)+(-1:D),p.2.1+0+0,c),Tk.mk 16 (p.1+((1:W):D)+(-1:D),p.2.1+0+0,c) (p.1+((1:W):D)+(0:D),p.2.1+0+0,c+1),Tk.mk 9 (p.1+((1:W):D)+(0:D),p.2.1+0+0,c+1) (p.1+((1:W):D)+(1:D),p.2.1+0+0,c+2)]=_;rw[b,d,e];rfl) (S _))|false=>exact(fV F a Z Z Z Z Z Z Z Z (by show[Tk.mk 6 (p.1+((1:W))+(-1),p.2.1+0+0,c) (p.1+((1:W))+(-1),p.2.1+0+0,c),Tk.mk 8 (p.1+((1:W))+(-1),p.2.1+0+0,c) (p.1+((1:W))+(-1),p.2.1+0+0,c),Tk.mk 16 (p.1+((1:W))+(-1),p.2.1+0+0,c) (p.1+((1:W))+(0),p.2.1+0+0,c+1),Tk.mk 9 (p.1+((1:W))+(0),p.2.1+0+0,c+1) (p.1+((1:W))+(1),p.2.1+0+0,c+2)]=_;rw[b,d,e];rfl) (S _)).le (iF _))|false=>rw[q]at F S;induction h with|true=>exact(fV F a Z Z Z Z Z Z Z Z (by show[Tk.mk 8 (p.1+((1:W))+(-1),p.2.1+0+0,c) (p.1+((1:W))+(-1),p.2.1+0+0,c),Tk.mk 16 (p.1+((1:W))+(-1),p.2.1+0+0,c) (p.1+((1:W))+(0),p.2.1+0+0,c+1),Tk.mk 9 (p.1+((1:W))+(0),p.2.1+0+0,c+1) (p.1+((1:W))+(1),p.2.1+0+0,c+2)]=_;rw[b,d,e];rfl) (S _))|false=>exact(fV F a Z Z Z Z Z Z Z Z (by show[Tk.mk 8 (p.1+((1:W))+(-1),p.2.1+0+0,c) (p.1+((1:W))+(-1),p.2.1+0+0,c),Tk.mk 16 (p.1+((1:W))+(-1),p.2.1+0+0,c) (p.1+((1:W))+(0),p.2.1+0+0,c+1),Tk.mk 9 (p.1+((1:W))+(0),p.2.1+0+0,c+1) (p.1+((1:W))+(1),p.2.1+0+0,c+2)]=_;rw[b,d,e];rfl) (S _)).le (iF _)
end
section
variable{k:W}{h e:I}{t w g:ae}{L:af}{p:aw}{c cb:D}{st:Y D}{b:aC}{ky:N D}
def o7(n:W)(p:aw):Y Tk:=Ln n ⟨4,p,p⟩
def Jc{a i:Type}(f:a->i)(d:a)(n:W):(Ln n d).map f=Ln n (f d):=by induction n with|zero=>rfl|succ n j=>exact ah _ j
def gp:(g++t).drop (ak g)=t:=by rw[aB];exact q6
def tQ(p:aw)(g:ae)(c:D):aw:=aW p (ak g) (iA g) c
def PY{cb:D}:BF [gap h g c st] ⟨g++t,p.1,p.2.1,cb⟩=o7 (cJ c st) (tQ p g c):=by show(Ln _ _).map _++[]=_;rw[Jc,eq];rfl
abbrev Arr(k:W)(c:D)(st:Y D)(t:ae)(p:aw)(L:af):Prop:=∀h,At k U (nR h C c st) h t p L
abbrev qI(k:W)(c:D)(st:Y D)(t:ae)(p:aw)(L:af):Prop:=∀h,AtE k U (nR h C c st) h t p L
def xB(H:aZ [gap h g c st] J J b w e h)(a:cC w e ⟨g++t,p.1,p.2.1,cb⟩)(S:Arr k c (mM c st) t (tQ p g c) L):Go (k+1) J J b h ⟨g++t,p.1,p.2.1,cb⟩ ((o7 (cJ c st) (tQ p g c)).map aM++L):=fV H a Z Z Z Z Z (aA _) gp Z PY (S _ _)
def o8(H:aZ [gap h g c st] J J b w e h)(a:cC w e ⟨g++t,p.1,p.2.1,cb⟩)(S:qI k c (mM c st) t (tQ p g c) L):iX (k+1) J J b h ⟨g++t,p.1,p.2.1,cb⟩ ((o7 (cJ c st) (tQ p g c)).map aM++L):=j9 Z H a Z Z Z Z Z (aA _) gp Z PY (S _ _)
def fM{l:Y Sp}{s:Sp}{z d:I}(f:s.kd=2∨s.kd=3)(H:aZ (s::l) z d b w e h):z=J/\aZ [s] J d b w e h/\aZ l J d s.b w e (br (ac s.kd 3) J h):=by obtain⟨m,a,i,j⟩:=s;refine f.elim (λq=>?_) λq=>?_;have q:m=2:=q;rw[q]at H ⊢;refine ag H λH d=>ag H λH f=>ag H λi j=>⟨(im _).mp i,?_,d⟩;show(!J&&setB b a&&setB a a&&U)=U;rw[j,f];rfl;have q:m=3:=q;rw[q]at H ⊢;refine ag H λH m=>ag H λH n=>ag H λH d=>ag H λH f=>ag H λi j=>⟨(im _).mp i,?_,m⟩;show(!J&&h&&setB b b&&Gu b&&tv b a&&U)=U;rw[j,f,d,n];rfl
def DK{z:I}{l:Y Sp}(H:aZ (se a::l) z J b w e h)(d:cC w e ⟨t,p.1,p.2.1,cb⟩)(S:Go k J J a h ⟨t,p.1,p.2.1,cb⟩ L):Go (k+1) J J b h ⟨t,p.1,p.2.1,cb⟩ L:=Go.link (fM (.inl Z) H).2 d (λq=>ao q) S
def DM{z:I}{l:Y Sp}(H:aZ (dr a::l) z J b w e h)(d:cC w e ⟨t,p.1,p.2.1,cb⟩)(S:Go k J J a J ⟨t,p.1,p.2.1,cb⟩ L):Go (k+1) J J b h ⟨t,p.1,p.2.1,cb⟩ L:=Go.link (fM (.inr Z) H).2 d (λq=>ao q) S
def VV(H:aZ (A3 ky g c st) J J (nK U ky st) w e U)(a:cC w e ⟨g++t,p.1,p.2.1,cb⟩)(S:Arr k c (mM c st) t (tQ p g c) L):Go (k+3) J J (nK U ky st) U ⟨g++t,p.1,p.2.1,cb⟩ ((o7 (cJ c st) (tQ p g c)).map aM++L):=by have d:∀{b},aZ [dr (nK J C st),gap J g c st] J J b w e U->Go _ J J b U ⟨g++t,p.1,p.2.1,cb⟩ _:=λH=>DM H a (xB (fM (.inr Z) H).3 a S);induction ky with|none=>exact(d H).le (iF _)|some f=>have H:aZ (br _ [gap U g c st] [se _,dr _,gap J g c st]) J J _ w e U:=H;cases q:a? (f=0)with|true=>rw[q]at H;exact(xB H a S).le (fY _ 2)|false=>rw[q]at H;exact DK H a (d (fM (.inl Z) H).3)
def nC(ky:N D):I:=oc ky (λd=>a? (d=0)) J
def DN(H:aZ (A3 ky g c st) J J (nK U ky st) w e U)(a:cC w e ⟨g++t,p.1,p.2.1,cb⟩)(S:qI k c (mM c st) t (tQ p g c) L):br (nC ky) (iX (k+3) J J (nK U ky st) U ⟨g++t,p.1,p.2.1,cb⟩ ((o7 (cJ c st) (tQ p g c)).map aM++L)) (Go (k+3) J J (nK U ky st) U ⟨g++t,p.1,p.2.1,cb⟩ (MARK::((o7 (cJ c st) (tQ p g c)).map aM++L))):=by have d:∀{b},aZ [dr (nK J C st),gap J g c st] J J b w e U->Go _ J J b U ⟨g++t,p.1,p.2.1,cb⟩ _:=λH=>DM H a (o8 (fM (.inr Z) H).3 a S).go;induction ky with|none=>exact(d H).le (iF _)|some f=>have H:aZ (br _ [gap U g c st] [se _,dr _,gap J g c st]) J J _ w e U:=H;show br (a? _) _ _;cases q:a? (f=0)with|true=>rw[q]at H;exact(o8 H a S).le (fY _ 2)|false=>rw[q]at H;exact DK H a (d (fM (.inl Z) H).3)
def ş(h:nz (cJ c st)=J):mM c st=st/\cJ c st=0:=by(have z:cJ c st=0:=by cases q:cJ c st with|zero=>rfl|succ n=>rw[q]at h;exact ao h.symm);exact⟨by unfold mM;rw[z];rfl,z⟩
def VW{g:ae}(a:g=[])(d:p.2.2=c):tQ p g c=p:=by rw[a];exact Š d
def afL{h:I}(H:aZ [EB a] J J b w e h)(d:cC w e ⟨t,p.1,p.2.1,cb⟩)(S:Go k U J a h ⟨t,p.1,p.2.1,cb⟩ L):Go (k+1) J J b h ⟨t,p.1,p.2.1,cb⟩ L:=Go.link H d (λq=>ao q) S
def abI{h:I}(H:aZ [EB a] J J b w e h)(d:cC w e ⟨t,p.1,p.2.1,cb⟩)(S:iX k U J a h ⟨t,p.1,p.2.1,cb⟩ L):iX (k+1) J J b h ⟨t,p.1,p.2.1,cb⟩ L:=iX.link Z H d (λq=>ao q) S
def VX(H:aZ (PU ky [] c c st) J J (nR U ky c st) w e U)(a:cC w e ⟨t,p.1,p.2.1,cb⟩)(d:p.2.2=c)(S:Arr k c (mM c st) t p L):Go (k+3) J J (nR U ky c st) U ⟨t,p.1,p.2.1,cb⟩ ((o7 (cJ c st) p).map aM++L):=by(have s0:nz _=J->aZ [EB _] J J (nR J C c st) w e J->Go _ J J _ J ⟨t,p.1,p.2.1,cb⟩ ((o7 (cJ c st) p).map aM++L):=λq H=>by obtain⟨u,z⟩:=ş q;rw[z];rw[u]at S;exact afL H a (S J cb));(have f:aZ [gap J [] c st] J J (nR J C c st) w e J->Go _ J J _ J ⟨t,p.1,p.2.1,cb⟩ _:=λH=>by have X:=xB H a (by rw[VW Z d];exact S);rw[VW Z d]at X;exact X);(have A:∀{b},aZ (dr _::br (br U (!nz _) J) [EB _] [gap J [] c st]) J J b w e U->Go (k+2) J J b U ⟨t,p.1,p.2.1,cb⟩ _:=λ{b}H=>by have T:=(fM (.inr Z) H).3;refine DM H a ?_;cases q:nz _ with|false=>rw[q]at T;exact s0 q T|true=>rw[q]at T;exact f T);induction ky with|none=>exact(A H).le (iF _)|some i=>exact DK H a (A (fM (.inl Z) H).3)
def P4(H:aZ (PU ky [] c c st) J J (nR U ky c st) w e U)(a:cC w e ⟨t,p.1,p.2.1,cb⟩)(d:p.2.2=c)(S:qI k c (mM c st) t p L):Go (k+3) J J (nR U ky c st) U ⟨t,p.1,p.2.1,cb⟩ (MARK::((o7 (cJ c st) p).map aM++L)):=by(have s0:nz _=J->aZ [EB _] J J (nR J C c st) w e J->Go _ J J _ J ⟨t,p.1,p.2.1,cb⟩ (MARK::((o7 (cJ c st) p).map aM++L)):=λq H=>by obtain⟨u,z⟩:=ş q;rw[z];rw[u]at S;exact(abI H a (S J cb)).go);(have f:aZ [gap J [] c st] J J (nR J C c st) w e J->Go _ J J _ J ⟨t,p.1,p.2.1,cb⟩ _:=λH=>by have X:=o8 H a (by rw[VW Z d];exact S);rw[VW Z d]at X;exact X.go);(have A:∀{b},aZ (dr _::br (br U (!nz _) J) [EB _] [gap J [] c st]) J J b w e U->Go (k+2) J J b U ⟨t,p.1,p.2.1,cb⟩ _:=λ{b}H=>by have T:=(fM (.inr Z) H).3;refine DM H a ?_;cases q:nz _ with|false=>rw[q]at T;exact s0 q T|true=>rw[q]at T;exact f T);induction ky with|none=>exact(A H).le (iF _)|some i=>exact DK H a (A (fM (.inl Z) H).3)
def P5(H:aZ (PU ky cg a c st) J J (nR U ky a st) w e U)(d:cC w e ⟨cg++t,p.1,p.2.1,cb⟩)(S:qI k c (mM c st) t (tQ p cg c) L):Go (k+3) J J (nR U ky a st) U ⟨cg++t,p.1,p.2.1,cb⟩ (MARK::((o7 (cJ c st) (tQ p cg c)).map aM++L)):=by have A:∀{b},aZ (dr (nR J C a st)::[gap J cg c st]) J J b w e U->Go _ J J b U ⟨cg++t,p.1,p.2.1,cb⟩ _:=λ{b}H=>DM H d (o8 (fM (.inr Z) H).3 d S).go;induction ky with|none=>exact(A H).le (iF _)|some f=>exact DK H d (A (fM (.inl Z) H).3)
end
section
variable{k:W}{h e q:I}{t w x y r:ae}{L:af}{p:aw}{c cb c2:D}{st:Y D}{b:aC}{l:Lf}{f j:W}
def small(l:ae):I:=aI (λc=>jp c 2097152) l
def pre_app(h:small x)(k:dz w r):dz (x++w) (x++r):=by induction x with|nil=>exact k|cons d x a=>exact cp h λd g=>bK (ahU (cw d)) (a g)
def eW(h:small x)(k:small y):small (x++y):=fU h k
def gr:small (sp c):=by unfold sp;induction c.toNat with|zero=>rfl|succ n a=>exact a
def mO:ak (sp c)=c.toNat:=by unfold sp;induction c.toNat with|zero=>rfl|succ n a=>exact ah pm a
def len_app{a:Type}{x y:Y a}:ak (x++y)=ak x+ak y:=by rw[aB,aB,aB];exact aX
def P6:small (rep [10] n):=by induction n with|zero=>rfl|succ n a=>exact a
def kb:small (dv c l):=by
 obtain⟨f,e,j,z⟩:=l;have a:small (DI c ⟨f,e,j,z⟩):=gr;revert a
 induction f using VQ<;>first|exact λ_=>Z|exact λa=>eW (eW Z a) Z|exact λa=>eW (eW (eW Z a) Z) P6|exact λa=>eW (eW (eW (eW Z a) Z) a) Z|skip
 rename_i f;intro _
 iterate 2 (cases f with
  |zero=>rfl
  |succ f=>?_)
 rfl
def cls(l:Lf):Lf:=⟨l.f,br (pE l) l.e (br (ac l.e 0) 4 (br (ac l.e 3) 4 l.e)),l.p,l.z⟩
def dC(st:Y D)(l:Lf)(p:aw):aw:=(p.1+(dB st l).n,p.2.1+(dB st l).m,br (dB st l).s (p.2.2+((dB st l).c-(top st+1))) (dB st l).c)
def VY(a:l.e≠4)(h:dz w r):dz (jD (cls l)++w) (jD l++r):=by
 obtain⟨f,e,j,z⟩:=l;show dz (br (pE ⟨f,0,j,z⟩) [] (GC (br (pE ⟨f,0,j,z⟩) e _))++w) (br (pE ⟨f,0,j,z⟩) [] _++r)=U;cases pE ⟨f,0,j,z⟩with
 |true=>exact h
 |false=>
  cases e with
  |zero=>exact bK Z h
  |succ e=>
  cases e with
  |zero=>exact bK Z (bK Z h)
  |succ e=>cases e with
   |zero=>exact bK Z (bK Z (bK Z (bK Z (bK Z h))))
   |succ e=>cases e with
    |zero=>exact bK Z h
    |succ e=>cases e with
     |zero=>exact ch Z a
     |succ e=>cases e with
      |zero=>exact h
      |succ e=>exact h
def Jd:ak (jD (cls l))=ak (jD l)/\lV (cls l)=lV l/\half (cls l)=half l:=by
 obtain⟨f,e,j,z⟩:=l
 have E:∀c q:I,ak (br c [] (GC (br c e (br (ac e 0) 4 (br (ac e 3) 4 e)))))=ak (br c [] _)/\br c U (br q (!(br (ac (br c e (br (ac e 0) 4 (br (ac e 3) 4 e))) 2) U (ac (br c e (br (ac e 0) 4 (br (ac e 3) 4 e))) 5))) J)=br c U (br q _ J)/\br q (br (ac (br c e (br (ac e 0) 4 (br (ac e 3) 4 e))) 2) 1 0) 0=br q _ 0:=λc q=>by
  cases c with
  |true=>exact⟨Z,Z,Z⟩
  |false=>
   cases e with
   |zero=>exact⟨Z,Z,Z⟩
   |succ e=>cases e with
    |zero=>exact⟨Z,Z,Z⟩
    |succ e=>cases e with
     |zero=>exact⟨Z,Z,Z⟩
     |succ e=>cases e with
      |zero=>exact⟨Z,Z,Z⟩
      |succ e=>exact⟨Z,Z,Z⟩
 exact E _ _
def P7(a d:I):AZ a d st (cls l) c2=AZ a d st l c2:=by unfold AZ Ez iq qe LX;rw[Jd.1,Jd.2,Jd.3];rfl
def ir(st:Y D)(l:Lf)(p:aw):Tk:=⟨zk l,p,dC st l p⟩
def xC(a:p.2.2=cb+(top st+1)):BF [AZ h q st l c2] ⟨t,p.1,p.2.1,cb⟩=[ir st l p]:=by(have d:qc ⟨t,p.1,p.2.1,cb⟩ (on st 0)=p:=by obtain⟨g,b,i⟩:=p;show(g+0,b+0,cb+(top st+1+0))=_;rw[aA,aA,aA];exact pt Z (pt Z a.symm));(have g:qc ⟨t,p.1,p.2.1,cb⟩ (dB st l)=dC st l p:=by refine pt Z (pt Z ?_);show br (dB st l).s _ (dB st l).c=br (dB st l).s _ (dB st l).c;rw[a,show cb+_+_=cb+(dB st l).c by rw[ej,nO (top st+1),qr]]);show[Tk.mk _ _ _]=_;rw[d,g];rfl
variable(H:aZ [AZ h q st l c2] U J b w e h)(i:cC w e ⟨t,p.1,p.2.1,cb⟩)(m:p.2.2=cb+(top st+1))
def tT(g:t.drop (iq (dv (top st) l) l c2)=a){c':D}
 (S:∀d,Go k J J (Ez st q l c2 (qe l)) U ⟨a,(aW p (iq (dv (top st) l) l c2) (qe l) c').1,(aW p (iq (dv (top st) l) l c2) (qe l) c').2.1,d⟩ L):Go (k+1) U J b h ⟨t,p.1,p.2.1,cb⟩ (aM (ir st l p)::L):=by
 refine fV H i Z Z Z ?_ Z (aA _) g Z (xC m) (S _);cases h<;>rfl
def Je(g:t.drop (iq (dv (top st) l) l c2)=a){c':D}
 (S:∀d,iX k J J (Ez st q l c2 (qe l)) U ⟨a,(aW p (iq (dv (top st) l) l c2) (qe l) c').1,(aW p (iq (dv (top st) l) l c2) (qe l) c').2.1,d⟩ L):iX (k+1) U J b h ⟨t,p.1,p.2.1,cb⟩ (aM (ir st l p)::L):=by
 refine j9 Z H i Z Z Z ?_ Z (aA _) g Z (xC m) (S _);cases h<;>rfl
end
def Ş(a b:Lf):I:=ac a.f b.f&&ac a.e b.e&&ac a.p b.p&&ac a.z b.z
def VZ(a:Lf)(l:Y Lf):I:=bm (motive:=λ_=>I) J (λb _ c=>br (Ş b a) U c) l
def GJ:Y Lf:=[⟨0,0,1,0⟩,⟨0,1,1,0⟩,⟨0,3,1,0⟩,⟨1,0,1,0⟩,⟨1,1,1,0⟩,⟨1,3,1,0⟩,⟨2,0,1,0⟩,⟨2,1,1,0⟩,⟨2,3,1,0⟩,⟨2,0,2,0⟩,⟨2,1,2,0⟩,⟨2,3,2,0⟩,⟨8,0,1,0⟩,⟨8,0,2,0⟩,⟨8,0,1,1⟩,⟨8,0,2,1⟩,⟨9,0,1,0⟩,⟨9,0,2,0⟩]
def DO:Y Lf:=[⟨3,0,1,0⟩,⟨3,1,1,0⟩,⟨3,2,1,0⟩,⟨3,3,1,0⟩,⟨4,0,1,0⟩,⟨4,1,1,0⟩,⟨4,2,1,0⟩,⟨4,3,1,0⟩,⟨5,0,1,0⟩,⟨5,1,1,0⟩,⟨5,2,1,0⟩,⟨5,3,1,0⟩]
def W?(k:N D)(l:Y (N D)):I:=bm (motive:=λ_=>I) J (λb _ a=>br (oc b (λx=>oc k (λy=>a? (x=y)) J) (oc k aay U)) U a) l
def gS(l:Lf):D:=br (pE l) (rows l) (rows l+1)
def s?(q:I)(l:Lf):N D:=br (pE l) C (br q (O (qe l)) C)
def P8:Y I:=[J,U]
def ahX(l:Lf):I:=VZ (cls l) PV&&lV l&&!ac l.e 4&&aI (λq=>W? (s? q l) za) P8
def V0(h:Ş a b):a=b:=ag h λh c=>ag h λh d=>ag h λe f=>by obtain⟨g,i,j,k⟩:=a;obtain⟨l,m,n,o⟩:=b;rw[show g=l from aK e,show i=m from aK f,show j=n from aK d,show k=o from aK c]
def vj{l:Y Lf}(h:VZ a l):a∈l:=by induction l with|nil=>exact ao h|cons c l b=>exact ny h (λh _=>V0 h▸.head _) λ_ h=>.tail _ (b h)
def P9{l:Y (N D)}(h:W? a l):a∈l:=by
 induction l with
 |nil=>exact ao h
 |cons b l c=>
  refine ny h (λh _=>?_) λ_ h=>.tail _ (c h)
  have:b=a:=by
   induction b with
   |none=>induction a with
    |none=>rfl
    |some _=>exact ao h
   |some x=>induction a with
    |none=>exact ao h
    |some y=>exact ah O (aO h)
  exact this▸.head _
def Qa:aI ahX GJ=U:=by kernel_rfl
section
variable{k:W}{h e q:I}{t w x la:ae}{L:af}{p:aw}{cb c2:D}{st:Y D}{b:aC}{l:Lf}
def kx(la:ae)(e:I)(t:ae):=dz la t=U/\(e->ak la=ak t)
def kx.yo(h:kx la e R.t):cC la e R:=by show(dz la R.t&&br e _ U)=U;rw[h.1];induction e with|false=>rfl|true=>rw[h.2 Z];exact cf _
def kx.app(a:small x)(h:kx la e t):kx (x++la) e (x++t):=⟨pre_app a h.1,λq=>by rw[len_app,len_app,h.2 q]⟩
def kx.cls(a:l.e≠4)(h:kx la e t):kx (jD (Ev.cls l)++la) e (jD l++t):=⟨VY a h.1,λq=>by rw[len_app,len_app,h.2 q,Jd.1]⟩
structure YD(st:Y D)(c2:D)(t:ae):Prop where
 l:∃la e,(c2,la,e)∈cx st/\kx la e t
 g:∃la e,(c2,la,e)∈gx st/\kx la e t
def eI(st:Y D)(l:Lf)(p:aw)(c2:D):aw:=(p.1+(ak (dv (top st) l++(jD l++sp c2)):W),p.2.1+gS l,c2)
def Jf(h:lV l):aW p (iq (dv (top st) l) l c2) (qe l) c2=eI st l p c2/\(dv (top st) l++(jD l++(sp c2++t))).drop (iq (dv (top st) l) l c2)=t:=by
 have E:iq (dv (top st) l) l c2=ak (dv (top st) l++(jD l++sp c2)):=by unfold iq;rw[h,len_app,len_app,mO];rfl
 have a:qe l=gS l:=by unfold qe gS;rw[h];rfl
 refine⟨by rw[E,a];rfl,?_⟩;rw[E];have:dv (top st) l++(jD l++(sp c2++t))=(dv (top st) l++(jD l++sp c2))++t:=by rw[am,am]
 rw[this];exact gp
def YE(h:lV l):Ez st q l c2 (qe l)=nR U (s? q l) c2 st:=by unfold Ez s?;rw[h];rfl
variable(m:LY st)
def YF(c:lV l)(j:s? q l∈za)(H:aZ [AZ h q st l c2] U J b w e h)(d:cC w e ⟨dv (top st) l++(jD l++(sp c2++t)),p.1,p.2.1,cb⟩)(X:YD st c2 t)(f:p.2.2=cb+(top st+1)):
  (∀{k L},Arr k c2 (mM c2 st) t (eI st l p c2) L->Go (k+4) U J b h ⟨dv (top st) l++(jD l++(sp c2++t)),p.1,p.2.1,cb⟩ (aM (ir st l p)::((o7 (cJ c2 st) (eI st l p c2)).map aM++L)))/\
  (∀{k L},qI k c2 (mM c2 st) t (eI st l p c2) L->Go (k+4) U J b h ⟨dv (top st) l++(jD l++(sp c2++t)),p.1,p.2.1,cb⟩ (aM (ir st l p)::MARK::((o7 (cJ c2 st) (eI st l p c2)).map aM++L))):=by
 refine gq λP a=>?_;obtain⟨g,g,m2,g⟩:=X.g;obtain⟨P,i⟩:=Jf c;refine a ?_;have m:=ag (m) λ_ a=>a;have G:=ai (ag (ai m j) λa _=>a) m2;have a:=YE (st:=st) (q:=q) (c2:=c2) c;refine⟨λ{k L}S=>?_,λ{k L}S=>?_⟩
 ·refine tT (c':=c2) H d f i λc=>?_
  rw[a,P];exact VX G g.yo Z S
 ·refine tT (c':=c2) H d f i λc=>?_
  rw[a,P];exact P4 G g.yo Z S
def V1(c:lV l)(d:s? q l∈za)(H:aZ [AZ h q st l 0] U J b w e h)(f:cC w e ⟨dv (top st) l++(jD l++(sp 0++(cg++[0]))),p.1,p.2.1,cb⟩)(g:p.2.2=cb+(top st+1)){k:W}{L:af}(S:qI k 0 (mM 0 st) [0] (tQ (eI st l p 0) cg 0) L):
  Go (k+4) U J b h ⟨dv (top st) l++(jD l++(sp 0++(cg++[0]))),p.1,p.2.1,cb⟩ (aM (ir st l p)::MARK::((o7 (cJ 0 st) (tQ (eI st l p 0) cg 0)).map aM++L)):=by
 obtain⟨P,i⟩:=Jf c;have m:=ag (m) λ_ a=>a;have G:=ag (ai m d) λ_ a=>a;have a:=YE (st:=st) (q:=q) (c2:=0) c;refine tT (c':=0) H f g i λc=>?_;rw[a,P];exact P5 G (kx.yo ⟨Z,λ_=>Z⟩) S
def Ú(a:l.e≠4)(A:kx la e t):cC (dv (top st) (cls l)++jD (cls l)++sp c2++la) e ⟨dv (top st) l++(jD l++(sp c2++t)),p.1,p.2.1,cb⟩:=by rw[am,am];exact kx.yo ((((A.app gr).cls a)).app kb)
end
section
variable{k:W}{h e q:I}{t w x y la g g':ae}{L:af}{p:aw}{c cb c2:D}{st:Y D}{b:aC}{l:Lf}{ky:N D}
def mP(l:ae):W:=bm (motive:=λ_=>W) 0 (λc _ a=>br (ac c 10) (a+1) (br (ac c 133) (a+1) (br (ac c 2097153) (a+1) a))) l
def bA:mP (x++y)=mP x+mP y:=by
 induction x with
 |nil=>exact(hH _).symm
 |cons a x d=>
  show br (ac a 10) (mP (x++y)+1) (br (ac a 133) (mP (x++y)+1) (br (ac a 2097153) (mP (x++y)+1) (mP (x++y))))=br (ac a 10) (mP x+1) (br (ac a 133) (mP x+1) (br (ac a 2097153) (mP x+1) (mP x)))+mP y;rw[d];cases ac a 10 with
  |true=>exact jI _ _ _
  |false=>cases ac a 133 with
   |true=>exact jI _ _ _
   |false=>cases ac a 2097153 with
    |true=>exact jI _ _ _
    |false=>rfl
def ke:mP (sp c)=0:=by unfold sp;induction c.toNat with|zero=>rfl|succ n a=>exact a
def A9:iA (x++sp c)=iA x:=by show((mP (x++sp c)):D)=(mP x);rw[bA,ke];rfl
def Jg(a:ak g'=ak g)(d:iA g'=iA g)(h:I)(c2 c:D)(st:Y D):gap h (g'++sp c2) c st=gap h (g++sp c2) c st:=by unfold gap AY;rw[A9,A9,len_app,len_app,a,d]
def DP(a:ak g'=ak g)(d:iA g'=iA g):A3 ky (g'++sp c2) c st=A3 ky (g++sp c2) c st:=by unfold A3;rw[Jg a d,Jg a d]
def Jh(p:aw)(g:ae)(c2:D):aw:=(p.1+(ak (g++sp c2):W),p.2.1+iA g,c2)
def Qb(a:LY st)(f:ky∈s_)(i:g'∈E_)(j:ak g'=ak g)(m:iA g'=iA g)(n:∀{la e t},kx la e t->kx (g'++la) e (g++t))(X:YD st c2 t)(cb:D):
  (∀{k L},Arr k c2 (mM c2 st) t (Jh p g c2) L->Go (k+3) J J (nK U ky st) U ⟨g++(sp c2++t),p.1,p.2.1,cb⟩ ((o7 (cJ c2 st) (Jh p g c2)).map aM++L))/\
  (∀{k L},qI k c2 (mM c2 st) t (Jh p g c2) L->br (nC ky) (iX (k+3) J J (nK U ky st) U ⟨g++(sp c2++t),p.1,p.2.1,cb⟩ ((o7 (cJ c2 st) (Jh p g c2)).map aM++L)) (Go (k+3) J J (nK U ky st) U ⟨g++(sp c2++t),p.1,p.2.1,cb⟩ (MARK::((o7 (cJ c2 st) (Jh p g c2)).map aM++L)))):=by
 obtain⟨la,e,o,A⟩:=X.g;have a:=ag (a) λd _=>d;have H:=ai (ag (ai (ai a f) i) λd _=>d) o;have H:aZ (A3 ky (g'++sp c2) c2 st) J J (nK U ky st) (g'++sp c2++la) e U:=H;rw[DP j m]at H
 have a:cC (g'++sp c2++la) e ⟨(g++sp c2)++t,p.1,p.2.1,cb⟩:=by rw[am,am];exact kx.yo (n (A.app gr))
 have P:tQ p (g++sp c2) c2=Jh p g c2:=by show(p.1+((ak (g++sp c2))),p.2.1+iA (g++sp c2),c2)=_;rw[A9];rfl
 rw[<-am];refine⟨λ{k L}S=>?_,λ{k L}S=>?_⟩
 ·have X:=VV (p:=p) (cb:=cb) (k:=k) (L:=L) H a (P▸S)
  rw[P]at X;exact X
 ·have X:=DN (p:=p) (cb:=cb) (k:=k) (L:=L) H a (P▸S)
  rw[P]at X;exact X
def Qc(a:LY st)(f:ky∈s_)(i:g'∈E_)(j:ak g'=ak g)(m:iA g'=iA g)(n:∀{la e t},kx la e t->kx (g'++la) e (g++t)){k:W}{L:af}(S:qI k 0 (mM 0 st) [0] (Jh p (g++cg) 0) L):
  br (nC ky) (iX (k+3) J J (nK U ky st) U ⟨g++(cg++[0]),p.1,p.2.1,cb⟩ ((o7 (cJ 0 st) (Jh p (g++cg) 0)).map aM++L)) (Go (k+3) J J (nK U ky st) U ⟨g++(cg++[0]),p.1,p.2.1,cb⟩ (MARK::((o7 (cJ 0 st) (Jh p (g++cg) 0)).map aM++L))):=by
 have a:=ag (a) λd _=>d;have H:=ag (ai (ai a f) i) λ_ d=>d;have H:aZ (A3 ky (g'++cg) 0 st) J J (nK U ky st) (g'++cg++[0]) U U:=H;have a:sp 0=[]:=Z
 have d:=by
  have z:=DP (ky:=ky) (c:=0) (st:=st) (c2:=0) (g':=g'++cg) (g:=g++cg) (by rw[len_app,len_app,j]) (by show((mP (g'++cg)):D)=(mP (g++cg));have q:mP g'=mP g:=w' (m);rw[bA,bA,q])
  rw[a,eq,eq]at z;exact z
 rw[d]at H;have d:kx [0] U [0]:=⟨Z,λ_=>Z⟩
 have f:cC (g'++cg++[0]) U ⟨(g++cg)++[0],p.1,p.2.1,cb⟩:=by rw[am,am];exact kx.yo (n (d.app (x:=cg) Z))
 have P:tQ p (g++cg) 0=Jh p (g++cg) 0:=by show _=(p.1+(ak ((g++cg)++sp 0)),_,_);rw[a,eq];rfl
 rw[<-am];have X:=DN (p:=p) (cb:=cb) (k:=k) (L:=L) H f (P▸S);rw[P]at X;exact X
def kK(q:I)(l:Lf):N D:=br q (O (rows l)) C
def DQ(l:Lf):ae:=br (AX l) cg (GC l.e)
def GK(l:Lf):I:=!lV l&&ac (half l) (br (AX l) 1 0)&&!pE l&&aI (λq=>W? (kK q l) s_) P8&&br (AX l) (ac l.e 2) (jp l.e 4)
def L?(e:W):ae:=GC (br (ac e 0) 4 (br (ac e 3) 4 e))
def Qd:aI GK (DJ++DO)=U:=by kernel_rfl
def Qe{e:W}(a:jp e 4):L? e∈E_/\ak (L? e)=ak (GC e)/\iA (L? e)=iA (GC e)/\∀{la:ae}{f:I}{t:ae},kx la f t->kx (L? e++la) f (GC e++t):=by
 cases e with
 |zero=>exact⟨.head _,Z,Z,λh=>⟨bK Z h.1,λq=>ah pm (h.2 q)⟩⟩
 |succ e=>cases e with
  |zero=>exact⟨.tail _ gV,Z,Z,λh=>h.app (x:=[13,10]) Z⟩
  |succ e=>cases e with
   |zero=>exact⟨.tail _ aat,Z,Z,λh=>h.app (x:=[32,35,32,114,10]) Z⟩
   |succ e=>cases e with
    |zero=>exact⟨.head _,Z,Z,λh=>⟨bK Z h.1,λq=>ah pm (h.2 q)⟩⟩
    |succ e=>exact ao a
def YG(d:GK l):∃g',g'∈E_/\ak g'=ak (DQ l)/\iA g'=iA (DQ l)/\∀{la:ae}{f:I}{t:ae},kx la f t->kx (g'++la) f (DQ l++t):=ag d λ_ a=>by unfold DQ;cases q:AX l with|true=>exact⟨cg,.tail _ aau,Z,Z,λh=>h.app Z⟩|false=> rw[q]at a;obtain⟨d,b,c,f⟩:=Qe a;exact⟨_,d,b,c,f⟩
structure KF0(q:I)(st:Y D)(l:Lf)(p:aw)(y:ae):Prop where
 K:kK q l∈s_
 AF:Ez st q l 0 (qe l)=nK U (kK q l) st
 DR:(dv (top st) l++(jD l++y)).drop (iq (dv (top st) l) l 0)=DQ l++y
 PO:∀c2:D,Jh (aW p (iq (dv (top st) l) l 0) (qe l) 0) (DQ l) c2=eI st l p c2
 PR:Jh (aW p (iq (dv (top st) l) l 0) (qe l) 0) (DQ l++cg) 0=tQ (eI st l p 0) cg 0
def Ba{a:Type}{d:a}:ak (Ln n d)=n:=by induction n with|zero=>rfl|succ n f=>exact ah pm f
def ahY(e:W)(h:jp e 4):iA (GC e)=1:=by
 iterate 4 (cases e with
  |zero=>rfl
  |succ e=>?_)
 exact ao h
def ahZ(h:br (AX l) (ac l.e 2) (jp l.e 4)=U):iA (DQ l)=1:=by unfold DQ;cases q:AX l with|true=>rfl|false=>rw[q]at h;exact ahY _ h
def ė(a:GK l):KF0 q st l p y:=by refine ag a λa d=>ag a λa o=>ag a λa r=>ag a λa s=>?_;have E:=(im _).mp a;have B:=(im _).mp r;have a:=aK s;(have f:∀y,jD l++y=Ln (half l) 32++(DQ l++y):=λy=>by unfold jD DQ;rw[B,a];cases a:AX l with|true=>rw[a]at d;rw[(aK d)];rfl|false=>rfl);(have i:iq (dv (top st) l) l 0=ak (dv (top st) l++Ln (half l) 32):=by unfold iq;rw[E,len_app,Ba];rfl);(have j:qe l=rows l:=by unfold qe;rw[E];rfl);(have a:=by have z:=ah ak (f []);rw[eq,eq,len_app,Ba]at z;exact z);have r:=ahZ d;(have m:∀g:ae,p.1+((iq (dv (top st) l) l 0))+((ak (DQ l++g)))=p.1+((ak (dv (top st) l++(jD l++g)))):=λg=>by rw[i,ej,<-fO,len_app,len_app,len_app,len_app,Ba,a,fJ,fJ]);(have n:p.2.1+qe l+iA (DQ l)=p.2.1+gS l:=by unfold gS;rw[j,r,B,ej];rfl);refine⟨P9 (ai o (by cases q;exact .head _;exact .tail _ gV)),by unfold Ez kK;rw[E,j];rfl,by rw[f,i,<-am];exact gp,λc2=>pt (m _) (pt n Z),pt ?_ (pt ?_ Z)⟩;show p.1+((iq (dv (top st) l) l 0))+((ak ((DQ l++cg)++sp 0)))=p.1+((ak (dv (top st) l++(jD l++sp 0))))+((ak cg));rw[show((DQ l++cg)++sp 0)=DQ l++cg from eq _,m,show jD l++sp 0=jD l from eq _,<-am,len_app,fO,ej];show p.2.1+qe l+((mP (DQ l++cg)))=p.2.1+gS l+iA cg;rw[bA,fO,<-ej];exact ah (·+iA cg) n
def YH(m:LY st)(j:GK l)(H:aZ [AZ h q st l 0] U J b w e h)(f:cC w e ⟨dv (top st) l++(jD l++(sp c2++t)),p.1,p.2.1,cb⟩)(X:YD st c2 t)(i:p.2.2=cb+(top st+1)):
  (∀{k L},Arr k c2 (mM c2 st) t (eI st l p c2) L->Go (k+4) U J b h ⟨dv (top st) l++(jD l++(sp c2++t)),p.1,p.2.1,cb⟩ (aM (ir st l p)::((o7 (cJ c2 st) (eI st l p c2)).map aM++L)))/\
   (∀{k L},qI k c2 (mM c2 st) t (eI st l p c2) L->br (nC (kK q l)) (iX (k+4) U J b h ⟨dv (top st) l++(jD l++(sp c2++t)),p.1,p.2.1,cb⟩ (aM (ir st l p)::((o7 (cJ c2 st) (eI st l p c2)).map aM++L))) (Go (k+4) U J b h ⟨dv (top st) l++(jD l++(sp c2++t)),p.1,p.2.1,cb⟩ (aM (ir st l p)::MARK::((o7 (cJ c2 st) (eI st l p c2)).map aM++L)))):=by
 have F:=ė (q:=q) (st:=st) (p:=p) (y:=sp c2++t) j;obtain⟨g',n,o,r,s⟩:=YG j;have G:=Qb (p:=aW p (iq (dv (top st) l) l 0) (qe l) 0) (c2:=c2) (t:=t) m F.K n o r s X;refine⟨λ{k L}S=>?_,λ{k L}S=>?_⟩
 ·refine tT (k:=k+3) (c':=0) H f i F.DR λd=>?_
  rw[F.AF];have a:=(G d).1 (k:=k) (L:=L) (by rw[F.PO];exact S);rw[F.PO]at a;exact a
 ·have a:=λd=>(G d).2 (k:=k) (L:=L) (by rw[F.PO];exact S)
  rw[F.PO]at a;cases j:nC (kK q l)with
  |true=> rw[j]at a;exact Je (k:=k+3) (c':=0) H f i F.DR λd=>by rw[F.AF];exact a d
  |false=> rw[j]at a;exact tT (k:=k+3) (c':=0) H f i F.DR λd=>by rw[F.AF];exact a d
def V2(m:LY st)(f:GK l)(H:aZ [AZ h q st l 0] U J b w e h)(i:cC w e ⟨dv (top st) l++(jD l++(cg++[0])),p.1,p.2.1,cb⟩)(j:p.2.2=cb+(top st+1)){k:W}{L:af}(S:qI k 0 (mM 0 st) [0] (tQ (eI st l p 0) cg 0) L):
  br (nC (kK q l)) (iX (k+4) U J b h ⟨dv (top st) l++(jD l++(cg++[0])),p.1,p.2.1,cb⟩ (aM (ir st l p)::((o7 (cJ 0 st) (tQ (eI st l p 0) cg 0)).map aM++L))) (Go (k+4) U J b h ⟨dv (top st) l++(jD l++(cg++[0])),p.1,p.2.1,cb⟩ (aM (ir st l p)::MARK::((o7 (cJ 0 st) (tQ (eI st l p 0) cg 0)).map aM++L))):=by
 have F:=ė (q:=q) (st:=st) (p:=p) (y:=cg++[0]) f;obtain⟨g',n,o,r,s⟩:=YG f;have a:=λd=>Qc (p:=aW p (iq (dv (top st) l) l 0) (qe l) 0) (cb:=d) m F.K n o r s (k:=k) (L:=L) (by rw[F.PR];exact S);rw[F.PR]at a;cases f:nC (kK q l)with
 |true=> rw[f]at a;exact Je (k:=k+3) (c':=0) H i j F.DR λd=>by rw[F.AF];exact a d
 |false=> rw[f]at a;exact tT (k:=k+3) (c':=0) H i j F.DR λd=>by rw[F.AF];exact a d
end
section
variable{k:W}{h e q m:I}{t w x y r la g:ae}{L:af}{p:aw}{cb c2:D}{st:Y D}{b:aC}{l:Lf}{T:Y Tk}
def iY(st:Y D)(l:Lf)(p:aw):Y Tk:=br (ac l.f 6) [⟨13,p,aW p 2 0 (p.2.2+2)⟩,⟨15,aW p 3 0 (p.2.2+3),aW p 5 0 (p.2.2+5)⟩,⟨20,aW p 6 0 (p.2.2+6),aW p 7 0 (p.2.2+7)⟩] (br (ac l.f 7) [⟨10,p,aW p 1 0 (p.2.2+1)⟩,⟨16,aW p 1 0 (p.2.2+1),aW p 2 0 (p.2.2+2)⟩,⟨11,aW p 2 0 (p.2.2+2),aW p 3 0 (p.2.2+3)⟩] [ir st l p])
structure je(z:I)(b:aC)(h:I)(st:Y D)(l:Lf)(p:aw)(cb:D)(T:Y Tk)(X:ae)(P:aw)(m:I):Prop where
 a:∀{c2 t k L},YD st c2 t->t≠[]->Arr k c2 (mM c2 st) t (eI st l p c2) L->Go (k+12) z J b h ⟨X++(jD l++(sp c2++t)),P.1,P.2.1,cb⟩ (T.map aM++((o7 (cJ c2 st) (eI st l p c2)).map aM++L))
 e:∀{c2 t k L},YD st c2 t->t≠[]->qI k c2 (mM c2 st) t (eI st l p c2) L->br m (iX (k+12) z J b h ⟨X++(jD l++(sp c2++t)),P.1,P.2.1,cb⟩ (T.map aM++((o7 (cJ c2 st) (eI st l p c2)).map aM++L))) (Go (k+12) z J b h ⟨X++(jD l++(sp c2++t)),P.1,P.2.1,cb⟩ (T.map aM++(MARK::((o7 (cJ c2 st) (eI st l p c2)).map aM++L))))
 r:∀{k L},qI k 0 (mM 0 st) [0] (tQ (eI st l p 0) cg 0) L->br m (iX (k+12) z J b h ⟨X++(jD l++(cg++[0])),P.1,P.2.1,cb⟩ (T.map aM++((o7 (cJ 0 st) (tQ (eI st l p 0) cg 0)).map aM++L))) (Go (k+12) z J b h ⟨X++(jD l++(cg++[0])),P.1,P.2.1,cb⟩ (T.map aM++(MARK::((o7 (cJ 0 st) (tQ (eI st l p 0) cg 0)).map aM++L))))
def DS{k:W}:k+4<=k+12:=d9 (aO Z) k
def Qf{m:I}{A B a c:Prop}(h:br m A B)(f:A->a)(g:B->c):br m a c:=by induction m with|true=>exact f h|false=>exact g h
variable(j:LY st)
def je.lC(c:lV l)(d:s? q l∈za)(H:∀x∈cx st,aZ [AZ h q st l x.1] U J b (dv (top st) (cls l)++jD (cls l)++sp x.1++x.2.1) x.2.2 h)(a:l.e≠4)(f:p.2.2=cb+(top st+1)):je U b h st l p cb [ir st l p] (dv (top st) l) p J where
 a:=λ{c2 t k L}X _ S=>by obtain⟨la,e,m,A⟩:=X.l;exact((YF j c d (H _ m) (Ú a A) X f).1 S).le DS
 e:=λ{c2 t k L}X _ S=>by obtain⟨la,e,m,A⟩:=X.l;exact((YF j c d (H _ m) (Ú a A) X f).2 S).le DS
 r:=λ{k L}S=>by have m:_∈cx st:=db _ aat;have i:=Ú (st:=st) (c2:=0) (p:=p) (cb:=cb) (t:=cg++[0]) (e:=U) a ⟨Z,λ_=>Z⟩;exact(V1 j c d (H _ m) i f S).le DS
def je.row(c:GK l)(H:∀y,y≠[]->∃w e,aZ [AZ h q st l 0] U J b w e h/\cC w e ⟨dv (top st) l++(jD l++y),p.1,p.2.1,cb⟩)(d:p.2.2=cb+(top st+1)):je U b h st l p cb [ir st l p] (dv (top st) l) p (nC (kK q l))where
 a:=λ{c2 t k L}X n S=>by obtain⟨w,e,H,a⟩:=H _ λz=>n (t1.mp z).2;exact((YH j c H a X d).1 S).le DS
 e:=λ{c2 t k L}X n S=>by obtain⟨w,e,H,a⟩:=H _ λz=>n (t1.mp z).2;exact Qf ((YH j c H a X d).2 S) (λz=>z.le DS) λz=>z.le DS
 r:=λ{k L}S=>by obtain⟨w,e,H,a⟩:=H _ (λz=>ch z (bN _ _));exact Qf (V2 j c H a d S) (λz=>z.le DS) λz=>z.le DS
end
section
variable{n:W}{h e m:I}{t g:ae}{p:aw}{c cb:D}{st:Y D}{b:aC}
def eq3{b c i:D}(j:a=d)(k:b=f)(l:c=i):(a,b,c)=(d,f,i):=by rw[j,k,l]
def d!{b c:D}(h:b+c=d):a+b+c=a+d:=by rw[ej,h]
def LZ{b:D}(d:c=cb+(top st+1))(n:D):qc ⟨t,a,b,cb⟩ (on st n)=(a+n,b,c+n):=eq3 Z (aA _) (by rw[d];exact(ej _ _ _).symm)
def GN(a:p.2.2=cb+(top st+1))(m:I):BF (Z' st m) ⟨t,p.1,p.2.1,cb⟩=[⟨13,p,aW p 2 0 (p.2.2+2)⟩,⟨15,aW p 3 0 (p.2.2+3),aW p 5 0 (p.2.2+5)⟩]:=by(have d:p.2.2+3=cb+2+1+(top st+1):=by rw[a,d! (show _+1=3 from Z),TW]);(have f:qc ⟨t,p.1,p.2.1,cb⟩ _=p:=(LZ a 0).trans (eq3 (aA _) Z (aA _));have i:qc ⟨t,p.1,p.2.1,cb⟩ _=aW p 2 0 _:=(LZ a 2).trans (eq3 Z (aA _).symm Z);have z:p.2.1+0+0=p.2.1+0:=aA _;have a:∀t,qc ⟨t,p.1+2+1,p.2.1+0+0,cb+2+1⟩ _=aW p 3 0 _:=λt=>(LZ d 0).trans (eq3 ((aA _).trans (d! Z)) z (aA _));have j:∀t,qc ⟨t,p.1+2+1,p.2.1+0+0,cb+2+1⟩ _=aW p 5 0 _:=λt=>(LZ d 2).trans (eq3 ((d! Z).trans (d! Z)) z (d! Z));have g:∀R,R=[Tk.mk 13 (qc ⟨t,p.1,p.2.1,cb⟩ _) (qc ⟨t,p.1,p.2.1,cb⟩ (on st 2)),Tk.mk 15 (qc ⟨(t.drop 2).drop 1,p.1+2+1,p.2.1+0+0,cb+2+1⟩ _) (qc ⟨(t.drop 2).drop 1,p.1+2+1,p.2.1+0+0,cb+2+1⟩ (on st 2))]->R=[⟨13,p,aW p 2 0 _⟩,⟨15,aW p 3 0 _,aW p 5 0 _⟩]:=λR e=>by rw[e,f,i,a,j]);induction m with|true=>exact g _ Z|false=>exact g _ Z
end
section
variable{k n K:W}{h e v q m z:I}{t w x y r la X:ae}{L:af}{p:aw}{c d cb c2:D}{st:Y D}{b:aC}{l:Lf}{T:Y Tk}
inductive P1(st:Y D):I->ae->W->D->D->ae->Prop
 |nx {e:I} {c2:D} {t:ae}:YD st c2 t->t≠[]->P1 st e (sp c2++t) c2.toNat 0 c2 t
 |re:P1 st U (cg++[0]) 4 1 0 [0]
def fh(p:aw)(x:ae)(n:W)(d c2:D):aw:=(p.1+((ak x+n:W):D),p.2.1+(iA x+d),c2)
def DT(e:I)(k:W)(c:D)(st:Y D)(t:ae)(p:aw)(L:af):=br e (qI k c st t p L) (Arr k c st t p L)
def DU(c:D)(st:Y D)(P:aw):af:=(o7 (cJ c st) P).map aM
def rZ(c:D)(l:Lf):ae:=dv c l++jD l
structure jy(K:W)(z:I)(b:aC)(h:I)(st:Y D)(X:ae)(p:aw)(cb:D)(T:Y Tk)(m:I):Prop where
 go:∀{e:I}{y:ae}{n:W}{d c2:D}{t:ae}{k:W}{L:af},P1 st e y n d c2 t->DT e k c2 (mM c2 st) t (fh p X n d c2) L->
 br (br e m J) (iX (k+K) z J b h ⟨X++y,p.1,p.2.1,cb⟩ (T.map aM++(DU c2 st (fh p X n d c2)++L))) (Go (k+K) z J b h ⟨X++y,p.1,p.2.1,cb⟩ (T.map aM++br e (MARK::(DU c2 st (fh p X n d c2)++L)) (DU c2 st (fh p X n d c2)++L)))
def Qg:fh p X c2.toNat 0 c2=(p.1+((ak (X++sp c2):W):D),p.2.1+iA X,c2):=by rw[len_app,mO];exact eq3 Z (ah _ (aA _)) Z
def Qh(a:gS l=iA (rZ (top st) l)):eI st l p c2=fh p (rZ (top st) l) c2.toNat 0 c2:=by rw[Qg];unfold eI rZ;rw[a,am];rfl
def abK(a:gS l=iA (rZ (top st) l)):tQ (eI st l p 0) cg 0=fh p (rZ (top st) l) 4 1 0:=by rw[Qh a];exact eq3 ((d! (fO _ _).symm)) (d! (ah (·+1) (aA _))) Z
def je.toN(G:je z b h st l p cb T (dv (top st) l) p m)(f:gS l=iA (rZ (top st) l)):jy 12 z b h st (rZ (top st) l) p cb T m:=by refine⟨λ{e y n d c2 t k L}j A=>?_⟩;cases j with|nx g i=>(rw[<-Qh f]at A ⊢;rw[show rZ _ l++_=dv _ l++_ from am _ _ _];induction e with|false=>exact G.a g i A|true=>have a:=G.e g i A;induction m with|true=>exact a|false=>exact a)|re=>rw[<-abK f]at A ⊢;rw[show rZ _ l++_=dv _ l++_ from am _ _ _];have a:=G.r A;induction m with|true=>exact a|false=>exact a
def tU(a:st∈jE):LY st:=(gU.mp (BO 6 jE▸a)).elim (λm=>ai ahQ m) λm=>ai ahR m
def jz(q:I):q∈P8:=by cases q;exact .head _;exact .tail _ gV
def abL(f:st∈jE)(g:l∈GJ)(v:I)(i:p.2.2=cb+(top st+1)):je U (nL J v C st) J st l p cb [ir st l p] (dv (top st) l) p J:=by have a:=ai Qa g;refine ag a λa j=>ag a λa g=>ag a λa o=>?_;refine je.lC (q:=v) ((tU f)) o (P9 (ai j (jz _))) (λx j=>?_) (λe=>by rw[e]at g;exact ao g) i;rw[<-P7];exact(š f v j).1 (vj a)
def abM(f:st∈jE)(a:l∈DJ)(v:I)(g:p.2.2=cb+(top st+1)):je U (nL J v C st) J st l p cb [ir st l p] (dv (top st) l) p (nC (kK v l)):=by
 refine je.row (tU f) (ai Qd (h? _ a)) (λy i=>⟨_,_,PX f v J (.tail _ (.tail _ (h? _ (fm a)))),mN (pre_app kb ?_)⟩) g
 have E:jD l=[32,35,32,114,10]:=by
  cases a with
  |head=>rfl
  |tail _ a=>cases a with
   |head=>rfl
   |tail _ a=>cases a with
    |head=>rfl
    |tail _ a=>cases a with
     |head=>rfl
     |tail _ a=>exact nomatch a
 rw[E];exact bK Z (bK Z (bK xA Z))
def tV{e:W}(a:jp e 4):∃c r,GC e=c::r/\c∈[10,13,32,133]/\x9 c c:=by
 iterate 4 (induction e with
  |zero=>exact⟨_,_,Z,by decide,Z⟩
  |succ e _=>?_)
 exact ao a
def vk{x y:ae}(a:y≠[])(c:W)(r:ae)(w:W)(h:x9 w c)(e:x=c::r):dz [w,anyS] (x++y):=by
 rw[e]
 induction r with
 |cons b r _=>exact bK h (bK xA Z)
 |nil=>induction y with
  |nil=>exact ch Z a
  |cons b y _=>exact bK h (bK xA Z)
def abN(a:st∈jE){f e:W}(i:f=3∨f=4∨f=5)(g:jp e 4)(v:I)(s:p.2.2=cb+(top st+1)):je U (nL J v C st) J st ⟨f,e,1,0⟩ p cb [ir st ⟨f,e,1,0⟩ p] (dv (top st) ⟨f,e,1,0⟩) p (nC (kK v ⟨f,e,1,0⟩)):=by
 have u:∀{f:W},(f=3∨f=4∨f=5)->GK ⟨f,e,1,0⟩:=λ{f}h=>by
  iterate 4 (induction e with
   |zero=>exact h.elim (λh=>by rw[h];rfl) λh=>h.elim (λh=>by rw[h];rfl) λh=>by rw[h];rfl
   |succ e _=>?_)
  exact ao g
 obtain⟨c,r,E,j,o⟩:=tV g;refine je.row (tU a) (u i) (λy f=>?_) s;refine i.elim (λh=>?_) λh=>h.elim (λh=>?_) λh=>?_
 ·rw[h];exact⟨_,_,(PX (l:=⟨3,0,1,0⟩) (la:=[c,anyS]) a v J (.tail _ (.tail _ (db _ (h? _ (fm j))))):),mN (pre_app (kb) (vk f c r c o E))⟩
 ·rw[h];exact⟨_,_,(PX (l:=⟨4,0,1,0⟩) (la:=ē) a v J gV:),mN (pre_app (kb) (vk f c r anyS Z E))⟩
 ·rw[h];exact⟨_,_,(PX (l:=⟨5,0,1,0⟩) (la:=[c,anyS]) a v J (.tail _ (.tail _ (db _ (db _ (fm j))))):),mN (pre_app (kb) (vk f c r c o E))⟩
end
section
variable{k n K:W}{h al q m z:I}{t w x y r la g X:ae}{L:af}{p:aw}{c d cb c2:D}{st:Y D}{b:aC}{l:Lf}{ky:N D}{T:Y Tk}
def ĩ{P:W->Prop}(o:jp e 4)(a:P 0)(f:P 1)(i:P 2)(j:P 3):P e:=by
 induction e with
 |zero=>exact a
 |succ e=>induction e with
  |zero=>exact f
  |succ e=>induction e with
   |zero=>exact i
   |succ e=>induction e with
    |zero=>exact j
    |succ e _=>exact ao o
def jK(al:I)(e:W):I:=br al (ac e 2) J
def abO(a:st∈jE){e:W}(i:jp e 4)(al:I)(j:p.2.2=cb+(top st+1)):je U (Ñ al J st) al st ⟨10,e,1,0⟩ p cb [ir st ⟨10,e,1,0⟩ p] [106] p (jK al e):=by(have E:∀{e:W},e≠4->lV ⟨10,e,1,0⟩->cls ⟨10,e,1,0⟩∈Wl->s? _ ⟨10,e,1,0⟩∈za->je U _ al st ⟨10,e,1,0⟩ p cb [ir st ⟨10,e,1,0⟩ p] [106] p J:=λ{e}o i s u=>je.lC (tU a) i u (λx u=>by rw[<-P7];exact(š a al u).2 s) o j;have f:jK al 0=J/\jK al 1=J/\jK al 3=J/\jK al 2=nC (kK (br al U J) ⟨10,2,1,0⟩):=by cases al<;>exact⟨Z,Z,Z,Z⟩);refine ĩ (P:=λe=>je U _ al st ⟨10,e,1,0⟩ p cb [ir st ⟨10,e,1,0⟩ p] [106] p _) i ?_ ?_ ?_ ?_;rw[f.1];exact E (aO Z) Z gV (by cases al;exact .head _;exact .tail _ gV);rw[f.2];exact E (aO Z) Z aat (by cases al;exact .head _;exact .tail _ gV);rw[f.4];refine je.row (tU a) (by rfl) (λy e=>⟨_,_,(PX (l:=⟨10,2,1,0⟩) (la:=W2) a al U aat:),mN ?_⟩) j;exact pre_app (kb) (bK Z (bK Z (bK xA Z)));rw[f.3];exact E (aO Z) Z gV (by cases al;exact .head _;exact .tail _ gV)
def jy.le(e:jy K z b h st X p cb T m)(q:K<=a):jy a z b h st X p cb T m where
 go:=λa A=>Qf (e.go a A) (λG=>G.le (d9 q _)) λG=>G.le (d9 q _)
def jy.pre{l:Y Sp}{w:ae}{s:Y Tk}{i:aC}{j:I}(a':jy K z i j st X ((aW p e 0 c')) o T m)(H:aZ l U J b w J h)(hw:∀y,y≠[]->dz w (a++(X++y)))
 (v:DE l U=z)(A:DF l J=J)(B:DG l b=i)(E:yr l h=j)(en:A8 l=e)(F:YC l=0)(u:ak a=e)(V:iA a=0)(G:t4 l cb=o)(M:∀t,BF l ⟨t,p.1,p.2.1,cb⟩=s)(hd:m->VM l):
  jy (K+l.length) U b h st (a++X) p cb (s++T) m:=by
 refine⟨λ{P y n d c2 t k L}Q d'=>?_⟩
 have hy:y≠[]:=by
  induction Q with
  |nx _ hn=>exact λz=>hn (t1.mp z).2
  |re=>exact bN _ _
 have i:fh (aW p e 0 c') X n d c2=fh p (a++X) n d c2:=by
  refine eq3 ?_ ?_ Z
  ·show p.1+_+_=_
   rw[d! (fO _ _).symm,len_app,u,fJ]
  ·show p.2.1+0+_=p.2.1+(((mP _))+d)
   have:mP a=0:=w' V;rw[aA,bA,this,hH];rfl
 have f:=a'.go Q (i▸d');rw[i]at f;have R:cC w J ⟨a++_,p.1,p.2.1,cb⟩:=mN (hw y hy);have S:(a++_).drop e=X++y:=u▸gp;rw[am,l9,am,am,<-fJ];cases q:br P m J with
 |true=>
  rw[q]at f
  have hm:=by
   induction P with
   |true=>exact q
   |false=>exact ao q
  exact j9 (hd hm) H R v A B E en F S G (M _) f
 |false=> rw[q]at f;exact fV H R v A B E en F S G (M _) f
def abP(f:LY st)(i:ky∈s_){e:W}(v:jp e 4):jy 3 J (nK U ky st) U st (GC e) p cb [] (nC ky):=by obtain⟨j,o,s,u⟩:=Qe v;refine⟨λ{B y n d c2 t k L}E A=>?_⟩;cases E with|nx F H=>(have G:=Qb (p:=p) f i j o s u F cb;rw[show Jh p _ c2=fh p _ c2.toNat 0 c2 from Qg.symm]at G;induction B with|false=>exact G.1 A|true=>have a:=G.2 A;cases q:nC ky with|true=>rw[q]at a;exact a|false=>rw[q]at a;exact a)|re=>(have E:Jh p (GC e++cg) 0=fh p (GC e) 4 1 0:=by refine eq3 ?_ ?_ Z;rw[len_app,len_app];rfl;show p.2.1+((mP _))=_;rw[bA];rfl);have a:=Qc (cb:=cb) f i j o s u (E▸A);rw[E]at a;cases q:nC ky with|true=>rw[q]at a;exact a|false=>rw[q]at a;exact a
theorem abQ(f:st∈jE){e:W}(a:jp e 4)(al:I)(j:p.2.2=cb+(top st+1)):jy 18 U (nL J al C st) J st (rZ (top st) ⟨6,e,1,0⟩) p cb (iY st ⟨6,e,1,0⟩ p) (jK al e):=by(have s:p.2.2+6=cb+2+1+2+1+(top st+1):=by lia);have i:=(abO f a al (p:=aW p 6 0 _) s).toN (by exact ĩ (P:=λe=>gS ⟨10,e,1,0⟩=iA (rZ _ ⟨10,e,1,0⟩)) a Z Z Z Z);(have s:ir st ⟨10,e,1,0⟩ (aW p 6 0 (p.2.2+6))=⟨20,aW p 6 0 (p.2.2+6),aW p 7 0 (p.2.2+7)⟩:=by refine ah _ (eq3 (d! Z) (aA _) ?_);show p.2.2+6+(top st+1+1-_)=p.2.2+7;rw[show top st+1+1-_=1 by rw[nO _];exact wS 1 _,d! (show _+1=7 from Z)]);rw[s]at i;(have o:∀y:ae,y≠[]->dz [38,120,32,33,116,32,106,anyS] ([38,120,32,33,116,32]++(rZ (top st) ⟨10,e,1,0⟩++y)):=λy _=>by obtain⟨c,r,E,_,_⟩:=tV a;refine bK Z (bK Z (bK Z (bK Z (bK Z (bK Z (bK Z ?_))))));show dz [anyS] (GC e++y)=U;rw[E];rfl);induction al with|true=>exact(jy.pre i (bO (vh f U)).1 o Z Z Z Z Z Z Z Z Z (λt=>GN j U) (λ_=>Z)).le (cw Z)|false=>exact jy.pre i (bO (vh f J)).1 o Z Z Z Z Z Z Z Z Z (λt=>GN j J) (λq=>ao q)
theorem GO(a:p.2.2=cb+(top st+1))(al:I):BF (Z_ st al) ⟨t,p.1,p.2.1,cb⟩=[⟨10,p,aW p 1 0 (p.2.2+1)⟩,⟨16,aW p 1 0 (p.2.2+1),aW p 2 0 (p.2.2+2)⟩,⟨11,aW p 2 0 (p.2.2+2),aW p 3 0 (p.2.2+3)⟩]:=by(have e:p.2.2+1=cb+1+(top st+1):=by lia);(have f:p.2.2+2=cb+1+1+(top st+1):=by lia);(have z:p.2.1+0=p.2.1:=aA _;have i:∀t,qc ⟨t,p.1,p.2.1,cb⟩ _=p:=λt=>(LZ a 0).trans (eq3 (aA _) Z (aA _));have j:∀t,qc ⟨t,p.1,p.2.1,cb⟩ _=aW p 1 0 _:=λt=>(LZ a 1).trans (eq3 Z z.symm Z);have o:∀t,qc ⟨t,p.1+1,p.2.1+0,cb+1⟩ _=aW p 1 0 _:=λt=>(LZ e 0).trans (eq3 (aA _) Z (aA _));have s:∀t,qc ⟨t,p.1+1,p.2.1+0,cb+1⟩ _=aW p 2 0 _:=λt=>(LZ e 1).trans (eq3 (d! Z) Z (d! Z));have u:∀t,qc ⟨t,p.1+1+1,p.2.1+0+0,cb+1+1⟩ _=aW p 2 0 _:=λt=>(LZ f 0).trans (eq3 ((aA _).trans (d! Z)) (aA _) (aA _));have v:∀t,qc ⟨t,p.1+1+1,p.2.1+0+0,cb+1+1⟩ _=aW p 3 0 _:=λt=>(LZ f 1).trans (eq3 ((d! Z).trans (d! Z)) (aA _) (d! Z));have g:∀R a e,R=[Tk.mk 10 (qc ⟨t,p.1,p.2.1,cb⟩ _) (qc ⟨t,p.1,p.2.1,cb⟩ (on st 1)),Tk.mk 16 (qc ⟨a,p.1+1,p.2.1+0,cb+1⟩ _) (qc ⟨a,p.1+1,p.2.1+0,cb+1⟩ (on st 1)),Tk.mk 11 (qc ⟨e,p.1+1+1,p.2.1+0+0,cb+1+1⟩ _) (qc ⟨e,p.1+1+1,p.2.1+0+0,cb+1+1⟩ (on st 1))]->R=[⟨10,p,aW p 1 0 _⟩,⟨16,aW p 1 0 _,aW p 2 0 _⟩,⟨11,aW p 2 0 _,aW p 3 0 _⟩]:=λR a e e=>by rw[e,i,j,o,s,u,v]);induction al with|true=>exact g _ _ _ Z|false=>exact g _ _ _ Z
def afN(al:I):k0 al∈s_:=by cases al;exact .head _;exact .tail _ gV
def abR(a:st∈jE){e:W}(f:jp e 4)(al:I)(i:p.2.2=cb+(top st+1)):jy 10 U (nL J al C st) J st (rZ (top st) ⟨7,e,1,0⟩) p cb (iY st ⟨7,e,1,0⟩ p) (nC (k0 al)):=by(have j:∀y:ae,y≠[]->dz [91,107,93,anyS,anyS] ([91,107,93]++(GC e++y)):=λy e=>by obtain⟨c,r,E,_,_⟩:=tV f;exact bK Z (bK Z (bK Z (vk e c r anyS Z E))));have E:∀{c' e},jy 3 J _ U st _ (aW p 3 0 c') e [] _:=λ{c' e}=>abP (tU a) (afN al) f;induction al with|true=>exact(jy.pre (c':=0) E (bO (vh a U)).2 j Z Z Z Z Z Z Z Z Z (λt=>GO i U) (λ_=>Z)).le (cw Z)|false=>exact(jy.pre (c':=0) E (bO (vh a J)).2 j Z Z Z Z Z Z Z Z Z (λt=>GO i J) (λq=>ao q)).le (cw Z)
end
def ŝ:Y Lf:=[⟨6,0,1,0⟩,⟨6,1,1,0⟩,⟨6,2,1,0⟩,⟨6,3,1,0⟩]
def Ŝ:Y Lf:=[⟨7,0,1,0⟩,⟨7,1,1,0⟩,⟨7,2,1,0⟩,⟨7,3,1,0⟩]
def Lq:Y Lf:=GJ++(DJ++(DO++(ŝ++Ŝ)))
def mL(a:I)(l:Lf):I:=br a (br (ac l.f 6) (ac l.e 2) (br (ac l.f 7) U (br (lV l) J (a? (rows l=0))))) J
def ah0(l:Lf):I:=aI (λa=>(mL a l)==(nC (kK a l))) P8&&a? (gS l=iA (rZ 0 l))
def ah1(l:Lf):I:=aI (λa=>(mL a l)==J) P8&&a? (gS l=iA (rZ 0 l))
def afQ(l:Lf):I:=br (ac l.f 3) U (br (ac l.f 4) U (ac l.f 5))&&jp l.e 4&&ac l.p 1&&ac l.z 0
def afR(l:Lf):I:=!(br (ac l.f 6) U (ac l.f 7))
section
variable{n:W}{e h r q m z:I}{p:aw}{c d cb:D}{st:Y D}{b:aC}{l:Lf}
def Qi:aI ah0 (DJ++DO)=U:=by kernel_rfl
def Lr:aI afQ DO=U:=by kernel_rfl
def Ls:aI afR (GJ++(DJ++DO))=U:=by kernel_rfl
def Qj:aI ah1 GJ=U:=by kernel_rfl
def Qk(h:gS l=iA (rZ 0 l))(c:D):gS l=iA (rZ c l):=by rw[h];show((mP _):D)=(mP _);refine ah (λn:W=>_) ?_;obtain⟨f,e,a,z⟩:=l;unfold rZ;rw[bA,bA];refine ah (·+_) ?_;(induction f using VQ<;>first|rfl|skip);show mP ([100,10]++sp _++[101])=mP ([100,10]++sp _++[101]);rw[bA,bA,ke,bA,bA,ke];show mP ([124,10]++sp _++[108,10]++rep [10] z)=mP ([124,10]++sp _++[108,10]++rep [10] z);rw[bA,bA,bA,ke,bA,bA,bA,ke];show mP ([62,45,10]++sp _++[109,10]++sp _++[110,10])=mP ([62,45,10]++sp _++[109,10]++sp _++[110,10]);rw[bA,bA,bA,bA,ke,bA,bA,bA,bA,ke]
def afS{l:Lf}(h:l∈DO):∃f e,l=⟨f,e,1,0⟩/\(f=3∨f=4∨f=5)/\jp e 4:=by refine ag (ai Lr h) λa g=>ag a λa i=>ag a λj k=>?_;obtain⟨f,e,o,z⟩:=l;refine⟨f,e,?_,ny j (λh _=>.inl (aK h)) λ_ h=>.inr (ny h (λh _=>.inl (aK h)) λ_ h=>.inr (aK h)),k⟩;rw[show o=1 from aK i,show z=0 from aK g]
def ú{l:Lf}(h:l∈[(⟨f,0,1,0⟩:Lf),⟨f,1,1,0⟩,⟨f,2,1,0⟩,⟨f,3,1,0⟩]):∃e,l=⟨f,e,1,0⟩/\jp e 4:=(c?.mp h).elim (λq=>⟨0,q,Z⟩) λh=>(c?.mp h).elim (λq=>⟨1,q,Z⟩) λh=>(c?.mp h).elim (λq=>⟨2,q,Z⟩) λh=>⟨3,eC.mp h,Z⟩
def Lu{l:Lf}{M:Prop}(h:l∈Lq)(a:l∈GJ->M)(b:l∈DJ->M)(c:l∈DO->M)(d:l∈ŝ->M)(e:l∈Ŝ->M):M:=(gU.mp h).elim a λh=>(gU.mp h).elim b λh=>(gU.mp h).elim c λh=>(gU.mp h).elim d e
def Bb(h:(br (ac l.f 6) U (ac l.f 7))=J):iY st l p=[ir st l p]:=by unfold iY;cases a:ac l.f 6 with|true=>rw[a]at h;exact ao h.symm|false=> rw[a]at h;rw[show ac l.f 7=J from h];rfl
def Ql(a:st∈jE)(o:l∈Lq)(r:I)(f:p.2.2=cb+(top st+1)):jy 18 U (nL J r C st) J st (rZ (top st) l) p cb (iY st l p) (mL r l):=by have i:∀{l:Lf},l∈GJ++_->_=J:=λ{l}m=>(im _).mp (ai Ls m);have k:∀{l:Lf},l∈DJ++DO->mL r l=nC _/\gS l=iA (rZ (top st) l):=λ{l}m=>ag (ai Qi m) λj b=>⟨fZ.mp (ai j (jz r)),Qk (aO b) _⟩;refine Lu o (λh=>?_) (λh=>?_) (λh=>?_) (λh=>?_) λh=>?_;refine ag (ai Qj h) λj b=>?_;rw[Bb (i (h? _ h)),show mL r l=J from fZ.mp (ai j (jz r))];exact((abL a h r f).toN (Qk (aO b) _)).le (cw Z);have R:=k (h? _ h);rw[Bb (i (db _ (h? _ h))),R.1];exact((abM a h r f).toN R.2).le (cw Z);have R:=k (db _ h);rw[Bb (i (db _ (db _ h))),R.1];obtain⟨i,e,q,i,g⟩:=afS h;rw[q]at R ⊢;exact((abN a i g r f).toN R.2).le (cw Z);obtain⟨e,q,g⟩:=ú h;rw[q];exact abQ a g r f;obtain⟨e,q,g⟩:=ú h;rw[q,show mL r ⟨7,e,1,0⟩=nC (k0 r) by generalize r=u;cases u<;>rfl];exact(abR a g r f).le (cw Z)
end
section
variable{k n:W}{e h q z tr:I}{t w x y r la:ae}{c d c2:D}{s:Y D}{b:aC}{l:Lf}
def u!(t:ae):=(∃x,t=45::x/\GG x)∨∃x,t=107::58::x/\GH x
def J0(tr:I)(s:Y D)(c2:D):I:=br (a? (c2=0)) U (tr&&a? (s.length=1)&&br (a? (c2=1)) (a? (1<top s)) (a? (c2=2)&&a? (2<top s)))
inductive Nk(tr:I)(s:Y D):I->ae->W->D->D->ae->Prop
 |sg {c2:D} {t:ae}:c2∈s->u! t->Nk tr s J (sp c2++t) c2.toNat 0 c2 t
 |dt:Nk tr s J [46,46,46,10,0] 0 0 0 [46,46,46,10,0]
 |en {c2:D}:J0 tr s c2->Nk tr s U (sp c2++[0]) c2.toNat 0 c2 [0]
 |re:Nk tr s U (cg++[0]) 4 1 0 [0]
def kx.self(h:small t):kx t U t:=⟨by have:=pre_app (w:=[]) (r:=[]) h Z;rwa [eq]at this,λ_=>Z⟩
def r7(h:dz la t):kx la J t:=⟨h,ao⟩
def Ji{x:Ctx}(a:c2∈s)(h:x∈z_ c2):x∈cx s:=h? _ (AC.mpr ⟨_,eO.mpr ⟨c2,a,Z⟩,h⟩)
def DV{M:Prop}(h:x9 2097156 a)(f:a=32->M)(g:a=10->M):M:=by(have e:x9 2097156 a=br (ac 32 a) U (br (ac 10 a) U J):=by kernel_rfl);rw[e]at h;exact ny h (λh _=>f (aK h).symm) λ_ h=>cp h λh _=>g (aK h).symm
def afT(a:c2∈s)(h:u! t):YD s c2 t:=by
 have G:dz [2097154,anyS] t->∃la e,(c2,la,e)∈gx s/\kx la e t:=λh=>⟨_,_,h? _ (eO.mpr ⟨c2,a,Z⟩),r7 h⟩
 have g:dz [2097154,2097155,anyS,anyS] t->∃la e,(c2,la,e)∈cx s/\kx la e t:=λh=>by
  cases q:a? (c2=0)with
  |true=> have q:=aO q;rw[q]at a ⊢;exact⟨_,_,Ji a gV,r7 h⟩
  |false=>
   refine⟨_,_,Ji a (x:=(c2,[2097154,anyS,anyS],J)) ?_,r7 ?_⟩
   ·unfold z_
    rw[q];exact .head _
   ·exact Gl h λb r e h=>cp h λj h=>Gl h λm m m h=>cp h λ_ h=>Gl h λo o o h=>by rw[e,m,o];exact bK j (bK xA (bK xA Z))
 refine h.elim (λh=>?_) λh=>?_
 ·obtain⟨x,e,f⟩:=h
  refine f.elim (λf=>?_) λf=>?_
  ·rw[f]at e
   rw[e]at G ⊢;refine⟨?_,G Z⟩;cases q:a? (c2=0)with
   |true=> have q:=aO q;rw[q]at a ⊢;exact⟨_,_,Ji a aat,kx.self Z⟩
   |false=> refine⟨_,_,Ji a (x:=(c2,[2097154,anyS,anyS],J)) ?_,r7 Z⟩;unfold z_;rw[q];exact .head _
  ·obtain⟨p,b,c,r,q,i⟩:=f
   rw[e,q]at G g ⊢;exact⟨g (DV i (λh=>by rw[h];rfl) λh=>by rw[h];rfl),G Z⟩
 ·obtain⟨x,e,p,b,r,q,i⟩:=h
  rw[e,q]at G g ⊢;exact⟨g Z,G Z⟩
def DW{M:Prop}(h:J0 tr s c2)(a:c2=0->M)(f:c2=1->a? (s.length=1)->a? (1<top s)->M)(g:c2=2->a? (s.length=1)->a? (2<top s)->M):M:=by refine ny h (λh _=>a (aO h)) λ_ h=>ag h λh k=>ag h λ_ h=>ny k (λk a=>f (aO k) h a) λ_ k=>ag k λk a=>g (aO k) h a
def afU(h:J0 tr s c2):YD s c2 [0]:=by have M:∀{x},x∈z! s->x∈cx s:=λh=>db _ h;(have g:∀{A:Ctx},a? _->A∈br _ [_] []++br _ [_] []->A∈cx s/\A∈gx s:=λ{A}l h=>by refine⟨M ?_,db _ ?_⟩;unfold z!;rw[l];exact .tail _ (.tail _ (.tail _ h));rw[l];exact .tail _ (.tail _ h));have a:kx [0] U [0]:=⟨Z,λ_=>Z⟩;refine DW h (λq=>?_) (λq l k=>?_) λq l k=>?_;rw[q];exact⟨⟨_,_,M aau,a⟩,_,_,db _ aat,a⟩;rw[q];have f:=g l (h? _ (by rw[k];exact .head _));exact⟨⟨_,_,f.1,a⟩,_,_,f.2,a⟩;rw[q];have f:=g l (db _ (by rw[k];exact .head _));exact⟨⟨_,_,f.1,a⟩,_,_,f.2,a⟩
def u!.ne(h:u! t):t≠[]:=h.elim (λh=>by obtain⟨x,e,_⟩:=h;rw[e];exact bN _ _) λh=>by obtain⟨x,e,_⟩:=h;rw[e];exact bN _ _
def Nk.nx{y:ae}(f:Nk tr s e y n d c2 t):P1 s e y n d c2 t:=by induction f with|sg g a=>exact .nx (afT g a) a.ne|dt=>exact .nx ⟨⟨_,_,db _ gV,kx.self Z⟩,⟨_,_,db _ gV,r7 Z⟩⟩ (bN _ _)|en h=>exact .nx (afU h) (bN _ _)|re=>exact .re
def Nk.two{y:ae}(i:Nk tr s e y n d c2 t):y=[0]∨∃a b r,y=a::b::r:=by
 have S:∀{t:ae}{c:D},t≠[]->sp c++t=[0]∨(∃a b r,sp c++t=a::b::r)∨t=sp c++t:=λ{t c}h=>by
  unfold sp;cases c.toNat with
  |zero=>exact .inr (.inr Z)
  |succ n=>
   refine .inr (.inl ?_)
   induction n with
   |zero=>induction t with
    |nil=>exact ch Z h
    |cons a t _=>exact⟨_,_,_,Z⟩
   |succ n _=>exact⟨_,_,_,Z⟩
 have j:∀{t:ae},u! t->∃a b r,t=a::b::r:=λ{t}h=>h.elim (λh=>by
  obtain⟨x,e,f⟩:=h;rw[e];refine f.elim (λf=>?_) λf=>?_
  ·rw[f];exact⟨_,_,_,Z⟩
  ·obtain⟨a,b,c,r,q,_⟩:=f
   rw[q];exact⟨_,_,_,Z⟩) λh=>by obtain⟨x,e,_⟩:=h;rw[e];exact⟨_,_,_,Z⟩
 induction i with
 |sg m g=>exact(S g.ne).elim .inl λz=>z.elim .inr λz=>z▸.inr (j g)
 |dt=>exact .inr ⟨_,_,_,Z⟩
 |en h=>exact(S (bN _ _)).elim .inl λz=>z.elim .inr λz=>z▸.inl Z
 |re=>exact .inr ⟨_,_,_,Z⟩
def Nk.ne{y:ae}(a:Nk tr s e y n d c2 t):y≠[]:=a.two.elim (λh=>by rw[h];exact bN _ _) λh=>by obtain⟨_,_,_,h⟩:=h;rw[h];exact bN _ _
end
def nX(v h:I)(s:Y D):aC:=br v (nV h s) (nD h s)
def wX(v:I):D:=br v 2 1
def gT(c:D)(g:W):ae:=br (ac g 0) [32] (10::sp (c+g))
def gC(v:I)(c:D)(g:W):D:=br (ac g 0) (c+wX v+1) (c+g)
def G_(v:I)(g:W):I:=br v (bd 1 g) U
def y_(e m:I)(T:af):af:=br e (br m (MARK::T) (T++[MARK])) T
def qf(p:aw)(x:ae)(c:D):aw:=(p.1+(ak x:W),p.2.1+iA x,c)
def V3(v:I)(s:Y D)(g:W)(p:aw):aw:=qf p (gT (top s) g) (gC v (top s) g)
def EV(v:I)(s:Y D)(g:W)(l:Lf)(e:I)(p a:aw):af:=y_ e (mL (G_ v g) l) ((iY s l (V3 v s g p)).map aM)
def U!(e:I)(a b:aw):af:=br e [MARK] []
def stP(a:Y D):I:=a? (0<=top a)
def Ē(l:Lf):I:=jp l.f 10
section
variable{k n K g:W}{e h q m z v tr:I}{t w x y r la X:ae}{L:af}{p P:aw}{c d cb c2:D}{s:Y D}{b:aC}{l:Lf}
def V4:aI stP jE=U:=by kernel_rfl
def V5:aI Ē Lq=U:=by kernel_rfl
def kg(a:s∈jE):0<=top s:=aO (ai V4 a)
def DX(h:Ē l):∃a r,dv c l=a::r/\x9 2097157 a:=by obtain⟨f,e,i,z⟩:=l;revert h;induction f using VQ<;>first|exact λ_=>⟨_,_,Z,Z⟩|exact ao
structure gN(tr v:I)(s:Y D)(K:W)(x:ae)(tk:I->aw->aw->af):Prop where
 go:∀{e:I}{y:ae}{n:W}{d c2:D}{t:ae}{k:W}{L:af}{p:aw},Nk tr s e y n d c2 t->p.2.2=top s+wX v->DT e k c2 (mM c2 s) t (fh p x n d c2) L->∀cb,Go (k+K) J J (nX v J s) J ⟨x++y,p.1,p.2.1,cb⟩ (tk e p (fh p x n d c2)++(DU c2 s (fh p x n d c2)++L))
 L1:∃a r,x=a::r/\x9 2097156 a/\(r≠[]∨a=10)
def gN.fd{A:I->aw->aw->af}(E:gN tr v s K x A)(j:y=[0]∨∃i b r,y=i::b::r):GG (x++y):=by(obtain⟨i,r,q,a,h⟩:=E.L1;rw[q];have o:∃b f,y=b::f:=j.elim (λh=>⟨_,_,h⟩) λh=>by obtain⟨_,_,_,h⟩:=h;exact⟨_,_,h⟩);refine h.elim (λh=>?_) λB=>?_;(cases r with|nil=>exact ch Z h|cons b r=>obtain⟨F,f,e⟩:=o;rw[e];generalize r=u;cases u with|nil=>exact .inr ⟨_,_,_,_,Z,a⟩|cons _ r=>exact .inr ⟨_,_,_,_,Z,a⟩);generalize r=u;cases u with|nil=>refine j.elim (λe=>.inl (by rw[e,B];rfl)) λe=>by obtain⟨_,_,_,e⟩:=e;rw[e];exact .inr ⟨_,_,_,_,Z,a⟩|cons b r=>obtain⟨F,f,e⟩:=o;rw[e];cases r with|nil=>exact .inr ⟨_,_,_,_,Z,a⟩|cons _ r=>exact .inr ⟨_,_,_,_,Z,a⟩
def gN.fv{f:I->aw->aw->af}(E:gN tr v s K x f)(i:y≠[]):GH (x++y):=by
 obtain⟨f,r,q,a,h⟩:=E.L1;rw[q];generalize r=u;cases u with
 |cons b r=>exact⟨_,_,_,Z,a⟩
 |nil=>cases y with
  |nil=>exact ch Z i
  |cons b y=>exact⟨_,_,_,Z,a⟩
def Bc(a:s∈jE)(v:I):(∀g∈[[32],[10]++sp (top s+1),[10]++sp (top s+2)],M? v s g 2097157=U)/\(∀x∈gx s,YA v s x=U)/\Ð v s:=ag (ai (ai VS a) (by cases v;exact .head _;exact .tail _ gV)) λA c=>ag A λa b=>⟨λg h=>ai a h,λx h=>ai b h,c⟩
structure ś(v:I)(c:D)(g:W):Prop where
 a:br (ac (ak (gT c g)) 1) (c+wX v+1) (AY (gT c g)-1)=gC v c g
 b:br v (bd 2 (ak (gT c g))) U=G_ v g
 i:gT c g∈[[32],[10]++sp (c+1),[10]++sp (c+2)]
 s:small (gT c g)=U
def ah2(a:0<=c)(j:g=0∨g=1∨g=2):ś v c g:=by(have F:∀{n:W},n=1∨n=2->_∈[[32],[10]++sp _,[10]++sp _]->ś v c n:=λ{n}f A=>by(have z:ac n 0=J:=f.elim (λh=>by rw[h];rfl) λh=>by rw[h];rfl);(have o:bd 1 n:=f.elim (λh=>by rw[h];rfl) λh=>by rw[h];rfl);(have E:gT c n=10::sp (c+n):=by unfold gT;rw[z];rfl);(have l:ak (gT c n)=(c+n).toNat+1:=by rw[E];exact ah pm mO);have B:=cw o;have f:=yI (qU a (eM n));have i:=ju.mp (f.symm▸gM (ju.mpr B) (gg a));refine⟨?_,?_,by rw[E];exact A,by rw[E];exact gr⟩;unfold gC AY;rw[l,z,show ac _ 1=J from d8.mpr λq=>ch (Nat.succ.inj (aK q)) (ed i),fO,f];exact wS _ _;rw[l,show bd 2 _ from g8 (eN i)];unfold G_;rw[o]);refine j.elim (λh=>?_) λh=>h.elim (λh=>?_) λh=>?_;rw[h];exact⟨Z,by generalize v=u;cases u<;>rfl,.head _,Z⟩;rw[h];exact F (.inl Z) aat;rw[h];exact F (.inr Z) aau
def Jj:fh (qf p x c) X n d c2=fh p (x++X) n d c2:=by refine eq3 ?_ ?_ Z;show p.1+_+_=_;rw[d! (fO _ _).symm,len_app,fJ];show p.2.1+iA x+_=p.2.1+(((mP _))+d);rw[bA,ej,<-ej (iA x)];rfl
def YI{dc:D}(H:aZ [⟨0,a,zw (ak x) (iA x) J 0 U dc,[]⟩] J J f w e J)(i:cC w e ⟨x++y,p.1,p.2.1,cb⟩)(S:Go k U J a J ⟨y,(qf p x c).1,(qf p x c).2.1,0+dc⟩ L):Go (k+1) J J f J ⟨x++y,p.1,p.2.1,cb⟩ L:=fV H i Z Z Z Z Z (aA _) gp Z Z S
def abS(a:s∈jE)(i:l∈Lq)(j:g=0∨g=1∨g=2):gN tr v s 19 (gT (top s) g++rZ (top s) l) (EV v s g l):=by
 have F:=ah2 (v:=v) (kg a) j;obtain⟨B,r,E,f⟩:=DX (ai V5 i);refine⟨λ{e y n d c2 t k L p}o B A cb=>?_,?_⟩
 ·have B:E5 (top s+wX v) (br v (bd 2 (ak (gT (top s) g))) U) (gT (top s) g) s=⟨0,nL J (G_ v g) C s,zw (ak (gT (top s) g)) (iA (gT (top s) g)) J 0 U (gC v (top s) g-(top s+1)),[]⟩:=by rw[F.b,<-F.a];rfl
  have H:aZ [E5 (top s+wX v) _ _ s] J J _ _ J J:=show M? v s _ 2097157 from(Bc a v).1 _ F.i;rw[B]at H
  have M:cC (gT _ g++[2097157,anyS]) J ⟨gT _ g++(rZ (top s) l++y),p.1,p.2.1,cb⟩:=mN (pre_app F.s (by
   show dz _ (dv _ l++jD l++y)=U;rw[E];have Q:=o.ne;generalize r=u;cases u with
   |cons b r=>exact bK f (bK xA Z)
   |nil=>cases jD l with
    |cons b r=>exact bK f (bK xA Z)
    |nil=>cases y with
     |nil=>exact ch Z Q
     |cons b r=>exact bK f (bK xA Z)))
  have G:=(Ql (p:=V3 v s g p) (cb:=0+_) a i (G_ v g) (by
   show gC v _ g=_;rw[iO,qr])).go o.nx (by
   rw[show fh (V3 v s g p) _ n d c2=_ from Jj];exact A)
  rw[show fh (V3 v s g p) _ n d c2=_ from Jj]at G;rw[am];have K:∀{a},Go (k+18) U J _ J ⟨rZ _ l++y,(V3 v s g p).1,(V3 v s g p).2.1,0+_⟩ a->Go _ J J _ J ⟨gT _ g++_,p.1,p.2.1,cb⟩ a:=λ{a}G=>YI H M G;unfold EV y_;cases e with
  |false=>exact K G
  |true=>
   cases a:mL _ l with
   |true=>rw[a]at G;exact K (iX.go G)
   |false=> rw[a]at G;show Go _ _ _ _ _ _ (((iY s l _).map aM++[MARK])++_);rw[am];exact K G
 ·refine j.elim (λh=>?_) λh=>h.elim (λh=>?_) λh=>?_
  ·rw[h];exact⟨32,_,Z,Z,.inl (by unfold rZ;rw[E];exact bN _ _)⟩
  ·rw[h];exact⟨10,_,Z,Z,.inr Z⟩
  ·rw[h];exact⟨10,_,Z,Z,.inr Z⟩
def abT(j:s∈jE):gN tr v s 19 [10] U!:=by have i:=Bc j v;refine⟨λ{e y n d c2 t k L p}a j A cb=>?_,⟨10,_,Z,Z,.inr Z⟩⟩;have a:=a.nx;cases a with|nx o u=>(obtain⟨la,a,m,j⟩:=o.g;have H:=show YA v s _ from i.2 _ m;have f:cC ([10]++sp c2++la) a ⟨_++t,p.1,p.2.1,cb⟩:=kx.yo (j.app gr);(have P:tQ p ([10]++sp c2) c2=fh p [10] c2.toNat 0 c2:=by rw[Qg];show(_,p.2.1+iA _,_)=_;rw[A9]);cases e with|false=> have a:=(xB H f (by rw[P];exact A)).le (k':=k+19) (d9 (aO Z) k);rw[P]at a;exact a|true=> have a:=((o8 H f (by rw[P];exact A)).go).le (k':=k+19) (d9 (aO Z) k);rw[P]at a;exact a)|re=> have H:=show Ð v s from i.3;have f:cC ([10]++cg++[0]) U ⟨_++[0],p.1,p.2.1,cb⟩:=kx.yo (kx.self Z);have P:tQ p ([10]++cg) 0=fh p [10] 4 1 0:=Z;have a:=((o8 H f (by rw[P];exact A)).go).le (k':=k+19) (d9 (aO Z) k);rw[P]at a;exact a
end
structure gP where
 x:ae
 tk:I->aw->aw->af
 ev:aw->aw->af
def sgn(v:I):ae:=br v [107,58] [45]
def Qm(v:I)(c:D)(a:Y D)(p:aw):af:=(br v (J1 c a p) (C! c a p)).map aM
def qJ(v:I)(p:aw):aw:=aW p (br v 2 1) 0 (p.2.2+wX v)
def Qn(v:I)(c:D)(a:Y gP):ae:=bm [] (λE _ b=>sp c++(sgn v++(E.x++b))) a
def dX(v:I)(c:D)(E:gP)(a:Y gP):ae:=sgn v++(E.x++Qn v c a)
def uU(v:I)(c:D)(E:gP)(a:Y gP)(p b:aw):aw:=br a.isEmpty b (fh (qJ v p) E.x c.toNat 0 c)
def YJ(e v:I)(c:D)(s:Y D)(a:Y gP):aw->aw->af:=bm (motive:=λ_=>aw->aw->af) (λ_ _=>[]) (λE a d p b=>Qm v c s p++(E.tk (br a.isEmpty e J) (qJ v p) (uU v c E a p b)++d (uU v c E a p b) b)) a
def DY(e v:I)(c:D)(d s:Y D)(E:gP)(a:Y gP)(p b:aw):af:=Qm v c d p++(E.tk (br a.isEmpty e J) (qJ v p) (uU v c E a p b)++YJ e v c s a (uU v c E a p b) b)
section
variable{k n K:W}{e h q m v tr:I}{t x y r X:ae}{L:af}{p P:aw}{c d cb c2:D}{st s:Y D}{b:aC}{E:gP}{Es:Y gP}
def V6(f:p.2.2=c)(a:top s=c):(qJ v p).2.2=top s+wX v:=by rw[a,<-f];rfl
def Jk(a:x2=sgn v++x):fh (qJ v p) x n d c2=fh p x2 n d c2:=by rw[a];refine eq3 ?_ ?_ Z;(show p.1+_+_=p.1+_;rw[d! (fO _ _).symm,len_app,fJ];cases v<;>rfl);show p.2.1+0+(((mP x))+d)=p.2.1+(((mP _))+d);rw[aA,bA,show mP (sgn v)=0 by generalize v=u;cases u<;>rfl,hH]
def YK:fh (fh p x c.toNat 0 c) X n d c2=fh p (x++(sp c++X)) n d c2:=by refine eq3 ?_ ?_ Z;show p.1+_+_=_;rw[d! (fO _ _).symm,len_app,len_app,mO,fJ,fJ,fJ];show p.2.1+_+_=p.2.1+(((mP _))+d);rw[aA,bA,bA,ke,hH,ej,<-ej (iA x)];rfl
def Qo(a:top s=c)(f:s≠[]):cJ c s=0:=by induction s with|nil=>exact ch Z f|cons g s _=> have a:g=c:=a;rw[a];show br _ _ 0=0;rw[show a? _=J from dQ (FM c)];rfl
def ah3(h:cJ c s=0):DU c s P=[]:=by unfold DU;rw[h];rfl
def Ù(h:cJ c s=0):mM c s=s:=by unfold mM;rw[h];rfl
def Ø{h:I}(F:Lp h c st)(f:v=J->GG t)(g:v->GH t)(a:p.2.2=c)(S:∀cb,Go k J J (nX v J (stI c st)) J ⟨t,(qJ v p).1,(qJ v p).2.1,cb⟩ L):At (k+5) U (nR h C c st) h (sgn v++t) p (Qm v c st p++L):=ag F λi j=>by induction v with|false=>exact λcb=>(ahV i (f Z) a S cb).le (d9 (aO Z) k)|true=>exact ahW j (g Z) a S
def V7(h:∃a b r,t=a::b::r):∃a b r,x++t=a::b::r:=by
 obtain⟨a,b,r,h⟩:=h;rw[h]
 induction x with
 |nil=>exact⟨_,_,_,Z⟩
 |cons c x=>induction x with
  |nil=>exact⟨_,_,_,Z⟩
  |cons d x _=>exact⟨_,_,_,Z⟩
def Qp(f:gN tr v s K E.x E.tk):∃a b r,sgn v++(E.x++t)=a::b::r:=by obtain⟨a,r,q,_⟩:=f.L1;rw[q];induction v with|true=>exact⟨_,_,_,Z⟩|false=>exact⟨_,_,_,Z⟩
def abW(g:∀E∈Es,gN tr v s K E.x E.tk){y:ae}(f:y=[0]∨∃a b r,y=a::b::r):Qn v c Es++y=[0]∨∃a b r,Qn v c Es++y=a::b::r:=by induction Es with|nil=>exact f|cons E Es _=> refine .inr ?_;show∃a b r,(sp c++_)++y=a::b::r;rw[am,am,am];exact V7 (Qp (g E gV))
def Jl(a:gN tr v s K E.x E.tk)(i:∀E∈Es,gN tr v s K E.x E.tk){y:ae}(j:y=[0]∨∃g b r,y=g::b::r):u! (dX v c E Es++y):=by have f:=abW (c:=c) i j;(have X:dX v c E Es++y=sgn v++(E.x++(Qn v c Es++y)):=by show(sgn v++_)++y=_;rw[am,am]);rw[X];induction v with|false=>exact .inl ⟨_,Z,a.fd f⟩|true=>exact .inr ⟨_,Z,a.fv (f.elim (λh=>by rw[h];exact bN _ _) λh=>by obtain⟨_,_,_,h⟩:=h;rw[h];exact bN _ _)⟩
def abX(a:top s=c):stI c s=s:=by unfold stI;rw[a,show a? _=J from dQ (FM c)];rfl
def abY(f:top s=c)(a:s≠[]):c∈s:=by induction s with|nil=>exact ch Z a|cons g s _=>exact(f)▸.head _
def Jm(f:top s=c)(u:s≠[])(F:∀h,Lp h c s){y:ae}(j:Nk tr s e y n d c2 t):∀(Es:Y gP){E:gP}{p:aw}{k:W}{L:af},gN tr v s K E.x E.tk->(∀E∈Es,gN tr v s K E.x E.tk)->p.2.2=c->DT e k c2 (mM c2 s) t (fh p (dX v c E Es) n d c2) L->
  (∃g c3 i l,Nk tr s (br Es.isEmpty e J) (Qn v c Es++y) l g c3 i)/\∀cb,Go (k+(K+5)*Es.length+K) J J (nX v J s) J ⟨E.x++(Qn v c Es++y),(qJ v p).1,(qJ v p).2.1,cb⟩ (E.tk (br Es.isEmpty e J) (qJ v p) (uU v c E Es p (fh p (dX v c E Es) n d c2))++(YJ e v c s Es (uU v c E Es p (fh p (dX v c E Es) n d c2)) (fh p (dX v c E Es) n d c2)++(DU c2 s (fh p (dX v c E Es) n d c2)++L))):=by
 intro Es
 induction Es with
 |nil=> intro E p k L l _ o A;have Q:=Jk (p:=p) (x:=E.x++[]) (n:=n) (d:=d) (c2:=c2) (x2:=dX v c E []) Z;rw[eq]at Q;have S:=λcb=>l.go j (V6 o f) (by rw[Q];exact A) cb;rw[Q]at S;exact⟨⟨_,_,_,_,j⟩,S⟩
 |cons a Es z=>
  intro E p k L l i o A
  have Q:fh (fh (qJ v p) E.x c.toNat 0 c) (dX v c a Es) n d c2=fh p (dX v c E (a::Es)) n d c2:=by rw[YK];exact Jk Z
  have g:=i _ gV;have w:=λE m=>i E (.tail _ m);have i:=z g w Z (by rw[Q];exact A);rw[Q]at i;have z:=Qo f u
  have B:dX v c a Es++y=sgn v++(a.x++(Qn v c Es++y)):=by show(sgn v++_)++y=_;rw[am,am]
  have X:Qn v c (a::Es)++y=sp c++(dX v c a Es++y):=by show(sp c++dX v c a Es)++y=_;rw[am]
  have A:Nk tr s J (sp c++(dX v c a Es++y)) c.toNat 0 c _:=.sg (abY f u) (Jl g w j.two);rw[X];obtain⟨⟨_,_,_,_,j⟩,i⟩:=i
  have u:Arr (k+(K+5)*(Es.length+1)) c s (dX v c a Es++y) _ _:=λh cb=>by rw[B];refine(Ø (F h) (λ_=>g.fd j.two) (λ_=>g.fv j.ne) Z (by rw[abX f];exact i) cb).le ?_;show _<=k+(_*Es.length+_);rw[<-fJ];exact aU _
  have S:=λcb=>l.go A (V6 o f) (by rw[Ù z];exact u) cb;rw[ah3 z]at S;refine⟨⟨_,_,_,_,A⟩,λcb=>?_⟩;have T:=S cb;show Go _ _ _ _ _ _ (_++((Qm v c s _++_)++_));rw[am,am];exact T
def Jn(i:top s=c)(j:s≠[])(F:∀h,Lp h c s){y:ae}(l:Nk tr s e y n d c2 t)(Es:Y gP){E:gP}{st:Y D}{p:aw}{k:W}{L:af}(a:gN tr v s K E.x E.tk)(o:∀E∈Es,gN tr v s K E.x E.tk)(w:stI c st=s)(u:∀h,Lp h c st)(f:p.2.2=c)(A:DT e k c2 (mM c2 s) t (fh p (dX v c E Es) n d c2) L):
  Arr (k+(K+5)*(1+Es.length)) c st (dX v c E Es++y) p (DY e v c st s E Es p (fh p (dX v c E Es) n d c2)++(DU c2 s (fh p (dX v c E Es) n d c2)++L)):=λh cb=>by
 obtain⟨⟨_,_,_,_,g⟩,z⟩:=Jm i j F l Es a o f A
 have i:dX v c E Es++y=sgn v++(E.x++(Qn v c Es++y)):=by show(sgn v++_)++y=_;rw[am,am]
 rw[i];unfold DY;rw[am,am];refine(Ø (u h) (λ_=>a.fd g.two) (λ_=>a.fv g.ne) f (by rw[w];exact z) cb).le ?_;rw[hJ 1];show _<=k+(_*Es.length+_);rw[<-fJ];exact aU _
end
section
variable{k n K:W}{e h Q q m z v an:I}{t w x y r:ae}{L:af}{p P:aw}{c d cb c2:D}{st s:Y D}{b:D}{E:gP}{Es:Y gP}
def Qq(h:u! t):dz [2097154,anyS] t:=h.elim (λh=>by obtain⟨x,e,f⟩:=h;rw[e];exact f.elim (λf=>by rw[f];rfl) λf=>by obtain⟨_,_,_,_,q,_⟩:=f;rw[q];rfl) λh=>by obtain⟨x,e,_⟩:=h;rw[e];rfl
def Qr(H:VR Q b st)(a:p.2.2=cb+(top st+1))(g:cJ b st=0)(f:dz [2097154,anyS] t)(S:Arr k b st t (qf p ([38,122,10]++sp b) b) L):Go (k+3) U J (nL J Q C st) J ⟨[38,122,10]++(sp b++t),p.1,p.2.1,cb⟩ (aM ⟨14,p,aW p 2 0 (p.2.2+2)⟩::L):=by have i:qc ⟨[38,122,10]++(sp b++t),p.1,p.2.1,cb⟩ (on st 0)=p:=(LZ a 0).trans (eq3 (aA _) Z (aA _));have j:qc ⟨[38,122,10]++(sp b++t),p.1,p.2.1,cb⟩ (on st 2)=aW p 2 0 (p.2.2+2):=(LZ a 2).trans (eq3 Z (aA _).symm Z);have l:cC ([38,122,10]++sp b++[2097154,anyS]) J ⟨[38,122,10]++(sp b++t),p.1,p.2.1,cb⟩:=mN (by rw[am];exact pre_app Z (pre_app gr f));(have o:([38,122,10]++(sp b++t)).drop (2+(ak ([10]++sp b)+0))=t:=by rw[hJ 2];exact gp);have A:=Ù g;(have P:∀a,aW p (2+(ak ([10]++sp b)+0)) (0+(iA ([10]++sp b)+0)) a=(p.1+(ak ([38,122,10]++sp b)),p.2.1+iA ([38,122,10]++sp b),a):=λa=>by refine eq3 ?_ ?_ Z;rw[hJ 2];rfl;rw[iO];rfl);(have T:∀f,BF [gap f ([10]++sp b) b st]=λ_=>[]:=λf=>by show(λR=>(Ln (cJ b st) _).map (Yy R)++[])=_;rw[g];rfl);(have u:∀f a,Go k U J (nR f C b (mM b st)) f ⟨t,(aW p (2+(ak ([10]++sp b)+0)) (0+(iA ([10]++sp b)+0)) b).1,(aW p (2+(ak ([10]++sp b)+0)) (0+(iA ([10]++sp b)+0)) b).2.1,a⟩ L:=λf a=>by rw[A,P];exact S f a);induction Q with|true=>refine(fV (T:=[⟨14,p,aW p 2 0 (p.2.2+2)⟩]) H l Z Z Z ?_ Z Z o Z ?_ (u U _)).le (iF _);show br U U (nz (cJ b st))=U;rfl;show Tk.mk 14 (qc _ (on st 0)) (qc _ (on st 2))::BF [gap U ([10]++sp b) b st] _=_;rw[T,i,j]|false=>(have a:nR (br J U (nz (cJ b st))) C b (mM b st)=nR J C b (mM b st):=by rw[g];rfl);refine fV (T:=[⟨14,p,aW p 2 0 (p.2.2+2)⟩]) H l Z Z a ?_ Z Z o Z ?_ (u J _);show br J U (!ac (cJ b st) 0)=J;rw[g];rfl;show Tk.mk 14 (qc _ (on st 0)) (qc _ (on st 2))::BF [gap J ([10]++sp b) b st] _=_;rw[T,i,j]
structure L7 where
 w:W
 an:I
 v:I
 E:gP
 Es:Y gP
def o9(r:D)(w:W):D:=br (ac w 0) (r+2) (br (ac w 3) r (r+w))
def Qs(r:D)(w:W)(an:I):ae:=br (ac w 0) [32] (br an ([32,38,122,10]++sp (o9 r w)) (10::sp (o9 r w)))
def GP(r:D)(w:W):Y D:=br (ac w 3) [r] [o9 r w,r]
def x'(r:D)(S:L7):ae:=Qs r S.w S.an++dX S.v (o9 r S.w) S.E S.Es
def DZ(p:aw):aw:=qf p [32] (p.2.2+1)
def BH(r:D)(S:L7)(p:aw):aw:=qf p (Qs r S.w S.an) (o9 r S.w)
def D1(r:D)(S:L7)(e:I)(p P:aw):af:=br S.an [aM ⟨14,DZ p,aW (DZ p) 2 0 ((DZ p).2.2+2)⟩] []++(DY e S.v (o9 r S.w) [r] (GP r S.w) S.E S.Es (BH r S p) P++br (ac S.w 3) [] [aM ⟨4,P,P⟩])
def uB(v:I)(w:W)(an:I):I:=br (ac w 0) (!v&&!an) (br (ac w 3) v (br (ac w 1) U (ac w 2)))
structure InS(r b:D)(s:Y D):Prop where
 m:s∈jE
 t:top s=b
 i:stI b [r]=s
 f:∀h,Lp h b [r]=U
 g:∀h,Lp h b s=U
def rS:Y D:=[0,1,2]
def tW(a:s∈jE)(h:I):Lp h (top s) s:=ag (ai PW a) λf c=>by induction h with|true=>exact f|false=>exact c
def Qt{r b:D}(a:r∈rS)(f:b=1∨b=2)(h:I):Lp h (r+b) [r]:=by have g:=ag (xy) λ_ i=>i;exact ai (ai (ai g a) (f.elim (λh=>h▸.head _) λh=>h▸.tail _ gV)) (jz h)
def xD{r:D}{M:D->Prop}(h:r∈rS)(a:M 0)(f:M 1)(g:M 2):M r:=by
 cases h with
 |head=>exact a
 |tail _ h=>cases h with
  |head=>exact f
  |tail _ h=>cases h with
   |head=>exact g
   |tail _ h=>exact nomatch h
def qK{r:D}(h:r∈rS):[r]∈jE/\([r+1,r]∈jE/\[r+2,r]∈jE):=xD (M:=λr=>[r]∈jE/\([r+1,r]∈jE/\[r+2,r]∈jE)) h (aO Z) (aO Z) (aO Z)
def V8{r:D}(a:r∈rS){w:W}(i:w=0∨w=1∨w=2∨w=3):InS r (o9 r w) (GP r w):=by obtain⟨m0,m1,m2⟩:=qK a;(have f:∀{b:D},0<b->stI _ [r]=[r+b,r]:=λ{b}h=>by show br (a? (r<r+b)) _ _=_;rw[cF (o0 r h)];rfl);have g:InS r _ [r+2,r]:=⟨m2,Z,f (aO Z),Qt a (.inr Z),tW m2⟩;refine i.elim (λh=>?_) λh=>h.elim (λh=>?_) λh=>h.elim (λh=>?_) λh=>?_;rw[h];exact g;rw[h];exact⟨m1,Z,f (aO Z),Qt a (.inl Z),tW m1⟩;rw[h];exact g;rw[h];refine⟨m0,Z,?_,tW m0,tW m0⟩;show br (a? (r<r)) _ _=_;rw[dQ (FM r)];rfl
def Be{r:D}(f:r∈rS):į [r]/\(∀v,∀b,b=1∨b=2->YA v [r] (r+b,[2097154,anyS],J)/\VR (!v) (r+b) [r]=U)/\VR J r [r]:=by have a:=xD (M:=λr=>ō [r]=U) f (ai A6 gV) (ai A6 aat) (ai A6 aau);refine ag (a) λa c=>ag a λf a=>⟨f,λv b g=>?_,c⟩;exact ag (ai (ai a (jz v)) (g.elim (λh=>h▸.head _) λh=>h▸.tail _ gV)) λf b=>⟨f,b⟩
def YL{w:ae}(H:aZ [gap J x b st] J J B w e J)(g:cC w e ⟨x++t,p.1,p.2.1,cb⟩)(a:cJ b st=0)(S:Arr k b st t (qf p x b) L):Go (k+1) J J B J ⟨x++t,p.1,p.2.1,cb⟩ L:=by have f:=xB H g (by rw[Ù a];exact S);rw[a]at f;exact f
def V9(h:c<=b):cJ b [c]=0:=by show br _ _ 0=0;rw[dQ (qX.mpr h)];rfl
def Nk.le{y:ae}{r:D}(a:0<=r)(f:Nk J [r] e y n d c2 t):c2<=r:=by induction f with|sg h _=>exact(eC.mp h)▸pJ _|dt=>exact a|en h=> refine ny h (λh _=>?_) λ_ h=>ao h;rw[aO h];exact a|re=>exact a
def Nk.sub{y:ae}(g:∀c∈s,c∈a)(f:Nk J s e y n d c2 t):Nk J a e y n d c2 t:=by induction f with|sg h i=>exact .sg (g _ h) i|dt=>exact .dt|en h=>exact .en h|re=>exact .re
def GQ{w:W}(a:uB v w an):w=0∨w=1∨w=2∨w=3:=ny a (λh _=>.inl (aK h)) λ_ h=>.inr (ny h (λh _=>.inr (.inr (aK h))) λ_ h=>ny h (λh _=>.inl (aK h)) λ_ h=>.inr (.inl (aK h)))
def wC{w:W}{M:W->Prop}(a:w=0∨w=1∨w=2∨w=3)(f:M 0)(g:M 1)(i:M 2)(j:M 3):M w:=a.elim (λh=>h▸f) λh=>h.elim (λh=>h▸g) λh=>h.elim (λh=>h▸i) λh=>h▸j
section
variable{r:D}{w o:W}{Y:ae}{A:af}
def afW(a:w=0∨w=1∨w=2∨w=3):r<=o9 r w:=wC (M:=λw=>r<=o9 r w) a (uf (aO Z)) (uf (aO Z)) (uf (aO Z)) (pJ _)
def afX(a:w=0∨w=1∨w=2∨w=3):ac w 3=J->r<o9 r w:=wC (M:=λw=>ac w 3=J->r<o9 r w) a (λ_=>o0 r (aO Z)) (λ_=>o0 r (aO Z)) (λ_=>o0 r (aO Z)) λh=>ao h.symm
def abZ:∀c∈[r],c∈GP r w:=λc h=>by rw[eC.mp h];unfold GP;induction ac w 3 with|true=>exact .head _|false=>exact .tail _ gV
def afY(f:w=0∨w=1∨w=2∨w=3)(h:c2<=r):mM c2 (GP r w)=mM c2 [r]/\∀P,DU c2 (GP r w) P=br (ac w 3) [] [aM ⟨4,P,P⟩]++DU c2 [r] P:=by have a:=afX (r:=r) f;unfold GP;revert a;induction ac w 3 with|true=>exact λ_=>⟨Z,λP=>Z⟩|false=>intro a;(have E:cJ c2 [o9 r w,r]=cJ c2 [r]+1:=by show br _ _ _=_;rw[cF (FS h (a Z))];rfl);exact⟨by show[o9 r w,r].drop (cJ c2 [o9 r w,r])=_;rw[E];rfl,λP=>by show((o7 (cJ c2 [o9 r w,r]) P)).map aM=_;rw[E];rfl⟩
def afZ(H:YA v [r] (b,[2097154,anyS],J))(a:dz [2097154,anyS] Y)(f:cJ b [r]=0)(R:Arr o b [r] Y (qf p ([10]++sp b) b) A):Go (o+4) J J (nX v J [r]) J ⟨[10]++sp b++Y,p.1,p.2.1,cb⟩ A:=(YL (H) (mN (pre_app (eW Z gr) a)) f R).le (d9 (aO Z) o)
variable(B:r∈rS)
def af0(H:VR (!v) b [r])(i:p.2.2=r+wX v)(g:dz [2097154,anyS] Y)(f:cJ b [r]=0)(R:Arr o b [r] Y (qf p ([32]++([38,122,10]++sp b)) b) A):Go (o+4) J J (nX v J [r]) J ⟨[32]++([38,122,10]++sp b)++Y,p.1,p.2.1,cb⟩ (aM ⟨14,DZ p,aW (DZ p) 2 0 ((DZ p).2.2+2)⟩::A):=by(have j:E5 (r+wX v) (br v (bd 2 (ak [32])) U) [32] [r]=⟨0,nL J (!v) C [r],zw (ak [32]) (iA [32]) J 0 U (r+wX v+1-(r+1)),[]⟩:=by generalize v=u;cases u<;>rfl);have a:aZ [E5 (r+wX v) _ [32] [r]] J J _ _ J J:=show M? v [r] [32] 2097157 from(Bc (qK B).1 v).1 _ gV;rw[j]at a;rw[am];refine YI (c:=p.2.2+1) a (mN (bK Z (bK Z (bK xA Z)))) ?_;refine(Qr H ?_ f g ?_);show p.2.2+1=0+_+(r+1);rw[i,iO,qr];(have:qf (qf p [32] (p.2.2+1)) ([38,122,10]++sp b) b=qf p ([32]++([38,122,10]++sp b)) b:=by refine eq3 ?_ ?_ Z;show p.1+_+_=_;rw[d! (fO _ _).symm,len_app (x:=[32])];show p.2.1+0+_=_;rw[aA];rfl);rw[this];exact R
variable(u:uB v w an)
def af1:ac w 0=J->YA v [r] (o9 r w,[2097154,anyS],J)/\VR (!v) (o9 r w) [r]:=wC (M:=λw=>uB v w an=U->ac w 0=J->YA v [r] (o9 r w,[2097154,anyS],J)/\VR (!v) _ [r]=U) (GQ u) (λ_ h=>ao h.symm) (λ_ _=>(Be B).2 v 1 (.inl Z)) (λ_ _=>(Be B).2 v 2 (.inr Z)) (λh _=>by rw[show v from h];exact⟨(Bc (qK B).1 U).2 _ (h? _ (eO.mpr ⟨r,.head _,Z⟩)),(Be B).3⟩) u
def ab0(i:p.2.2=r+wX v)(g:dz [2097154,anyS] Y)(R:Arr o (o9 r w) [r] Y (qf p (Qs r w an) (o9 r w)) A):Go (o+4) J J (nX v J [r]) J ⟨Qs r w an++Y,p.1,p.2.1,cb⟩ (br an [aM ⟨14,DZ p,aW (DZ p) 2 0 ((DZ p).2.2+2)⟩] []++A):=by have f:cJ _ [r]=0:=V9 (afW (GQ u));have a:=af1 B u;revert u R a;unfold Qs uB;cases q:ac w 0 with|true=> rw[aK q]at f ⊢;intro u R _;refine ag u λj l=>?_;rw[(im _).mp j,(im _).mp l];exact(YL ((Be B).1) (mN (bK Z g)) f R).le (d9 (aO Z) o)|false=>induction an with|false=>exact λ_ R a=>afZ (a Z).1 g f R|true=>exact λ_ R a=>af0 B (a Z).2 i g f R
end
def ab1{r:D}{S:L7}(f:r∈rS)(j:uB v S.w S.an)(g:gN J S.v (GP r S.w) K S.E.x S.E.tk)(l:∀E∈S.Es,gN J S.v (GP r S.w) K E.x E.tk):gN J v [r] ((K+5)*(1+S.Es.length)+4) (x' r S) (D1 r S):=by
 have o:=GQ j;have a:=V8 f o;refine⟨λ{e y n d c2 t k L p}i u A cb=>?_,?_⟩
 ·have B:GP r S.w≠[]:=λz=>by have:=a.m;rw[z]at this;exact ch this (aO Z)
  obtain⟨F,G⟩:=afY (r:=r) o (i.le (kg (qK f).1));have o:fh (BH r S p) (dX S.v (o9 r S.w) S.E S.Es) n d c2=fh p _ n d c2:=Jj;have R:=Jn a.t B a.g (i.sub abZ) S.Es g l a.i a.f Z (by rw[o,F];exact A);rw[o,G,am]at R;have a:=ab0 (cb:=cb) f j u (Qq (Jl g l i.two)) R;rw[<-am]at a;unfold D1;rw[am,am];exact a
 ·obtain⟨a,a,a,q⟩:=Qp g
  show∃a f,Qs r S.w S.an++(sgn S.v++_)=a::f/\_/\_;unfold Qs
  induction ac S.w 0 with
  |true=>exact⟨32,_,Z,Z,.inl (by rw[q];exact bN _ _)⟩
  |false=>induction S.an with
   |true=>exact⟨32,_,Z,Z,.inl (bN _ _)⟩
   |false=>exact⟨10,_,Z,Z,.inr Z⟩
end
def ah4(a:W)(c:D):I:=aZ (F! a c) J U (nI U) (jZ a++sp c++[45,10,0]) U U
def GR:Y (W×D):=[(0,0),(0,1),(0,2),(0,3),(0,4),(1,0),(1,1),(1,2),(2,0),(2,1),(2,2),(3,0),(3,1),(3,2)]
def ah5(a:W)(c:D):ae:=br (a? (c=0)&&jp a 2) [2097154,2097155,anyS,anyS] [2097154,anyS,anyS,anyS]
def ah6(x:W×D):I:=Į x.1 x.2 (ah5 x.1 x.2)&&ah4 x.1 x.2
def Ā(c:D):Y Sp:=[dr (nI J),⟨0,nL J U C [],⟨ak (sp c),U,0,J,J,0,U,c⟩,[]⟩]
def ah7(c:D):I:=aI (λa=>aZ (Ā c) J U (nI U) (sp c++[a,anyS]) J U) [2097157,107]
def ah8:I:=aI ah7 [1,2,3,4,5,6,7,8]
def ah9:I:=aI (λb=>VR U b []) [1,2,3,4]
def K!:Y Lf:=([2,3,4,5,6,7].map λp=>[⟨2,5,p,0⟩,⟨8,5,p,0⟩,⟨8,5,p,1⟩,⟨9,5,p,0⟩]).flatten++[⟨0,5,1,0⟩,⟨1,5,1,0⟩,⟨3,5,1,0⟩,⟨4,5,1,0⟩,⟨5,5,1,0⟩,⟨11,5,1,0⟩]
def aia:I:=aI ahL K!
def ŧ(h:I)(k:N D):Sp:=⟨0,nK h k [],zw 0 0 h 0 J 0,[]⟩
def à:Y Sp:=[ŧ U (O 0)]
def Ŧ:Y Sp:=[se (nK U C []),dr (nK J C []),ŧ J C]
def ß:Y Sp:=[dr (nR J C 0 []),EB (nR J C 0 [])]
def GU(h:I)(k:N D):I:=VP (nK h k []) J h (Ħ C J h) (nE J (s3 0))
def aib:I:=aZ à J J (nK U (O 0) []) [0] U U&&GU U (O 0)&&aZ Ŧ J J (nK U (O 1) []) [0] U U&&GU J C&&aZ ß J J (nR U C 0 []) [0] U U&&z? J 0 []
def aic:I:=aZ (Z' [] U) U J (nL J U C []) [38,120,32,33,116,32,106,anyS] J J&&aZ [AZ U U [] ⟨10,5,1,0⟩ 0] U J (nL U J (O 0) []) [106,0] U U&&aZ (Z_ [] U) U J (nL J U C []) [91,107,93,0] U J
def Qu:aI ah6 GR=U:=by kernel_rfl
def Qv:ah8:=by kernel_rfl
def Qw:ah9:=by kernel_rfl
def Qx:aia:=by kernel_rfl
def xE:aib:=by kernel_rfl
def Qy:aic:=by kernel_rfl
section
variable{k n K hd:W}{e h q m z v tr:I}{t t' w x y r la:ae}{L:af}{p P:aw}{c d cb c2:D}{st s:Y D}{b:D}{E:gP}{Es:Y gP}
def iX.km{a:I}{s:Sp}(H:VP B J a s f)(g:s.em.map (Yy ⟨[0],p.1,p.2.1,cb⟩)=T):iX (k+1) U J B a ⟨[0],p.1,p.2.1,cb⟩ (T.map aM):=by rw[<-g];exact(iX.fin H Z (λq=>ao q)).le (eN (eG _))
def GV(h:I):(∀st∈[[],[0]],ĭ h st=U)/\(∀t∈[0,1,2],z? h t []=U)/\∀st∈[[0],[1],[2]],z? h (top st) st:=ag (ai (VT) (jz h)) λA c=>ag A λa b=>⟨λ_ m=>ai a m,λ_ m=>ai b m,λ_ m=>ai c m⟩
def Bf(a:P.2.2=c2)(f:c2∈([0,1,2]:Y D)):qI (k+1) c2 [] [0] P [aM ⟨1,P,P⟩]:=λh cb=>by have g:_=P:=eq3 (aA _) (aA _) a.symm;refine iX.km (T:=[⟨1,P,P⟩]) ((GV h).2 _ f) ?_;show[Tk.mk 1 (P.1+0,P.2.1+0,c2) (P.1+0,P.2.1+0,c2)]=_;rw[g]
def Wa(a:P.2.2=0):qI (k+1) 0 [0] [0] P [aM ⟨4,P,P⟩,aM ⟨1,P,P⟩]:=λh cb=>by have f:_=P:=eq3 (aA _) (aA _) a.symm;refine iX.km (T:=[⟨4,P,P⟩,⟨1,P,P⟩]) ((GV h).3 _ gV) ?_;show[Tk.mk 4 (P.1+0,P.2.1+0,0) (P.1+0,P.2.1+0,0),Tk.mk 1 (P.1+0,P.2.1+0,0) (P.1+0,P.2.1+0,0)]=_;rw[f]
def Qz{st:Y D}(a:st∈[[],[(0:D)]])(f:P.2.2=0):Arr (k+5) 0 st [46,46,46,10,0] P ((o7 st.length P).map aM++(aM ⟨3,P,aW P 3 0 3⟩::MARK::[aM ⟨1,aW P 4 1 0,aW P 4 1 0⟩])):=λh cb=>by have H:=(GV h).1 _ a;have g:_=P:=eq3 (aA _) (aA _) f.symm;have E:∀a,Go (k+1) U J _ J ⟨[0],(aW P 4 1 0).1,(aW P 4 1 0).2.1,a⟩ _:=λa=>iX.go (Bf (P:=aW P 4 1 0) Z gV J a);(have T:BF (İ h st) ⟨[46,46,46,10,0],P.1,P.2.1,cb⟩=o7 st.length P++[⟨3,P,aW P 3 0 3⟩]:=by show(Ln st.length _++[_]).map _++[]=_;rw[eq,l9,Jc];show Ln st.length (Tk.mk 4 (P.1+0,P.2.1+0,0) (P.1+0,P.2.1+0,0))++[Tk.mk 3 (P.1+0,P.2.1+0,0) _]=_;rw[g];rfl);have a:=fV H (kx.yo (kx.self Z)) Z Z Z Z Z Z Z Z T (E 0);rw[l9,am]at a;exact a.le (iF _)
def r8{l:Y Sp}{a f i:I}(H:aZ l J U (nI U) w e U)(u:cC w e ⟨t,0,0,0⟩)(A:DE l J=a)(B:DF l U=f)(F:DG l (nI U)=g)(G:yr l U=i)(en:A8 l=n)(M:YC l=d)(R:t.drop n=t')(Q:t4 l 0=j)(o:BF l ⟨t,0,0,0⟩=T)
 (S:Go k a f g i ⟨t',0+(n:W),0+d,j⟩ L):Go (k+l.length) J U (nI U) U ⟨t,0,0,0⟩ (T.map aM++L):=by
 rw[<-o];refine Go.link H u (λ_=>Z) ?_;rw[vi,A,B,F,G,en,M,Q];rw[R];exact S
def dU:aw:=(0,0,0)
def YM(hd:W):af:=br (aq [1,3] hd) [aM ⟨2,dU,(3,0,3)⟩] []
def iZ(hd:W)(c:D):aw:=qf dU (jZ hd++sp c) c
def Jo(a:c∈([0,1,2,3,4]:Y D))(h:I):Lp h c []:=ag (xy) λA _=>ag A λA _=>ag A λA _=>ai (ai A a) (jz h)
def af4:NW U J 0 []/\M_ U J 0 []:=ag (xy) λA _=>ag A λA c=>ag A λ_ b=>⟨b,c⟩
variable(fd:v=J->GG t)(fv:v->GH t)
def QA(S:∀cb,Go k J J (nX v J [0]) J ⟨t,(qJ v dU).1,(qJ v dU).2.1,cb⟩ L):Go (k+4) U U (nI J) J ⟨sgn v++t,0,0,0⟩ (Qm v 0 [] dU++L):=by obtain⟨o,u⟩:=af4;(have j:∀{l:Y Sp}{w:ae}{e:I}{T:Y Tk}{f:aC}{n:W}{g:D},aZ l U U (nI J) w e J->cC w e ⟨sgn v++t,0,0,0⟩->DE l U=J->DF l U=J->DG l _=f->yr l J=J->A8 l=n->YC l=0->(sgn v++t).drop n=t->t4 l 0=g->BF l ⟨sgn v++t,0,0,0⟩=T->Go k J J f J ⟨t,0+_,0+0,g⟩ L->Go (k+l.length) U U _ J ⟨sgn v++t,0,0,0⟩ (T.map aM++L):=λ{l w e T f n g}H a f g A B en F G M Q S=>by rw[<-Q];refine Go.link H a (λ_=>Z) ?_;rw[vi,f,g,A,B,en,F,M];rw[G];exact S);induction v with|false=> obtain⟨R,f⟩:=GI o;have K:∀{w:ae}{e:I},aZ (J_ U J 0 []) U U _ w e J->cC w e ⟨45::t,0,0,0⟩->Go (k+4) U U _ J ⟨45::t,0,0,0⟩ _:=λH a=>(j H a Z Z Z Z Z Z Z Z Z (S 0)).le (d9 (aO Z) k);refine(fd Z).elim (λq=>K f (by rw[q];rfl)) λq=>?_;obtain⟨V,b,d,r,q,i⟩:=q;exact K R (mN (by rw[q];exact bK Z (bK i (bK xA (bK xA Z)))))|true=> obtain⟨V,b,r,q,i⟩:=fv Z;have a:cC [107,58,2097156,anyS] J ⟨107::58::t,0,0,0⟩:=mN (by rw[q];exact bK Z (bK Z (bK i (bK xA Z))));exact(j u a Z Z Z Z Z Z Z Z Z (S 0)).le (d9 (aO Z) k)
variable(B:(hd,c)∈GR)
def ab4:∃w e,aZ (F! hd c) J U (nI U) w e U/\cC w e ⟨jZ hd++(sp c++(sgn v++t)),0,0,0⟩:=by
 refine ag (ai Qu B) λj l=>?_
 have sh:small (jZ hd):=by
  generalize hd=u
  induction u with
  |zero=>rfl
  |succ hd=>induction hd with
   |zero=>rfl
   |succ hd=>induction hd with
    |zero=>rfl
    |succ hd=>induction hd with
     |zero=>rfl
     |succ hd _=>rfl
 have G:∀{la:ae},Į hd c la->dz la (sgn v++t)->∃w e,aZ _ J U _ w e U/\cC w e ⟨jZ hd++_,0,0,0⟩:=λ{la}H h=>⟨jZ hd++sp c++la,J,H,mN (by rw[am];exact pre_app sh (pre_app gr h))⟩
 have i:∀{a b:W}{x:ae},sgn v++t=a::b::x->x9 2097154 a->x9 2097155 b->(∃c d r,x=c::d::r)->∃w e,aZ _ J U _ w e U/\cC w e ⟨jZ hd++_,0,0,0⟩:=λ{a b x}q f o g=>by
  obtain⟨A,A,r,g⟩:=g;refine G j ?_;rw[q,g];show dz (br _ [2097154,2097155,anyS,anyS] [2097154,anyS,anyS,anyS]) _=U;cases(a? (c=0)&&jp hd 2)with
  |true=>exact bK f (bK o (bK xA (bK xA Z)))
  |false=>exact bK f (bK xA (bK xA (bK xA Z)))
 induction v with
 |false=>
  refine(fd Z).elim (λq=>?_) λq=>?_
  ·rw[q]
   exact⟨jZ hd++sp c++[45,10,0],U,l,kx.yo (by rw[am];exact(((kx.self Z).app gr).app sh))⟩
  ·obtain⟨a,b,d,r,q,f⟩:=q
   exact i (by rw[q];rfl) Z (DV f (λh=>by rw[h];rfl) λh=>by rw[h];rfl) ⟨_,_,_,Z⟩
 |true=> obtain⟨a,b,r,q,f⟩:=fv Z;exact i (by rw[q];rfl) Z Z ⟨_,_,_,Z⟩
def l13(x:ae)(c:D):Y Sp:=[dr (nI J),EB (nI J),⟨1,nS U,Lo 3 0 U 1 0,[⟨2,here 0 0 0,here 3 0 3⟩]⟩,dr (nS J),gap J (x++sp c) c []]
def ab5{x y:ae}(f:y=[45,45,45]++x)(H:aZ (l13 x c) J U (nI U) w e U)(a:cC w e ⟨y++(sp c++t),0,0,0⟩)(S:At k U (nR J C c []) J t (qf dU (y++sp c) c) L):Go (k+5) J U (nI U) U ⟨y++(sp c++t),0,0,0⟩ (aM ⟨2,dU,(3,0,3)⟩::L):=by rw[f]at a S ⊢;refine r8 (t':=t) (n:=3+_) (d:=0+(iA _+0)) H a Z Z Z Z Z Z ?_ Z Z ?_;rw[hJ 3];rw[<-am];exact gp;rw[hJ 3,iO (iA _+0)];exact S _
def l02(x:ae)(c:D):Y Sp:=[dr (nI J),⟨0,nR J C c [],Lo (ak (x++sp c)) (iA x) J 0 0,[]⟩]
def ab6{y:ae}(H:aZ (l02 y c) J U (nI U) w e U)(a:cC w e ⟨y++(sp c++t),0,0,0⟩)(S:At k U (nR J C c []) J t (qf dU (y++sp c) c) L):Go (k+2) J U (nI U) U ⟨y++(sp c++t),0,0,0⟩ L:=by refine r8 (t':=t) (d:=iA y+0) H a Z Z Z Z Z Z ?_ Z Z ?_;rw[<-am];exact gp;(have z:iA y=iA (y++sp c):=by show(_:D)=(mP _);rw[bA,ke];rfl);rw[z];exact S _
def Wb(S:∀cb,Go k J J (nX v J [c]) J ⟨t,(qJ v (iZ hd c)).1,(qJ v (iZ hd c)).2.1,cb⟩ L):Go (k+10) J U (nI U) U ⟨jZ hd++(sp c++(sgn v++t)),0,0,0⟩ (YM hd++(Qm v c [] (iZ hd c)++L)):=by refine gq λP a=>?_;obtain⟨w,e,H,f⟩:=ab4 fd fv B;obtain⟨g,i,j,o⟩:=(by decide:∀x∈GR,x.2∈([0,1,2,3,4])/\(stI x.2 []=[x.2]/\((aq [1,3] x.1->jZ x.1=[45,45,45]++(jZ x.1).drop 3)/\(Ò x.1 x.2->jZ x.1=[]/\x.2=0)))) _ B;refine a ?_;have A:=Ø (Jo g J) fd fv Z (by rw[show stI c []=[c]from i];exact S);have E:∀{l},br _ [EB _,⟨1,nS U,Lo 3 0 U 1 0,[⟨2,here 0 0 0,here 3 0 3⟩]⟩,dr _,gap J _ c []] (br (Ò hd c) [EB _] [⟨0,nR J C c [],Lo _ _ J 0 0,[]⟩])=l->aZ (dr (nI J)::l) J U (nI U) w e U:=λq=>q▸H;unfold YM;cases a:aq [1,3] hd with|true=> rw[a]at E;exact(ab5 (j a) (E Z) f A).le (aU _)|false=>rw[a]at E;cases g:Ò hd c with|true=>(rw[g]at E;obtain⟨i,a⟩:=o g;have a:c=0:=a;have o:=by rw[i,a]at f;exact f);(have j:iZ hd c=dU:=by unfold iZ;rw[i,a];rfl);rw[j,a]at S;rw[i,j,a];exact(r8 (E Z) o Z Z Z Z Z Z Z Z Z (QA fd fv S)).le (by rw[fJ];exact d9 (cw Z) k)|false=> rw[g]at E;exact(ab6 (E Z) f A).le (d9 (cw Z:5+2<=10) k)
def QB(g:[c]∈jE){y:ae}(i:Nk tr [c] e y n d c2 t)(a:gN tr v [c] K E.x E.tk)(j:∀E∈Es,gN tr v [c] K E.x E.tk)(A:DT e k c2 (mM c2 [c]) t (fh (iZ hd c) (dX v c E Es) n d c2) L):
  Go (k+(K+5)*Es.length+K+10) J U (nI U) U ⟨jZ hd++(sp c++(dX v c E Es++y)),0,0,0⟩ (YM hd++(DY e v c [] [c] E Es (iZ hd c) (fh (iZ hd c) (dX v c E Es) n d c2)++(DU c2 [c] (fh (iZ hd c) (dX v c E Es) n d c2)++L))):=by
 obtain⟨⟨_,_,_,_,f⟩,l⟩:=Jm Z (bN _ _) (tW g) i Es a j Z A
 have g:dX v c E Es++y=sgn v++(E.x++(Qn v c Es++y)):=by show(sgn v++_)++y=_;rw[am,am]
 rw[g];unfold DY;rw[am,am];exact Wb (λ_=>a.fd f.two) (λ_=>a.fv f.ne) B l
end
def zx:W->ae:=λn=>ku n [[],[46,46,46,10],[35,32,114,10]] []
def r!(p:aw)(x:ae)(a:W):aw:=br (ac a 2) (fh p x 4 1 0) (fh p x 0 0 0)
def yt(P:aw):af:=[aM ⟨1,P,P⟩]
def ü(a:W)(P:aw):af:=aM ⟨4,P,P⟩::br (ac a 1) (aM ⟨3,P,aW P 3 0 3⟩::MARK::yt (aW P 4 1 0)) (yt P)
section
variable{k n K j:W}{h q m v tr:I}{t w x y r:ae}{L:af}{P:aw}{c d c2:D}{E:gP}{Es:Y gP}
def QC(h:c2<c):mM c2 [c]=[]/\∀P,DU c2 [c] P=[aM ⟨4,P,P⟩]:=by(have E:cJ c2 [c]=1:=by show br _ _ 0=1;rw[cF h];rfl);exact⟨by show[c].drop _=[];rw[E];rfl,λP=>by show(o7 _ P).map aM=_;rw[E];rfl⟩
def QD{y:ae}(f:Nk tr [c] U y n d c2 t)(e:0<=c)(a:P.2.2=c2):t=[0]/\∃L,DT U (k+1) c2 (mM c2 [c]) t P L/\DU c2 [c] P++L=aM ⟨4,P,P⟩::yt P:=by(have G:c2<c->c2∈_->∃L,DT U (k+1) c2 (mM c2 [c]) [0] P L/\DU c2 [c] P++L=aM ⟨4,P,P⟩::yt P:=λg m=>by obtain⟨i,B⟩:=QC g;rw[i,B];exact⟨_,Bf a m,Z⟩);(have b:c2=0->∃L,DT U (k+1) c2 (mM c2 [c]) [0] P L/\DU c2 [c] P++L=aM ⟨4,P,P⟩::yt P:=λh=>by(subst h;rcases nh e with l|l);exact G l (aO Z);subst l;exact⟨_,Wa a,Z⟩);cases f with|en h=>exact⟨Z,DW h b (λh _ l=>G (by rw[h];exact aO l) (by rw[h];decide)) λh _ l=>G (by rw[h];exact aO l) (by rw[h];decide)⟩|re=>exact⟨Z,b Z⟩
variable(o:(j,c)∈GR)(i:[c]∈jE)
def ab7{y:ae}(a:Nk tr [c] U y n d c2 t)(e:gN tr v [c] K E.x E.tk)(f:∀E∈Es,gN tr v [c] K E.x E.tk):
  Go (1+(K+5)*Es.length+K+10) J U (nI U) U ⟨jZ j++(sp c++(dX v c E Es++y)),0,0,0⟩ (YM j++(DY U v c [] [c] E Es (iZ j c) (fh (iZ j c) (dX v c E Es) n d c2)++(aM ⟨4,fh (iZ j c) (dX v c E Es) n d c2,fh (iZ j c) (dX v c E Es) n d c2⟩::yt (fh (iZ j c) (dX v c E Es) n d c2)))):=by
 obtain⟨_,L,A,q⟩:=QD (P:=fh _ _ n d c2) a (kg i) Z;have b:=QB o i a e f A;rw[q]at b;exact b.le (cZ (by rw[hH]))
def ab8(b:gN tr v [c] K E.x E.tk)(e:∀E∈Es,gN tr v [c] K E.x E.tk):
  Go (5+(K+5)*Es.length+K+10) J U (nI U) U ⟨jZ j++(sp c++(dX v c E Es++[46,46,46,10,0])),0,0,0⟩ (YM j++(DY J v c [] [c] E Es (iZ j c) (r! (iZ j c) (dX v c E Es) 1)++ü 1 (r! (iZ j c) (dX v c E Es) 1))):=by
 have G:∃L,Arr 5 0 (mM 0 [c]) [46,46,46,10,0] (r! (iZ j c) (dX v c E Es) 1) L/\DU 0 [c] (r! (iZ j c) (dX v c E Es) 1)++L=ü 1 (r! (iZ j c) (dX v c E Es) 1):=by
  rcases nh (show _<=c from kg i)with l|l
  ·obtain⟨a,B⟩:=QC l
   rw[a,B];exact⟨_,(Qz gV Z),Z⟩
  ·subst l
   exact⟨_,(Qz aat Z),Z⟩
 obtain⟨L,A,q⟩:=G;have a:=QB o i .dt b e A;have a:Go _ J U _ U ⟨jZ j++_,0,0,0⟩ (YM j++(DY J v c [] [c] E Es _ _++(DU 0 [c] (r! _ _ 1)++L))):=a;rw[q]at a;exact a
def QE(g:c∈([1,2,3,4,5,6,7,8]:Y D)){b:W}(a:x9 2097157 b=U∨b=107){f:W}{r:ae}(e:x=b::f::r)(S:Go k U J (nL J U C []) J ⟨x,(qf dU (sp c) c).1,(qf dU (sp c) c).2.1,0+c⟩ L):Go (k+2) J U (nI U) U ⟨sp c++x,0,0,0⟩ L:=by have H:=ai Qv g;obtain⟨b,f⟩:=GI (H);(have K:∀{w:ae},aZ (Ā c) J U _ w J U->cC w J ⟨sp c++x,0,0,0⟩->Go (k+2) J U _ U ⟨sp c++x,0,0,0⟩ L:=λ{w}H g=>by refine r8 H g Z Z Z Z Z Z gp Z Z ?_;(have E:(qf dU (sp c) c).2.1=0+0:=by show 0+((mP _):D)=_;rw[ke];rfl);rw[E]at S;exact S);refine a.elim (λa=>K b (mN (pre_app gr (by rw[e];exact bK a (bK xA Z))))) λa=>K f (mN (pre_app gr (by rw[e,a];exact bK Z (bK xA Z))))
end
def aid(l:Lf):I:=ac (iq (dv (-1) l) l 0) (ak (dv (-1) l))&&a? ((dB [] l).n=AY (dv (-1) l))&&a? (qe l=(dB [] l).m)&&br (pE l) (!(dB [] l).s&&a? ((dB [] l).c=0)) (!lV l&&ac (half l) 0&&br (a? (rows l=0)) U (a? (rows l=1)))&&!(br (ac l.f 6) U (ac l.f 7))
def G4(l:Lf):I:=br (pE l) J (a? (rows l=0))
section
variable{k n K:W}{e h q m v tr:I}{t y:ae}{L:af}{p P Pe:aw}{c d cb c2:D}{s:Y D}{b:D}{E:gP}{Es:Y gP}{l:Lf}{T:Y Tk}
def D0:aI aid K!=U:=by kernel_rfl
def Wd(x:a∈([1,2,3,4,5,6,7,8]:Y D))(r:b∈([1,2,3,4]:Y D))(f:[b]∈jE){y:ae}(i:Nk tr [b] U y n d c2 t)(u:gN tr v [b] K E.x E.tk)(w:∀E∈Es,gN tr v [b] K E.x E.tk)(j:p=qf dU (sp a) a)(o:P=qf p ([38,122,10]++sp b) b)(g:Pe=fh P (dX v b E Es) n d c2):
  Go (1+(K+5)*(1+Es.length)+5) J U (nI U) U ⟨sp a++([38,122,10]++(sp b++(dX v b E Es++y))),0,0,0⟩ (aM ⟨14,p,aW p 2 0 (p.2.2+2)⟩::(DY U v b [] [b] E Es P Pe++(aM ⟨4,Pe,Pe⟩::yt Pe))):=by
 obtain⟨_,L,A,q⟩:=QD (P:=Pe) i (kg f) (by rw[g];rfl);have z:b∈([0,1,2,3,4]):=.tail _ r;have B:_<=b:=kg f
 have R:=Jn (c:=b) (p:=P) Z (bN _ _) (tW f) i Es u w (by show br _ [b] []=_;rw[cF (ui (aO Z) B)];rfl) (Jo z) (by rw[o];rfl) (by rw[<-g];exact A)
 rw[<-g,q,o]at R;have G:=Qr (ai Qw r) (by rw[j];show a=0+a+_;rw[iO];exact(aA _).symm) Z (Qq (Jl u w i.two)) R;rw[j]at G;have S:=QE x (.inl Z) Z G;rw[<-j]at S;rw[o];exact S.le (cZ (by rw[hH]))
def QF(f:l∈K!)(r:p.2.2=cb+(top []+1)):Go 10 U J (nL J U C []) J ⟨dv (-1) l++[0],p.1,p.2.1,cb⟩ (y_ U (G4 l) [aM (ir [] l p)]++yt (dC [] l p)):=by(have a:=ai D0 f;refine ag a λa _=>ag a λa j=>ag a λa w=>ag a λz G=>?_;have a:iq (dv (-1) l) l 0=ak (dv (-1) l):=aK z;have M:(dB [] l).n=((iq (dv (top []) l) l 0:W):D):=(aO G).trans (by rw[show iq (dv (top []) l) l 0=ak (dv (-1) l)from a];rfl);have G:=aO w;have H:aZ [AZ J U [] l 0] U J (nL J U C []) (dv (-1) l++[0]) U J:=ai Qx f;have w:cC (dv (-1) l++[0]) U ⟨dv (-1) l++[0],p.1,p.2.1,cb⟩:=kx.yo (kx.self (eW (kb (c:=-1) (l:=l)) Z));have z:(dv (-1) l++[0]).drop (iq (dv (top []) l) l 0)=[0]:=by rw[show iq (dv (top []) l) l 0=ak (dv (-1) l)from a];exact gp);(have f:(aW p (iq (dv (top []) l) l 0) (qe l) 0).1=(dC [] l p).1/\(aW p (iq (dv (top []) l) l 0) (qe l) 0).2.1=(dC [] l p).2.1:=by refine⟨?_,?_⟩;show p.1+_=p.1+(dB [] l).n;rw[M];show p.2.1+_=p.2.1+(dB [] l).m;rw[G]);have a:((((((aZ à J J (nK U (O 0) []) [0] U U&&GU U (O 0))&&aZ Ŧ J J (nK U (O 1) []) [0] U U)&&GU J C)&&aZ ß J J (nR U C 0 []) [0] U U)&&z? J 0 [])):=xE;refine ag a λa G=>ag a λa Q=>ag a λa R=>ag a λa V=>ag a λX a2'=>?_;(have g:∀{k:W}{L:af},Go k J J (Ez [] U l 0 (qe l)) U ⟨[0],(dC [] l p).1,(dC [] l p).2.1,br (LX l (dB [] l)).1 0 cb+(LX l (dB [] l)).2⟩ L->Go (k+1) U J (nL J U C []) J ⟨dv (-1) l++[0],p.1,p.2.1,cb⟩ (aM (ir [] l p)::L):=λ{k L}S=>by rw[<-f.1,<-f.2]at S;exact fV (l:=[AZ J U [] l 0]) (T:=[ir [] l p]) H w Z Z Z Z Z (aA _) z Z (xC r) S);(have u:∀{k:W}{L:af},iX k J J (Ez [] U l 0 (qe l)) U ⟨[0],(dC [] l p).1,(dC [] l p).2.1,br (LX l (dB [] l)).1 0 cb+(LX l (dB [] l)).2⟩ L->iX (k+1) U J (nL J U C []) J ⟨dv (-1) l++[0],p.1,p.2.1,cb⟩ (aM (ir [] l p)::L):=λ{k L}S=>by rw[<-f.1,<-f.2]at S;exact j9 (l:=[AZ J U [] l 0]) (T:=[ir [] l p]) Z H w Z Z Z Z Z (aA _) z Z (xC r) S);(have A:∀{h:I}{f:N D}{P:aw}{a:D},GU h f->P.2.2=a->iX 1 U J (nK h f []) h ⟨[0],P.1,P.2.1,a⟩ (yt P):=λ{h f P a}w e=>by have z:(P.1+0,P.2.1+0,a+0)=P:=eq3 (aA _) (aA _) ((aA _).trans e.symm);refine iX.km (k:=0) (T:=[⟨1,P,P⟩]) (s:=Ħ C J h) w ?_;show[Tk.mk 1 (P.1+0,P.2.1+0,a+0) (P.1+0,P.2.1+0,a+0)]=_;rw[z]);(have B:∀{h:I}{f:N D}{L:af}{w b a:D},(iX 1 U J (nK h f []) h ⟨[0],w,b,a⟩ L->iX 1 U J (nK h f []) h ⟨[0],w+0,b+0,a+0⟩ L):=λ{h f L w b a}G=>by rw[aA,aA,aA];exact G);unfold G4;cases f:pE l with|true=>(rw[f]at j;refine ag (show(!(dB [] l).s&&a? ((dB [] l).c=0))from j) λa o=>?_;have a:(dB [] l).s=J:=(im _).mp a;have x:Ez [] U l 0 (qe l)=nR U C 0 []:=by unfold Ez lV;rw[f];rfl);(have w:(dC [] l p).2.2=0:=by show br (dB [] l).s _ (dB [] l).c=0;rw[a];exact aO o);rw[x]at g;refine(g (k:=3) (L:=MARK::yt (dC [] l p)) ?_).le (aO Z);have i:iX 1 U J (nR J C 0 []) J ⟨[0],(dC [] l p).1,(dC [] l p).2.1,br (LX l (dB [] l)).1 0 cb+(LX l (dB [] l)).2⟩ (yt (dC [] l p)):=Bf (k:=0) (P:=dC [] l p) w gV J _;exact Go.link (l:=ß) Q Z (λq=>ao q) (i.go)|false=>(rw[f]at j;refine ag (show(!lV l&&ac (half l) 0&&br (a? (rows l=0)) U (a? (rows l=1)))from j) λa o=>ag a λc3 a=>?_;have c3:lV l=J:=(im _).mp c3;have a:=aK a;have f:qe l=rows l:=by unfold qe;rw[c3];rfl);(have x:Ez [] U l 0 (qe l)=nK U (O (rows l)) []:=by unfold Ez;rw[c3,f];rfl);(have F:(dC [] l p).2.2=br (LX l (dB [] l)).1 0 cb+(LX l (dB [] l)).2:=by unfold LX;rw[c3,a];show br (dB [] l).s (p.2.2+((dB [] l).c-(-1+1))) (dB [] l).c=br (!(dB [] l).s) 0 cb+((dB [] l).c+0);rw[r];cases(dB [] l).s with|true=> show cb+(-1+1)+((dB [] l).c-(-1+1))=cb+((dB [] l).c+0);rw[show(-1+1)=0 from Z,aA,aA,Int.sub_zero]|false=>show(dB [] l).c=0+((dB [] l).c+0);rw[iO,aA]);rw[x]at g u;cases a:a? (rows l=0)with|true=> rw[show rows l=0 from aO a]at u;have i:=A a2' F;exact((u (iX.link Z X Z (λq=>ao q) (B i))).go).le (aO Z)|false=> rw[a]at o;rw[show rows l=1 from aO o]at g;have i:=(B (A R F)).go;exact(g (Go.link V Z (λq=>ao q) i)).le (aO Z)
end
def yu:Y Lf:=K!++[⟨6,5,1,0⟩,⟨7,5,1,0⟩]
def kA(a:Y D)(l:Lf)(p:aw):aw:=br (ac l.f 6) (aW p 7 0 (p.2.2+7)) (br (ac l.f 7) (aW p 3 0 (p.2.2+3)) (dC a l p))
def aie(l:Lf):I:=br (jp l.f 10) U (ac l.f 11)
section
variable{e h q z:I}{t r:ae}{L:af}{p P:aw}{c cb:D}{b:D}{l:Lf}{T:Y Tk}
def QG:aI aie yu=U:=by kernel_rfl
def af5{h:I}{b:D}(G:iX 1 U J (nK h a []) h ⟨[0],d,b,f⟩ L):iX 1 U J (nK h a []) h ⟨[0],d+0,b+0,f+0⟩ L:=by rw[aA,aA,aA];exact G
def af6{h:I}(F:GU h d)(e:P.2.2=a):iX 1 U J (nK h d []) h ⟨[0],P.1,P.2.1,a⟩ (yt P):=by have d:_=P:=eq3 (aA _) (aA _) ((aA _).trans e.symm);refine iX.km (T:=[⟨1,P,P⟩]) F ?_;show[Tk.mk 1 (P.1+0,P.2.1+0,a+0) (P.1+0,P.2.1+0,a+0)]=_;rw[d]
def GY(a:aZ à J J (nK U (O 0) []) [0] U U)(F:GU U (O 0))(e:P.2.2=cb'):iX 2 J J (nK U (O 0) []) U ⟨[0],P.1,P.2.1,cb'⟩ (yt P):=iX.link Z a Z (λq=>ao q) (af5 (af6 F e))
theorem Lv(m:l∈yu)(f:p.2.2=cb+(top []+1)):Go 20 U J (nL J U C []) J ⟨dv (-1) l++[0],p.1,p.2.1,cb⟩ (y_ U (G4 l) ((iY [] l p).map aM)++yt (kA [] l p)):=by
 have a:=xE;have g:=Qy;refine ag a λa _=>ag a λa _=>ag a λa _=>ag a λa _=>ag a λj k=>ag g λg n=>ag g λs u=>?_;have a:=f.trans (aA _);refine(gU.mp m).elim (λh=>?_) λh=>?_
 ·have a:=ai D0 h
  refine ag a λ_ a=>?_;have o:=(im _).mp a
  have E:kA [] l p=dC [] l p:=by
   unfold kA;cases a:ac l.f 6 with
   |true=>rw[a]at o;exact ao o.symm
   |false=> rw[a]at o;rw[show ac l.f 7=J from o];rfl
  rw[Bb o,E];exact(QF h f).le (aO Z)
 ·cases h with
  |head=>
   have P:∀a,aW (aW p 6 0 (p.2.2+6)) 1 0 a=aW p 7 0 a:=λa=>VU;have a:=by show p.2.2+6=cb+2+1+2+1+0;lia
   have d:=GY (P:=aW p 7 0 _) (cb':=cb+2+1+2+1+1) j k (by show p.2.2+7=_;lia);have d:iX 2 J J (nK U (O 0) []) U ⟨[0],(aW (aW p 6 0 (p.2.2+6)) 1 0 (p.2.2+7)).1,(aW (aW p 6 0 (p.2.2+6)) 1 0 (p.2.2+7)).2.1,cb+2+1+2+1+1⟩ (yt (aW p 7 0 (p.2.2+7))):=by rw[P];exact d
   have g:ir [] ⟨10,5,1,0⟩ (aW p 6 0 (p.2.2+6))=⟨20,aW p 6 0 (p.2.2+6),aW p 7 0 (p.2.2+7)⟩:=by refine ah _ (eq3 (d! Z) (aA _) ?_);exact d! Z
   have m:=j9 Z u (kx.yo (kx.self Z)) Z Z Z Z Z Z Z Z ((xC a).trans (ah (·::[]) g)) d;have i:=j9 (t:=[38,120,32,33,116,32,106,0]) Z s (mN Z) Z Z Z Z Z Z Z Z (GN f U) m;exact(i.go).le (aO Z)
  |tail _ h=>cases h with
   |head=> have d:=GY (P:=aW p 3 0 _) (cb':=cb+1+1+(-1+2)) j k (by show p.2.2+3=_;lia);have i:=j9 Z n (kx.yo (kx.self Z)) Z Z Z Z Z Z Z Z (GO f U) d;exact(i.go).le (aO Z)
   |tail _ h=>exact nomatch h
def QH(f:l∈yu)(g:c∈([1,2,3,4,5,6,7,8]:Y D)):Go 22 J U (nI U) U ⟨sp c++(dv (-1) l++[0]),0,0,0⟩ (y_ U (G4 l) ((iY [] l (qf dU (sp c) c)).map aM)++yt (kA [] l (qf dU (sp c) c))):=by(have F:∃a b r,dv (-1) l++[0]=a::b::r/\(x9 2097157 a=U∨a=107):=by refine ny (ai QG f) (λh _=>?_) λ_ h=>?_;(obtain⟨a,r,E,d⟩:=DX h;rw[E];generalize r=u;induction u with|nil=>exact⟨_,_,_,Z,.inl d⟩|cons b r _=>exact⟨_,_,_,Z,.inl d⟩);obtain⟨i,e,j,z⟩:=l;rw[show i=11 from aK h];exact⟨_,_,_,Z,.inr Z⟩);obtain⟨a,b,r,E,d⟩:=F;exact QE g d E (Lv f (by show c=0+c+_;rw[iO];exact(aA _).symm))
end
def pB(s:V)(a:ae)(b:af)(c:PA):aC:=[(167,.val s),(165,.lst (a.map V.av)),(166,.lst b),(162,.val .none),(164,c),(163,.val .none)]
def b8(p:aw):V:=.tup [.int p.1,.int p.2.1,.int p.2.2]
def bB(t:V)(a b:aw):V:=.tup [t,.lst [b8 a,b8 b]]
def r9:PA:=.val (.cd 176)
def Sz:PA:=.vI Di
def yes:V:=.str [121,101,115]
def iL:V:=.str [110,111]
def qL(a b:V)(c d:V)(s:ae)(q:V):V:=.tup [.str [118,97,108,117,101],a,b,c,d,.str s,q]
def QI(s:ae):V:=.tup [.str [97,108,105,97,115],.str s]
def Bg(a:V)(b:V):V:=.tup [.str [114,111,119],a,.none,yes,b]
def aif(a:V):V:=.tup [.str [109,97,112],a,.none,yes,iL]
def m9:V:=.tup [.str [114,111,119,32,101,110,100]]
def D3:V:=.tup [.str [109,97,112,32,101,110,100]]
def i8(x:V):V:=.tup [.str [100,111,99,117,109,101,110,116],x,.none,.none]
def iM(x:V):V:=.tup [.str [100,111,99,117,109,101,110,116,32,101,110,100],x]
def iD:V:=.tup [.str [115,116,114,101,97,109]]
def kh:V:=.tup [.str [115,116,114,101,97,109,32,101,110,100]]
def quest:V:=.str [63]
structure Fz where
 m:W->aw
 s:ae
 q:W
 th:PA
 ms:af
 R:af
 x:W->V
def tY(k:Kd)(a b:aw):V:=zi k (tL a) (tL b)
def Fz.t(z:Fz)(k:Kd)(j:W):V:=tY k (z.m (2*j)) (z.m (2*j+1))
structure Lz where
 ts:af
 v:V
 a:W
 b:W
def V?(z:Fz)(j:W):Lz:=⟨[z.t (kP z.s) j],qL .none .none yes iL z.s .none,2*j,2*j+1⟩
def lzQ(z:Fz)(j:W):Lz:=⟨[z.t (kQ z.s z.q) j],qL .none .none iL yes z.s (.str [z.q]),2*j,2*j+1⟩
def lzA(z:Fz)(j:W):Lz:=⟨[z.t (kV 117 z.s) j],QI z.s,2*j,2*j+1⟩
def YN(z:Fz)(j:W):Lz:=⟨[z.t (kV 119 [120]) j,z.t ⟨134,[(10,.tup [.str [33],.str [116]])],[]⟩ (j+1),z.t (kP z.s) (j+2)],qL (.str [120]) (.str [33,116]) iL iL z.s .none,2*j,2*(j+2)+1⟩
def lr(b:I)(l:af):af:=br b (MARK::l) l
def shw(o:N (N V×PG)):N (N V×aC×af):=mp o λr=>(r.1,r.2.par,r.2.aG)
def dY(z:Fz)(s:V)(a:ae)(b:I)(t:af):N (N V×aC×af):=shw (xx ⟨pB s a z.ms z.th,br b (.bool U::(t++z.R)) (t++z.R),0⟩)
def fW(z:Fz)(v:V)(a b:aw)(s:V)(c:ae)(d:af)(e:I)(t:af):N (N V×aC×af):=O (O (bB v a b),pB s c d z.th,br e (.bool U::(t++z.R)) (t++z.R))
def zy(z:Fz)(n:W):af:=ul [] (λk r=>r++[z.x k]) n
def cj(z:Fz)(n:W):Fz:={z with ms:=zy z n}
def SA(s:W)(z:Fz):af:=br (ac s 197) [z.t (kS 111) 0,z.t (kS 112) 1] (br (ac s 203) [z.t (kS 116) 0] [z.t (kS 112) 0])
def g6(s:W):W:=br (ac s 197) 2 1
def qP(s:W):W:=br (ac s 197) 199 (br (ac s 203) 202 s)
def L8(s:W)(z:Fz):af:=br (ac s 197) (z.ms++[tL (z.m 0)]) z.ms
def r?:uF:=[[179],[179,199],[179,202]]
structure Pc where
 s:W
 st:ae
 pre:I
def Bh:Y Pc:=(r?.map λa=>[⟨197,a,U⟩,⟨199,a,J⟩,⟨199,a,U⟩,⟨203,a,J⟩]).flatten++[⟨192,[179,202],U⟩,⟨192,[179,202],J⟩]
def ji(c:Pc):W:=br (ac c.s 192) 1 (br (ac c.s 197) (c.st.length-1) c.st.length)
def D4(z:Fz)(c:Pc)(a:af):N (N V×aC×af):=dY z (.av c.s) c.st c.pre (SA c.s z++a)
def BI(k:W)(z:Fz)(j:W):Lz:=gc k (V? z j) λk=>gc k (lzQ z j) λ_=>lzA z j
def lfF(z:Fz)(x:Pc×I×W):N (N V×aC×af):=D4 z x.1 (lr x.2.1 (BI x.2.2 z (g6 x.1.s)).ts)
def lfG(z:Fz)(x:Pc×I×W):N (N V×aC×af):=fW z (BI x.2.2 z (g6 x.1.s)).v (z.m (BI x.2.2 z (g6 x.1.s)).a) (z.m (BI x.2.2 z (g6 x.1.s)).b) (.av (qP x.1.s)) x.1.st (L8 x.1.s z) J []
def Bi{a b:Type}(l:Y a)(m:Y b):Y (a×b):=(l.map λa=>m.map λb=>(a,b)).flatten
def t_:Y I:=[J,U]
def đ:Y (Pc×I×W):=Bi Bh (Bi t_ [0,1,2])
def þ(z:Fz)(a:PA)(x:Pc×I):N (N V×aC×af):=D4 {z with th:=a} x.1 (lr x.2 (YN z (g6 x.1.s)).ts)
def ý(z:Fz)(a:PA)(x:Pc×I):N (N V×aC×af):=fW {z with th:=a} (YN z (g6 x.1.s)).v (z.m (YN z (g6 x.1.s)).a) (z.m (YN z (g6 x.1.s)).b) (.av (qP x.1.s)) x.1.st (L8 x.1.s z) J []
def w_:Y (Pc×I):=Bi Bh t_
def flF(z:Fz)(x:Pc×I):N (N V×aC×af):=D4 z x.1 (lr x.2 [z.t (kS 102) (g6 x.1.s)])
def flG(z:Fz)(x:Pc×I):N (N V×aC×af):=fW z (Bg .none yes) (z.m (2*g6 x.1.s)) (z.m (2*g6 x.1.s+1)) (.av 194) (x.1.st++[qP x.1.s]) (L8 x.1.s z) U [z.t (kS 102) (g6 x.1.s)]
def L6(s:W):Y (I×W):=(J,93)::(U,93)::br (ac s 203) [(J,113)] (br (ac s 192) [(J,112),(J,113)] [(J,112)])
def ħ:Y (Pc×I×W):=(Bh.map λc=>(L6 c.s).map λx=>(c,x)).flatten
def emF(z:Fz)(x:Pc×I×W):N (N V×aC×af):=D4 z x.1 (lr x.2.1 [z.t (kS x.2.2) (g6 x.1.s)])
def emG(z:Fz)(x:Pc×I×W):N (N V×aC×af):=fW z (qL .none .none yes iL [] .none) (z.m (2*g6 x.1.s-1)) (z.m (2*g6 x.1.s-1)) (.av (qP x.1.s)) x.1.st (L8 x.1.s z) U [z.t (kS x.2.2) (g6 x.1.s)]
def ua:Y (Pc×I×W):=Bi [⟨197,[179],U⟩,⟨199,[179],J⟩,⟨199,[179],U⟩,⟨203,[179],J⟩] (Bi t_ [111,115])++Bi [⟨203,[179],J⟩] (Bi t_ [112])
def Ĵ(z:Fz)(a:I)(j:W):af:=br a [z.t (kV 119 [122]) j] []
def A1(a:I)(j:W):W:=br a (j+1) j
def bkF(z:Fz)(x:Pc×I×W):N (N V×aC×af):=D4 z x.1 (Ĵ z x.2.1 (g6 x.1.s)++[z.t (kS x.2.2) (A1 x.2.1 (g6 x.1.s))])
def Z!(a:I):V:=br a (.str [122]) .none
def EC(k:W)(a:I):V:=br (ac k 111) (Bg (Z! a) iL) (br (ac k 115) (aif (Z! a)) (Bg (Z! a) quest))
def We(k:W):W:=br (ac k 111) 197 (br (ac k 115) 198 192)
def bkG(z:Fz)(x:Pc×I×W):N (N V×aC×af):=fW z (EC x.2.2 x.2.1) (z.m (2*g6 x.1.s)) (z.m (2*A1 x.2.1 (g6 x.1.s)+br (ac x.2.2 112) 1 0)) (.av (We x.2.2)) (x.1.st++[qP x.1.s]) (L8 x.1.s z) U [z.t (kS x.2.2) (A1 x.2.1 (g6 x.1.s))]
def Ė:Y (I×I×ae):=Bi [(U,U),(J,J),(J,U)] r?|>.map λx=>(x.1.1,x.1.2,x.2)
def ĕ(z:Fz)(x:I×I×ae):N (N V×aC×af):=dY z (.av (br x.1 198 202)) x.2.2 x.2.1 (br x.1 [z.t (kS 115) 0,z.t (kS 113) 1,z.t (kP z.s) 2] [z.t (kS 113) 0,z.t (kP z.s) 1])
def Ĕ(z:Fz)(x:I×I×ae):N (N V×aC×af):=fW z (V? z (br x.1 2 1)).v (z.m (br x.1 4 2)) (z.m (br x.1 5 3)) (.av 203) x.2.2 (br x.1 (z.ms++[tL (z.m 0)]) z.ms) J []
def z2:Y (ae×W):=[([179,199],1),([179,199,199],2),([179,202,199],2),([179,202,192],1),([179,202],1),([179,199,202],2),([179,202,202],2),([179],0)]
def fwF(z:Fz)(x:ae×W):N (N V×aC×af):=dY z (.av 194) x.1 U [z.t (kS 102) 0,z.t (kP z.s) 1]
def fwG(z:Fz)(x:ae×W):N (N V×aC×af):=fW z (V? z 1).v (z.m 2) (z.m 3) (.av 207) x.1 (z.ms++[tL (z.m 0)]) J []
def xF(l:ae):W:=bm 0 (λa r b=>lc r a λ_ _=>b) l
def xG(l:ae):ae:=bm [] (λa r b=>lc r [] λ_ _=>a::b) l
def feF(z:Fz)(x:ae×W):N (N V×aC×af):=dY {z with ms:=zy z (x.2+1)} (.av 207) x.1 J [z.t (kS 106) 0]
def feG(z:Fz)(x:ae×W):N (N V×aC×af):=fW z m9 (z.m 0) (z.m 1) (.av (xF x.1)) (xG x.1) (zy z x.2) J []
def ĵ:Y ((W×ae×W)×I×I):=Bi (Bi [199,202] [([179],0),([179,199],1),([179,202],1)]) [(J,J),(U,J),(J,U)]
def beF(z:Fz)(x:(W×ae×W)×I×I):N (N V×aC×af):=dY {z with ms:=zy z (x.1.2.2+1)} (.av x.1.1) x.1.2.1 x.2.1 (lr x.2.2 [z.t (kS 93) 0])
def beG(z:Fz)(x:(W×ae×W)×I×I):N (N V×aC×af):=fW z (br (ac x.1.1 199) m9 D3) (z.m 0) (z.m 1) (.av (xF x.1.2.1)) (xG x.1.2.1) (zy z x.1.2.2) J []
def Ĝ:Y (W×I×I):=[(93,J,J),(93,U,J),(93,J,U),(113,J,J),(113,U,J)]
def ieF(z:Fz)(x:W×I×I):N (N V×aC×af):=dY z (.av 192) [179,202] x.2.1 (lr x.2.2 [z.t (kS x.1) 0])
def ieG(z:Fz)(x:W×I×I):N (N V×aC×af):=fW z m9 (z.m 0) (z.m 0) (.av 202) [179] z.ms U [z.t (kS x.1) 0]
def Ī:Y (I×W):=Bi t_ [0,1,2,3,4,5,6,7]
def L!(z:Fz)(k:W):Kd:=gc k (kS 111) λk=>gc k (kS 115) λk=>gc k (kP z.s) λk=>gc k (kQ z.s z.q) λk=>gc k (kV 117 z.s) λk=>gc k (kV 119 [120]) λk=>gc k (kV 119 [122]) λ_=>kS 102
def d1F(z:Fz)(x:I×W):N (N V×aC×af):=dY {z with th:=.kU [],ms:=[]} (.av 173) [] J (lr x.1 [z.t (L! z x.2) 0])
def d1G(z:Fz)(x:I×W):N (N V×aC×af):=fW {z with th:=r9} (i8 iL) (z.m 0) (z.m 0) (.av 180) [179] [] U [z.t (L! z x.2) 0]
def S!:Y (W×I×W):=[(180,J,111),(180,J,115),(180,U,111),(180,U,115),(183,J,111),(183,J,115)]
def rtF(z:Fz)(x:W×I×W):N (N V×aC×af):=dY z (.av x.1) [179] (ac x.1 180) (Ĵ z x.2.1 0++[z.t (kS x.2.2) (A1 x.2.1 0)])
def rtG(z:Fz)(x:W×I×W):N (N V×aC×af):=fW z (EC x.2.2 x.2.1) (z.m 0) (z.m (2*A1 x.2.1 0)) (.av (We x.2.2)) [179] z.ms U [z.t (kS x.2.2) (A1 x.2.1 0)]
def raF(z:Fz)(k:W):N (N V×aC×af):=dY z (.av 180) [179] U (BI k z 0).ts
def raG(z:Fz)(k:W):N (N V×aC×af):=fW z (BI k z 0).v (z.m 0) (z.m 1) (.av 179) [] z.ms J []
def Wf(z:Fz):đ.map (λx=>lfF (cj z (ji x.1)) x)=đ.map λx=>lfG (cj z (ji x.1)) x:=by kernel_rfl
def QJ(z:Fz):w_.map (λx=>þ (cj z (ji x.1)) r9 x)=w_.map λx=>ý (cj z (ji x.1)) r9 x:=by kernel_rfl
def QK(z:Fz):w_.map (λx=>þ (cj z (ji x.1)) Sz x)=w_.map λx=>ý (cj z (ji x.1)) Sz x:=by kernel_rfl
def Wg(z:Fz):w_.map (λx=>flF (cj z (ji x.1)) x)=w_.map λx=>flG (cj z (ji x.1)) x:=by kernel_rfl
def Wh(z:Fz):ħ.map (λx=>emF (cj z (ji x.1)) x)=ħ.map λx=>emG (cj z (ji x.1)) x:=by kernel_rfl
def Jp(z:Fz):ua.map (λx=>bkF (cj z (ji x.1)) x)=ua.map λx=>bkG (cj z (ji x.1)) x:=by kernel_rfl
def Wi(z:Fz):Ė.map (λx=>ĕ (cj z (x.2.2.length-br x.1 1 0)) x)=Ė.map λx=>Ĕ (cj z (x.2.2.length-br x.1 1 0)) x:=by kernel_rfl
def Wj(z:Fz):z2.map (λx=>fwF (cj z x.2) x)=z2.map λx=>fwG (cj z x.2) x:=by kernel_rfl
def Wk(z:Fz):z2.map (feF z)=z2.map (feG z):=by kernel_rfl
def Wm(z:Fz):ĵ.map (beF z)=ĵ.map (beG z):=by kernel_rfl
def Wn(z:Fz):Ĝ.map (ieF z)=Ĝ.map (ieG z):=by kernel_rfl
def Wo(z:Fz):Ī.map (d1F z)=Ī.map (d1G z):=by kernel_rfl
def Jq(z:Fz):S!.map (rtF z)=S!.map (rtG z):=by kernel_rfl
def Wq(z:Fz):[0,1,2].map (raF z)=[0,1,2].map (raG z):=by kernel_rfl
def ab9(z:Fz):dY {z with th:=r9} (.av 180) [179] U (YN z 0).ts=fW {z with th:=r9} (YN z 0).v (z.m 0) (z.m 5) (.av 179) [] z.ms J []:=by kernel_rfl
def aca(z:Fz):dY z (.av 180) [179] U [z.t (kS 102) 0]=fW z (Bg .none yes) (z.m 0) (z.m 1) (.av 194) [179] z.ms U [z.t (kS 102) 0]:=by kernel_rfl
def acb(z:Fz):dY {z with th:=.kU []} (.av 168) [] U [z.t ⟨95,[],[(9,.none)]⟩ 0]=fW {z with th:=.kU []} iD (z.m 0) (z.m 1) (.av 173) [] z.ms J []:=by kernel_rfl
def acd(z:Fz):dY {z with th:=.kU [],ms:=[]} (.av 173) [] J [z.t (kS 97) 0]=fW {z with th:=Sz} (i8 yes) (z.m 0) (z.m 1) (.av 183) [179] [] J []:=by kernel_rfl
def Wr(z:Fz):t_.map (λb=>dY z (.av 179) [] J (lr b [z.t (kS 96) 0]))=t_.map λ_=>fW z (iM iL) (z.m 0) (z.m 0) (.av 181) [] z.ms U [z.t (kS 96) 0]:=by kernel_rfl
def ace(z:Fz):dY z (.av 179) [] J [z.t (kS 99) 0]=fW z (iM yes) (z.m 0) (z.m 1) (.av 181) [] z.ms J []:=by kernel_rfl
def Ws(z:Fz):[(U,J),(J,J),(J,U)].map (λb:I×I=>dY {z with ms:=[]} (.av 181) [] b.1 (lr b.2 [z.t (kS 96) 0]))=[(U,J),(J,J),(J,U)].map λ_=>fW {z with ms:=[]} kh (z.m 0) (z.m 1) .none [] [] J []:=by kernel_rfl
def acf(z:Fz):mp (xx ⟨pB .none [] z.ms z.th,z.R,0⟩) (·.1)=O C:=by kernel_rfl
def PP(s:V)(b:ae)(c:af)(d:PA)(e:I)(R a:af):=Pa a (pB s b c d) (br e (.bool U::R) R)
structure SD(e:I)(s:V)(sts:ae)(ms:af)(th:PA)(R told:af):Prop where
 a:∀pre,PP s sts ms th pre R told
 b:e->PP s sts ms th J (MARK::R) told
def fX(s:W)(p:aw):Y aw:=br (ac s 197) [p,p,p,aW p 1 0 (p.2.2+1)] (br (ac s 203) [aW p 1 0 (p.2.2+1),aW p 2 0 (p.2.2+2)] [p,aW p 1 0 (p.2.2+1)])
def D5(s:W)(p:aw):af:=br (ac s 197) [aM ⟨5,p,p⟩,aM ⟨7,p,aW p 1 0 (p.2.2+1)⟩] (br (ac s 203) [aM ⟨9,aW p 1 0 (p.2.2+1),aW p 2 0 (p.2.2+2)⟩] [aM ⟨7,p,aW p 1 0 (p.2.2+1)⟩])
def vl(s:W)(p:aw):aw:=qJ (ac s 203) p
def tZ(s:W)(a:af)(p:aw):af:=br (ac s 197) (a++[tL p]) a
def zz(M:Y aw)(s:ae)(q:W)(a:PA)(b R:af):Fz:=⟨λj=>ku j M dU,s,q,a,[],R,λk=>ku k b .none⟩
def ok2(c:Pc):I:=bd (ji c) 2
section
variable{z:Fz}{s s' v:V}{sts sts':ae}{pre pre' mk:I}{t t' R A ms ms':af}{a b p q P:aw}{th:PA}{c:Pc}{n:W}{M:Y aw}{sx:ae}{qx B:W}
def Wt:aI ok2 Bh=U:=by kernel_rfl
def Jr(d:bd n 2)(h:ms.length=n):zy (zz M sx qx th ms R) n=ms:=by
 cases n with
 |zero=>rw[wE h];rfl
 |succ n=>cases n with
  |zero=>cases ms with
   |nil=>exact nomatch h
   |cons a ms=>cases ms with
    |nil=>rfl
    |cons b ms=>exact nomatch h
  |succ n=>cases n with
   |zero=>cases ms with
    |nil=>exact nomatch h
    |cons a ms=>cases ms with
     |nil=>exact nomatch h
     |cons b ms=>cases ms with
      |nil=>rfl
      |cons c ms=>exact nomatch h
   |succ n=>exact ao d
def xH(h:dY z s sts pre t=fW d v a b s' sts' ms' pre' t')(K:PP s' sts' ms' d.th pre' (t'++d.R) A):PP s sts z.ms z.th pre (t++z.R) (bB v a b::A):=by refine iH h λr g e=>?_;obtain⟨h,f⟩:=r;have i:h=O _:=ah (·.1) e;have h:f.par=pB s' sts' ms' d.th:=ah (·.2.1) e;have d:f.aG=br pre' _ _:=ah (·.2.2) e;refine⟨f,by rw[g,i],?_⟩;rw[h,d];exact K
def fH(h:dY z s sts pre t=fW z v a b s' sts' ms' pre' t')(K:PP s' sts' ms' z.th pre' (t'++z.R) A):PP s sts z.ms z.th pre (t++z.R) (bB v a b::A):=xH h K
def d6{d e:Type}{f g:d->e}{l:Y d}(h:l.map f=l.map g){x:d}(m:x∈l):f x=g x:=Ix.mp h x m
def eY{d e:Type}{l:Y d}{m:Y e}{x:d}{y:e}(h:x∈l)(k:y∈m):(x,y)∈Bi l m:=AC.mpr ⟨_,eO.mpr ⟨x,h,Z⟩,eO.mpr ⟨y,k,Z⟩⟩
def af7{X:Y aw}:SA c.s (zz (fX c.s p++X) sx qx th ms R)=D5 c.s p:=by
 unfold SA fX D5;cases ac c.s 197 with
 |true=>rfl
 |false=>cases ac c.s 203 with
  |true=>rfl
  |false=>rfl
def D6{X:Y aw}(i:W):(zz (fX c.s p++X) sx qx th ms R).m (2*g6 c.s+i)=ku i X dU:=by unfold g6 fX;cases ac c.s 197 with|true=>rw[hJ _];rfl|false=>rw[hJ _];cases ac c.s 203<;>rfl
def zA{X:Y aw}(j:W)(k:Kd):(zz (fX c.s p++X) sx qx th ms R).t k (g6 c.s+j)=tY k (ku (2*j) X dU) (ku (2*j+1) X dU):=by show tY k _ _=_;rw[IA,fJ,D6,D6]
def af8{X:Y aw}(d:zy (zz (fX c.s p++X) sx qx th ms R) n=ms):L8 c.s (cj (zz (fX c.s p++X) sx qx th ms R) n)=tZ c.s ms p:=by show br _ (zy _ n++[tL _]) (zy _ n)=_;rw[d];unfold tZ fX;cases ac c.s 197<;>rfl
def t5{X:Y aw}{t':af}{s':V}{sts':ae}{pre':I}(f:c∈Bh)(g:ms.length=ji c)
 (r:dY (cj (zz (fX c.s p++X) sx qx th ms R) (ji c)) (.av c.s) c.st c.pre (SA c.s (zz (fX c.s p++X) sx qx th ms R)++d)=fW (cj (zz (fX c.s p++X) sx qx th ms R) (ji c)) v a b s' sts' (L8 c.s (cj (zz (fX c.s p++X) sx qx th ms R) (ji c))) pre' t')
 (K:PP s' sts' (tZ c.s ms p) th pre' (t'++R) A):PP (.av c.s) c.st ms th c.pre (D5 c.s p++(d++R)) (bB v a b::A):=by
 have e:=Jr (M:=fX c.s p++X) (sx:=sx) (qx:=qx) (th:=th) (R:=R) (ai Wt f) g;rw[af7,af8 e]at r;have d:=fH r K;rw[am]at d;have d:PP _ c.st (zy _ _) th c.pre _ _:=d;rw[e]at d;exact d
def acg{v:V}(f:c∈Bh)(g:ms.length=ji c)(i:(PJ k=kP sx/\v=qL .none .none yes iL sx .none)∨(PJ k=kQ sx qx/\v=qL .none .none iL yes sx (.str [qx]))∨(PJ k=kV 117 sx/\v=QI sx))
 (K:PP (.av (qP c.s)) c.st (tZ c.s ms p) th J R A):PP (.av c.s) c.st ms th c.pre (D5 c.s p++(lr mk [aM ⟨k,a,b⟩]++R)) (bB v a b::A):=by
 have h:=D6 (c:=c) (p:=p) (X:=[a,b]) (sx:=sx) (qx:=qx) (th:=th) (ms:=ms) (R:=R) 0;have j:=D6 (c:=c) (p:=p) (X:=[a,b]) (sx:=sx) (qx:=qx) (th:=th) (ms:=ms) (R:=R) 1;have d:=zA (c:=c) (p:=p) (X:=[a,b]) (sx:=sx) (qx:=qx) (th:=th) (ms:=ms) (R:=R) 0
 have e:∀B,B∈[0,1,2]->(BI B (zz (fX c.s p++[a,b]) sx qx th ms R) (g6 c.s)).ts=[aM ⟨k,a,b⟩]->(BI B (zz (fX c.s p++[a,b]) sx qx th ms R) (g6 c.s)).v=v->(BI B (zz (fX c.s p++[a,b]) sx qx th ms R) (g6 c.s)).a=2*g6 c.s->(BI B (zz (fX c.s p++[a,b]) sx qx th ms R) (g6 c.s)).b=2*g6 c.s+1->PP (.av c.s) c.st ms th c.pre (D5 c.s p++(lr mk [aM ⟨k,a,b⟩]++R)) (bB v a b::A):=λB m l o u w=>by have r:dY (cj (zz (fX c.s p++[a,b]) sx qx th ms R) (ji c)) (.av c.s) c.st c.pre (SA c.s (zz (fX c.s p++[a,b]) sx qx th ms R)++lr mk (BI B (zz (fX c.s p++[a,b]) sx qx th ms R) (g6 c.s)).ts)=fW (cj (zz (fX c.s p++[a,b]) sx qx th ms R) (ji c)) (BI B (zz (fX c.s p++[a,b]) sx qx th ms R) (g6 c.s)).v ((zz (fX c.s p++[a,b]) sx qx th ms R).m (BI B (zz (fX c.s p++[a,b]) sx qx th ms R) (g6 c.s)).a) ((zz (fX c.s p++[a,b]) sx qx th ms R).m (BI B (zz (fX c.s p++[a,b]) sx qx th ms R) (g6 c.s)).b) (.av (qP c.s)) c.st (L8 c.s (cj (zz (fX c.s p++[a,b]) sx qx th ms R) (ji c))) J []:=d6 (Wf (zz (fX c.s p++[a,b]) sx qx th ms R)) (x:=(c,mk,B)) (eY f (eY (jz mk) m));rw[l,o,u,w,j,show(zz (fX c.s p++[a,b]) sx qx th ms R).m (2*g6 c.s)=a from h]at r;exact t5 f g r K
 have f:∀g,PJ k=g->[aM ⟨k,a,b⟩]=[tY g a b]:=λg h=>by rw[<-h];rfl
 refine i.elim (λh=>e 0 gV ?_ h.2.symm Z Z) λh=>h.elim (λh=>e 1 aat ?_ h.2.symm Z Z) λh=>e 2 aau ?_ h.2.symm Z Z
 ·rw[f _ h.1];exact ah (·::[]) (d _)
 ·rw[f _ h.1];exact ah (·::[]) (d _)
 ·rw[f _ h.1];exact ah (·::[]) (d _)
def l3{a b c:V}(g:a=d)(h:b=e)(i:c=f):[a,b,c]=[d,e,f]:=by rw[g,h,i]
def QL:V:=qL (.str [120]) (.str [33,116]) iL iL [106] .none
def af9{c1:aw}(h:th=r9∨th=Sz)(f:c∈Bh)(k:ms.length=ji c)(K:PP (.av (qP c.s)) c.st (tZ c.s ms p) th J R A):PP (.av c.s) c.st ms th c.pre (D5 c.s p++(lr mk [aM ⟨13,a,b⟩,aM ⟨15,c1,d⟩,aM ⟨20,e,q⟩]++R)) (bB QL a q::A):=by have i:=λg=>D6 (c:=c) (p:=p) (X:=[a,b,c1,d,e,q]) (sx:=[106]) (qx:=0) (th:=th) (ms:=ms) (R:=R) g;have g:=λj l=>zA (c:=c) (p:=p) (X:=[a,b,c1,d,e,q]) (sx:=[106]) (qx:=0) (th:=th) (ms:=ms) (R:=R) j l;(have j:dY (cj (zz (fX c.s p++[a,b,c1,d,e,q]) [106] 0 th ms R) (ji c)) (.av c.s) c.st c.pre (SA c.s (zz (fX c.s p++[a,b,c1,d,e,q]) [106] 0 th ms R)++lr mk (YN (zz (fX c.s p++[a,b,c1,d,e,q]) [106] 0 th ms R) (g6 c.s)).ts)=fW (cj (zz (fX c.s p++[a,b,c1,d,e,q]) [106] 0 th ms R) (ji c)) QL ((zz (fX c.s p++[a,b,c1,d,e,q]) [106] 0 th ms R).m (2*g6 c.s+0)) ((zz (fX c.s p++[a,b,c1,d,e,q]) [106] 0 th ms R).m (2*g6 c.s+5)) (.av (qP c.s)) c.st (L8 c.s (cj (zz (fX c.s p++[a,b,c1,d,e,q]) [106] 0 th ms R) (ji c))) J []:=by exact h.elim (λh=>by rw[h];exact d6 (QJ (zz (fX c.s p++[a,b,c1,d,e,q]) [106] 0 r9 ms R)) (x:=(c,mk)) (eY f (jz mk))) λh=>by rw[h];exact d6 (QK (zz (fX c.s p++[a,b,c1,d,e,q]) [106] 0 Sz ms R)) (x:=(c,mk)) (eY f (jz mk)));(have E:(YN (zz (fX c.s p++[a,b,c1,d,e,q]) [106] 0 th ms R) (g6 c.s)).ts=[aM ⟨13,a,b⟩,aM ⟨15,c1,d⟩,aM ⟨20,e,q⟩]:=by exact l3 (g 0 _) (g 1 ⟨134,[_],[]⟩) (g 2 _));rw[E,i,i]at j;exact t5 f k j K
def ach:∀c∈Bh,(c.st++[qP c.s],br (ac c.s 197) (ji c+1) (ji c))∈z2/\(xF (c.st++[qP c.s])=qP c.s/\(xG (c.st++[qP c.s])=c.st/\bd (br (ac c.s 197) (ji c+1) (ji c)) 2=U)):=by decide
def D7(d:ms.length=ji c):(tZ c.s ms p).length=br (ac c.s 197) (ji c+1) (ji c):=by unfold tZ;cases ac c.s 197 with|true=>show(ms++[_]).length=ji c+1;rw[aX,d];rfl|false=>exact d
def QM(d:bd n 2)(h:ms.length=n):zy (zz M sx qx th (ms++[x]) R) (n+1)=ms++[x]/\zy (zz M sx qx th (ms++[x]) R) n=ms:=by
 cases n with
 |zero=>rw[wE h];exact⟨Z,Z⟩
 |succ n=>cases n with
  |zero=>cases ms with
   |nil=>exact nomatch h
   |cons a ms=>cases ms with
    |nil=>exact⟨Z,Z⟩
    |cons b ms=>exact nomatch h
  |succ n=>cases n with
   |zero=>cases ms with
    |nil=>exact nomatch h
    |cons a ms=>cases ms with
     |nil=>exact nomatch h
     |cons b ms=>cases ms with
      |nil=>exact⟨Z,Z⟩
      |cons c ms=>exact nomatch h
   |succ n=>exact ao d
def qg:V:=qL .none .none yes iL [107] .none
def D8{sts:ae}(f:(sts,n)∈z2)(d:bd n 2)(e:ms.length=n)(K:PP (.av (xF sts)) (xG sts) ms th J R A):PP (.av 194) sts ms th U (aM ⟨10,a1,b1⟩::aM ⟨16,a2,b2⟩::aM ⟨11,a3,b3⟩::R) (bB qg a2 b2::bB m9 a3 b3::A):=by obtain⟨h,i⟩:=QM d e;have g:dY {zz [a3,b3] [] 0 th (ms++[tL a1]) R with ms:=zy (zz [a3,b3] [] 0 th (ms++[tL a1]) R) (n+1)} (.av 207) sts J [aM ⟨11,a3,b3⟩]=fW {zz [a3,b3] [] 0 th (ms++[tL a1]) R with ms:=zy (zz [a3,b3] [] 0 th (ms++[tL a1]) R) (n+1)} m9 a3 b3 (.av (xF sts)) (xG sts) (zy (zz [a3,b3] [] 0 th (ms++[tL a1]) R) n) J []:=d6 (Wk (zz [a3,b3] [] 0 th (ms++[tL a1]) R)) (x:=(sts,n)) f;rw[h,i]at g;have h:=fH g K;have g:=Jr (M:=[a1,b1,a2,b2]) (sx:=[107]) (qx:=0) (th:=th) (R:=aM ⟨11,a3,b3⟩::R) d e;have f1:dY (cj (zz [a1,b1,a2,b2] [107] 0 th ms (aM ⟨11,a3,b3⟩::R)) n) _ sts U [aM ⟨10,a1,b1⟩,aM ⟨16,a2,b2⟩]=fW _ qg a2 b2 _ sts (zy _ n++[tL a1]) J []:=d6 (Wj _) (x:=(sts,n)) f;rw[g]at f1;have d:=fH f1 h;have d:PP _ sts (zy _ n) th U _ _:=d;rw[g]at d;exact d
def aci(d:c∈Bh)(e:ms.length=ji c)(K:PP (.av (qP c.s)) c.st (tZ c.s ms p) th J R A):PP (.av c.s) c.st ms th c.pre (D5 c.s p++(lr mk [aM ⟨10,a1,b1⟩,aM ⟨16,a2,b2⟩,aM ⟨11,a3,b3⟩]++R)) (bB (Bg .none yes) a1 b1::bB qg a2 b2::bB m9 a3 b3::A):=by(obtain⟨m,f,g,h⟩:=ach c d;have i:=D8 (a1:=a1) (b1:=b1) (a2:=a2) (b2:=b2) (a3:=a3) (b3:=b3) m h (D7 e) (by rw[f,g];exact K);have f:=λg=>D6 (c:=c) (p:=p) (X:=[a1,b1]) (sx:=[]) (qx:=0) (th:=th) (ms:=ms) (R:=aM ⟨16,a2,b2⟩::aM ⟨11,a3,b3⟩::R) g;have g:=λj k=>zA (c:=c) (p:=p) (X:=[a1,b1]) (sx:=[]) (qx:=0) (th:=th) (ms:=ms) (R:=aM ⟨16,a2,b2⟩::aM ⟨11,a3,b3⟩::R) j k;have r:dY (cj (zz (fX c.s p++[a1,b1]) [] 0 th ms (aM ⟨16,a2,b2⟩::aM ⟨11,a3,b3⟩::R)) (ji c)) (.av c.s) c.st c.pre (SA c.s (zz (fX c.s p++[a1,b1]) [] 0 th ms (aM ⟨16,a2,b2⟩::aM ⟨11,a3,b3⟩::R))++lr mk [(zz (fX c.s p++[a1,b1]) [] 0 th ms (aM ⟨16,a2,b2⟩::aM ⟨11,a3,b3⟩::R)).t (kS 102) (g6 c.s+0)])=fW (cj (zz (fX c.s p++[a1,b1]) [] 0 th ms (aM ⟨16,a2,b2⟩::aM ⟨11,a3,b3⟩::R)) (ji c)) (Bg .none yes) ((zz (fX c.s p++[a1,b1]) [] 0 th ms (aM ⟨16,a2,b2⟩::aM ⟨11,a3,b3⟩::R)).m (2*g6 c.s+0)) ((zz (fX c.s p++[a1,b1]) [] 0 th ms (aM ⟨16,a2,b2⟩::aM ⟨11,a3,b3⟩::R)).m (2*g6 c.s+1)) (.av 194) (c.st++[qP c.s]) (L8 c.s (cj (zz (fX c.s p++[a1,b1]) [] 0 th ms (aM ⟨16,a2,b2⟩::aM ⟨11,a3,b3⟩::R)) (ji c))) U [(zz (fX c.s p++[a1,b1]) [] 0 th ms (aM ⟨16,a2,b2⟩::aM ⟨11,a3,b3⟩::R)).t (kS 102) (g6 c.s+0)]:=d6 (Wg (zz (fX c.s p++[a1,b1]) [] 0 th ms (aM ⟨16,a2,b2⟩::aM ⟨11,a3,b3⟩::R))) (x:=(c,mk)) (eY d (jz mk));rw[g,f,f]at r;have Q:=t5 d e r i;have X:lr mk [tY (kS 102) (ku (2*0) [a1,b1] dU) (ku (2*0+1) [a1,b1] dU)]++(aM ⟨16,a2,b2⟩::aM ⟨11,a3,b3⟩::R)=lr mk [aM ⟨10,a1,b1⟩,aM ⟨16,a2,b2⟩,aM ⟨11,a3,b3⟩]++R:=by generalize mk=u;cases u<;>rfl);rw[X]at Q;exact Q
def acj(f:c∈Bh)(h:ms.length=ji c)(g:(mk,e)∈L6 c.s)(K:PP (.av (qP c.s)) c.st (tZ c.s ms p) th U (tY (kS e) P d::R) A):PP (.av c.s) c.st ms th c.pre (D5 c.s p++(lr mk []++(tY (kS e) P d::R))) (bB (qL .none .none yes iL [] .none) (vl c.s p) (vl c.s p)::A):=by(have i:(zz (fX c.s p++[P,d]) [] 0 th ms R).m (2*g6 c.s-1)=vl c.s p:=by unfold g6 fX vl;cases q:ac c.s 197 with|true=> rw[show c.s=197 from aK q];rfl|false=>cases ac c.s 203<;>rfl);(have j:=zA (c:=c) (p:=p) (X:=[P,d]) (sx:=[]) (qx:=0) (th:=th) (ms:=ms) (R:=R) 0 (kS e);have r:dY (cj (zz (fX c.s p++[P,d]) [] 0 th ms R) (ji c)) (.av c.s) c.st c.pre (SA c.s (zz (fX c.s p++[P,d]) [] 0 th ms R)++lr mk [(zz (fX c.s p++[P,d]) [] 0 th ms R).t (kS e) (g6 c.s+0)])=fW (cj (zz (fX c.s p++[P,d]) [] 0 th ms R) (ji c)) (qL .none .none yes iL [] .none) ((zz (fX c.s p++[P,d]) [] 0 th ms R).m (2*g6 c.s-1)) ((zz (fX c.s p++[P,d]) [] 0 th ms R).m (2*g6 c.s-1)) (.av (qP c.s)) c.st (L8 c.s (cj (zz (fX c.s p++[P,d]) [] 0 th ms R) (ji c))) U [(zz (fX c.s p++[P,d]) [] 0 th ms R).t (kS e) (g6 c.s+0)]:=d6 (Wh (zz _ [] 0 th ms R)) (x:=(c,mk,e)) (AC.mpr ⟨_,eO.mpr ⟨c,f,Z⟩,eO.mpr ⟨_,g,Z⟩⟩);rw[j,i]at r;have Q:=t5 f h r K;have X:lr mk [tY (kS e) (ku (2*0) [P,d] dU) (ku (2*0+1) [P,d] dU)]++R=lr mk []++(tY (kS e) P d::R):=by generalize mk=u;cases u<;>rfl);rw[X]at Q;exact Q
end
def vd(e:I)(s:W)(P:aw)(R:af):=∃K b a,R=tY (kS K) P b::a/\(e,K)∈L6 s
structure t6(th:PA)(L:Y Pc)(tk:I->aw->aw->af)(ev:aw->aw->af):Prop where
 go:∀{c:Pc}{e:I}{ms:af}{p P:aw}{R told:af},c∈L->ms.length=ji c->vd e c.s P R->SD e (.av (qP c.s)) c.st (tZ c.s ms p) th R told->PP (.av c.s) c.st ms th c.pre (D5 c.s p++(tk e (vl c.s p) P++R)) (ev (vl c.s p) P++told)
def SF(s:ae):V:=qL .none .none yes iL s .none
def YO(s:ae)(q:W):V:=qL .none .none iL yes s (.str [q])
def D9(f:W):V:=ku f [SF [97],SF [98,32,99],SF [100,32,101],YO [102,32,103] 39,YO [104,105] 34,QI [120],.none,.none,YO [108,10] 124,YO [109,32,110] 62,SF [106]] (SF [107])
def jf(a:Y D)(l:Lf)(p:aw):af:=br (ac l.f 6) [bB QL p (aW p 7 0 (p.2.2+7))] (br (ac l.f 7) [bB (Bg .none yes) p (aW p 1 0 (p.2.2+1)),bB qg (aW p 1 0 (p.2.2+1)) (aW p 2 0 (p.2.2+2)),bB m9 (aW p 2 0 (p.2.2+2)) (aW p 3 0 (p.2.2+3))] [bB (D9 l.f) p (dC a l p)])
def Ì(a b:Pc):I:=ac a.s b.s&&cW a.st b.st&&(a.pre==b.pre)
def Wu(a:Pc)(l:Y Pc):I:=bm (motive:=λ_=>I) J (λb _ c=>br (Ì b a) U c) l
def bkP(x:Pc×I×W):I:=Wu x.1 Bh
def QN(v:I)(s:Y D)(g:W)(l:Lf)(p a:aw):af:=jf s l (V3 v s g p)
def Ë(p a:aw):af:=[bB (qL .none .none yes iL [] .none) p p]
section
variable{z:Fz}{s v:V}{mk e m:I}{t R u ms:af}{a b p q P:aw}{th:PA}{c:Pc}{sx:ae}{qx:W}{L:Y Pc}{l:Lf}{st:Y D}
def YP:y_ e m T++R=lr (br e m J) T++br e (br m R (MARK::R)) R:=by
 cases e with
 |false=>rfl
 |true=>cases m with
  |true=>rfl
  |false=>show(T++[MARK])++R=T++_;rw[am];rfl
def YQ(d:jp l.f 12)(h:(br (ac l.f 6) U (ac l.f 7))=J):∃sx qx,(PJ (zk l)=kP sx/\D9 l.f=qL .none .none yes iL sx .none)∨(PJ (zk l)=kQ sx qx/\D9 l.f=qL .none .none iL yes sx (.str [qx]))∨(PJ (zk l)=kV 117 sx/\D9 l.f=QI sx):=by
 obtain⟨f,e,g,z⟩:=l;revert d h
 induction f using VQ
 ·exact λ_ _=>⟨[97],0,.inl ⟨Z,Z⟩⟩
 ·exact λ_ _=>⟨[98,32,99],0,.inl ⟨Z,Z⟩⟩
 ·exact λ_ _=>⟨[100,32,101],0,.inl ⟨Z,Z⟩⟩
 ·exact λ_ _=>⟨[102,32,103],39,.inr (.inl ⟨Z,Z⟩)⟩
 ·exact λ_ _=>⟨[104,105],34,.inr (.inl ⟨Z,Z⟩)⟩
 ·exact λ_ _=>⟨[120],0,.inr (.inr ⟨Z,Z⟩)⟩
 ·exact λ_ h=>ao h.symm
 ·exact λ_ h=>ao h.symm
 ·exact λ_ _=>⟨[108,10],124,.inr (.inl ⟨Z,Z⟩)⟩
 ·exact λ_ _=>⟨[109,32,110],62,.inr (.inl ⟨Z,Z⟩)⟩
 ·rename_i f
  intro d _;cases f with
  |zero=>exact⟨[106],0,.inl ⟨Z,Z⟩⟩
  |succ f=>cases f with
   |zero=>exact⟨[107],0,.inl ⟨Z,Z⟩⟩
   |succ f=>exact ao d
def QO(g:th=r9∨th=Sz)(h:jp l.f 12)(d:c∈Bh)(f:ms.length=ji c)(K:PP (.av (qP c.s)) c.st (tZ c.s ms p) th J R u):PP (.av c.s) c.st ms th c.pre (D5 c.s p++(lr mk ((iY st l q).map aM)++R)) (jf st l q++u):=by
 unfold iY jf;cases i:ac l.f 6 with
 |true=>exact af9 g d f K
 |false=>cases g:ac l.f 7 with
  |true=>exact aci d f K
  |false=> obtain⟨sx,qx,j⟩:=YQ h (by rw[i,g];rfl);exact acg d f j K
def acn{v:I}{s:Y D}(d:th=r9∨th=Sz)(f:jp l.f 12)(h:∀c∈L,c∈Bh):t6 th L (EV v s g l) (QN v s g l)where
 go:=λ{c e ms p P R u}g i _ K=>by
  unfold EV QN;rw[YP];refine QO d f (h c g) i ?_;cases e with
  |false=>exact K.a J
  |true=>cases mL _ l with
   |true=>exact K.a J
   |false=>exact K.b Z
def aco(d:∀c∈L,c∈Bh):t6 th L U! Ë where
 go:=λ{c e ms p P R u}f g H K=>by obtain⟨h,b,h,q,h⟩:=H;rw[q]at K ⊢;have i:=acj (d c f) g h (K.a U);exact i
def Js{a b:Pc}(h:Ì a b):a=b:=ag h λh d=>ag h λf g=>by obtain⟨i,j,k⟩:=a;obtain⟨n,o,r⟩:=b;rw[show i=n from aK f,show j=o from oJ g,show k=r from fZ.mp d]
def Bj{a:Pc}{l:Y Pc}(h:Wu a l):a∈l:=by induction l with|nil=>exact ao h|cons b l d=>exact ny h (λh _=>Js h▸.head _) λ_ h=>.tail _ (d h)
def Wv:aI bkP ua=U:=by kernel_rfl
def aga(x:Pc×I×W)(h:x∈ua):x.1∈Bh:=Bj (ai Wv h)
def Ww{an:I}(g:(c,an,k)∈ua)(h:ms.length=ji c)(K:PP (.av (We k)) (c.st++[qP c.s]) (tZ c.s ms p) th U (tY (kS k) a b::R) u):PP (.av c.s) c.st ms th c.pre (D5 c.s p++(br an [aM ⟨14,a0,b0⟩] []++(tY (kS k) a b::R))) (bB (EC k an) (br an a0 a) (br (ac k 112) b a)::u):=by have n:=aga _ g;cases an with|true=>(have d:=λi=>D6 (c:=c) (p:=p) (X:=[a0,b0,a,b]) (sx:=[]) (qx:=0) (th:=th) (ms:=ms) (R:=R) i;have f:=λj k=>zA (c:=c) (p:=p) (X:=[a0,b0,a,b]) (sx:=[]) (qx:=0) (th:=th) (ms:=ms) (R:=R) j k;have o:2*(g6 c.s+1)+br (ac k 112) 1 0=2*g6 c.s+(2+br (ac k 112) 1 0):=by rw[IA,fJ]);(have r:dY (cj (zz (fX c.s p++[a0,b0,a,b]) [] 0 th ms R) (ji c)) (.av c.s) c.st c.pre (SA c.s (zz (fX c.s p++[a0,b0,a,b]) [] 0 th ms R)++[(zz (fX c.s p++[a0,b0,a,b]) [] 0 th ms R).t (kV 119 [122]) (g6 c.s+0),(zz (fX c.s p++[a0,b0,a,b]) [] 0 th ms R).t (kS k) (g6 c.s+1)])=fW (cj (zz (fX c.s p++[a0,b0,a,b]) [] 0 th ms R) (ji c)) (EC k U) ((zz (fX c.s p++[a0,b0,a,b]) [] 0 th ms R).m (2*g6 c.s+0)) ((zz (fX c.s p++[a0,b0,a,b]) [] 0 th ms R).m (2*(g6 c.s+1)+br (ac k 112) 1 0)) (.av (We k)) (c.st++[qP c.s]) (L8 c.s (cj (zz (fX c.s p++[a0,b0,a,b]) [] 0 th ms R) (ji c))) U [(zz (fX c.s p++[a0,b0,a,b]) [] 0 th ms R).t (kS k) (g6 c.s+1)]:=d6 (Jp (zz (fX c.s p++[a0,b0,a,b]) [] 0 th ms R)) (x:=(c,U,k)) g;rw[o,f,f,d,d]at r;have Q:=t5 n h r K;have X:ku (2+br (ac k 112) 1 0) [a0,b0,a,b] dU=br (ac k 112) b a:=by cases ac k 112<;>rfl);rw[X]at Q;exact Q|false=>(have d:=λi=>D6 (c:=c) (p:=p) (X:=[a,b]) (sx:=[]) (qx:=0) (th:=th) (ms:=ms) (R:=R) i;have f:=λj k=>zA (c:=c) (p:=p) (X:=[a,b]) (sx:=[]) (qx:=0) (th:=th) (ms:=ms) (R:=R) j k;have r:dY (cj (zz (fX c.s p++[a,b]) [] 0 th ms R) (ji c)) (.av c.s) c.st c.pre (SA c.s (zz (fX c.s p++[a,b]) [] 0 th ms R)++[(zz (fX c.s p++[a,b]) [] 0 th ms R).t (kS k) (g6 c.s+0)])=fW (cj (zz (fX c.s p++[a,b]) [] 0 th ms R) (ji c)) (EC k J) ((zz (fX c.s p++[a,b]) [] 0 th ms R).m (2*g6 c.s+0)) ((zz _ [] 0 th ms R).m (2*g6 c.s+br _ 1 0)) _ _ _ U [(zz _ [] 0 th ms R).t _ (g6 c.s+0)]:=d6 (Jp _) (x:=(c,J,k)) g;rw[f,d,d]at r;have Q:=t5 n h r K;have X:ku (br (ac k 112) 1 0) [a,b] dU=br (ac k 112) b a:=by cases ac k 112<;>rfl);rw[X]at Q;exact Q
end
def s0(v i:I):W:=br v 198 (br i 192 197)
def js(v i:I):W:=br v 202 (br i 192 199)
def E6(v i:I):W:=br v 203 (br i 192 199)
def Jt(v i:I)(a:ae):Y Pc:=br v [⟨203,a,J⟩] (br i [⟨192,a,U⟩,⟨192,a,J⟩] [⟨197,a,U⟩,⟨199,a,J⟩,⟨199,a,U⟩])
def x4(v a:I)(p:aw):af:=b? aM (br v (br a [Tk.mk 6 p p] []++[Tk.mk 8 p p,Tk.mk 16 p (aW p 1 0 (p.2.2+1)),Tk.mk 9 (aW p 1 0 (p.2.2+1)) (aW p 2 0 (p.2.2+2))]) (br a [Tk.mk 5 p p] []++[Tk.mk 7 p (aW p 1 0 (p.2.2+1))]))
def Ju(v:I)(p:aw):af:=br v [bB qg p (aW p 1 0 (p.2.2+1))] []
def Ea(v:I)(c:D)(a:Y gP):aw->aw->af:=bm (motive:=λ_=>aw->aw->af) (λ_ _=>[]) (λE a d p b=>Ju v p++(E.ev (qJ v p) (uU v c E a p b)++d (uU v c E a p b) b)) a
def eJ(v:I)(c:D)(E:gP)(a:Y gP)(p b:aw):af:=Ju v p++(E.ev (qJ v p) (uU v c E a p b)++Ea v c a (uU v c E a p b) b)
def Wx(v i:I)(a:ae):=a∈r?/\(i->v=J/\a=[179,202])
section
variable{v i first pre e:I}{R w ms:af}{p P Pe:aw}{th:PA}{st:ae}{c:D}{s st0:Y D}{E:gP}{Es:Y gP}
def agb(a:st∈r?)(b:first->pre):ĕ (cj z (st.length-br first 1 0)) (first,pre,st)=Ĕ (cj z (st.length-br first 1 0)) (first,pre,st):=by
 refine d6 (Wi z) (eO.mpr ⟨((first,pre),st),eY ?_ a,Z⟩)
 induction first with
 |true=>rw[b Z];exact .head _
 |false=>induction pre with
  |true=>exact .tail _ aat
  |false=>exact .tail _ gV
def Wy(h:st∈r?):bd st.length 2:=by
 cases h with
 |head=>rfl
 |tail _ h=>cases h with
  |head=>rfl
  |tail _ h=>cases h with
   |head=>rfl
   |tail _ h=>exact nomatch h
def acp(h:st∈r?):1<=st.length:=by
 cases h with
 |head=>exact aU 1
 |tail _ h=>cases h with
  |head=>exact iF 1
  |tail _ h=>cases h with
   |head=>exact iF 1
   |tail _ h=>exact nomatch h
def Eb(f:Wx v i st)(k:first->pre)(d:t6 th (Jt v i st) E.tk E.ev)(a:ms.length=br (first&&!i) (st.length-1) (br i 1 st.length))(H:vd e (E6 v i) P R)(K:SD e (.av (js v i)) st (br (first&&!i) (ms++[tL p]) ms) th R w):
  PP (.av (br first (s0 v i) (js v i))) st ms th pre (x4 v (first&&!i) p++(E.tk e (qJ v p) P++R)) (Ju v p++(E.ev (qJ v p) P++w)):=by
 induction v with
 |false=>
  induction i with
  |true=>
   have g:(first&&!U)=J:=q_ _;rw[g]at a K ⊢;have m:(⟨192,st,pre⟩)∈Jt J U st:=by cases pre;exact .tail _ gV;exact .head _
   have h:=d.go m a H K;cases first<;>exact h
  |false=>
   induction first with
   |true=> rw[k Z];exact d.go gV a H K
   |false=>
    have m:(⟨199,st,pre⟩)∈Jt J J st:=by cases pre;exact .tail _ gV;exact .tail _ aat
    exact d.go m a H K
 |true=>
  have n:i=J:=by
   induction i with
   |false=>rfl
   |true=>exact ao (f.2 Z).1.symm
  rw[n]at a K ⊢;have g:(first&&!J)=first:=Bool.and_true _;rw[g]at a K ⊢;have a:=a;have K:=K;have L:ms.length=st.length-br first 1 0:=by cases first<;>exact a
  have l:bd (st.length-br first 1 0) 2:=g8 (ay (EH _ _) (cw (Wy f.1)))
  have o:(br first (ms++[tL p]) ms).length=ji ⟨203,st,J⟩:=by
   have r:=acp f.1
   induction first with
   |false=>exact a
   |true=> show(ms++[tL p]).length=st.length;rw[aX,L];exact m6 r
  have h:=d.go (p:=p) gV o H K
  have t:dY (cj (zz (br first [p,p,p,p,p,aW p 1 0 (p.2.2+1)] [p,p,p,aW p 1 0 (p.2.2+1)]) [107] 0 th ms (D5 203 p++(E.tk e (vl 203 p) P++R))) (st.length-br first 1 0)) (.av (br first 198 202)) st pre (br first [aM ⟨6,p,p⟩,aM ⟨8,p,p⟩,aM ⟨16,p,aW p 1 0 (p.2.2+1)⟩] [aM ⟨8,p,p⟩,aM ⟨16,p,aW p 1 0 (p.2.2+1)⟩])=fW (cj (zz (br first [p,p,p,p,p,aW p 1 0 (p.2.2+1)] [p,p,p,aW p 1 0 (p.2.2+1)]) [107] 0 th ms (D5 203 p++(E.tk e (vl 203 p) P++R))) (st.length-br first 1 0)) qg p (aW p 1 0 (p.2.2+1)) (.av 203) st (br first (ms++[tL p]) ms) J []:=by
   have q:=agb (z:=zz (br first [p,p,p,p,p,aW p 1 0 (p.2.2+1)] [p,p,p,aW p 1 0 (p.2.2+1)]) [107] 0 th ms (D5 203 p++(E.tk e (vl 203 p) P++R))) f.1 k;have j:=Jr (M:=br first [p,p,p,p,p,aW p 1 0 (p.2.2+1)] [p,p,p,aW p 1 0 (p.2.2+1)]) (sx:=[107]) (qx:=0) (th:=th) (R:=(D5 203 p++(E.tk e (vl 203 p) P++R))) l L;have g:∀x:af,x=ms->fW (cj (zz (br first [p,p,p,p,p,aW p 1 0 (p.2.2+1)] [p,p,p,aW p 1 0 (p.2.2+1)]) [107] 0 th ms (D5 203 p++(E.tk e (vl 203 p) P++R))) (st.length-br first 1 0)) qg p (aW p 1 0 (p.2.2+1)) (.av 203) st (br first (x++[tL p]) x) J []=fW _ qg p _ _ st (br first _ ms) J []:=λx e=>by rw[e]
   refine l? ?_ (g _ j)
   induction first with
   |true=>exact q
   |false=>exact q
  have b:=fH t h;have j:=Jr (M:=br first [p,p,p,p,p,aW p 1 0 (p.2.2+1)] [p,p,p,aW p 1 0 (p.2.2+1)]) (sx:=[107]) (qx:=0) (th:=th) (R:=(D5 203 p++(E.tk e (vl 203 p) P++R))) l L;have b:PP _ st (zy _ _) th pre _ _:=b;rw[j]at b
  induction first with
  |true=>exact b
  |false=>exact b
def QP(a:p.2.2=c):Qm v c st0 p=x4 v (a? (top st0<c)) p:=by rw[<-a];unfold Qm x4 J1 C!;cases v<;>cases a? (top st0<p.2.2)<;>rfl
def QR(d:Wx v i st)(b:top s=c)(f:ms.length=br i 1 st.length)(H:vd e (E6 v i) Pe R)(K:SD e (.av (js v i)) st ms th R w):∀(Es:Y gP){p:aw},(∀E∈Es,t6 th (Jt v i st) E.tk E.ev)->(Es=[]->p=Pe)->(Es≠[]->p.2.2=c)->
  SD (br Es.isEmpty e J) (.av (js v i)) st ms th (YJ e v c s Es p Pe++R) (Ea v c Es p Pe++w)/\vd (br Es.isEmpty e J) (E6 v i) p (YJ e v c s Es p Pe++R):=by
 intro Es
 induction Es with
 |nil=>exact λ{p} _ g _=>⟨K,by rw[g Z];exact H⟩
 |cons E Es h=>
  intro p a _ g;have j:=g (bN _ _)
  obtain⟨k,l⟩:=h (p:=uU v c E Es p Pe) (λE m=>a E (.tail _ m)) (λq=>by rw[q];rfl) (λq=>by
   induction Es with
   |nil=>exact ch Z q
   |cons _ _ _=>rfl)
  have S:Qm v c s p=x4 v J p:=by rw[QP j,b,dQ (FM c)]
  have X:YJ e v c s (E::Es) p Pe++R=x4 v J p++(E.tk (br Es.isEmpty e J) (qJ v p) (uU v c E Es p Pe)++(YJ e v c s Es (uU v c E Es p Pe) Pe++R)):=by show(Qm v c s p++(E.tk _ _ _++YJ e v c s Es _ Pe))++R=_;rw[S,am,am]
  have b:Ea v c (E::Es) p Pe++w=Ju v p++(E.ev (qJ v p) (uU v c E Es p Pe)++(Ea v c Es (uU v c E Es p Pe) Pe++w)):=by show(Ju v p++(E.ev _ _++Ea v c Es _ Pe))++w=_;rw[am,am]
  rw[X,b];refine⟨⟨λpre=>Eb d (λq=>ao q) (a E gV) f l k,λq=>ao q⟩,?_⟩;generalize v=u
  induction u with
  |false=>exact⟨112,_,_,Z,by cases i<;>exact .tail _ aat⟩
  |true=>exact⟨113,_,_,Z,.tail _ aat⟩
def xI(b:Wx v i st)(f:top s=c)(j:a? (top st0<c)=!i)(a:ms.length=br i 1 (st.length-1))(d:1<=st.length)(h:p.2.2=c)(k:t6 th (Jt v i st) E.tk E.ev)(g:∀E∈Es,t6 th (Jt v i st) E.tk E.ev)(H:vd e (E6 v i) Pe R)(K:SD e (.av (js v i)) st (br i ms (ms++[tL p])) th R w):
  PP (.av (s0 v i)) st ms th U (DY e v c st0 s E Es p Pe++R) (eJ v c E Es p Pe++w):=by
 have l:(br i ms (ms++[tL p])).length=br i 1 st.length:=by
  induction i with
  |true=>exact a
  |false=> show(ms++[tL p]).length=st.length;rw[aX,a];exact m6 d
 obtain⟨m,n⟩:=QR (p:=uU v c E Es p Pe) b f l H K Es g (λq=>by rw[q];rfl) (λq=>by
  induction Es with
  |nil=>exact ch Z q
  |cons _ _ _=>rfl)
 have X:DY e v c st0 s E Es p Pe++R=x4 v (U&&!i) p++(E.tk (br Es.isEmpty e J) (qJ v p) (uU v c E Es p Pe)++(YJ e v c s Es (uU v c E Es p Pe) Pe++R)):=by show(Qm v c st0 p++_)++R=_;rw[QP h,j,am,am];rfl
 have d:eJ v c E Es p Pe++w=Ju v p++(E.ev (qJ v p) (uU v c E Es p Pe)++(Ea v c Es (uU v c E Es p Pe) Pe++w)):=by show(Ju v p++_)++w=_;rw[am,am]
 rw[X,d];exact Eb (first:=U) b (λ_=>Z) k (by cases i<;>exact a) n (by cases i<;>exact m)
end
def lW(v:I):V:=br v D3 m9
def jH(v:I)(w:W):W:=br v 115 (br (ac w 3) 112 111)
def vm(k:W)(a:I)(b q:aw):V:=bB (EC k a) (br a b q) (br (ac k 112) (aW q 1 0 (q.2.2+1)) q)
def Lw(r:D)(S:L7)(p P:aw):af:=vm (jH S.v S.w) S.an (DZ p) (BH r S p)::(eJ S.v (o9 r S.w) S.E S.Es (BH r S p) P++[bB (lW S.v) P P])
def D?:Y Pc:=[⟨197,[179],U⟩,⟨199,[179],J⟩,⟨199,[179],U⟩,⟨203,[179],J⟩]
def agc(c:Pc):I:=br (ac c.s 192) J U&&cW c.st [179]&&ac (br (ac c.s 197) (ji c+1) (ji c)) 1&&br (ac (qP c.s) 199) U (ac (qP c.s) 202)
section
variable{v i pre e an:I}{R told ms:af}{p P Q Pe b:aw}{th:PA}{n k:W}{st:ae}{c:D}{c0:Pc}{s st0:Y D}{E:gP}{Es:Y gP}{x:V}
def YR(a:(st,n)∈[([179],0),([179,199],1),([179,202],1)])(f:ms.length=n)(K:PP (.av (xF st)) (xG st) ms th J R told):SD e (.av (js v J)) st (ms++[x]) th (aM ⟨4,P,Q⟩::R) (bB (lW v) P Q::told):=by
 have g:bd n 2:=by
  cases a with
  |head=>rfl
  |tail _ h=>cases h with
   |head=>rfl
   |tail _ h=>cases h with
    |head=>rfl
    |tail _ h=>exact nomatch h
 obtain⟨j,l⟩:=QM (M:=[P,Q]) (sx:=[]) (qx:=0) (th:=th) (R:=R) (x:=x) g f
 have r:∀{pre mk:I},(pre,mk)∈[(J,J),(U,J),(J,U)]->PP (.av (js v J)) st (ms++[x]) th pre (lr mk [aM ⟨4,P,Q⟩]++R) (bB (lW v) P Q::told):=λ{pre mk}h=>by
  have m1:js v J∈[199,202]:=by cases v;exact .head _;exact .tail _ gV
  have d:dY {zz [P,Q] [] 0 th (ms++[x]) R with ms:=zy (zz [P,Q] [] 0 th (ms++[x]) R) (n+1)} (.av (js v J)) st pre (lr mk [aM ⟨4,P,Q⟩])=fW (zz [P,Q] [] 0 th (ms++[x]) R) (br (ac (js v J) 199) m9 D3) P Q (.av (xF st)) (xG st) (zy (zz [P,Q] [] 0 th (ms++[x]) R) n) J []:=d6 (Wm (zz [P,Q] [] 0 th (ms++[x]) R)) (x:=((js v J,st,n),pre,mk)) (eY (eY m1 a) h);rw[j,l,show br (ac (js v J) 199) m9 D3=lW v by generalize v=u;cases u<;>rfl]at d;have a:=fH d K;exact a
 refine⟨λpre=>?_,λ_=>r (mk:=U) aau⟩
 induction pre with
 |true=>exact r (mk:=J) aat
 |false=>exact r (mk:=J) gV
def agd(d:a=93∨(a=113/\e=J))(f:ms.length=1)(K:PP (.av 202) [179] ms th U (tY (kS a) P b::R) told):SD e (.av 192) [179,202] ms th (tY (kS a) P b::R) (bB m9 P P::told):=by(have r:=λ{pre mk}h=>by have f:=d6 (Wn {zz [P,b] [] 0 th [] R with ms:=ms}) (x:=(a,pre,mk)) h;exact fH (z:={zz [P,b] [] 0 th [] R with ms:=ms}) f K);refine⟨λpre=>?_,λg=>?_⟩;refine r (mk:=J) (d.elim (λh=>?_) λh=>?_);rw[h];cases pre;exact .head _;exact .tail _ gV;rw[h.1];cases pre;exact .tail _ aau;exact .tail _ aaw;refine r (mk:=U) (d.elim (λh=>?_) λh=>ao (il h.2 g));rw[h];exact .tail _ aat
def Lx:aI agc D?=U:=by kernel_rfl
def Bk(a:p.2.2=c)(d:a? (top st0<c)=!i)(f:i->v=J):∃T,DY e v c st0 s E Es p Pe=tY (kS (br v 115 (br i 112 111))) p (br (ac (br v 115 (br i 112 111)) 112) (aW p 1 0 (p.2.2+1)) p)::T:=by
 unfold DY;rw[QP a,d]
 induction v with
 |true=>induction i with
  |true=>exact ao (f Z).symm
  |false=>exact⟨_,Z⟩
 |false=>induction i with
  |true=>exact⟨_,Z⟩
  |false=>exact⟨_,Z⟩
def acq(a:w=0∨w=1∨w=2∨w=3):a? (top [r]<o9 r w)=!(ac w 3):=by have G:∀{b:D},0<b->a? (top [r]<r+b):=λh=>cF (o0 r h);refine a.elim (λh=>?_) λh=>h.elim (λh=>?_) λh=>h.elim (λh=>?_) λh=>?_;rw[h];exact G (aO Z);rw[h];exact G (aO Z);rw[h];exact G (aO Z);rw[h];exact dQ (FM r)
section
variable{i:I}{M:af}
def he3(h:(e,a)∈[(J,93),(U,93),(J,113)]):(a=93∨(a=113/\e=J))/\(e,a)∈L6 192:=by
 cases h with
 |head=>exact⟨.inl Z,.head _⟩
 |tail _ h=>cases h with
  |head=>exact⟨.inl Z,.tail _ gV⟩
  |tail _ h=> obtain⟨a,d⟩:=gB (eC.mp h);rw[a,d];exact⟨.inr ⟨Z,Z⟩,.tail _ aau⟩
def acr(f:i->v=J)(g:i->c0.s=203)(d:c0.st=[179])(nx:qP c0.s=199∨qP c0.s=202)(a:M.length=1)(H:vd e c0.s P R)(K:SD e (.av (qP c0.s)) c0.st M th R told):SD e (.av (js v i)) [179,qP c0.s] (br i M (M++[x])) th ((br i [] [aM ⟨4,P,P⟩])++R) (bB (lW v) P P::told)/\vd e (E6 v i) P ((br i [] [aM ⟨4,P,P⟩])++R):=by rw[d]at K;induction i with|true=> rw[f Z];rw[g Z]at H K ⊢;obtain⟨d,b,f,g,h⟩:=H;obtain⟨j,l⟩:=he3 h;rw[g]at K ⊢;exact⟨agd j a (K.a U),d,b,f,Z,l⟩|false=>exact⟨YR (nx.elim (λh=>by rw[h];exact .tail _ gV) λh=>by rw[h];exact .tail _ aat) a (K.a J),93,P,R,Z,by induction e with|false=>exact .head _|true=>exact .tail _ gV⟩
def age(f:c0∈D?)(d:ac w 3->v=J)(a:ac w 3->c0.s=203):(c0,an,jH v w)∈ua:=by have g:∀{k},k∈[111,115]->(c0,an,k)∈ua:=λm=>h? _ (eY f (eY (jz an) m));revert d a;unfold jH;induction ac w 3 with|false=>(induction v with|true=>exact λ_ _=>g aat|false=>exact λ_ _=>g gV)|true=>intro d a;(have g:=by have z:∀c∈D?,c.s=203->c=⟨203,[179],J⟩:=λc h e=>Js (aO (ai (show aI (λc=>a? (c.s=203->Ì c ⟨203,[179],J⟩=U)) D?=U by kernel_rfl) h) e);exact z _ f (a Z));rw[d Z,g];exact db _ (eY gV (eY (jz an) gV))
end
def acs(a:ac w 3->v=J):s0 v (ac w 3)=We (jH v w):=by revert a;unfold jH;induction ac w 3 with|true=>exact λa=>by rw[a Z];rfl|false=>exact λ_=>by generalize v=u;cases u<;>rfl
def acu{S:L7}(y:r∈rS)(h:uB v S.w S.an)(a:ac S.w 3->S.v=J)(f:∀c∈L,c∈D?/\(ac S.w 3->c.s=203))(z:∀st,Wx S.v (ac S.w 3) st->t6 th (Jt S.v (ac S.w 3) st) S.E.tk S.E.ev)(A:∀E∈S.Es,∀st,Wx S.v (ac S.w 3) st->t6 th (Jt S.v (ac S.w 3) st) E.tk E.ev):t6 th L (D1 r S) (Lw r S)where
 go:=λ{c e ms p P R told}B j H K=>by
  obtain⟨l,d⟩:=f c B;refine ag (ai Lx l) λf B=>ag f λf F=>ag f λf m=>?_;have f:=GQ h;have G:=V8 y f;have o:=acq (r:=r) f;have nx:qP c.s=199∨qP c.s=202:=ny B (λh _=>.inl (aK h)) λ_ h=>.inr (aK h);have g:Wx S.v (ac S.w 3) [179,qP c.s]:=⟨nx.elim (λh=>by rw[h];exact .tail _ gV) λh=>by rw[h];exact .tail _ aat,λh=>⟨a h,by rw[d h];rfl⟩⟩;have f:(tZ c.s ms p).length=1:=(D7 j).trans (aK F);obtain⟨M,T⟩:=acr (x:=tL (BH r S (vl c.s p))) a d (oJ m) nx f H K;have q:=xI g G.t o (by rw[f];cases ac S.w 3<;>rfl) (eN (eG _)) Z (z _ g) (λE f=>A E f _ g) T M;obtain⟨T,t⟩:∃T,DY e S.v (o9 r S.w) [r] (GP r S.w) S.E S.Es (BH r S (vl c.s p)) P=tY (kS (jH S.v S.w)) (BH r S (vl c.s p)) (br (ac (jH S.v S.w) 112) (aW (BH r S (vl c.s p)) 1 0 ((BH r S (vl c.s p)).2.2+1)) (BH r S (vl c.s p)))::T:=Bk Z o a;rw[t,acs a]at q;have w:=Ww (an:=S.an) (a0:=DZ (vl c.s p)) (b0:=aW (DZ (vl c.s p)) 2 0 ((DZ (vl c.s p)).2.2+2)) (age l a d) j (by rw[oJ m];exact q);have V:∀(x:I)(A B:aw),br x (br x A B) B=br x A B:=λx _ _=>by generalize x=u;cases u<;>rfl
  rw[V]at w;unfold D1 Lw;show PP _ _ _ _ _ _ (vm (jH S.v S.w) S.an (DZ (vl c.s p)) (BH r S (vl c.s p))::((eJ S.v (o9 r S.w) S.E S.Es (BH r S (vl c.s p)) P++[bB (lW S.v) P P])++told));rw[am,am,am,t];exact w
end
section
variable{v e an mk:I}{R y:af}{p P Q Pe q a b:aw}{th:PA}{n:W}{c:D}{s st0:Y D}{E:gP}{Es:Y gP}{l:Lf}
def Bl{s:W}(r:s=180∨(s=183/\an=J))(k:(0:D)<=c)(g:q.2.2=c)(m:t6 th (Jt v J [179]) E.tk E.ev)(o:∀E∈Es,t6 th (Jt v J [179]) E.tk E.ev)(K:PP (.av 179) [] [] th J R y):
  PP (.av s) [179] [] th (ac s 180) (br an [aM ⟨14,a,b0⟩] []++(DY e v c [] [c] E Es q P++(aM ⟨4,P,P⟩::R))) (vm (jH v 1) an a q::(eJ v c E Es q P++(bB (lW v) P P::y))):=by
 have i:a? (top []<c)=!J:=cF (ui (aO Z) k);have k:Wx v J [179]:=⟨.head _,λh=>ao h⟩;have t:SD e (.av (js v J)) [179] ([]++[tL q]) th (aM ⟨4,P,P⟩::R) (bB (lW v) P P::y):=YR (n:=0) gV Z K;have f:=xI (c:=c) (e:=e) (Es:=Es) (E:=E) (st0:=[]) (s:=[c]) (st:=[179]) (ms:=[]) (p:=q) (Pe:=P) k Z i Z (aU 1) g m o ⟨93,P,R,Z,by cases e;exact .head _;exact .tail _ gV⟩ t
 have w:∃T,DY e v c [] [c] E Es q P=tY (kS (jH v 1)) q q::T:=by obtain⟨T,h⟩:=Bk (e:=e) (E:=E) (Es:=Es) (Pe:=P) (s:=[c]) g i (λh=>ao h);exact⟨T,h.trans (by generalize v=u;cases u<;>rfl)⟩
 obtain⟨T,g⟩:=w;rw[g]at f ⊢;have d:s0 v J=We (jH v 1):=by generalize v=u;cases u<;>rfl
 rw[d]at f
 have j:(s,an,jH v 1)∈S!:=by
  refine r.elim (λh=>?_) λh=>?_
  ·rw[h]
   cases an<;>cases v<;>decide
  ·rw[h.1,h.2]
   cases v<;>decide
 have x:vm (jH v 1) an a q=bB (EC (jH v 1) an) (br an a q) q:=by generalize v=u;cases u<;>rfl
 rw[x];have d:PP (.av (We (jH v 1))) [179] [] th U (tY (kS (jH v 1)) q q::(T++(aM ⟨4,P,P⟩::R))) (eJ v c E Es q P++(bB (lW v) P P::y)):=f
 induction an with
 |true=> have r:=d6 (Jq (zz [a,b0,q,q] [] 0 th [] (T++(aM ⟨4,P,P⟩::R)))) (x:=(s,U,jH v 1)) j;exact fH (z:=zz [a,b0,q,q] [] 0 th [] (T++(aM ⟨4,P,P⟩::R))) (sts:=[179]) (pre:=ac s 180) (t:=[aM ⟨14,a,b0⟩,tY (kS (jH v 1)) q q]) (v:=EC (jH v 1) U) (a:=a) (b:=q) (s':=.av (We (jH v 1))) (sts':=[179]) (ms':=[]) (pre':=U) (t':=[tY (kS (jH v 1)) q q]) r d
 |false=> have r:=d6 (Jq (zz [q,q] [] 0 th [] (T++(aM ⟨4,P,P⟩::R)))) (x:=(s,J,jH v 1)) j;exact fH (z:=zz [q,q] [] 0 th [] (T++(aM ⟨4,P,P⟩::R))) (sts:=[179]) (pre:=ac s 180) (t:=[tY (kS (jH v 1)) q q]) (v:=EC (jH v 1) J) (a:=q) (b:=q) (s':=.av (We (jH v 1))) (sts':=[179]) (ms':=[]) (pre':=U) (t':=[tY (kS (jH v 1)) q q]) r d
def QS{pre:I}(h:(pre,mk)∈[(U,J),(J,J),(J,U)]):PP (.av 181) [] [] th pre (lr mk [aM ⟨1,P,P⟩]) [bB kh P P]:=by(have K:PP .none [] [] th J [] []:=by refine iH (acf (zz [] [] 0 th [] []):mp (xx ⟨pB .none [] [] th,[],0⟩) (·.1)=O C) λr d e=>?_;obtain⟨f,g⟩:=r;exact⟨g,d.trans (by rw[show f=C from e])⟩);have r:=d6 (Ws (zz [P,P] [] 0 th [] [])) (x:=(pre,mk)) h;have d:=fH (z:=zz [P,P] [] 0 th [] []) (sts:=[]) (pre:=pre) (t:=lr mk [aM ⟨1,P,P⟩]) (v:=kh) (a:=P) (b:=P) (s':=.none) (sts':=[]) (ms':=[]) (pre':=J) (t':=[]) r K;have X:lr mk [aM ⟨1,P,P⟩]++[]=lr mk [aM ⟨1,P,P⟩]:=eq _;have d:PP (.av 181) [] [] th pre (lr mk [aM ⟨1,P,P⟩]++[]) [bB kh P P]:=d;rw[X]at d;exact d
def Ec:PP (.av 179) [] [] th J (lr mk (yt P)) [bB (iM iL) P P,bB kh P P]:=by have r:=d6 (Wr (zz [P,P] [] 0 th [] [])) (x:=mk) (jz mk);have d:=fH (z:=zz [P,P] [] 0 th [] []) (sts:=[]) (pre:=J) (t:=lr mk [aM ⟨1,P,P⟩]) (v:=iM iL) (a:=P) (b:=P) (s':=.av 181) (sts':=[]) (ms':=[]) (pre':=U) (t':=[aM ⟨1,P,P⟩]) r (QS (mk:=J) gV);have X:lr mk [aM ⟨1,P,P⟩]++[]=lr mk [aM ⟨1,P,P⟩]:=eq _;have d:PP (.av 179) [] [] th J (lr mk [aM ⟨1,P,P⟩]++[]) [bB (iM iL) P P,bB kh P P]:=d;rw[X]at d;exact d
def agf:PP (.av 179) [] [] th J (aM ⟨3,P,Pe⟩::MARK::yt Q) [bB (iM yes) P Pe,bB kh Q Q]:=fH (z:=zz [P,Pe] [] 0 th [] (MARK::yt Q)) (ace _) (QS (mk:=U) aau)
def Jv(K:PP (.av 173) [] [] (.kU []) J R y):PP (.av 168) [] [] (.kU []) U (aM ⟨0,dU,dU⟩::R) (bB iD dU dU::y):=fH (acb (zz [dU,dU] [] 0 (.kU []) [] R)) K
def Ed(f:j∈[0,1,2,3,4,5,6,7])(d:L! (zz [a,b] sx qx (.kU []) [] R) j=K0)(K:PP (.av 180) [179] [] r9 U (tY K0 a b::R) y):PP (.av 173) [] [] (.kU []) J (lr mk [tY K0 a b]++R) (bB (i8 iL) a a::y):=by rw[<-d]at K ⊢;exact xH (z:={zz [a,b] sx qx (.kU []) [] R with th:=.kU [],ms:=[]}) (d6 (Wo (zz [a,b] sx qx (.kU []) [] R)) (x:=(mk,j)) (eY (jz mk) f)) K
def agg(K:PP (.av 183) [179] [] Sz J R y):PP (.av 173) [] [] (.kU []) J (aM ⟨2,a,b⟩::R) (bB (i8 yes) a b::y):=xH (acd (zz [a,b] [] 0 (.kU []) [] R)) K
def Bm(i:jp l.f 12)(K:PP (.av 179) [] [] r9 J R y):PP (.av 173) [] [] (.kU []) J (lr mk ((iY [] l q).map aM)++R) (bB (i8 iL) q q::(jf [] l q++y)):=by
 unfold iY jf;have g:∀{d:V}{f:af},lr mk (d::f)++R=lr mk [d]++(f++R):=λ{d f}=>by generalize mk=u;cases u<;>rfl
 cases k:ac l.f 6 with
 |true=> show PP _ _ _ _ _ (lr mk (aM _::[aM _,aM _])++R) _;rw[g];exact Ed (K0:=kV 119 [120]) (sx:=[]) (qx:=0) (j:=5) (aO Z) Z (fH (z:={zz [q,aW q 2 0 (q.2.2+2),aW q 3 0 (q.2.2+3),aW q 5 0 (q.2.2+5),aW q 6 0 (q.2.2+6),aW q 7 0 (q.2.2+7)] [106] 0 r9 [] R with th:=r9}) (sts:=[179]) (pre:=U) (v:=QL) (a:=q) (b:=aW q 7 0 (q.2.2+7)) (s':=.av 179) (sts':=[]) (ms':=[]) (pre':=J) (t':=[]) (ab9 (zz [q,aW q 2 0 (q.2.2+2),aW q 3 0 (q.2.2+3),aW q 5 0 (q.2.2+5),aW q 6 0 (q.2.2+6),aW q 7 0 (q.2.2+7)] [106] 0 r9 [] R)) K)
 |false=>cases d:ac l.f 7 with
  |true=> show PP _ _ _ _ _ (lr mk (aM _::[aM _,aM _])++R) _;rw[g];have F:=D8 (ms:=[]) (th:=r9) (n:=0) (a1:=q) (b1:=aW q 1 0 (q.2.2+1)) (a2:=aW q 1 0 (q.2.2+1)) (b2:=aW q 2 0 (q.2.2+2)) (a3:=aW q 2 0 (q.2.2+2)) (b3:=aW q 3 0 (q.2.2+3)) (sts:=[179]) (aO Z) Z Z K;exact Ed (K0:=kS 102) (sx:=[]) (qx:=0) (j:=7) (aO Z) Z (fH (z:=zz [q,aW q 1 0 (q.2.2+1)] [] 0 r9 [] (aM ⟨16,aW q 1 0 (q.2.2+1),aW q 2 0 (q.2.2+2)⟩::aM ⟨11,aW q 2 0 (q.2.2+2),aW q 3 0 (q.2.2+3)⟩::R)) (sts:=[179]) (pre:=U) (v:=Bg .none yes) (a:=q) (b:=aW q 1 0 (q.2.2+1)) (s':=.av 194) (sts':=[179]) (ms':=[]) (pre':=U) (t:=[tY (kS 102) q (aW q 1 0 (q.2.2+1))]) (t':=[tY (kS 102) q (aW q 1 0 (q.2.2+1))]) (aca (zz [q,aW q 1 0 (q.2.2+1)] [] 0 r9 [] (aM ⟨16,aW q 1 0 (q.2.2+1),aW q 2 0 (q.2.2+2)⟩::aM ⟨11,aW q 2 0 (q.2.2+2),aW q 3 0 (q.2.2+3)⟩::R))) F)
  |false=>
   obtain⟨sx,qx,h⟩:=YQ i (by rw[k,d];rfl)
   have f:∀j d K0,PJ (zk l)=K0->j∈[0,1,2,3,4,5,6,7]->d∈[0,1,2]->L! (zz [q,dC [] l q] sx qx (.kU []) [] R) j=K0->(BI d (zz [q,dC [] l q] sx qx r9 [] R) 0).ts=[tY K0 q (dC [] l q)]->(BI d (zz [q,dC [] l q] sx qx r9 [] R) 0).v=D9 l.f->PP (.av 173) [] [] (.kU []) J (lr mk [aM (ir [] l q)]++R) (bB (i8 iL) q q::(bB (D9 l.f) q (dC [] l q)::y)):=λj d K0 g i k m o t=>by have r:=d6 (Wq (zz [q,dC [] l q] sx qx r9 [] R)) (x:=d) k;have r:dY (zz [q,dC [] l q] sx qx r9 [] R) (.av 180) [179] U (BI d (zz [q,dC [] l q] sx qx r9 [] R) 0).ts=fW (zz [q,dC [] l q] sx qx r9 [] R) (BI d (zz [q,dC [] l q] sx qx r9 [] R) 0).v q (dC [] l q) (.av 179) [] [] J []:=r;rw[o,t]at r;have d:=Ed (mk:=mk) i m (fH (z:=zz [q,dC [] l q] sx qx r9 [] R) r K);rw[<-g]at d;exact d
   exact h.elim (λh=>f 2 0 _ h.1 (aO Z) gV Z Z h.2.symm) λh=>h.elim (λh=>f 3 1 _ h.1 (aO Z) aat Z Z h.2.symm) λh=>f 4 2 _ h.1 (aO Z) aau Z Z h.2.symm
end
structure eZ(t:ae)(told:af):Prop where
 good:gE t=U
 len:t.length<=700
 tl:told.length<=120
 go:∃k L,k<=240/\Go k J U (nI U) U ⟨t++[0],0,0,0⟩ L/\PP (.av 168) [] [] (.kU []) U (aM ⟨0,dU,dU⟩::L) told
def yw(a:W)(q:aw):V:=br (aq [1,3] a) (bB (i8 yes) dU (3,0,3)) (bB (i8 iL) q q)
def e9(v:I)(d:D)(E:gP)(e:Y gP)(q a:aw)(b:I)(c:aw):af:=vm (jH v 1) b c q::(eJ v d E e q a++[bB (lW v) a a])
def oQ(a:aw):af:=[bB (iM iL) a a,bB kh a a]
def Ł(a:aw):af:=[bB (iM yes) a (aW a 3 0 3),bB kh (aW a 4 1 0) (aW a 4 1 0)]
structure t7(tr v:I)(c:D)(K:W)(E:gP):Prop where
 g:gN tr v [c] K E.x E.tk
 p:∀th,th=r9∨th=Sz->t6 th (Jt v J [179]) E.tk E.ev
section
variable{v e an mk tr:I}{R H:af}{p P Pe q a b:aw}{th:PA}{n F L K:W}{c d c2:D}{E:gP}{Es:Y gP}{l:Lf}{t y:ae}
def zB(m:(F,c)∈GR)(f:(0:D)<=c)(g:q.2.2=c)(h:t7 tr v c K E)(i:∀E∈Es,t7 tr v c K E)(j:∀th,PP (.av 179) [] [] th J R H):
  PP (.av 168) [] [] (.kU []) U (aM ⟨0,dU,dU⟩::(YM F++(DY e v c [] [c] E Es q P++(aM ⟨4,P,P⟩::R)))) (bB iD dU dU::yw F q::(e9 v c E Es q P J q++H)):=by
 refine Jv ?_
 have X:e9 v c E Es q P J q++H=vm (jH v 1) J q q::(eJ v c E Es q P++(bB (lW v) P P::H)):=by show _::(_++H)=_;rw[am];rfl
 rw[X];unfold YM yw;cases aq [1,3] F with
 |true=>exact agg (Bl (b0:=q) (.inr ⟨Z,Z⟩) f g (h.p _ (.inr Z)) (λE m=>(i E m).p _ (.inr Z)) (j _))
 |false=> have k:=Bl (e:=e) (an:=J) (a:=q) (b0:=q) (P:=P) (.inl Z) f g (h.p _ (.inl Z)) (λE m=>(i E m).p _ (.inl Z)) (j r9);have h:a? (top []<c)=!J:=cF (ui (aO Z) f);obtain⟨T,f⟩:=Bk g h (λh=>ao h);rw[f]at k ⊢;exact Ed (mk:=J) (sx:=[]) (qx:=0) (j:=br v 1 0) (by cases v<;>decide) (by generalize v=u;cases u<;>rfl) k
def eZ.en(g:(F,c)∈GR)(h:[c]∈jE)(r:Nk tr [c] U y n d c2 t){f:ae}(u:f++[0]=jZ F++(sp c++(dX v c E Es++y)))(k:gE f)(m:f.length<=700)(i:t7 tr v c K E)(j:∀E∈Es,t7 tr v c K E)(w:1+(K+5)*Es.length+K+10<=240)(s:Pe=fh (iZ F c) (dX v c E Es) n d c2)(o:(e9 v c E Es (iZ F c) Pe J (iZ F c)).length<=100):
  eZ f (bB iD dU dU::yw F (iZ F c)::(e9 v c E Es (iZ F c) Pe J (iZ F c)++oQ Pe))where
 good:=k
 len:=m
 tl:=by show((e9 v c E Es _ Pe J _++oQ Pe).length+1+1)<=120;rw[aX];exact ay (dh (dh (dh o _) 1) 1) (show 100+2+1+1<=120 by decide)
 go:=by have G:=ab7 g h r i.g λE m=>(j E m).g;rw[<-s,<-u]at G;exact⟨_,_,w,G,zB g (kg h) Z i j λth=>Ec (mk:=J)⟩
def eZ.dt(g:(F,c)∈GR)(h:[c]∈jE){f:ae}(s:f++[0]=jZ F++(sp c++(dX v c E Es++[46,46,46,10,0])))(k:gE f)(m:f.length<=700)(i:t7 tr v c K E)(j:∀E∈Es,t7 tr v c K E)(u:5+(K+5)*Es.length+K+10<=240)(r:Pe=r! (iZ F c) (dX v c E Es) 1)(o:(e9 v c E Es (iZ F c) Pe J (iZ F c)).length<=100):
  eZ f (bB iD dU dU::yw F (iZ F c)::(e9 v c E Es (iZ F c) Pe J (iZ F c)++Ł Pe))where
 good:=k
 len:=m
 tl:=by show((e9 v c E Es _ Pe J _++Ł Pe).length+1+1)<=120;rw[aX];exact ay (dh (dh (dh o _) 1) 1) (show 100+2+1+1<=120 by decide)
 go:=by have G:=ab8 g h i.g λE m=>(j E m).g;rw[<-r,<-s]at G;exact⟨_,_,u,G,zB g (kg h) Z i j λth=>agf⟩
def eZ.anc{b:D}(s:f∈([1,2,3,4,5,6,7,8]:Y D))(u:b∈([1,2,3,4]:Y D))(h:[b]∈jE)(w:Nk tr [b] U y n d c2 t){g:ae}(A:g++[0]=sp f++([38,122,10]++(sp b++(dX v b E Es++y))))(m:gE g)(o:g.length<=700)(j:t7 tr v b K E)(k:∀E∈Es,t7 tr v b K E)(B:1+(K+5)*(1+Es.length)+5<=240)(x:p=qf dU (sp f) f)(i:q=qf p ([38,122,10]++sp b) b)(z:Pe=fh q (dX v b E Es) n d c2)(r:(e9 v b E Es q Pe U p).length<=100):
  eZ g (bB iD dU dU::bB (i8 iL) p p::(e9 v b E Es q Pe U p++oQ Pe))where
 good:=m
 len:=o
 tl:=by show((e9 v b E Es q Pe U p++oQ Pe).length+1+1)<=120;rw[aX];exact ay (dh (dh (dh r _) 1) 1) (show 100+2+1+1<=120 by decide)
 go:=by
  have G:=Wd s u h w j.g (λE m=>(k E m).g) x i z;rw[<-A]at G;refine⟨_,_,B,G,Jv ?_⟩;have f:=Bl (e:=U) (an:=U) (a:=p) (b0:=aW p 2 0 (p.2.2+2)) (P:=Pe) (q:=q) (.inl Z) (kg h) (by rw[i];rfl) (j.p _ (.inl Z)) (λE m=>(k E m).p _ (.inl Z)) (Ec (P:=Pe) (mk:=J))
  have X:e9 v b E Es q Pe U p++oQ Pe=vm (jH v 1) U p q::(eJ v b E Es q Pe++(bB (lW v) Pe Pe::oQ Pe)):=by show _::(_++_)=_;rw[am];rfl
  rw[X];exact Ed (mk:=J) (sx:=[]) (qx:=0) (j:=6) (aO Z) Z f
def eZ.lf(f:l∈yu)(j:c∈([1,2,3,4,5,6,7,8]:Y D))(k:p=qf dU (sp c) c)(h:gE (sp c++dv (-1) l))(i:(sp c++dv (-1) l).length<=700):eZ (sp c++dv (-1) l) (bB iD dU dU::bB (i8 iL) p p::(jf [] l p++oQ (kA [] l p)))where
 good:=h
 len:=i
 tl:=by
  have:(jf [] l p).length<=3:=by
   unfold jf;cases ac l.f 6 with
   |true=>exact cw Z
   |false=>cases ac l.f 7 with
    |true=>exact cw Z
    |false=>exact cw Z
  show((jf [] l p++oQ _).length+1+1)<=120;rw[aX];exact ay (dh (dh (dh this _) 1) 1) (show 3+2+1+1<=120 by decide)
 go:=by
  have G:=QH f j;rw[<-k,<-am]at G;refine⟨_,_,by decide,G,Jv ?_⟩;have g:=ai (show aI (λl:Lf=>jp l.f 12) yu=U by kernel_rfl) f;rw[YP];cases G4 l with
  |true=>exact Bm g (Ec (mk:=J))
  |false=>exact Bm g (Ec)
end
def Ê(t:ae):Gb:={base:=λk=>br (ac k 5) 1 (br (ac k 6) 1 0),old:=λ_=>0,N7:=0,txt:=t}
def HT(A:Ab)(L l:aC):=∀a,aq (l.map (·.1)) a->m7 (ym A) (aj a l) (aj a L)
abbrev T_:V:=aM ⟨0,dU,dU⟩
section
variable{A:Ab}{L l:aC}{a k n d u:W}{x c:PA}{t:ae}{s:af}{tx:V}
def Jw:dy (Ê t)where
 pos:=λk=>by show _<=br _ 1 _;cases ac k 5<;>cases ac k 6<;>decide
 le:=(by decide:(0:D)<=900)
 lt:=λ_ j _ h=>ch h (BK j)
 Yk:=λj h=>ch h (BK j)
 ti:=Z
 six:=pJ _
def Ee(b:aj k L=O c)(h:ym A x c)(r:HT A L l):HT A L ((k,x)::l):=λa e=>
 ny (e) (λq _=>by
  rw[<-aK q];exact .inr ⟨x,c,by show br _ _ _=_;rw[cf];rfl,b,h⟩) λq e=>by
  show m7 _ (br _ _ _) _;rw[q];exact r a e
def Jx:HT A L []:=λ_ e=>ao e
def acw(h:aI (aq b) e=U)(f:aq b a=J):aq e a=J:=d8.mpr λq=>ao (il f (ai h (fT q)))
def lX{b:Type}{o:N b}(h:o.isSome=J):o=C:=by induction o with|none=>rfl|some=>exact ao h.symm
def Ĉ(h:fK a=J):aj a (Gz (.str t))=C:=lX (by rw[ik];exact acw (by kernel_rfl) h)
def QT(h:atS a):iW a=J:=yp xp h λ_ _ z _=>z
def É:aC:=pB (.av 168) [] [] (.kU [])
def È:É.map (·.1)=yv:=by kernel_rfl
def QU(e:t.length<=800)(f:k<=240):qG (λa=>aj a (Gz (.str t))) k U (nI U) ⟨t,0,0,0⟩ [VK (.str t)] ⟨Gz (.str t),[],n⟩:=by
 refine⟨Ê t,Jw,Z,(by decide:1<=100000),n,⟨⟨λa b=>?_,λa b=>?_,λ_ _=>Z,(hH n).symm,(by show 26<=900000;decide),λa=>by rw[ik];rfl⟩,λ_=>Z,(λh=>ao h.symm),e,?_,pJ _,eM _,Z,Z,Z,Z⟩⟩
 ·cases q:atS a with
  |false=>exact .inl ⟨lX (by rw[ik];exact q),Ĉ ((rU q).elim (λz=>ao (il b z)) id)⟩
  |true=>
   refine(?_:HT _ _ _) a q
   iterate 20 refine Ee Z (by first|exact⟨_,Z,Z⟩|exact⟨_,Z,0,Z,Z⟩|exact⟨_,Z,[],Z,Z⟩|exact⟨_,Z,Z,pJ _,eM _,Z,ao⟩) ?_
   exact Jx
 ·exact lX (by rw[ik];exact d8.mpr λq=>ao (il (QT q) b))
 ·exact ay (d9 (yH 20 f) 1) (aO Z)
def Wz(g:Gb):cu g [T_] [VK (.str t)]:=have m:=⟨_,Z,⟨_,_,Z,⟨Z,Z⟩,_,_,Z,⟨Z,Z⟩,_,_,Z,⟨Z,Z⟩,_,_,Z,⟨Z,Z⟩,_,_,Z,⟨Z,Z⟩,_,_,Z,⟨Z,Z⟩,Z⟩⟩;⟨_,_,Z,⟨_,Z,⟨_,_,Z,⟨Z,m⟩,_,_,Z,⟨Z,m⟩,_,_,Z,⟨Z,Z⟩,Z⟩⟩,Z⟩
def aih:setB (nI U) (nI U):=by kernel_rfl
def QV(g:t.length+1<=800)(f:eZ t s):∃L,EQ É (.bool U::L) ⟨Gz (.str (t++[0])),[],n⟩/\Pa s É (.bool U::L):=by
 obtain⟨k,L,e,G,P⟩:=f.go;have S:=G [T_] ⟨bN _ _,Z⟩;refine⟨T_::L,⟨Ê (t++[0]),Jw,[VK (.str (t++[0]))],Z,(by decide:1<=100000),n,λa b=>?_,λa b=>?_,⟨λa b=>?_,λa=>aj a _,k,ay e (aO Z),.inl ⟨_,Z,U,nI U,⟨t++[0],0,0,0⟩,_,_,QU (by rw[aX];exact g) e,λg=>Wz g,S,rW aih⟩⟩,(hH n).symm,(by show 26<=900000;decide),λa=>by rw[ik];rfl⟩,P⟩
 ·cases q:iW a with
  |false=>exact .inl ⟨lX (by rw[ik];exact q),Ĉ ((rU b).elim (λz=>ao (il q z)) id)⟩
  |true=>
   refine(?_:HT _ _ _) a q
   iterate 6 refine Ee Z (by exact⟨_,Z,Z⟩) ?_
   exact Jx
 ·exact lX (by rw[ik];exact d8.mpr λq=>ao (il (QT b) q))
 ·rw[ik]
  exact o3 ((by decide:∀x∈yv,x∈[1,21,22,23,5,6,24,25,9,2,3,4,42,43,44,46,47,48,49,50,162,163,164,165,166,167]) a (fT b))
def WA(b:eZ t s)(h:19<=d):∃e f,(pS d).av bP [] [] ⟨Gz (.str (t++[0])),[],n⟩=O (e,f)/\∃g,uE (ev (pR d) qa · DC) (pr (pR d) qa u DD) 300 ⟨fG tx [] e,f⟩=O (.next,⟨fG tx s .none,g⟩):=by refine gq λP i=>?_;obtain⟨L,j,m⟩:=QV (ay (eN b.len) (aO Z)) b;obtain⟨e,f,o,p⟩:=VF h s m j;obtain⟨g,h⟩:=p [] 300 (fQ b.tl (aO Z)) (ay (cZ (hH _)) (ay b.tl (aO Z)));refine i ?_;exact⟨e,f,o,g,h⟩
end
def ŀ:oh:=[(247,vX),(213,vY),(256,mi),(219,mj),(267,uu)]
def xJ(s:S):S×S:=S.casesOn (motive:=λ_=>S×S) s (.nil,.nil) Prod.mk (λ_=>(.nil,.nil)) (λ_=>(.nil,.nil)) (.nil,.nil) (.nil,.nil) (λ_ _=>(.nil,.nil)) (λ_ _ _ _ _=>(.nil,.nil)) (λ_ _=>(.nil,.nil)) (λ_ _ _=>(.nil,.nil)) (λ_ _ _=>(.nil,.nil)) (λ_ _=>(.nil,.nil)) (λ_ _ _=>(.nil,.nil)) (λ_ _ _ _=>(.nil,.nil)) (λ_ _ _=>(.nil,.nil)) (λ_ _=>(.nil,.nil)) (λ_ _ _=>(.nil,.nil)) (λ_=>(.nil,.nil)) (λ_=>(.nil,.nil)) (.nil,.nil)
def yx(n:W)(s:S):S:=ul (motive:=λ_=>S->S) id (λ_ a s=>a (xJ s).2) n s
def L9(n:W)(s:S):S:=(xJ (yx n s)).1
def lG(d:W):cQ:=ul (motive:=λ_=>cQ) (OW pA fK) (λ_ G=>{OW pA fK with func:=λf a b c=>bn (aj f ŀ) λe=>run G 300 e a b c}) d
abbrev iv(n:W):V:=.int (n:D)
abbrev t2(d f:W)(as:af)(pg:PG):dR:=(lG d).func f as [] pg
abbrev da(ns:ae):PG:=⟨[],ns.map iv,0⟩
abbrev cy(ns:ae):W:=ns.headD 0
section
variable{G:cQ}{lv:ae}{d n c x0:W}{z:PG}{a b m:X}{s s1 t:St}{x y:ae}{v w u:V}{vs ws:af}{A B:S}{r:qY}{ns:ae}
def aii{n:W}(h:(x++y).length<=n):x.length<=n:=ay (by rw[aX];exact fY _ _) h
def add_str(h:(x++y).length<=1000):qu .Add (.str x) (.str y)=O (.str (x++y)):=by show gd (bd (ak x+ak y) 1000000) _=_;rw[aB,aB,<-aX,g8 (ay h (aO Z))];rfl
def jn{e g h:Type}{o:N (e×g)}{f:e->g->N h}{a:e}{b:g}(i:o=O (a,b)):ax o f=f a b:=by rw[i];rfl
def QW{e g:Type}{o:N e}{f:e->N g}{a:e}(h:o=O a):bn o f=f a:=by rw[h];rfl
def agj{e:Type}{b:I}{o:N e}(h:b):gd b o=o:=by rw[h];rfl
def lu(f:ev G lv J a s=O (v,s1))(g:ev G lv J b s1=O (w,t))(h:qu e v w=O u):ev G lv J (.bin e a b) s=O (u,t):=(show ax (ev G lv J a s) (λv s=>ax (ev G lv J b s) λw s=>bn (qu e v w) λu=>fin J u s)=_ from(jn f).trans ((jn g).trans (QW h)))
def d7(e:ev G lv J a s=O (.str x,s1))(f:ev G lv J b s1=O (.str y,t))(h:(x++y).length<=1000):ev G lv J (.bin .Add a b) s=O (.str (x++y),t):=lu e f (add_str h)
def jF(g:aq lv f=J)(h:G.gl f=O (.fn f))(k:G.ro=J)(i:uI G lv f []=J)(j:BC G lv e s=O (vs,s1))(l:G.func f vs [] s1.pg=O (w,z)):ev G lv J (.bF f e [] .nil) s=O (w,⟨s1.loc,z⟩):=by show oc (gd (uI G lv f []) _) _ (ax (br (aq lv f) _ (mp (G.gl f) λv=>(v,s))) _)=_;rw[g,h,i];show ax (BC G lv e s) (λvs s=>ax (O ([],s)) λws s=>bn (zZ [] ws) λe=>ax (jN G (.fn f) vs e s) λv s=>fin J v s)=_;rw[j];show ax (br G.ro C (back s1 (G.func f vs [] s1.pg))) _=_;rw[k,l];rfl
def mQ(h:ev G lv J a s=O (v,s1)):BC G lv (.cons a .nil) s=O ([v],s1):=(show ax (ev G lv J a s) (λv s=>ax (O ([],s)) λvs s=>O (v::vs,s))=_ from jn h)
def zC(e:ev G lv J a s=O (v,s1))(f:BC G lv b s1=O (vs,t)):BC G lv (.cons a b) s=O (v::vs,t):=show ax (ev G lv J a s) (λv s=>ax (BC G lv b s) λvs s=>O (v::vs,s))=_ from(jn e).trans (jn f)
def acz(h:BC G lv a s=O (vs,s1)):ev G lv J (.tup a) s=O (.tup vs,s1):=show ax (BC G lv a s) (λvs s=>fin J (.tup vs) s)=_ from jn h
def jo(f:ev G lv J a s=O (v,s1))(g:ev G lv J b s1=O (w,t))(h:iJ v w=O u)(e:cG a=C):ev G lv J (.sub a b) s=O (u,t):=by show oc (gy G lv s (cG a)) _ (ax (ev G lv J a s) λx s=>ax (ev G lv J b s) λv s=>bn (iJ x v) λw=>fin J w s)=_;rw[e];show ax (ev G lv J a s) (λx s=>ax (ev G lv J b s) λv s=>bn (iJ x v) λw=>fin J w s)=_;exact(jn f).trans ((jn g).trans (QW h))
def dI(h:ev G lv J b s=O (v,s1))(e:uk b=J):pr G lv n (.set [x0] b) s=O (.next,aE s1 x0 (.val v)):=by show br (uk b) _ (Mr [x0] (ev G lv · b)) s=_;rw[e];exact jn (f:=λv s=>nx (oV v [x0] s)) h
def cY(k:pr G lv n B s1=r)(h:pr G lv n A s=O (.next,s1)):pr G lv n (.cons A B) s=r:=(eB h).trans k
def Ŀ(h:pr G lv n A s=O (.ret v,s1)):pr G lv n (.cons A B) s=O (.ret v,s1):=mK h
def yy(k:pr G lv n A s1=r)(h:ev G lv U m s=O (.bool U,s1)):pr G lv n (.ifs m A B) s=r:=(zp h).trans k
def nG(k:pr G lv n B s1=r)(h:ev G lv U m s=O (.bool J,s1)):pr G lv n (.ifs m A B) s=r:=(I4 h).trans k
def Jy(h:ev G lv J m s=O (v,s1))(e:cq m=J):pr G lv n (.cons (.ret m) B) s=O (.ret v,s1):=Ŀ ((show sT (cq m) (ev G lv · m) s=_ by rw[e];exact Gv h))
def lY{a:W}(c:W):(rep [a] c).length=c:=by induction c with|zero=>rfl|succ c e=>exact ah pm e
def mul_one{a:W}(h:c<=100):qu .Mult (.str [a]) (iv c)=O (.str (rep [a] c)):=by show gd (bd c 1000000) (gd (bd (1*c) 1000000) (O (V.str (rep [a] c))))=_;rw[H?,g8 (ay h (aO Z))];rfl
def vn(ns:ae):t2 (d+2) 213 [.aG] (da ns)=O (iv (cy ns),da ns.tail):=by cases ns<;>kernel_rfl
def y':X:=.bF 213 (xq [.aR 211]) [] .nil
def Jz(f:aq lv 213=J)(g:G.gl 213=O (.fn 213))(h:G.ro=J)(i:uI G lv 213 []=J)(j:BC G lv (xq [.aR 211]) ⟨e,da ns⟩=O ([.aG],⟨e,da ns⟩))(k:G.func 213 [.aG] [] (da ns)=O (iv (cy ns),da ns.tail)):ev G lv J y' ⟨e,da ns⟩=O (iv (cy ns),⟨e,da ns.tail⟩):=jF f g h i j k
end
abbrev SH:ae:=mi.lv
def GL(d:W):cQ:=ye (lG (d+2)) mi
def lZ(c:W)(a:I)(n f:W)(e b:ae):cz:=[(211,.val .aG),(4,.val (iv c)),(249,.val (.bool a)),(212,.val (iv n)),(245,.val (iv f)),(246,.val (.str e)),(248,.val (.str b))]
def c9{a:Type}(n:W)(l:Y a)(d:a):a:=bm (motive:=λ_=>W->a) (λ_=>d) (λa _ b n=>gc n a b) l n
def mR(e:W):ae:=c9 e [[10],[13,10],[32,35,32,114,10]] [133]
def uC(f e:W)(a:ae)(z:W):ae:=c9 f [[97]++mR e,[98,32,99]++mR e,[100,10]++a++[101]++mR e,[39,102,10,103,39]++mR e,[34,104,92,10,32,105,34]++mR e,[42,120]++mR e,[38,120,32,33,116,32,106]++mR e,[91,107,93]++mR e,[124,10]++a++[108,10]++rep [10] z] ([62,45,10]++a++[109,10]++a++[110,10])
def WB{a b:Type}(l:Y a)(m:Y b):Y (a×b):=(l.map λa=>m.map λb=>(a,b)).flatten
def YS(f:W)(a:I):W:=br (ac f 7&&!a) 0 f
def Đ:Y ((W×W)×W×I):=WB (WB [0,1,2,3,4,5,6,7,9] [0,1,2,3]) (WB [1,2,3,4,5,6] [J,U])
def Ly(d n c:W)(a:PG):Đ.map (λx=>pr (GL d) SH 300 (yx 4 gf) ⟨lZ c x.2.2 n x.1.1 (mR x.1.2) (rep [32] x.2.1),a⟩)=Đ.map λx=>O (.ret (.str (uC (YS x.1.1 x.2.2) x.1.2 (rep [32] x.2.1) 0)),⟨lZ c x.2.2 n x.1.1 (mR x.1.2) (rep [32] x.2.1),a⟩):=by kernel_rfl
def uV(c:W)(a:I)(e:cz):cz:=(211,.val .aG)::(4,.val (iv c))::(249,.val (.bool a))::e
def xK(x a b:W):X:=.bin .Mod (.bin .FloorDiv (.aR x) (.int a)) (.int b)
def aij(x a:W):X:=.bin .Mult (.str [32]) (.bin .Add (.bin .Add (.aR 4) (.int 1)) (xK x a 2))
section
variable{d n c f e m:W}{pg:PG}{rich:I}{s s1:St}{x y z:ae}{v w:V}{ns:ae}
def acA:∀{k:W},k<4->iJ (.lst [.str [10],.str [13,10],.str [32,35,32,114,10],.str [133]]) (iv k)=O (.str (mR k)):=λ{k}h=>by
 cases k with
 |zero=>rfl
 |succ k=>cases k with
  |zero=>rfl
  |succ k=>cases k with
   |zero=>rfl
   |succ k=>cases k with
    |zero=>rfl
    |succ k=>exact ch h (Op (nN 4 k))
def ph1:pr (GL d) SH 300 gf ⟨uV c rich [],da ns⟩=pr (GL d) SH 300 (yx 2 gf) ⟨uV c rich [(212,.val (iv (cy ns))),(245,.val (iv (cy ns%10)))],da ns.tail⟩:=by refine cY (s1:=⟨uV c rich [(212,.val (iv (cy ns)))],da ns.tail⟩) (cY (s1:=⟨uV c rich [(212,.val (iv (cy ns))),(245,.val (iv (cy ns%10)))],da ns.tail⟩) Z Z) ?_;exact dI (v:=iv (cy ns)) (s1:=⟨uV c rich [],da ns.tail⟩) (Jz Z Z Z Z Z (vn ns)) Z
def ph2(a:c<=50):pr (GL d) SH 300 (yx 2 gf) ⟨uV c rich [(212,.val (iv n)),(245,.val (iv f))],pg⟩=pr (GL d) SH 300 (yx 4 gf) ⟨lZ c rich n f (mR (n/10%4)) (rep [32] (c+1+n/5%2)),pg⟩:=by have k:n/5%2<2:=eD _ (aO Z);refine cY (s1:=⟨uV c rich [(212,.val (iv n)),(245,.val (iv f)),(246,.val (.str (mR (n/10%4))))],pg⟩) (cY (s1:=⟨lZ c rich n f (mR (n/10%4)) (rep [32] (c+1+n/5%2)),pg⟩) Z ?_) ?_;exact dI (v:=.str (rep [32] (c+1+n/5%2))) (s1:=⟨uV c rich [(212,.val (iv n)),(245,.val (iv f)),(246,.val (.str (mR (n/10%4))))],pg⟩) (lu (v:=.str [32]) (w:=iv (c+1+n/5%2)) Z Z (mul_one (ay (gY (eN a) (jJ k)) (aO Z)))) Z;exact dI (v:=.str (mR (n/10%4))) (s1:=⟨uV c rich [(212,.val (iv n)),(245,.val (iv f))],pg⟩) (jo (w:=iv (n/10%4)) (v:=.lst [.str [10],.str [13,10],.str [32,35,32,114,10],.str [133]]) (s1:=⟨uV c rich [(212,.val (iv n)),(245,.val (iv f))],pg⟩) (jF (s1:=⟨uV c rich [(212,.val (iv n)),(245,.val (iv f))],pg⟩) (vs:=[]) Z Z Z Z Z Z) Z (acA (eD _ (aO Z))) Z) Z
def agl{e:ae}:pr (GL d) SH 300 (yx 4 gf) ⟨lZ c rich n 8 e a,pg⟩=pr (GL d) SH 300 (yx 11 gf) ⟨lZ c rich n 8 e a,pg⟩:=by exact cY (s1:=⟨lZ c rich n 8 e a,pg⟩) (cY (s1:=⟨lZ c rich n 8 e a,pg⟩) (cY (s1:=⟨lZ c rich n 8 e a,pg⟩) (cY (s1:=⟨lZ c rich n 8 e a,pg⟩) (cY (s1:=⟨lZ c rich n 8 e a,pg⟩) (cY (s1:=⟨lZ c rich n 8 e a,pg⟩) (cY (s1:=⟨lZ c rich n 8 e a,pg⟩) Z Z) Z) Z) Z) Z) Z) Z
def do8{e:ae}(g:a.length<=100):pr (GL d) SH 300 (yx 11 gf) ⟨lZ c rich n 8 e a,pg⟩=O (.ret (.str ([124,10]++a++[108,10]++rep [10] (n/7%2))),⟨lZ c rich n 8 e a,pg⟩):=by
 have k:n/7%2<=1:=sB (eD _ (aO Z));have b:([124,10]++a).length<=102:=by rw[aX,hJ];exact dh g 2
 have g:([124,10]++a++[108,10]).length<=104:=by rw[aX];exact dh b 2
 have l3:([124,10]++a++[108,10]++rep [10] (n/7%2)).length<=105:=by rw[aX,lY];exact gY g k
 refine Ŀ (yy (s1:=⟨lZ c rich n 8 e a,pg⟩) (Jy (d7 (s1:=⟨lZ c rich n 8 e a,pg⟩) (d7 (s1:=⟨lZ c rich n 8 e a,pg⟩) (d7 (s1:=⟨lZ c rich n 8 e a,pg⟩) Z Z (ay b (aO Z))) Z (ay g (aO Z))) (lu (v:=.str [10]) (w:=iv (n/7%2)) Z Z (mul_one (ay k (aO Z)))) (ay l3 (aO Z))) Z) Z)
def xM{a b:Type}{l:Y a}{m:Y b}{x:a}{y:b}(h:x∈l)(k:y∈m):(x,y)∈WB l m:=AC.mpr ⟨_,eO.mpr ⟨x,h,Z⟩,eO.mpr ⟨y,k,Z⟩⟩
def ph3(b:f<10)(h:e<4)(i:1<=m)(g:m<=6):∃j,pr (GL d) SH 300 (yx 4 gf) ⟨lZ c rich n f (mR e) (rep [32] m),pg⟩=O (.ret (.str (uC (YS f rich) e (rep [32] m) (n/7%2))),⟨j,pg⟩):=by
 by_cases a:f=8
 ·rw[a,agl,do8 (by rw[lY];exact ay g (aO Z))]
  exact⟨_,Z⟩
 ·have j:=(by decide:∀f,f<10->f≠8->f∈[0,1,2,3,4,5,6,7,9]) f b a
  have k:=(by decide:∀e,e<4->e∈[0,1,2,3]) e h;have h:=(by decide:∀m,m<7->1<=m->m∈[1,2,3,4,5,6]) m (Wp g) i;have R:=Ix.mp (Ly d n c pg) ((f,e),m,rich) (xM (xM j k) (xM h (by cases rich;exact .head _;exact .tail _ gV)))
  have l:∀f,f<10->f≠8->∀z,uC (YS f rich) e (rep [32] m) z=uC (YS f rich) e (rep [32] m) 0:=by
   intro f b a z;cases f with
   |zero=>rfl
   |succ f=>cases f with
    |zero=>rfl
    |succ f=>cases f with
     |zero=>rfl
     |succ f=>cases f with
      |zero=>rfl
      |succ f=>cases f with
       |zero=>rfl
       |succ f=>cases f with
        |zero=>rfl
        |succ f=>cases f with
         |zero=>rfl
         |succ f=>cases f with
          |zero=>cases rich<;>rfl
          |succ f=>cases f with
           |zero=>exact ch Z a
           |succ f=>cases f with
            |zero=>rfl
            |succ f=>exact ch b (Op (nN 10 f))
  rw[l f b a];exact⟨_,R⟩
def WC(a:c<=4):t2 (d+3) 256 [.aG,iv c,.bool rich] (da ns)=O (.str (uC (YS (cy ns%10) rich) (cy ns/10%4) (rep [32] (c+1+cy ns/5%2)) (cy ns/7%2)),da ns.tail):=by have k:cy ns/5%2<=1:=sB (eD _ (aO Z));obtain⟨b,h⟩:=ph3 (d:=d) (c:=c) (rich:=rich) (n:=cy ns) (f:=cy ns%10) (e:=cy ns/10%4) (m:=c+1+cy ns/5%2) (pg:=da ns.tail) (eD _ (aO Z)) (eD _ (aO Z)) (ay (nN 1 c) (fY _ _)) (gY (eN a) k);show ax (pr (GL d) SH 300 gf ⟨uV c rich [],da ns⟩) (λf s=>O (km f,s.pg))=_;rw[ph1,ph2 (ay a (aO Z)),h];rfl
end
abbrev kT:ae:=mj.lv
def GT(d:W):cQ:=ye (lG (d+3)) mj
def w!(k:W):S:=L9 k q9
def Ï(s:S):S:=S.casesOn (motive:=λ_=>S) s .nil (λ_ _=>.nil) (λ_=>.nil) (λ_=>.nil) .nil .nil (λ_ _=>.nil) (λ_ _ _ _ _=>.nil) (λ_ _=>.nil) (λ_ _ _=>.nil) (λ_ _ _=>.nil) (λ_ _=>.nil) (λ_ _ _=>.nil) (λ_ _ _ _=>.nil) (λ_ _ _=>.nil) (λ_ _=>.nil) (λ_ _ b=>b) (λ_=>.nil) (λ_=>.nil) .nil
def oR:S:=Ï (w! 4)
def bT(k:W):S:=L9 k oR
def l6(c:W):ae:=rep [32] c
def bJ(c:W)(a:I)(b:W)(d:I)(n e:W)(x:ae)(f:I)(g:cz):cz:=(211,.val .aG)::(4,.val (iv c))::(255,.val (.bool a))::(251,.val (iv b))::(252,.val (.bool d))::(212,.val (iv n))::(250,.val (iv e))::(236,.val (.str x))::(253,.val (iv (br f 0 1)))::g
def kj(a:I):ae:=br a [107,58] [45]
def YT(n:W)(a:I)(c:W):ae:=uC (YS (n%10) a) (n/10%4) (l6 (c+1+n/5%2)) (n/7%2)
def YU(a:I)(f:W):W:=br a f (br (ac f 2) 0 (br (ac f 3) 1 f))
def ľ:X:=.bF 256 (xq [.aR 211,.aR 4,.cmp (.aR 253) [.Eq] (xq [.int 0])]) [] .nil
def anX:X:=.ite (.cmp (xK 254 5 2) [.Eq] (xq [.int 1])) (.str [32,38,122,10]) (.str [10])
def x6(a k:X):X:=.bF 219 (xq [.aR 211,a,.Hp,.bin .Sub (.bin .Add (.aR 251) (.int 1)) (.aR 250),k]) [] .nil
def q!(a:X):S:=.set [236] a
def WD:q9=.cons (.set [212] y') (.cons (w! 1) (.cons (w! 2) (.cons (w! 3) (.cons (.x8 [253] (.bF 218 (xq [.aR 250]) [] .nil) oR) (.cons (.ret (.aR 236)) .nil))))):=Z
def WE:oR=.cons (bT 0) (.cons (.set [254] y') (.cons (.set [245] (.bin .Mod (.aR 254) (.int 5))) (.cons (bT 3) (.cons (bT 4) .nil)))):=Z
section
variable{d n c rm mn dr:W}{pg:PG}{dp ky f:I}{s s1:St}{x:ae}{v u:V}{ns:ae}{e g:cz}
def YV{h i:X}(j:ev G a U b s=O (.bool U,s1)):ev G a J (.ite b h i) s=ev G a J h s1:=by show ax (ev G a U b s) (λv s=>bn (gH v) λx=>br x (ev G a J h s) (ev G a J i s))=_;rw[j];rfl
def agn(a:c<=50)(h:(x++br f [] (l6 c)++kj ky).length<=1000):pr (GT d) kT 300 (bT 0) ⟨bJ c dp rm ky n mn x f e,pg⟩=O (.next,⟨bJ c dp rm ky n mn (x++br f [] (l6 c)++kj ky) f e,pg⟩):=by
 have b:ev (GT d) kT J (.ite (.cmp (.aR 253) [.Gt] (xq [.int 0])) (.bin .Mult (.str [32]) (.aR 4)) (.str [])) ⟨bJ c dp rm ky n mn x f e,pg⟩=O (.str (br f [] (l6 c)),⟨bJ c dp rm ky n mn x f e,pg⟩):=by
  induction f with
  |true=>rfl
  |false=>
   have q:ev (GT d) kT U (.cmp (.aR 253) [.Gt] (xq [.int 0])) ⟨bJ c dp rm ky n mn x J e,pg⟩=O (.bool U,⟨bJ c dp rm ky n mn x J e,pg⟩):=by kernel_rfl
   refine(YV q).trans ?_;exact lu Z Z (mul_one (ay a (aO Z)))
 have i:ev (GT d) kT J (.ite (.aR 252) (.str [107,58]) (.str [45])) ⟨bJ c dp rm ky n mn x f e,pg⟩=O (.str (kj ky),⟨bJ c dp rm ky n mn x f e,pg⟩):=by generalize ky=u;cases u<;>rfl
 exact dI (d7 (d7 Z b (aii h)) i h) Z
def Sh(e g:cz):=(e=[]/\g=[])∨∃a b,e=(254,a)::(245,b)::g
def acC(a:Sh e g){A:S}:pr (GT d) kT 300 (.cons (.set [254] y') (.cons (.set [245] (.bin .Mod (.aR 254) (.int 5))) A)) ⟨bJ c dp rm ky n mn x f e,da ns⟩=pr (GT d) kT 300 A ⟨bJ c dp rm ky n mn x f ((254,.val (iv (cy ns)))::(245,.val (iv (cy ns%5)))::g),da ns.tail⟩:=by have k:∀{e},ev _ kT J y' ⟨bJ c dp rm ky n mn x f e,da ns⟩=O _:=λ{e}=>Jz Z Z Z Z Z (vn (d:=d+1) ns);refine a.elim (λh=>?_) λh=>?_;rw[h.1,h.2];exact cY (cY Z Z) (dI k Z);obtain⟨a,b,h⟩:=h;rw[h];exact cY (cY Z Z) (dI k Z)
def WG(d c rm n mn:W)(dp ky:I)(x:ae)(f:I)(a:LV)(g:cz)(pg:PG):[J,U].map (λdp=>[0,1,2,3,4].map λk=>pr (GT d) kT 300 (bT 3) ⟨bJ c dp rm ky n mn x f ((254,a)::(245,.val (iv k))::g),pg⟩)=[J,U].map λdp=>[0,1,2,3,4].map λk=>O (.next,⟨bJ c dp rm ky n mn x f ((254,a)::(245,.val (iv (YU dp k)))::g),pg⟩):=by kernel_rfl
def ago(b:k<5){a:LV}:pr (GT d) kT 300 (bT 3) ⟨bJ c dp rm ky n mn x f ((254,a)::(245,.val (iv k))::g),pg⟩=O (.next,⟨bJ c dp rm ky n mn x f ((254,a)::(245,.val (iv (YU dp k)))::g),pg⟩):=
 Ix.mp (Ix.mp (WG d c rm n mn dp ky x f a g pg) dp (by cases dp;exact .head _;exact .tail _ gV)) k ((by decide:∀k,k<5->k∈[0,1,2,3,4]) k b)
def acD(a:c<=4):ev (GT d) kT J ľ ⟨bJ c dp rm ky n mn x f e,da ns⟩=O (.str (YT (cy ns) f c),⟨bJ c dp rm ky n mn x f e,da ns.tail⟩):=jF (s1:=⟨bJ c dp rm ky n mn x f e,da ns⟩) (vs:=[.aG,iv c,.bool f]) Z Z Z Z (by generalize f=u;cases u<;>rfl) (WC a)
def acE(a:c<=50):ev (GT d) kT J (aij 254 5) ⟨bJ c dp rm ky n mn x f ((254,.val (iv dr))::e),pg⟩=O (.str (l6 (c+1+dr/5%2)),⟨bJ c dp rm ky n mn x f ((254,.val (iv dr))::e),pg⟩):=by have k:dr/5%2<2:=eD _ (aO Z);exact lu Z Z (mul_one (ay (gY (eN a) (jJ k)) (aO Z)))
end
def vp(a:I):ae:=br a [32,38,122,10] [10]
def WH(c:W)(f:I)(x:ae):=(∃n,x=32::YT n f c)∨(∃n k,k<=1/\x=10::(l6 (c+1+k)++YT n f c))∨x=[10]
def YW(v:I)(c:W)(x:ae):=∃a,WH c U a/\(x=kj v++a∨∃b,WH c J b/\x=kj v++a++(l6 c++(kj v++b)))
def Ma(c:W)(d f:I)(x:ae):=WH c f x∨(d=J/\∃v y,YW v (c+2) y/\x=32::y)∨(∃b a v y,(a=c+1∨a=c+2)/\YW v a y/\x=vp b++(l6 a++y))∨(d/\∃b y,YW J c y/\x=vp b++(l6 c++y))
section
variable{d n c rm mn rr dr:W}{pg:PG}{dp ky f:I}{s s1:St}{x y z:ae}{v w u:V}{ns:ae}{e g:cz}
def WI{e:W}:(mR e).length<=5:=by
 cases e with
 |zero=>exact cw Z
 |succ e=>cases e with
  |zero=>exact cw Z
  |succ e=>cases e with
   |zero=>exact cw Z
   |succ e=>exact cw Z
def acF{b:Type}{P:b->Prop}{l:Y b}{d:b}(i:P d):∀{n:W},(∀a∈l,P a)->P (c9 n l d):=by induction l with|nil=>exact λ_=>i|cons a l j=>intro n h;cases n with|zero=>exact h a gV|succ n=>exact j λa m=>h a (.tail _ m)
def LA{f e z:W}(t:m.length<=6)(A:z<=1):(uC f e m z).length<=40:=by(have E:=WI (e:=e);have h:∀{x:ae}{k:W},x.length<=k->(x++mR e).length<=k+5:=λ{x k}i=>by rw[aX];exact gY i E);(have q:∀{x:ae}{k:W},x.length<=k->(x++m).length<=k+6:=λ{x k}i=>by rw[aX];exact gY i t);(have o:∀{x y:ae}{k j:W},x.length<=k->y.length<=j->(x++y).length<=k+j:=λ{x y k j}i r=>by rw[aX];exact gY i r);have a:∀{x:ae}{k:W},x.length<=k->k<=40->x.length<=40:=λi=>ay i;(have b:∀{i:ae}{l:Y _},i.length<=40->(∀x∈l,x.length<=40)->∀x∈i::l,x.length<=40:=λ{i l}B r x p=>by cases p with|head=>exact B|tail _ p=>exact r x p);have i:([62,45,10]++m++[109,10]++m++[110,10]).length<=40:=(a (o (j:=2) (q (o (j:=3) (q (aU 3)) (aO Z))) (aO Z)) (aO Z));refine acF (P:=λx:ae=>x.length<=40) i ?_;refine b (a (h (aU 1)) (aO Z)) (b (a (h (aU 3)) (aO Z)) (b (a (h (o (q (aU 2)) (aU 1))) (aO Z)) (b (a (h (aU 5)) (aO Z)) (b (a (h (aU 7)) (aO Z)) (b (a (h (aU 2)) (aO Z)) (b (a (h (aU 7)) (aO Z)) (b (a (h (aU 3)) (aO Z)) (b (a (o (o (q (aU 2)) (aU 2)) (by rw[lY];exact A)) (aO Z)) (λx p=>nomatch p)))))))))
def vq(a:c<=4):(YT n f c).length<=40:=LA (by unfold l6;rw[lY];exact gY (eN a) (sB (eD _ (aO Z)))) (sB (eD _ (aO Z)))
def lA:(l6 c).length=c:=lY c
theorem WH.len(h:WH c f x)(a:c<=4):x.length<=47:=h.elim (λh=>by
  obtain⟨n,h⟩:=h;rw[h];exact ay (eN (vq a)) (aO Z)) λh=>h.elim (λh=>by
  obtain⟨n,k,b,h⟩:=h;rw[h,vB,aX,lA];have:=vq (n:=n) (f:=f) a
  lia) λh=>by rw[h];exact cw Z
def GZ:(kj ky).length<=2:=by generalize ky=u;cases u<;>exact cw Z
theorem YW.len{v:I}(h:YW v c x)(a:c<=4):x.length<=110:=by obtain⟨b,b,h⟩:=h;have i:=b.len a;have b:=GZ (ky:=v);refine h.elim (λh=>?_) λh=>?_;rw[h,aX];lia;obtain⟨b,b,h⟩:=h;have i:=b.len a;rw[h,aX,aX,aX,aX,lA];lia
theorem Ma.len(h:Ma c ky f x)(b:c<=2):x.length<=120:=h.elim (λh=>ay (h.len (ay b (aO Z))) (aO Z)) λh=>h.elim (λh=>by
  obtain⟨_,v,y,h,e⟩:=h;have:=h.len (eN (eN b));rw[e,vB];lia) λh=>h.elim (λh=>by
  obtain⟨a,j,v,y,j,h,e⟩:=h;have:=h.len (by lia);have i:(vp a).length<=4:=by generalize a=u;cases u<;>exact cw Z
  rw[e,aX,aX,lA];lia) λh=>by
  obtain⟨_,a,y,h,e⟩:=h;have:=h.len (ay b (aO Z));have i:(vp a).length<=4:=by generalize a=u;cases u<;>exact cw Z
  rw[e,aX,aX,lA];lia
def QX(d rr c:W):=∀b a(ns:ae),b<=c+2->(a=.none∨a=.bool J)->∃v y r,t2 (d+3) 219 [.aG,iv b,.bool J,iv rr,a] (da ns)=O (.str y,da r)/\YW v b y/\(a=.bool J->v=J)
def xN(a:x.length<=m)(b:y.length<=k)(h:m+k<=1000):(x++y).length<=1000:=by rw[aX];exact ay (gY a b) h
def agp{i h:X}(j:ev G a U b s=O (.bool J,s1)):ev G a J (.ite b i h) s=ev G a J h s1:=by show ax (ev G a U b s) (λv s=>bn (gH v) λx=>br x (ev G a J i s) (ev G a J h s))=_;rw[j];rfl
def Ĥ{q:W}(h:ev G a J b s=O (iv q,s1)):ev G a U (.cmp b [.Eq] (xq [.int 1])) s=O (.bool (a? ((q:D)=1)),s1):=by show ax (ev G a J b s) (λv s=>ax (ax (O (V.int _,s)) λw s=>bn (pe .Eq v w) λb=>O (b,s)) λb s=>O (V.bool b,s))=_;rw[h];rfl
def q01{q:W}{P:W->Prop}(a:P 0)(b:P 1):P (q%2):=(by decide:∀k,k<2->k=0∨k=1) _ (eD _ (aO Z))|>.elim (λe=>e▸a) λe=>e▸b
def agq{e:cz}:∃a,ev (GT d) kT J anX ⟨bJ c dp rm ky n mn x f ((254,.val (iv dr))::e),pg⟩=O (.str (vp a),⟨bJ c dp rm ky n mn x f ((254,.val (iv dr))::e),pg⟩):=by
 have E:ev (GT d) kT U (.cmp (xK 254 5 2) [.Eq] _) ⟨bJ c dp rm ky n mn x f ((254,.val (iv dr))::e),pg⟩=O _:=Ĥ Z;cases q:a? ((_:D)=1)with
 |true=>rw[q]at E;exact⟨U,YV E⟩
 |false=>rw[q]at E;exact⟨J,agp E⟩
def agr{e:cz}(a:ky):∃b,ev (GT d) kT U (.and (xq [.aR 252,.cmp (xK 254 10 2) [.Eq] (xq [.int 1])])) ⟨bJ c dp rm ky n mn x f ((254,.val (iv dr))::e),pg⟩=O (.bool b,⟨bJ c dp rm ky n mn x f ((254,.val (iv dr))::e),pg⟩):=by have E:ev (GT d) kT U (.cmp (xK 254 10 2) [.Eq] _) ⟨bJ c dp rm ky n mn x f ((254,.val (iv dr))::e),pg⟩=O _:=Ĥ Z;rw[a]at E ⊢;exact⟨_,E⟩
def G0{h:V}{y:ae}{e:cz}(i:ev (GT d) kT J a ⟨bJ c dp rm ky n mn x f e,da ns⟩=O (iv b,⟨bJ c dp rm ky n mn x f e,da ns⟩))(l:ev (GT d) kT J k ⟨bJ c dp rm ky n mn x f e,da ns⟩=O (h,⟨bJ c dp rm ky n mn x f e,da ns⟩))(j:qu .Sub (iv (rm+1)) (iv mn)=O (iv rr))(m:t2 (d+3) 219 [.aG,iv b,.bool J,iv rr,h] (da ns)=O (.str y,da r)):ev (GT d) kT J (x6 a k) ⟨bJ c dp rm ky n mn x f e,da ns⟩=O (.str y,⟨bJ c dp rm ky n mn x f e,da r⟩):=jF Z Z Z Z (zC Z (zC i (zC Z (zC (lu Z Z j) (mQ l))))) m
def ğ:∀{a:X}{t:ae}{b},ev (GT d) kT J a ⟨bJ c dp rm ky n mn x f ((254,.val (iv dr))::(245,.val (iv k))::g),da ns⟩=O (.str t,⟨bJ c dp rm ky n mn x f ((254,.val (iv dr))::(245,.val (iv k))::g),b⟩)->uk a=J->pr (GT d) kT 300 (.cons (q! a) .nil) ⟨bJ c dp rm ky n mn x f ((254,.val (iv dr))::(245,.val (iv k))::g),da ns⟩=O (.next,⟨bJ c dp rm ky n mn t f ((254,.val (iv dr))::(245,.val (iv k))::g),b⟩):=λ{a t b}h a=>cY Z (dI h a)
theorem YX(K:g=[]∨∃a,g=[(257,a)])(R:x.length<=500)(A:c<=4)(Q:dp->c<=2)(P:dp->QX d rr c)(L:qu .Sub (iv (rm+1)) (iv mn)=O (iv rr))(p:dp)(k2:k<2):∃y i o,pr (GT d) kT 300 (.cons (q! (.bin .Add (.aR 236) anX)) (.cons (.ifs (.and (xq [.aR 252,.cmp (xK 254 10 2) [.Eq] (xq [.int 1])])) (.cons (q! (.bin .Add (.bin .Add (.aR 236) (.bin .Mult (.str [32]) (.aR 4))) (x6 (.aR 4) .Hp))) .nil) (.cons (.set [257] (.bin .Add (.bin .Add (.aR 4) (.int 1)) (xK 254 20 2))) (.cons (q! (.bin .Add (.bin .Add (.aR 236) (.bin .Mult (.str [32]) (.aR 257))) (x6 (.aR 257) .pd))) .nil))) .nil)) ⟨bJ c dp rm ky n mn x f ((254,.val (iv dr))::(245,.val (iv (k+2)))::g),da ns⟩=O (.next,⟨bJ c dp rm ky n mn (x++y) f ((254,.val (iv dr))::(245,.val (iv (k+2)))::i),da o⟩)/\(i=[]∨∃a,i=[(257,a)])/\Ma c ky f y:=by
 have S:=P p;have P:=Q p;obtain⟨h,T⟩:=agq (d:=d) (c:=c) (dp:=dp) (rm:=rm) (ky:=ky) (n:=n) (mn:=mn) (x:=x) (f:=f) (dr:=dr) (pg:=da ns) (e:=(245,.val (iv (k+2)))::g);have X:(vp h).length<=4:=by generalize h=u;cases u<;>exact cw Z
 have B:(x++vp h).length<=504:=by rw[aX];exact gY R X
 have s1:pr (GT d) kT 300 (q! (.bin .Add (.aR 236) anX)) ⟨bJ c dp rm ky n mn x f ((254,.val (iv dr))::(245,.val (iv (k+2)))::g),da ns⟩=O (.next,⟨bJ c dp rm ky n mn (x++vp h) f ((254,.val (iv dr))::(245,.val (iv (k+2)))::g),da ns⟩):=dI (s1:=⟨bJ c dp rm ky n mn x f ((254,.val (iv dr))::(245,.val (iv (k+2)))::g),da ns⟩) (d7 (s1:=⟨bJ c dp rm ky n mn x f ((254,.val (iv dr))::(245,.val (iv (k+2)))::g),da ns⟩) Z T (ay B (aO Z))) Z
 have P:∀(w:V){pg:PG},aE ⟨bJ c dp rm ky n mn (x++vp h) f ((254,.val (iv dr))::(245,.val (iv (k+2)))::g),pg⟩ 257 (.val w)=⟨bJ c dp rm ky n mn (x++vp h) f ((254,.val (iv dr))::(245,.val (iv (k+2)))::[(257,.val w)]),pg⟩:=λw{pg}=>K.elim (λp=>by rw[p];rfl) λp=>by obtain⟨a,p⟩:=p;rw[p];rfl
 have Q:∃y i o,pr (GT d) kT 300 (.cons (.set [257] (.bin .Add (.bin .Add (.aR 4) (.int 1)) (xK 254 20 2))) (.cons (q! (.bin .Add (.bin .Add (.aR 236) (.bin .Mult (.str [32]) (.aR 257))) (x6 (.aR 257) .pd))) .nil)) ⟨bJ c dp rm ky n mn (x++vp h) f ((254,.val (iv dr))::(245,.val (iv (k+2)))::g),da ns⟩=O (.next,⟨bJ c dp rm ky n mn (x++y) f ((254,.val (iv dr))::(245,.val (iv (k+2)))::i),da o⟩)/\(i=[]∨∃a,i=[(257,a)])/\Ma c ky f y:=by
  have R:dr/20%2<=1:=sB (eD _ (aO Z));have p:c+1+dr/20%2<=4:=by lia
  have T:c+1+dr/20%2=c+1∨c+1+dr/20%2=c+2:=by lia
  obtain⟨v,y,F,G,j,_⟩:=S (c+1+dr/20%2) .none ns (d9 R (c+1)) (.inl Z);have H:=j.len p;have q:(x++vp h++l6 (c+1+dr/20%2)).length<=508:=by rw[aX,lA];exact gY B p
  refine⟨vp h++(l6 (c+1+dr/20%2)++y),[(257,.val (iv (c+1+dr/20%2)))],F,cY (s1:=⟨bJ c dp rm ky n mn (x++vp h) f ((254,.val (iv dr))::(245,.val (iv (k+2)))::[(257,.val (iv (c+1+dr/20%2)))]),da ns⟩) (cY Z ?_) ?_,.inr ⟨_,Z⟩,.inr (.inr (.inl ⟨h,_,v,y,T,j,Z⟩))⟩
  ·have E:=d7 (G:=GT d) (lv:=kT) (a:=.bin .Add (.aR 236) (.bin .Mult (.str [32]) (.aR 257))) (d7 (a:=.aR 236) (b:=.bin .Mult (.str [32]) (.aR 257)) (s:=⟨bJ c dp rm ky n mn (x++vp h) f ((254,.val (iv dr))::(245,.val (iv (k+2)))::[(257,.val (iv (c+1+dr/20%2)))]),da ns⟩) (s1:=⟨bJ c dp rm ky n mn (x++vp h) f ((254,.val (iv dr))::(245,.val (iv (k+2)))::[(257,.val (iv (c+1+dr/20%2)))]),da ns⟩) Z (lu (v:=.str [32]) (w:=iv (c+1+dr/20%2)) (s1:=⟨bJ c dp rm ky n mn (x++vp h) f ((254,.val (iv dr))::(245,.val (iv (k+2)))::[(257,.val (iv (c+1+dr/20%2)))]),da ns⟩) Z Z (mul_one (ay p (aO Z)))) (ay q (aO Z))) (G0 (a:=.aR 257) (k:=.pd) Z Z L G) (xN q H (aO Z))
   rw[am,am]at E;exact dI E Z
  ·have E:=dI (G:=GT d) (lv:=kT) (n:=300) (x0:=257) (b:=.bin .Add (.bin .Add (.aR 4) (.int 1)) (xK 254 20 2)) (v:=iv (c+1+dr/20%2)) (s:=⟨bJ c dp rm ky n mn (x++vp h) f ((254,.val (iv dr))::(245,.val (iv (k+2)))::g),da ns⟩) (s1:=⟨bJ c dp rm ky n mn (x++vp h) f ((254,.val (iv dr))::(245,.val (iv (k+2)))::g),da ns⟩) Z Z
   rw[P]at E;exact E
 have two:∃y i o,pr (GT d) kT 300 (.ifs (.and (xq [.aR 252,.cmp (xK 254 10 2) [.Eq] (xq [.int 1])])) (.cons (q! (.bin .Add (.bin .Add (.aR 236) (.bin .Mult (.str [32]) (.aR 4))) (x6 (.aR 4) .Hp))) .nil) (.cons (.set [257] (.bin .Add (.bin .Add (.aR 4) (.int 1)) (xK 254 20 2))) (.cons (q! (.bin .Add (.bin .Add (.aR 236) (.bin .Mult (.str [32]) (.aR 257))) (x6 (.aR 257) .pd))) .nil))) ⟨bJ c dp rm ky n mn (x++vp h) f ((254,.val (iv dr))::(245,.val (iv (k+2)))::g),da ns⟩=O (.next,⟨bJ c dp rm ky n mn (x++y) f ((254,.val (iv dr))::(245,.val (iv (k+2)))::i),da o⟩)/\(i=[]∨∃a,i=[(257,a)])/\Ma c ky f y:=by
  obtain⟨y0,g0,r,l,t,m⟩:=Q;cases i:ky with
  |false=> rw[i]at l m;exact⟨y0,g0,r,nG l Z,t,m⟩
  |true=>
   obtain⟨b,M⟩:=agr (d:=d) (c:=c) (dp:=dp) (rm:=rm) (n:=n) (mn:=mn) (x:=x++vp h) (f:=f) (dr:=dr) (pg:=da ns) (e:=(245,.val (iv (k+2)))::g) (ky:=U) Z;rw[i]at l m;cases b with
   |false=>exact⟨y0,g0,r,nG l M,t,m⟩
   |true=>
    obtain⟨v,y,F,G,j,i⟩:=S c (.bool J) ns (fY _ _) (.inr Z);rw[i Z]at j;have H:=j.len A;have q:(x++vp h++l6 c).length<=508:=by rw[aX,lA];exact gY B A
    refine⟨vp h++(l6 c++y),g,F,yy (cY Z ?_) M,K,.inr (.inr (.inr ⟨Z,h,y,j,Z⟩))⟩;have E:=d7 (G:=GT d) (lv:=kT) (a:=.bin .Add (.aR 236) (.bin .Mult (.str [32]) (.aR 4))) (d7 (a:=.aR 236) (b:=.bin .Mult (.str [32]) (.aR 4)) (s:=⟨bJ c dp rm U n mn (x++vp h) f ((254,.val (iv dr))::(245,.val (iv (k+2)))::g),da ns⟩) Z (lu Z Z (mul_one (ay A (aO Z)))) (ay q (aO Z))) (G0 (a:=.aR 4) (k:=.Hp) Z Z L G) (xN q H (aO Z));rw[am,am]at E;exact dI E Z
 obtain⟨y0,g0,r,l,t,m⟩:=two;exact⟨y0,g0,r,cY (cY Z l) s1,t,m⟩
theorem ags(P:k<5)(G:dp=J->k≠2/\k≠3)(m:g=[]∨∃a,g=[(257,a)])(j:x.length<=500)(i:c<=4)(t:dp->c<=2)(A:dp->QX d rr c)(B:qu .Sub (iv (rm+1)) (iv mn)=O (iv rr)):
  ∃y h p,pr (GT d) kT 300 (bT 4) ⟨bJ c dp rm ky n mn x f ((254,.val (iv dr))::(245,.val (iv k))::g),da ns⟩=O (.next,⟨bJ c dp rm ky n mn (x++y) f ((254,.val (iv dr))::(245,.val (iv k))::h),da p⟩)/\(h=[]∨∃a,h=[(257,a)])/\Ma c ky f y/\(dp=J->WH c f y):=by
 have Q:c<=50:=ay i (aO Z);have H:∀{x e},ev (GT d) kT J ľ ⟨bJ c dp rm ky n mn x f e,da ns⟩=O (.str (YT (cy ns) f c),⟨bJ c dp rm ky n mn x f e,da ns.tail⟩):=λ{x e}=>acD i;cases k with
 |zero=>
  have l:(x++[32]).length<=501:=by rw[aX];exact eN j
  refine⟨32::YT (cy ns) f c,g,ns.tail,?_,m,.inl (.inl ⟨_,Z⟩),λ_=>.inl ⟨_,Z⟩⟩;have E:=d7 (G:=GT d) (lv:=kT) (d7 (a:=.aR 236) (b:=.str [32]) (s:=⟨bJ c dp rm ky n mn x f ((254,.val (iv dr))::(245,.val (iv 0))::g),da ns⟩) Z Z (ay l (aO Z))) H (xN l (vq i) (aO Z));rw[am]at E;exact yy (ğ E Z) Z
 |succ k=>cases k with
  |zero=>
   have l:(x++[10]).length<=501:=by rw[aX];exact eN j
   have K:dr/5%2<=1:=sB (eD _ (aO Z));have L:(x++[10]++l6 (c+1+dr/5%2)).length<=507:=by rw[aX,lA];lia
   refine⟨10::(l6 (c+1+dr/5%2)++YT (cy ns) f c),g,ns.tail,?_,m,.inl (.inr (.inl ⟨_,_,K,Z⟩)),λ_=>.inr (.inl ⟨_,_,K,Z⟩)⟩;have E:=d7 (G:=GT d) (lv:=kT) (d7 (d7 (a:=.aR 236) (b:=.str [10]) (s:=⟨bJ c dp rm ky n mn x f ((254,.val (iv dr))::(245,.val (iv 1))::g),da ns⟩) Z Z (ay l (aO Z))) (acE (dr:=dr) Q) (ay L (aO Z))) H (xN L (vq i) (aO Z));rw[am,am]at E;exact nG (cY Z (yy (ğ E Z) Z)) Z
  |succ k=>
   have M:k<2->dp:=λH=>by
    cases dp with
    |true=>rfl
    |false=>exact((by lia:k+2=2∨k+2=3)).elim (λe=>ch e (G Z).1) λe=>ch e (G Z).2
   cases k with
   |zero=>
    have b:=M (aO Z);cases G:ky with
    |false=>
     obtain⟨v,y,G,r,o,_⟩:=A b (c+2) .none ns (aU _) (.inl Z);have H:=o.len (dh (t b) 2);have l:(x++[32]).length<=501:=by rw[aX];exact eN j
     refine⟨32::y,g,G,?_,m,.inr (.inl ⟨Z,v,y,o,Z⟩),λq=>ao (il b q).symm⟩;have E:=d7 (a:=.bin .Add (.aR 236) (.str [32])) (d7 (s:=⟨bJ c dp rm J n mn x f ((254,.val (iv dr))::(245,.val (iv 2))::g),da ns⟩) Z Z (ay l (aO Z))) (G0 (a:=.bin .Add (.aR 4) (.int 2)) (k:=.pd) Z Z B r) (xN l H (aO Z));rw[am]at E;exact nG (cY Z (nG (cY Z (yy (cY Z (dI E Z)) Z)) Z)) Z
    |true=> obtain⟨y,h,p,F,r,o⟩:=YX (k:=0) (ky:=U) m j i t A B b (aO Z);exact⟨y,h,p,nG (cY Z (nG (cY Z (nG (cY Z (yy F Z)) Z)) Z)) Z,r,o,λq=>ao (il b q).symm⟩
   |succ k=>cases k with
    |zero=> have b:=M (aO Z);obtain⟨y,h,p,F,r,o⟩:=YX (k:=0+1) m j i t A B b (aO Z);exact⟨y,h,p,nG (cY Z (nG (cY Z (nG (cY Z (yy F Z)) Z)) Z)) Z,r,o,λq=>ao (il b q).symm⟩
    |succ k=>cases k with
     |succ k=>exact ch P (Op (nN 5 k))
     |zero=>
      have l:(x++[10]).length<=501:=by rw[aX];exact eN j
      refine⟨[10],g,ns,?_,m,.inl (.inr (.inr Z)),λ_=>.inr (.inr Z)⟩;have E:=d7 (G:=GT d) (lv:=kT) (a:=.aR 236) (b:=.str [10]) (s:=⟨bJ c dp rm ky n mn x f ((254,.val (iv dr))::(245,.val (iv 4))::g),da ns⟩) Z Z (ay l (aO Z));exact nG (cY Z (nG (cY Z (nG (cY Z (nG (cY Z (dI E Z)) Z)) Z)) Z)) Z
end
def u?(P:I->ae->Prop)(v:I)(c:W)(x:ae):=∃a,P U a/\(x=kj v++a∨∃b,P J b/\x=kj v++a++(l6 c++(kj v++b)))
def Ľ(c:W)(a:I)(b:W)(d:I)(n e:W):cz:=[(211,.val .aG),(4,.val (iv c)),(255,.val (.bool a)),(251,.val (iv b)),(252,.val (.bool d)),(212,.val (iv n)),(250,.val (iv e)),(236,.val (.str []))]
def stp(d:W):V->gz:=λv s=>pr (GT d) kT 300 oR (aE s 253 (.val v))
def z1(g:cz):=g=[]∨∃a,g=[(257,a)]
def SI(a n:W):W:=br (ac a 2) (1+n/2%2) 1
def S?(a n:W):W:=br (ac a 2) (2-n/2%2) 1
def YY(a:V)(n:W):I:=dP a J (bo:=λb=>b) (no:=a? (((n%2:W):D)=1))
section
variable{d n c rm mn B:W}{dp ky f:I}{s s1 E:St}{x y z:ae}{v A:V}{ns:ae}{e g:cz}{P:I->ae->Prop}
def JA(q:Sh e g)(l:z1 g)(k:x.length<=200)(b:c<=4)(m:dp->c<=2)(o:dp->QX d B c)(p:qu .Sub (iv (rm+1)) (iv mn)=O (iv B)):
  ∃y r t a h,pr (GT d) kT 300 oR ⟨bJ c dp rm ky n mn x f e,da ns⟩=O (.next,⟨bJ c dp rm ky n mn (x++br f [] (l6 c)++kj ky++y) f ((254,r)::(245,t)::a),da h⟩)/\z1 a/\Ma c ky f y/\(dp=J->WH c f y):=by
 have u:(br f [] (l6 c)).length<=4:=by
  induction f with
  |true=>exact eG _
  |false=>show(l6 c).length<=4;rw[lA];exact b
 have i:(x++br f [] (l6 c)++kj ky).length<=206:=by rw[aX,aX];exact gY (gY k u) GZ
 have kf:YU dp (cy ns%5)<5:=by
  have:=eD (cy ns) (show 0<5 by decide);unfold YU
  induction dp with
  |true=>exact this
  |false=>cases ac _ 2 with
   |true=>exact(by decide:0<5)
   |false=>cases ac _ 3 with
    |true=>exact(by decide:1<5)
    |false=>exact this
 have w:dp=J->YU dp _≠2/\YU dp _≠3:=λk=>by
  rw[k];unfold YU;cases j:ac _ 2 with
  |true=>exact(by decide:(0)≠2/\(0)≠3)
  |false=>cases k:ac _ 3 with
   |true=>exact(by decide:(1)≠2/\(1)≠3)
   |false=>exact⟨λ(z:cy ns%5=2)=>(by rw[z]at j;exact nomatch j),λ(z:cy ns%5=3)=>(by rw[z]at k;exact nomatch k)⟩
 obtain⟨y,a,h,j,k,r,t⟩:=ags kf w l (ay i (aO Z)) b m o p;refine⟨y,.val (iv (cy ns)),.val (iv (YU dp (cy ns%5))),a,h,?_,k,r,t⟩;rw[WE];refine cY ?_ (agn (ay b (aO Z)) (ay i (aO Z)));rw[acC q];exact cY (cY Z j) (ago (eD _ (aO Z)))
def QY(a:mn=1∨mn=2)(k:∀{x:ae}{f:I}{e g:cz}{ns:ae},Sh e g->z1 g->x.length<=200->∃y h i b j,pr (GT d) kT 300 oR ⟨bJ c dp rm ky n mn x f e,da ns⟩=O (.next,⟨bJ c dp rm ky n mn (x++br f [] (l6 c)++kj ky++y) f ((254,h)::(245,i)::b),da j⟩)/\z1 b/\P f y/\y.length<=120):
  ∃x f e r,forL (stp d) (dF 1 mn 0) ⟨Ľ c dp rm ky n mn,da ns⟩=O (.next,⟨bJ c dp rm ky n mn x f e,da r⟩)/\u? P ky c x:=by
 obtain⟨y,h,i,b,j,l,o,m,p⟩:=k (x:=[]) (f:=U) (ns:=ns) (.inl ⟨Z,Z⟩) (.inl Z) (eG _);refine a.elim (λa=>?_) λa=>?_
 ·subst a
  refine⟨kj ky++y,U,(254,h)::(245,i)::b,j,?_,y,m,.inl Z⟩;show ax (pr _ kT 300 oR ⟨bJ c dp rm ky n 1 [] U [],da ns⟩) (λf s=>turn f s _)=_;rw[l];rfl
 ·subst a
  have a:(kj ky++y).length<=200:=by rw[aX];exact ay (gY GZ p) (aO Z)
  obtain⟨y2,b,p,q,r,t,u,u,w⟩:=k (.inr ⟨h,i,Z⟩) o a;refine⟨kj ky++y++l6 c++kj ky++y2,J,(254,b)::(245,p)::q,r,?_,y,m,.inr ⟨y2,u,?_⟩⟩
  ·show ax (pr _ kT 300 oR ⟨bJ c dp rm ky n 2 [] U [],da ns⟩) (λf s=>turn f s _)=_
   rw[l];show ax (pr _ kT 300 oR ⟨bJ c dp rm ky n 2 (kj ky++y) J _,da j⟩) (λf s=>turn f s _)=_;rw[t];rfl
  ·show kj ky++y++l6 c++kj ky++y2=_
   rw[am (kj ky++y),am _,am (l6 c)]
theorem Ef(j:rm=1∨rm=2)(q:A=.none∨∃b,A=.bool b)(p:∀{x:ae}{f:I}{e g:cz}{k:ae},Sh e g->z1 g->x.length<=200->∃y l b i o,pr (GT d) kT 300 oR ⟨bJ c dp rm (YY A (cy ns)) (cy ns) (SI rm (cy ns)) x f e,da k⟩=O (.next,⟨bJ c dp rm (YY A (cy ns)) (cy ns) (SI rm (cy ns)) (x++br f [] (l6 c)++kj (YY A (cy ns))++y) f ((254,l)::(245,b)::i),da o⟩)/\z1 i/\P f y/\y.length<=120):
  ∃y r,t2 (d+4) 219 [.aG,iv c,.bool dp,iv rm,A] (da ns)=O (.str y,da r)/\u? P (YY A (cy ns)) c y:=by
 have a:SI rm (cy ns)=1∨SI rm (cy ns)=2:=j.elim (λh=>by rw[h];exact .inl Z) λh=>by
  rw[h];show 1+cy ns/2%2=1∨1+cy ns/2%2=2
  lia
 obtain⟨x,f,e,r,t,i⟩:=QY (ns:=ns.tail) a p;refine⟨x,r,?_,i⟩;have s1:pr (GT d) kT 300 (.set [212] y') ⟨[(211,.val .aG),(4,.val (iv c)),(255,.val (.bool dp)),(251,.val (iv rm)),(252,.val A)],da ns⟩=O (.next,⟨[(211,.val .aG),(4,.val (iv c)),(255,.val (.bool dp)),(251,.val (iv rm)),(252,.val A),(212,.val (iv (cy ns)))],da ns.tail⟩):=dI (s1:=⟨[(211,.val .aG),(4,.val (iv c)),(255,.val (.bool dp)),(251,.val (iv rm)),(252,.val A)],da ns.tail⟩) (Jz Z Z Z Z Z (vn (d:=d+1) ns)) Z;have E:pr (GT d) kT 300 (w! 1) ⟨[(211,.val .aG),(4,.val (iv c)),(255,.val (.bool dp)),(251,.val (iv rm)),(252,.val A),(212,.val (iv (cy ns)))],da ns.tail⟩=O (.next,⟨[_,_,_,(251,.val (iv rm)),_,_,(250,.val (iv (SI rm _)))],da ns.tail⟩):=j.elim (λh=>by rw[h];rfl) λh=>by rw[h];rfl
 have s3:pr (GT d) kT 300 (w! 2) ⟨[(211,.val .aG),(4,.val (iv c)),(255,.val (.bool dp)),(251,.val (iv rm)),(252,.val A),(212,.val (iv (cy ns))),(250,.val (iv (SI rm (cy ns))))],da ns.tail⟩=O (.next,⟨[_,_,_,_,(252,.val (.bool (YY A _))),_,_],da ns.tail⟩):=q.elim (λh=>by rw[h];rfl) λh=>by obtain⟨b,h⟩:=h;rw[h];cases b<;>rfl
 have s5:pr (GT d) kT 300 (.x8 [253] (.bF 218 (xq [.aR 250]) [] .nil) oR) ⟨Ľ c dp rm (YY A (cy ns)) (cy ns) (SI rm (cy ns)),da ns.tail⟩=O (.next,⟨bJ c dp rm (YY A (cy ns)) (cy ns) (SI rm (cy ns)) x f e,da r⟩):=by
  have z:=t;revert z;generalize SI rm _=m at a;refine a.elim (λh=>?_) λh=>?_
  ·rw[h];exact id
  ·rw[h];exact id
 show ax (pr (GT d) kT 300 q9 ⟨[_,_,_,_,_],da ns⟩) (λf s=>O (km f,s.pg))=_;rw[WD,cY (cY (cY (cY (cY (Jy Z Z) s5) (Z)) s3) E) s1];rfl
def JB{n:W}(a:rm=1∨rm=2):qu .Sub (iv (rm+1)) (iv (SI rm n))=O (iv (S? rm n)):=by refine a.elim (λh=>by rw[h];rfl) λh=>?_;rw[h];exact q01 (P:=λk=>qu .Sub _ (iv (1+k))=O (iv (2-k))) Z Z
def QZ(h:c<=4)(a:rm=1∨rm=2)(i:A=.none∨∃b,A=.bool b):∃y r,t2 (d+4) 219 [.aG,iv c,.bool J,iv rm,A] (da ns)=O (.str y,da r)/\YW (YY A (cy ns)) c y:=Ef a i λj k l=>by obtain⟨y,m,b,o,p,r,t,i,i⟩:=JA j k l h (λq=>ao q) (λq=>ao q) (JB a);exact⟨y,m,b,o,p,r,t,i Z,ay ((i Z).len h) (aO Z)⟩
theorem agu{n:W}(a:rm=1∨rm=2):S? rm n=1∨S? rm n=2:=a.elim (λh=>by rw[h];exact .inl Z) λh=>by rw[h];show 2-n/2%2=1∨2-n/2%2=2;lia
def WJ(a:c<=2):∃v y r,t2 (d+5) 219 [.aG,iv c,.bool U,iv 2,.none] (da ns)=O (.str y,da r)/\u? (Ma c v) v c y:=by(obtain⟨y,r,h⟩:=Ef (dp:=U) (.inr Z) (.inl Z) λj k l=>by obtain⟨y,m,o,p,b,q,t,i,u⟩:=JA (d:=d+1) j k l (ay a (aO Z)) (λ_=>a) (λ_ j A b j k=>by obtain⟨y,r,l,i2⟩:=QZ (ay j (dh a 2)) (agu (n:=cy ns) (.inr Z)) (k.imp id λh=>⟨_,h⟩);exact⟨_,y,r,l,i2,λh=>by rw[h];rfl⟩) (JB (.inr Z));exact⟨y,m,o,p,b,q,t,i,i.len a⟩);exact⟨_,y,r,h⟩
end
def ļ(f e p z:W):Lf:=br (ac f 2) ⟨2,e,p,0⟩ (br (ac f 8) ⟨8,0,p,z⟩ (br (ac f 9) ⟨9,0,p,0⟩ ⟨f,e,1,0⟩))
def aik(x:(W×W)×W×W×W):I:=cW (uC x.1.2 x.2.1 (l6 (x.1.1+1+x.2.2.1)) x.2.2.2) (rZ x.1.1 (ļ x.1.2 x.2.1 (1+x.2.2.1) x.2.2.2))&&VZ (ļ x.1.2 x.2.1 (1+x.2.2.1) x.2.2.2) Lq
def Y!(v:I)(c:D)(g:W)(l:Lf):gP:=⟨gT c g++rZ c l,EV v [c] g l,QN v [c] g l⟩
def Ĩ:gP:=⟨[10],U!,Ë⟩
def z'(r:D)(S:L7):gP:=⟨x' r S,D1 r S,Lw r S⟩
def Mb(v:I)(c:D)(E:gP):=E=Ĩ∨∃g l,(g=0∨g=1∨g=2)/\l∈Lq/\E=Y! v c g l
def Eg(P:gP->Prop)(E:gP)(a:Y gP):=P E/\(∀E∈a,P E)/\a.length<=1
def PL(v:I)(r:D)(S:L7):=uB v S.w S.an=U/\(ac S.w 3->S.v=J)/\Eg (Mb S.v (o9 r S.w)) S.E S.Es
def Q1(v:I)(r:D)(E:gP):=Mb v r E∨∃S,PL v r S/\E=z' r S
section
variable{c f e n k:W}{b v:I}{x:ae}{l:Lf}{m:Y Lf}{P:gP->Prop}
def Q2:aI aik (Bi (Bi [0,1,2,3,4] [0,1,2,3,4,5,6,7,8,9]) (Bi [0,1,2,3] (Bi [0,1] [0,1])))=U:=by kernel_rfl
def agw(h:n<2):n∈[0,1]:=(by decide:∀n,n<2->n∈[0,1]) n h
def Q3(a:c<=4):∃l,l∈Lq/\YT n b c=rZ c l:=by
 have d:YS (n%10) b<10:=by
  have:=eD n (show 0<10 by decide);unfold YS;cases(ac _ 7&&!b)with
  |true=>exact(by decide:0<10)
  |false=>exact this
 have m2:∀k,n/k%2∈[0,1]:=λk=>agw (eD _ (aO Z));have g:=ai Q2 (eY (eY ((by decide:∀c,c<5->c∈[0,1,2,3,4]) c (Wp a)) ((by decide:∀f,f<10->f∈[0,1,2,3,4,5,6,7,8,9]) _ d)) (eY ((by decide:∀e,e<4->e∈[0,1,2,3]) (n/10%4) (eD _ (aO Z))) (eY (m2 5) (m2 7))));exact ag g λa d=>⟨_,vj d,oJ a⟩
def YZ(a:c<=4)(h:WH c b x):∃E,Mb v c E/\E.x=x:=h.elim (λh=>by
  obtain⟨n,h⟩:=h;obtain⟨l,m,e⟩:=Q3 a;exact⟨Y! v c 0 l,.inr ⟨0,l,.inl Z,m,Z⟩,by rw[h,e];rfl⟩) λh=>h.elim (λh=>by
  obtain⟨n,k,d,h⟩:=h;obtain⟨l,m,e⟩:=Q3 a
  have G:gT c (k+1)=10::l6 (c+1+k):=by rw[fJ,hJ 1];rfl
  refine⟨Y! v c _ l,.inr ⟨k+1,l,.inr ?_,m,Z⟩,?_⟩
  ·induction k with
   |zero=>exact .inl Z
   |succ k _=>exact .inr (by rw[ez.mp (vC d)])
  ·show gT c _++rZ c l=x
   rw[h,e,G];rfl) λh=>⟨Ĩ,.inl Z,h.symm⟩
def Y0{Q:I->ae->Prop}(H:∀f x,Q f x->∃E,P E/\E.x=x)(h:u? Q v c x):∃E a,Eg P E a/\x=dX v c E a:=by refine gq λP g=>?_;obtain⟨a,i,h⟩:=h;obtain⟨E,a,d⟩:=H _ _ i;refine g ?_;refine h.elim (λh=>⟨E,[],⟨a,(λ_ m=>nomatch m),eG _⟩,?_⟩) λh=>?_;show x=sgn v++(E.x++[]);rw[eq,d];exact h;obtain⟨g,g,h⟩:=h;obtain⟨i,j,o⟩:=H _ _ g;refine⟨E,[i],⟨a,λE m=>eC.mp m▸j,aU 1⟩,?_⟩;show x=sgn v++(E.x++(sp c++_));rw[eq,d,o,<-am];exact h
def Q4(d:c<=4)(h:YW v c x):∃E a,Eg (Mb v c) E a/\x=dX v c E a:=Y0 (Q:=WH c) (λ_ _=>YZ d) h
def agx(j:c<=2)(h:Ma c v b x):∃E,Q1 v c E/\E.x=x:=h.elim (λh=>by
  obtain⟨E,p,r⟩:=YZ (ay j (aO Z)) h;exact⟨E,.inl p,r⟩) λh=>h.elim (λh=>by
  obtain⟨o,u,y,i,h⟩:=h;obtain⟨E,a,R,e⟩:=Q4 (dh j 2) i;exact⟨z' c ⟨0,J,u,E,a⟩,.inr ⟨⟨0,J,u,E,a⟩,⟨by rw[o];rfl,(λh=>ao h),R⟩,Z⟩,by rw[h,e];rfl⟩) λh=>h.elim (λh=>by
  obtain⟨d,p,u,y,s,i,h⟩:=h
  have G:∀w:W,w=1∨w=2->p=c+w->∃E,Q1 v c E/\E.x=x:=λw g q=>by
   have r:p<=4:=by rw[q];exact gY (d:=2) j (g.elim (λh=>h▸(aO Z)) λh=>h▸aU 2)
   obtain⟨E,a,R,e⟩:=Q4 r i;rw[q]at R e h;refine g.elim (λg=>?_) λg=>?_
   ·subst g
    exact⟨z' c ⟨1,d,u,E,a⟩,.inr ⟨⟨1,d,u,E,a⟩,⟨Z,(λh=>ao h),R⟩,Z⟩,by rw[h,e];cases d<;>rfl⟩
   ·subst g
    exact⟨z' c ⟨2,d,u,E,a⟩,.inr ⟨⟨2,d,u,E,a⟩,⟨Z,(λh=>ao h),R⟩,Z⟩,by rw[h,e];cases d<;>rfl⟩
  exact s.elim (G 1 (.inl Z)) (G 2 (.inr Z))) λh=>by
  obtain⟨o,d,y,i,h⟩:=h;obtain⟨E,a,R,e⟩:=Q4 (ay j (aO Z)) i;exact⟨z' c ⟨3,d,J,E,a⟩,.inr ⟨⟨3,d,J,E,a⟩,⟨by rw[o];rfl,λ_=>Z,R⟩,Z⟩,by rw[h,e];cases d<;>rfl⟩
def WK(d:c<=2)(h:u? (Ma c v) v c x):∃E a,Eg (Q1 v c) E a/\x=dX v c E a:=Y0 (λ_ _=>agx d) h
end
def Q0{b a:Type}(P:b->a->Prop)(l:Y b):Y a->Prop:=bm (motive:=λ_=>Y a->Prop) (λm=>m=[]) (λa _ c m=>∃b r,m=b::r/\P a b/\c r) l
def TL:af:=[SF [97],SF [98,32,99],SF [100,32,101],YO [102,32,103] 39,YO [104,105] 34,QI [120],QL,Bg .none yes,YO [108,10] 124,YO [109,32,110] 62,SF [106],qg,SF [],m9,D3,EC 111 J,EC 111 U,EC 115 J,EC 115 U,EC 112 J,EC 112 U,i8 yes,i8 iL,iM yes,iM iL,kh]
def gu(i:W):V:=ku i TL iD
def sH(k j:D)(p:aw):aw:=(p.1+k,p.2.1+j,p.2.2)
def P2(k j:D)(e c:V):=∃i a b,e=bB (gu i) a b/\c=bB (gu i) (sH k j a) (sH k j b)
def G3(k j:D):af->af->Prop:=Q0 (P2 k j)
def ED(ev:aw->aw->af):=∀k j p P,G3 k j (ev p P) (ev (sH k j p) (sH k j P))
section
variable{u z:Type}{Q:u->z->Prop}{k j:D}{p q a b a' b' P Pe:aw}{i w g:W}{l t m:af}{e A:V}{s:Y D}{y:Lf}{v an:I}{c r:D}{E:gP}{Es:Y gP}{S:L7}
def G5{y:Y z}(h:Q0 Q x y)(n:Q0 Q f d):Q0 Q (x++f) (y++d):=by revert y;induction x with|nil=>exact λ{y}h=>(h)▸n|cons a x o=> intro y h;obtain⟨b,r,q,f,n⟩:=h;rw[q];exact⟨b,r++d,Z,f,o n⟩
def yz{a b c:D}:(((sH k j p).1+a,(sH k j p).2.1+b,c):aw)=sH k j (p.1+a,p.2.1+b,c):=eq3 (TW _ _ _) (TW _ _ _) Z
def WL(d:a'=sH k j a)(f:b'=sH k j b):P2 k j (bB (gu i) a b) (bB (gu i) a' b'):=⟨i,a,b,Z,by rw[d,f]⟩
def Bn(h:P2 k j e A)(d:G3 k j l t):G3 k j (e::l) (A::t):=⟨_,_,Z,h,d⟩
def Eh:G3 k j [] []:=Z
def Bo(n:jp y.f 12)(d:ac y.f 6=J)(h:ac y.f 7=J):D9 y.f=gu y.f:=by(have m:=(by decide:∀f,f<12->f≠6->f≠7->f∈[0,1,2,3,4,5,8,9,10,11]) y.f (cw n) (λq=>by rw[q]at d;exact ao d.symm) λq=>by rw[q]at h;exact ao h.symm);exact d6 (f:=D9) (g:=gu) Z m
def JC(d:jp y.f 12):ED (λp _=>jf s y p):=λk j p P=>by
 unfold jf;cases f:ac y.f 6 with
 |true=>exact Bn (WL (i:=6) Z yz) Eh
 |false=>cases h:ac y.f 7 with
  |true=>exact Bn (WL (i:=7) Z yz) (Bn (WL (i:=11) yz yz) (Bn (WL (i:=13) yz yz) Eh))
  |false=> rw[Bo d f h];exact Bn (WL Z yz) Eh
def WM(d:jp y.f 12):ED (QN v s g y):=λk j p P=>by have f:=JC (s:=s) d k j (V3 v s g p) P;have q:V3 v s g (sH k j p)=sH k j _:=yz;unfold QN;rw[q];exact f
def WN:ED Ë:=λk j p P=>Bn (WL (i:=12) Z Z) Eh
def agy:G3 k j (Ju v p) (Ju v (sH k j p)):=by induction v with|true=>exact Bn (WL (i:=11) Z yz) Eh|false=>exact Eh
def acG:uU v c E Es (sH k j p) (sH k j Pe)=sH k j (uU v c E Es p Pe):=by unfold uU;have q:qJ v (sH k j p)=sH k j _:=yz;cases Es.isEmpty with|true=>rfl|false=>rw[q];exact yz
def acH(d:ED E.ev)(f:G3 k j l t):G3 k j (Ju v p++(E.ev (qJ v p) P++l)) (Ju v (sH k j p)++(E.ev (qJ v (sH k j p)) (sH k j P)++t)):=by have q:qJ v (sH k j p)=sH k j _:=yz;rw[q];exact G5 agy (G5 (d k j _ P) f)
def agz:∀(Es:Y gP){p:aw},(∀E∈Es,ED E.ev)->G3 k j (Ea v c Es p Pe) (Ea v c Es (sH k j p) (sH k j Pe)):=by intro Es;induction Es with|nil=>exact λ_=>Eh|cons E Es f=> intro p h;have d:=acH (p:=p) (P:=uU v c E Es p Pe) (v:=v) (h E gV) (f (p:=uU v c E Es p Pe) λE m=>h E (.tail _ m));rw[<-acG]at d;exact d
def acI(d:ED E.ev)(f:∀E∈Es,ED E.ev):G3 k j (eJ v c E Es p Pe) (eJ v c E Es (sH k j p) (sH k j Pe)):=agz (E::Es) λE m=>by cases m with|head=>exact d|tail _ m=>exact f E m
def t?(v:I)(w:W)(an:I):W:=br v (br an 18 17) (br (ac w 3) (br an 20 19) (br an 16 15))
def Q5:EC (jH v w) an=gu (t? v w an):=by unfold jH t?;cases v<;>cases an<;>cases ac w 3<;>rfl
def Y1:lW v=gu (br v 14 13):=by cases v<;>rfl
def agA:P2 k j (vm (jH v w) an a q) (vm (jH v w) an (sH k j a) (sH k j q)):=by unfold vm;rw[Q5];refine WL (by cases an<;>rfl) ?_;cases ac _ 112 with|true=>exact yz|false=>rfl
def G6(d:ED E.ev)(f:∀E∈Es,ED E.ev):G3 k j (vm (jH v w) an a q::(eJ v c E Es q Pe++[bB (lW v) Pe Pe])) (vm (jH v w) an (sH k j a) (sH k j q)::(eJ v c E Es (sH k j q) (sH k j Pe)++[bB (lW v) (sH k j Pe) (sH k j Pe)])):=Bn agA (G5 (acI d f) (Bn (by rw[Y1];exact WL Z Z) Eh))
def WO(h:y∈Lq):jp y.f 12:=ai (show aI (λl:Lf=>jp l.f 12) Lq=U by kernel_rfl) h
def JD(h:Mb v c E):ED E.ev:=h.elim (λh=>by rw[h];exact WN) λh=>by obtain⟨g,l,_,m,h⟩:=h;rw[h];exact WM (WO m)
def agB(h:PL v r S):ED (Lw r S):=λk j p P=>by obtain⟨_,_,d,f,_⟩:=h;have h:DZ (sH k j p)=sH k j _:=yz;have n:BH r S (sH k j p)=sH k j _:=yz;unfold Lw;rw[h,n];exact G6 (JD d) λE m=>JD (f E m)
def Q6(h:Q1 v r E):ED E.ev:=h.elim JD λh=>by obtain⟨S,d,f⟩:=h;rw[f];exact agB d
end
def WQ(t:V):ae:=dP t [] (tu:=λl=>lc l [] λs _=>dP s [] (s:=λs=>s))
def Bp(t:V)(l:uF):I:=Mh (cW (WQ t)) l
def ĉ(t:V):W:=br (Bp t [[97,108,105,97,115],[109,97,112]]) 1 (br (Bp t [[114,111,119]]) (dP t 0 (tu:=λl=>lc (l.drop 4) 0 λx _=>dP x 0 (s:=λs=>br (cW s [63]) 0 1))) (br (Bp t [[118,97,108,117,101]]) 2 0))
def dV(t:V):D:=br (Bp t [[114,111,119],[109,97,112]]) 1 (br (Bp t [[114,111,119,32,101,110,100],[109,97,112,32,101,110,100]]) (-1) 0)
def vr(e:V):I:=dP e J (tu:=λl=>lc l J λt r=>lc r J λm _=>dP m J (ls:=λq=>lc q J λa r=>lc r J λb _=>br (ac (ĉ t) 1) U (br (ac (ĉ t) 2) (!kt (qN 30 a) (qN 30 b)) J)))
def dE(e:V):D:=dP e 0 (tu:=λl=>lc l 0 λt _=>dV t)
def LB(d:D)(l:af):N D:=bm (motive:=λ_=>D->N D) O (λe _ a d=>br (a? (d+dE e=0)) C (a (d+dE e))) l d
def vb(l:af):=∀d:D,1<=d->LB d l=O d
def FrE(p:aw)(a:af):=∃i b X,a=bB (gu i) p b::X
def LaE(q:aw)(b:af):=∃i c a d,b=a++[bB (gu i) c q]/\LB 0 a=O d/\d+dV (gu i)=0
def kO(p:aw):D:=p.2.2-p.1
def jO(p:aw):D:=-p.2.1
def mo(p q:aw):aw:=sH (kO p) (jO p) q
def qh(c:ae)(a:af):=∃(p q:aw)(A M B:ae)(b:af),FrE p a/\LaE q a/\c=A++(M++B)/\B≠[]/\p.1=(ak A:W)/\q.1=p.1+(ak M:W)/\G3 (kO p) (jO p) a b/\0<=p.2.2/\eZ (sp p.2.2++M) (bB iD dU dU::bB (i8 iL) (mo p p) (mo p p)::(b++oQ (mo p q)))
def LD(b:ae)(l:af):=bm (motive:=λ_=>Prop) mf (λe l c=>(vr e->∃a B,e::l=a++B/\qh b a)/\c) l
structure Seg(tz:ae)(l:af):Prop where
 nd:∀R,LD tz R->LD tz (l++R)
 ne:vb l
def G7(b:ae):=∃a,b=a++[0]/\gE a/\a.length<=680
section
variable{d d1:D}{l u i:af}{e bg en:V}{t A M B x y:ae}{p q P a:aw}{c:D}{n:W}
def JE(h:LB d l=O d1):LB d (l++u)=LB d1 u:=by revert d;induction l with|nil=>exact λ{d}h=>by rw[show d=d1 from au h];rfl|cons e l b=>intro d h;show br (a? (d+dE e=0)) C (LB (d+dE e) (l++u))=_;have h:br (a? (d+dE e=0)) C (LB (d+dE e) l)=O d1:=h;revert h;cases a? (d+dE e=0)with|true=>exact aa|false=>exact b
def WR(h:vb l)(f:vb u):vb (l++u):=λd b=>(JE (h d b)).trans (f d b)
def JF(h:d+dE e=d1)(b:d1≠0):LB d (e::l)=LB d1 l:=by show br (a? (d+dE e=0)) C (LB (d+dE e) l)=_;rw[h,dQ b];rfl
def Seg.nil:Seg t []:=⟨λ_=>id,λ_ _=>Z⟩
def Seg.app(h:Seg t l)(b:Seg t u):Seg t (l++u):=⟨λR r=>by rw[am];exact h.nd _ (b.nd R r),WR h.ne b.ne⟩
def Seg.one(b:dE e=0)(h:vr e->qh t [e]):Seg t [e]:=⟨λR r=>⟨λk=>⟨[e],R,Z,h k⟩,r⟩,λd h=>JF (by rw[b];exact aA d) λz=>ch (z▸h) (aO Z)⟩
theorem Seg.t!(f:dE bg=1)(h:Seg t i)(g:dE en=-1)(b:vr en=J)(k:vr bg->qh t (bg::(i++[en]))):Seg t (bg::(i++[en])):=by refine⟨λR r=>⟨λz=>⟨bg::(i++[en]),R,Z,k z⟩,?_⟩,λd j=>?_⟩;show LD t ((i++[en])++R);rw[am];exact h.nd _ ⟨λz=>ao (il b z),r⟩;(have d1:d+dE bg=d+1:=by rw[f]);rw[JF d1 (by lia),JE (h.ne (d+1) (by lia)),JF (d1:=d) (by rw[g];lia) (by lia)];rfl
def JG{b:Type}{f:b->I}{x y:Y b}(h:aI f (x++y)=U):aI f x=U/\aI f y=U:=by induction x with|nil=>exact⟨Z,h⟩|cons a x g=>exact cp h λb h=>⟨dM b|>.trans (g h).1,(g h).2⟩
def sf:gE (sp c):=by unfold sp;induction c.toNat with|zero=>rfl|succ n b=>exact b
theorem G8(G:G7 t)(f:t=A++(M++B))(b:B≠[])(g:c<=10):gE (sp c++M)/\(sp c++M).length<=700:=by obtain⟨g,e,g,l⟩:=G;(have E:=by have h:=ah List.dropLast (il e f);rwa [List.dropLast_concat,eh (λz=>b (t1.mp z).2),eh b]at h);rw[E]at g l;have z:=(JG (JG (f:=aq alpha) g).2).1;refine⟨fU sf z,?_⟩;have b:=mO (c:=c);rw[aB]at b;rw[aX,aX]at l;rw[aX];lia
def qM:((ak (x++y):W):D)=(ak x:W)+(ak y:W):=by rw[len_app];exact fO _ _
def acJ:iA (sp c)=0:=by show((mP (sp c)):D)=0;rw[ke];rfl
theorem Bq(h:0<=p.2.2):mo p p=qf dU (sp p.2.2) p.2.2:=by refine eq3 ?_ ?_ Z;show p.1+(p.2.2-p.1)=0+((ak (sp p.2.2)));rw[mO];lia;show p.2.1+-p.2.1=0+iA (sp p.2.2);rw[acJ];lia
def ı:Sp:=⟨1,nK U (O 0) [],K2 U (zw 1 0 J 1 U 1),[⟨16,here 0 0 0,here 1 0 1⟩]⟩
def ail:aZ (F! 0 0) J U (nI U) [107,0] U U:=by kernel_rfl
def aim:aZ [ı] U U (nI J) [107,0] U J:=by kernel_rfl
def acK:Go 20 J U (nI U) U ⟨[107,0],0,0,0⟩ (MARK::aM ⟨16,dU,(1,0,1)⟩::yt (1,0,1)):=by have b:=xE;refine ag b λb _=>ag b λb _=>ag b λb _=>ag b λb _=>ag b λb f=>?_;have g:=GY (P:=(1,0,1)) b f Z;have b:iX 3 U U (nI J) J ⟨[107,0],0,0,0⟩ (aM ⟨16,dU,(1,0,1)⟩::yt (1,0,1)):=iX.link (l:=[ı]) Z aim Z (λ_=>Z) g;exact(Go.link (l:=F! 0 0) ail Z (λ_=>Z) b.go).le (aO Z)
abbrev JH:Lf:=⟨11,5,1,0⟩
def eZ.k0:eZ [107] (bB iD dU dU::bB (i8 iL) dU dU::(jf [] JH dU++oQ (kA [] JH dU)))where
 good:=Z
 len:=(aO Z)
 tl:=(aO Z)
 go:=⟨_,_,(aO Z),acK,Jv (Bm (mk:=U) (l:=JH) (q:=dU) Z (Ec (th:=r9) (mk:=J)))⟩
def dE0:aI (λf=>a? (dV (gu f)=0)) [0,1,2,3,4,5,6,8,9,10,11,12]=U:=by kernel_rfl
def Q7(h:f∈[0,1,2,3,4,5,6,8,9,10,11,12]):dV (gu f)=0:=aO (ai dE0 h)
def WS{s:Y D}{l:Lf}(g:jp l.f 12):FrE p (jf s l p)/\LaE (kA s l p) (jf s l p):=by
 unfold jf kA;cases h:ac l.f 6 with
 |true=>exact⟨⟨6,_,[],Z⟩,6,_,[],0,Z,Z,Z⟩
 |false=>cases b:ac l.f 7 with
  |true=>exact⟨⟨7,_,_,Z⟩,13,_,[_,_],1,Z,Z,Z⟩
  |false=>
   have m:=(by decide:∀f,f<12->f≠7->f∈[0,1,2,3,4,5,6,8,9,10,11,12]) _ (cw g) λz=>by rw[z]at b;exact ao b.symm
   rw[Bo g h b];exact⟨⟨_,_,[],Z⟩,_,_,[],0,Z,Z,by rw[Q7 m];rfl⟩
def WT{s:Y D}{l:Lf}:kA s l (sH k j p)=sH k j (kA s l p):=by
 unfold kA;cases ac l.f 6 with
 |true=>exact yz
 |false=>cases ac l.f 7 with
  |true=>exact yz
  |false=>exact yz
def Y2{l:Lf}(b:l∈yu):jp l.f 12:=ai (show aI (λl:Lf=>jp l.f 12) yu=U by kernel_rfl) b
def JI{l:Lf}(G:G7 t)(b:l∈yu)(k:p.2.2∈([1,2,3,4,5,6,7,8]:Y D)∨(l=JH/\p.2.2=0))(g:t=A++(dv (-1) l++B))(j:B≠[])(m:p.1=(ak A:W))(o:(kA [] l p).1=p.1+(ak (dv (-1) l):W)):qh t (jf [] l p):=by(have f:=k.elim (λh=>(by decide:∀c∈([1,2,3,4,5,6,7,8]:Y D),0<=c/\c<=10) _ h) λh=>by rw[h.2];decide);obtain⟨f1,r⟩:=WS (s:=[]) (p:=p) (Y2 b);refine⟨p,kA [] l p,A,dv (-1) l,B,jf [] l (mo p p),f1,r,g,j,m,o,JC (Y2 b) _ _ p p,f.1,?_⟩;have M:mo p (kA [] l p)=kA [] l (mo p p):=WT.symm;rw[M,Bq f.1];obtain⟨g1,m⟩:=G8 G g j f.2;refine k.elim (λh=>eZ.lf b h Z g1 m) λh=>?_;rw[h.1,h.2];exact eZ.k0
end
def Ei(c:D)(l:Lf):Lf:=br (aq [2,8,9] l.f) ⟨l.f,5,(c+1+l.p).toNat,l.z⟩ ⟨l.f,5,1,0⟩
def ain(c:D)(a b:Mk):I:=a? (a.n=b.n)&&a? (a.m=b.m)&&(a.s==b.s)&&br b.s (a? (a.c-(top []+1)=b.c-(c+1))) (a? (a.c=b.c))
def aio(x:D×Lf):I:=VZ (Ei x.1 x.2) yu&&cW (dv (-1) (Ei x.1 x.2)) (dv x.1 x.2)&&ac (Ei x.1 x.2).f x.2.f&&ain x.1 (dB [] (Ei x.1 x.2)) (dB [x.1] x.2)&&a? (br (ac x.2.f 6) 7 (br (ac x.2.f 7) 3 (dB [x.1] x.2).n)=AY (dv x.1 x.2))
def Ej:Y D:=[0,1,2,3,4]
def H4(a:ae)(v:I)(s:Y D)(E:gP):=∀{e:I}{A y t:ae}{n:W}{d b:D}{p:aw},Nk J s e y n d b t->a=A++(E.x++y)->p.1=(ak A:W)->p.2.2=top s+wX v->Seg a (E.ev p (fh p E.x n d b))
section
variable{F A B y t:ae}{p P:aw}{c d c2:D}{l:Lf}{v e:I}{n g K:W}{s:Y D}{E:gP}{Es:Y gP}
def Q8:aI aio (Bi Ej Lq)=U:=by kernel_rfl
def WU(b:a.f=l.f)(f:dC [] a p=dC s l p):jf [] a p=jf s l p/\kA [] a p=kA s l p:=by unfold jf kA;rw[b,f];exact⟨Z,Z⟩
def acL(b:c∈Ej)(f:l∈Lq):Ei c l∈yu/\dv (-1) (Ei c l)=dv c l/\∀p,(jf [] (Ei c l) p=jf [c] l p/\kA [] (Ei c l) p=kA [c] l p)/\(kA [c] l p).1=p.1+(ak (dv c l):W):=by
 refine ag (ai Q8 (eY b f)) λh a=>ag h λh b=>ag h λh f=>ag h λh i=>ag b λb j=>ag b λb k=>ag b λb m=>?_;refine⟨vj h,oJ i,λp=>⟨WU (aK f) ?_,?_⟩⟩
 ·refine eq3 (ah _ (aO b)) (ah _ (aO m)) ?_
  rw[show(dB [] _).s=(dB [c] l).s from fZ.mp k];revert j;cases(dB [c] l).s with
  |true=>exact λz=>ah (p.2.2+·) (aO z)
  |false=>exact λz=>aO z
 ·have a:=aO a
  unfold kA;revert a;cases ac l.f 6 with
  |true=>exact λa=>ah (p.1+·) a
  |false=>cases ac l.f 7 with
   |true=>exact λa=>ah (p.1+·) a
   |false=>exact λa=>ah (p.1+·) a
def Q9(G:G7 F)(a:p.2.2∈([1,2,3,4,5,6,7,8]:Y D)∨p.2.2=0)(b:F=A++(107::B))(f:B≠[])(h:p.1=(ak A:W)):Seg F [bB qg p (aW p 1 0 (p.2.2+1))]:=.one Z λ_=>JI G (vj Z) (a.imp id λa=>⟨Z,a⟩) b f h Z
def acM(G:G7 F)(k:c∈Ej)(h:l∈Lq)(m:p.2.2∈([1,2,3,4,5,6,7]:Y D))(f:F=A++(dv c l++B))(o:B≠[])(i:p.1=(ak A:W)):Seg F (jf [c] l p):=by
 obtain⟨q,j,b⟩:=acL k h;obtain⟨⟨b,k⟩,r⟩:=b p;obtain⟨m1,m2⟩:=(by decide:∀c∈([1,2,3,4,5,6,7]:Y D),c∈([1,2,3,4,5,6,7,8])/\c+1∈([1,2,3,4,5,6,7,8])) _ m;have a:=JI G q (.inl m1) (by rw[j];exact f) o i (by rw[k,j];exact r);rw[b]at a;revert a;unfold jf;cases u:ac l.f 6 with
 |true=>exact λa=>.one Z λ_=>a
 |false=>cases b:ac l.f 7 with
  |true=>
   have X:dv c l=[91,107,93]:=by unfold dv;rw[aK b];rfl
   rw[X]at f;have j:=Q9 (A:=A++[91]) (p:=aW p 1 0 _) G (.inl m2) (by rw[am];exact f) (bN _ _) (by rw[qM,<-i];rfl);rw[show aW _ 1 0 ((aW p 1 0 _).2.2+1)=aW p 2 0 _ from eq3 (d! Z) (d! Z) (d! Z)]at j;exact λa=>.t! Z j Z Z λ_=>a
  |false=>
   have m:=(by decide:∀f,f<12->f≠7->f∈[0,1,2,3,4,5,6,8,9,10,11,12]) _ (cw (WO h)) λz=>by rw[z]at b;exact ao b.symm
   rw[Bo (WO h) u b];exact λa=>.one (Q7 m) λ_=>a
def Ra(n:W):∀v,dat n v->kt (qN n v) (qN n v):=by(have S:∀x:lm,kt (.str x) _:=λx=>by rw[kt];exact qS _);(have B:∀x:I,kt (.bool x) _:=λx=>by rw[kt];exact qS _);(have a:∀x:D,kt (.int x) (.int x):=λx=>by rw[kt];exact qS _);(have b:kt .none .none=U:=by rw[kt]);induction n with|zero=>exact λv=>Vc (M:=λv=>dat 0 v=U->kt _ _=U) v (i:=λi _=>a i) (s:=λ_ _=>S _) (tu:=λ_=>ao) (ls:=λ_=>ao) (ob:=λ_ _=>ao) (cl:=λ_=>ao) (fn:=λ_=>ao) (bi:=λ_=>ao) (cd:=λ_=>ao) (me:=λ_=>ao) (bu:=λ_ _=>ao) (sy:=λ_=>ao) (ws:=λ_=>ao)|succ n f=>(have L:∀{l:af},aI _ l=U->k5 (l.map _) (l.map _):=λ{l}=>by induction l with|nil=>exact λ_=>by rw[List.map_nil,k5]|cons v l h=>exact λj=>cp j λj k=>by rw[fR,k5,f v j,h k];rfl);exact λv=>Vc (M:=λv=>dat _ v=U->kt _ _=U) v (no:=λ_=>b) (bo:=λb _=>B b) (i:=λi _=>a i) (s:=λ_ _=>S _) (ob:=λ_ _=>ao) (cl:=λ_=>ao) (fn:=λ_=>ao) (bi:=λ_=>ao) (cd:=λ_=>ao) (me:=λ_=>ao) (pa:=ao) (ta:=ao) (bu:=λ_ _=>ao) (sy:=λ_=>ao) (un:=ao) (ws:=λ_=>ao)
def WV:kt (qN 30 (b8 p)) (qN 30 (b8 p)):=Ra 30 _ Z
def agC(a:c∈Ej)(b:g=0∨g=1∨g=2):gC v c g∈([1,2,3,4,5,6,7]:Y D):=by(have A:∀c∈([0,1,2,3,4]:Y D),c+1+1∈([1,2,3,4,5,6,7])/\(c+2+1∈([1,2,3,4,5,6,7])/\(c+1∈([1,2,3,4,5,6,7])/\c+2∈([1,2,3,4,5,6,7]))):=by decide);obtain⟨f,i,d,e⟩:=A c a;refine b.elim (λh=>?_) λh=>h.elim (λh=>?_) λh=>?_;rw[h];cases v;exact f;exact i;rw[h];exact d;rw[h];exact e
def acN(G:G7 F)(a:c∈Ej)(h:Mb v c E)(b:F=A++(E.x++y))(f:y≠[])(i:p.1=(ak A:W)):Seg F (E.ev p P):=h.elim (λh=>by rw[h];refine .one Z λk=>ao (il k ?_).symm;show(!kt _ _)=J;rw[WV];rfl) λh=>by obtain⟨g,l,j,k,h⟩:=h;rw[h]at b ⊢;refine acM (A:=A++gT c g) (B:=jD l++y) G a k (agC a j) ?_ (λz=>f (t1.mp z).2) ?_;rw[am,b];show A++((gT c g++(dv c l++jD l))++y)=_;rw[am,am];rw[qM,<-i];rfl
def Rb(G:G7 F)(h:c∈Ej)(f:p.2.2=c)(a:F=A++(sgn v++B))(b:p.1=(ak A:W)):Seg F (Ju v p):=by induction v with|false=>exact .nil|true=> refine Q9 G ?_ a (bN _ _) b;rw[f];exact(by decide:∀c∈([0,1,2,3,4]:Y D),c∈_∨c=0) c h
def Ek(G:G7 F)(o:c∈Ej)(q:top s=c)(u:c∈s)(k:Nk J s e y n d c2 t):∀(Es:Y gP){E:gP}{A:ae}{p:aw},(H4 F v s E/\gN J v s K E.x E.tk)->(∀E∈Es,H4 F v s E/\gN J v s K E.x E.tk)->F=A++(dX v c E Es++y)->p.1=(ak A:W)->p.2.2=c->Seg F (eJ v c E Es p (fh p (dX v c E Es) n d c2)):=by intro Es;induction Es with|nil=> intro E A p j _ a b f;have a:F=A++(sgn v++(E.x++[])++y):=a;rw[eq,am]at a;refine(Rb G o f a b).app ?_;rw[<-Jk (x2:=dX v c E []) (ah (sgn v++·) (eq _))];refine(j.1 k (by rw[am];exact a) ?_ (V6 f q)).app .nil;rw[qM,<-b];cases v<;>rfl|cons h Es w=>intro E A p j i a b f;(have X:dX v c E (h::Es)++y=sgn v++(E.x++(sp c++(dX v c h Es++y))):=by show(sgn v++(E.x++(sp c++dX v c h Es)))++y=_;rw[am,am,am]);rw[X]at a;have x:Nk J s J (sp c++(dX v c h Es++y)) c.toNat 0 c _:=.sg u (Jl (i _ gV).2 (λE m=>(i E (.tail _ m)).2) k.two);(have r:(qJ v p).1=(ak (A++sgn v)):=by rw[qM,<-b];cases v<;>rfl);refine(Rb G o f a b).app ?_;refine(j.1 x (by rw[am];exact a) r (V6 f q)).app ?_;(have f:(fh (qJ v p) E.x c.toNat 0 c).1=(ak ((A++sgn v)++(E.x++sp c))):=by rw[qM,<-r,len_app,mO];rfl);have b:=w (i _ gV) (λE m=>i E (.tail _ m)) (by rw[am,am,am];exact a) f Z;rw[YK,Jk (x:=E.x++_) Z]at b;exact b
end
section
variable{G A B M x:ae}{p q a P Pe:aw}{b c r:D}{l:Lf}{v tr an:I}{g K H w m:W}{s:Y D}{E:gP}{Es:Y gP}{th:PA}{L:Y Pc}{S:L7}{st:ae}{i:I}
def gN.le{d:I->aw->aw->af}(h:gN tr v s K x d)(q:K<=H):gN tr v s H x d:=⟨λd e A f=>(h.go d e A f).le (d9 q _),h.L1⟩
def Rc(d:s∈jE)(e:top s=c)(h:Mb v c E):gN tr v s 19 E.x E.tk:=h.elim (λh=>by rw[h];exact abT d) λh=>by obtain⟨g,l,f,j,h⟩:=h;rw[h,<-e];exact abS d j f
def G9(e:th=r9∨th=Sz)(h:Mb v c E)(d:∀c∈L,c∈Bh):t6 th L E.tk E.ev:=h.elim (λh=>by rw[h];exact aco d) λh=>by obtain⟨g,l,_,f,h⟩:=h;rw[h];exact acn e (WO f) d
def agD:aI (λv=>aI (λst=>aI (λc=>Wu c Bh) (Jt v J st)) r?) [J,U]=U:=by kernel_rfl
def agE:aI (λc=>Wu c Bh) (Jt J U [179,202])=U:=by kernel_rfl
def Rf(e:Wx v i st):∀c∈Jt v i st,c∈Bh:=λc d=>by induction i with|false=>exact Bj (ai (ai (ai agD (jz v)) e.1) d)|true=> obtain⟨f,h⟩:=e.2 Z;rw[f,h]at d;exact Bj (ai agE d)
def ok0:Wx v J [179]:=⟨.head _,λh=>ao h⟩
def ň(d:[c]∈jE)(h:Mb v c E):t7 tr v c 19 E:=⟨Rc d Z h,λ_ d=>G9 d h (Rf ok0)⟩
def Ň(e:r∈rS)(h:Q1 v r E):t7 J v r 52 E:=h.elim (λh=>have z:=ň (qK e).1 h;⟨z.g.le (aO Z),z.p⟩) λh=>by
 obtain⟨S,⟨d,o,k,n,t⟩,h⟩:=h;have f:=V8 e (GQ d);rw[h];refine⟨(ab1 e d (Rc f.m f.t k) λE m=>Rc f.m f.t (n E m)).le (dh (yH 24 (d9 t 1)) 4),λth f=>acu e d o (λc j=>?_) (λst o=>G9 f k (Rf o)) λE m st o=>G9 f (n E m) (Rf o)⟩
 have u:ac S.w 3->v:=λq=>by rw[aK q]at d;exact d
 induction v with
 |true=>exact⟨eC.mp j▸.tail _ aau,λ_=>eC.mp j▸Z⟩
 |false=>
  refine⟨?_,λq=>ao (u q)⟩;cases j with
  |head=>exact .head _
  |tail _ h=>cases h with
   |head=>exact .tail _ gV
   |tail _ h=>cases h with
    |head=>exact .tail _ aat
    |tail _ h=>exact nomatch h
def Rg:(jf s l p).length<=3:=by
 unfold jf;cases ac l.f 6 with
 |true=>exact cw Z
 |false=>cases ac l.f 7 with
  |true=>exact cw Z
  |false=>exact cw Z
def H0(m:W)(E:gP):=∀p P,(E.ev p P).length<=m
def Ha(h:Mb v c E):H0 3 E:=λp P=>h.elim (λh=>by rw[h];exact cw Z) λh=>by obtain⟨g,l,_,_,h⟩:=h;rw[h];exact Rg
theorem JJ(h:Eg (H0 m) E Es):(eJ v c E Es p P).length<=2*(m+1):=by(obtain⟨d,e,f⟩:=h;have k:∀{p},(Ju v p).length<=1:=λ{p}=>by generalize v=u;cases u<;>exact cw Z);(have o:∀{E p P}{l:af},H0 m E->(Ju v p++(E.ev (qJ v p) P++l)).length<=m+1+l.length:=λ{E p P l}h=>by rw[aX,aX,<-fJ];refine dh ?_ _;rw[hJ m];exact gY k (h _ _));induction Es with|nil=>exact ay (o d) (by show m+1+0<=_;lia)|cons j Es _=>rw[wE (ez.mp (vC f))];exact ay (o d) (by rw[Nat.two_mul];exact d9 (ay (o (e j gV)) (aU _)) _)
def Eg.imp{Q R:gP->Prop}(f:∀{E},Q E->R E)(h:Eg Q E Es):Eg R E Es:=⟨f h.1,λE m=>f (h.2 E m),h.3⟩
def vt(h:Eg (H0 m) E Es)(d:2*(m+1)+2<=100):(e9 v c E Es q Pe an a).length<=100:=by show(eJ v c E Es q Pe++[_]).length+1<=100;rw[aX];exact ay (dh (dh (JJ h) 1) 1) d
def acO(h:PL v r S):∀p P,(Lw r S p P).length<=10:=λp P=>by show(eJ S.v _ S.E S.Es _ P++[_]).length+1<=10;rw[aX];exact dh (dh (JJ (h.3.imp Ha)) 1) 1
def Rh(h:Q1 v r E):H0 10 E:=h.elim (λh p P=>ay (Ha h p P) (aO Z)) λh=>by obtain⟨S,d,e⟩:=h;rw[e];exact acO d
def Ri(z:vb (eJ v c E Es q P))(k:ED E.ev)(n:∀E∈Es,ED E.ev)(e:G=A++(M++B))(f:B≠[])(h:(br an a q).1=(ak A:W))(j:P.1=(br an a q).1+(ak M:W))(o:0<=(br an a q).2.2)(y:dV (gu (t? v w an))=1)
 (t:eZ (sp (br an a q).2.2++M) (bB iD dU dU::bB (i8 iL) (mo (br an a q) (br an a q)) (mo (br an a q) (br an a q))::((vm (jH v w) an (mo (br an a q) a) (mo (br an a q) q)::(eJ v c E Es (mo (br an a q) q) (mo (br an a q) P)++[bB (lW v) (mo (br an a q) P) (mo (br an a q) P)]))++oQ (mo (br an a q) P)))):
  qh G (vm (jH v w) an a q::(eJ v c E Es q P++[bB (lW v) P P])):=by
 have d:∃b,vm (jH v w) an a q=bB _ (br an a q) b:=⟨_,by unfold vm;rw[Q5]⟩;obtain⟨F,d⟩:=d;refine⟨br an a q,P,A,M,B,_,⟨_,_,_,by rw[d]⟩,⟨br v 14 13,P,vm _ an a q::eJ v c E Es q P,1,by rw[Y1];rfl,?_,by generalize v=u;cases u<;>rfl⟩,e,f,h,j,G6 k n,o,t⟩;rw[JF (d1:=1) (by rw[d];exact(iO _).trans y) (aO Z)];exact z 1 (aO Z)
end
section
variable{tz A B M y y1 t x:ae}{p q a Pe:aw}{b c d c2 r:D}{v e tr an:I}{n w K:W}{s:Y D}{E:gP}{Es:Y gP}{S:L7}
def agH(g:r∈rS)(f:Nk J [r] e y n d c2 t):∃y1 B,y=y1++B/\B≠[]/\ak y1=n/\∀b,r<b->Nk U [b] U (y1++[0]) n d c2 [0]:=by cases f with|sg i j=>rw[eC.mp i];refine⟨_,_,Z,j.ne,mO,λb f=>.en ?_⟩;refine xD (M:=λr=>r<b->J0 U [b] r=U) g (λ_=>Z) (λh=>?_) (λh=>?_) f;exact(cF h);exact(cF h)|dt=>exact⟨[],_,Z,bN _ _,Z,λb _=>.en (c2:=0) Z⟩|en h=> have f:=ny h (λh _=>aO h) λ_ h=>ao h;rw[f];exact⟨[],[0],Z,bN _ _,Z,λb _=>.en (c2:=0) Z⟩|re=>exact⟨cg,[0],Z,bN _ _,Z,λb _=>.re⟩
def Î(h:v=U∨ac w 3=J):dV (gu (t? v w an))=1:=by unfold t?;cases v with|true=>cases an<;>rfl|false=> rw[show ac w 3=J from h.elim (λh=>ao h) id];cases an<;>rfl
def Í(G:G7 tz)(g:c∈Ej)(f:top s=c)(h:Mb v c E):H4 tz v s E:=λi f j _=>acN G g h f i.ne j
def Rj(g:r∈rS)(h:w=0∨w=1∨w=2∨w=3):o9 r w∈Ej/\(ac w 3=J->r<o9 r w):=by(have A:∀r∈([0,1,2]),r∈Ej/\(r+1∈Ej/\r+2∈Ej):=by decide);obtain⟨i,j,f⟩:=A r g;refine h.elim (λh=>?_) λh=>h.elim (λh=>?_) λh=>h.elim (λh=>?_) λh=>?_;rw[h];exact⟨f,λ_=>o0 r (aO Z)⟩;rw[h];exact⟨j,λ_=>o0 r (aO Z)⟩;rw[h];exact⟨f,λ_=>o0 r (aO Z)⟩;rw[h];exact⟨i,λz=>ao z.symm⟩
def Y3(G:G7 tz)(g:(0,b)∈GR)(h:[b]∈jE)(u:Nk tr [b] U (y1++[0]) n d c2 [0])(R:Eg (t7 tr v b K) E Es)(i:Eg (λE=>ED E.ev) E Es)(z:1+(K+5)*Es.length+K+10<=240)(F:∀q Pe a,(e9 v b E Es q Pe J a).length<=100)(H:vb (eJ v b E Es q (fh q (dX v b E Es) n d c2)))(l:ac w 3=J)(j:tz=A++((dX v b E Es++y1)++B))(k:B≠[])(L:q.1=(ak A:W))(f:q.2.2=b)(P:ak y1=n):
  qh tz (vm (jH v w) J a q::(eJ v b E Es q (fh q (dX v b E Es) n d c2)++[bB (lW v) (fh q (dX v b E Es) n d c2) (fh q (dX v b E Es) n d c2)])):=by
 have m:=kg h;have Q:=(by decide:∀x∈GR,x.2<=10) _ g;have T:jH v w=jH v 1:=by unfold jH;rw[l];rfl
 have o:mo q q=iZ 0 b:=by rw[Bq (by rw[f];exact m),f];rfl
 have V:mo q (fh q (dX v b E Es) n d c2)=fh (iZ 0 b) (dX v b E Es) n d c2:=by rw[<-o];exact yz.symm
 obtain⟨g1,X⟩:=G8 G j k Q
 have G:=eZ.en g h u (by rw[am,am];rfl) g1 X R.1 R.2 z Z (F _ _ _)
 refine Ri H i.1 i.2 j k L ?_ (by show 0<=q.2.2;rw[f];exact m) (Î (.inr l)) ?_
 ·show q.1+_=q.1+_
  rw[len_app,P]
 ·show eZ (sp q.2.2++_) (_::bB _ (mo q q) (mo q q)::((vm _ J _ (mo q q)::(eJ v b E Es (mo q q) (mo q _)++[bB _ (mo q _) (mo q _)]))++oQ (mo q _)))
  rw[V,o,f,T];exact G
def agI(G:G7 tz)(g:a.2.2∈([1,2,3,4,5,6,7,8]:Y D))(m:b∈([1,2,3,4]:Y D))(o:[b]∈jE)(u:Nk tr [b] U (y1++[0]) n d c2 [0])(R:Eg (t7 tr v b K) E Es)(h:Eg (λE=>ED E.ev) E Es)(z:1+(K+5)*(1+Es.length)+5<=240)(F:∀q Pe a,(e9 v b E Es q Pe U a).length<=100)(H:vb (eJ v b E Es q (fh q (dX v b E Es) n d c2)))(k:ac w 3=J)(i:tz=A++(([38,122,10]++(sp b++(dX v b E Es++y1)))++B))(j:B≠[])(L:a.1=(ak A:W))(l:q=qf a ([38,122,10]++sp b) b)(P:ak y1=n):
  qh tz (vm (jH v w) U a q::(eJ v b E Es q (fh q (dX v b E Es) n d c2)++[bB (lW v) (fh q (dX v b E Es) n d c2) (fh q (dX v b E Es) n d c2)])):=by
 have f:=(by decide:∀c∈([1,2,3,4,5,6,7,8]:Y D),0<=c/\c<=10) _ g;have Q:jH v w=jH v 1:=by unfold jH;rw[k];rfl
 have T:=Bq f.1;have V:mo a q=qf (mo a a) ([38,122,10]++sp b) b:=by rw[l];exact yz.symm
 have X:mo a (fh q (dX v b E Es) n d c2)=fh _ _ n d c2:=yz.symm;obtain⟨g1,g2⟩:=G8 G i j f.2
 have G:=eZ.anc g m o u (by rw[am,am,am,am]) g1 g2 R.1 R.2 z T V Z (F _ _ _)
 refine Ri H h.1 h.2 i j L ?_ f.1 (Î (.inr k)) ?_
 ·rw[l]
  show a.1+_+_=a.1+_;rw[<-am,len_app (x:=[38,122,10]++sp b),len_app (x:=dX v b E Es),P,ej,fO (ak ([38,122,10]++sp b))]
 ·show eZ _ (_::bB _ _ _::((vm _ U _ _::(eJ v b E Es _ (mo a _)++[bB _ (mo a _) (mo a _)]))++oQ (mo a _)))
  rw[X,Q];exact G
theorem aip(G:G7 tz)(j:r∈rS)(h:PL v r S):H4 tz v [r] (z' r S):=λ{e A y t n d c2 p}L g P hp=>by obtain⟨w,an,f,E,Es⟩:=S;obtain⟨m,o,R⟩:=h;have o:ac w 3->f=J:=o;have Q:=GQ m;have i:=V8 j Q;obtain⟨l,k⟩:=Rj j Q;(have N1:Nk J (GP r w) e y n d c2 t:=L.sub λc h=>by rw[eC.mp h];unfold GP;cases ac w 3 with|true=>exact .head _|false=>exact .tail _ gV);(have bs:o9 r w∈GP r w:=by unfold GP;cases q:ac w 3 with|true=>rw[aK q];exact .head _|false=>exact .head _);(have PE:fh (BH r ⟨w,an,f,E,Es⟩ p) (dX f (o9 r w) E Es) n d c2=fh p (x' r ⟨w,an,f,E,Es⟩) n d c2:=Jj;have g:=g.trans (ah (A++·) (am _ _ _));have T:(BH r ⟨w,an,f,E,Es⟩ p).1=(ak (A++Qs r w an)):=by rw[qM,<-P];rfl);have RS:=Ek G l i.t bs N1 Es ⟨Í G l i.t R.1,Rc i.m i.t R.1⟩ (λE Q=>⟨Í G l i.t (R.2 E Q),Rc i.m i.t (R.2 E Q)⟩) (by rw[am];exact g) T Z;show Seg tz (vm (jH f w) an (DZ p) (BH r ⟨w,an,f,E,Es⟩ p)::(eJ f (o9 r w) E Es (BH r ⟨w,an,f,E,Es⟩ p) (fh p (x' r ⟨w,an,f,E,Es⟩) n d c2)++[bB (lW f) (fh p (x' r ⟨w,an,f,E,Es⟩) n d c2) (fh p (x' r ⟨w,an,f,E,Es⟩) n d c2)]));rw[<-PE];have BG:∀{a q},∃x,vm (jH f w) an a q=bB (gu (t? f w an)) (br an a q) x:=λ{a q}=>⟨_,by unfold vm;rw[Q5]⟩;refine .t! ?_ RS (by generalize f=u;cases u<;>rfl) (by generalize f=u;cases u<;>rfl) λV=>?_;(obtain⟨x,h⟩:=BG;rw[h];generalize f=u;cases u with|true=>exact Î (.inl Z)|false=>unfold t?;cases an<;>cases ac w 3<;>rfl);(have z:ac w 3=J:=by cases q:ac w 3 with|false=>rfl|true=> rw[o q,aK q]at V;cases an<;>exact ao V);have k:=k z;obtain⟨y1,i,i,X,hn,NC⟩:=agH j L;have F:=(by decide:∀b∈([0,1,2,3,4]:Y D),0<b->b∈([1,2,3,4])) _ l (FS (kg (qK j).1) k);have H:=(by decide:∀b∈_,[b]∈jE) _ F;have RR:=R.imp (R:=t7 U f _ 19) λh=>ň H h;have RM:=R.imp λh=>JD h;have RL:=R.imp Ha;have h:_*Es.length<=24:=yH 24 R.3;rw[i]at g;cases an with|false=> exact Y3 G ((by decide:∀b∈_,(0,b)∈GR) _ F) H (NC _ k) RR RM (by lia) (λ_ _ _=>vt RL (aO Z)) RS.ne z (by rw[am,am];exact g) X T Z hn|true=>(have w0:ac w 0=J:=by cases q:ac w 0 with|false=>rfl|true=> rw[aK q]at m;cases v<;>exact ao m);(have h:Qs r w U=[32]++([38,122,10]++sp (o9 r w)):=by unfold Qs;rw[w0];rfl);rw[h]at g;(have i:BH r ⟨w,U,f,E,Es⟩ p=qf (DZ p) ([38,122,10]++sp (o9 r w)) (o9 r w):=by show qf p _ _=_;rw[h];refine eq3 ?_ ?_ Z;show _=p.1+_+_;rw[d! (fO _ _).symm,len_app];show p.2.1+_=p.2.1+0+_;rw[aA];rfl);(refine agI (A:=A++[32]) G ?_ F H (NC _ k) RR RM (by lia) (λ_ _ _=>vt RL (aO Z)) RS.ne z (by rw[g];simp only[am]) X (by rw[qM,<-P];rfl) i hn;show p.2.2+1∈_;rw[hp];have a':∀r∈([0,1,2]:Y D),r+1+1∈([1,2,3,4,5,6,7,8])/\r+2+1∈([1,2,3,4,5,6,7,8]):=by decide);generalize v=u;cases u with|false=>exact(a' r j).1|true=>exact(a' r j).2
def ņ(G:G7 tz)(f:r∈rS)(h:Q1 v r E):H4 tz v [r] E:=h.elim (λh=>Í G ((by decide:∀r∈_,r∈Ej) r f) Z h) λh=>by obtain⟨S,g,i⟩:=h;rw[i];exact aip G f g
end
structure Txt(tx:ae)(w:af):Prop where
 whole:eZ tx w
 nds:LD (tx++[0]) w
 Y':∀e∈w,∃i a b,e=bB (gu i) a b
 ex:∃A e B,w=A++e::B/\vr e=U
section
variable{A B y1 tx x:ae}{q P:aw}{c d c2 r k j:D}{v:I}{n hd tl w g:W}{E:gP}{Es:Y gP}{S:L7}{l l':af}
def agK(h:G3 k j l l'):∀e∈l,∃i a b,e=bB (gu i) a b:=by revert l';induction l with|nil=>exact λ_ e m=>nomatch m|cons a l f=>intro l' h e m;obtain⟨_,_,_,⟨i,x,y,o,_⟩,p⟩:=h;cases m with|head=>exact⟨i,x,y,o⟩|tail _ m=>exact f p e m
def acR:aI (λx:(D×W)×Lf=>gE (gT x.1.1 x.1.2++rZ x.1.1 x.2)) (Bi (Bi Ej [0,1,2]) Lq)=U:=by kernel_rfl
def JK(a:c∈Ej)(h:Mb v c E):gE E.x:=h.elim (λh=>by rw[h];rfl) λh=>by obtain⟨g,l,b,e,h⟩:=h;rw[h];exact ai acR (eY (eY a (b.elim (λh=>h▸.head _) λh=>h.elim (λh=>h▸.tail _ gV) λh=>h▸.tail _ aat)) e)
def JL(h:Eg (λE=>gE E.x=U) E Es):gE (dX v c E Es):=by(have a:gE (sgn v):=by generalize v=u;cases u<;>rfl);(have T:∀Es:Y gP,(∀E∈Es,gE E.x=U)->gE (Qn v c Es):=λEs=>by induction Es with|nil=>exact λ_=>Z|cons E Es b=>exact λh=>fU sf (fU a (fU (h E gV) (b λE m=>h E (.tail _ m)))));exact fU a (fU h.1 (T Es h.2))
def WW(a:r∈rS)(h:Q1 v r E):gE E.x:=h.elim (JK ((by decide:∀r∈_,r∈Ej) r a)) λh=>by
 obtain⟨S,⟨b,_,R⟩,h⟩:=h;rw[h];refine fU ?_ (JL (R.imp (JK (Rj a (GQ b)).1)));unfold Qs;cases ac S.w 0 with
 |true=>rfl
 |false=>cases S.an with
  |true=>exact fU Z sf
  |false=>exact fU (l:=([10])) Z sf
theorem Rk(G:G7 b)(a:c∈rS)(R:Eg (Q1 v c) E Es){m:I}{y t:ae}(o:Nk J [c] m (y1++y) n d c2 t)(s:y≠[])(p:Nk J [c] U (y1++[0]) n d c2 [0])(z:ak y1=n)(i:q.2.2=c)(h:q.1=(ak A:W))(f:b=A++(dX v c E Es++(y1++y))):Seg b (e9 v c E Es q (fh q (dX v c E Es) n d c2) J q):=by obtain⟨b,F,H⟩:=(by decide:∀r∈_,r∈Ej/\((0,r)∈GR/\[r]∈jE)) c a;have e:=R.imp (Ň a);have S:=Ek G b Z gV o Es ⟨ņ G a R.1,e.1.g⟩ (λE m=>⟨ņ G a (R.2 E m),(e.2 E m).g⟩) f h i;have a:=yH 57 R.3;exact .t! (by generalize v=u;cases u<;>rfl) S (by generalize v=u;cases u<;>rfl) (by generalize v=u;cases u<;>rfl) λ_=>Y3 G F H p e (R.imp Q6) (by lia) (λ_ _ _=>vt (R.imp Rh) (aO Z)) S.ne Z (by rw[am];exact f) s h i z
def Rl(G:G7 f)(h:c∈rS)(R:Eg (Q1 v c) E Es){e:I}{y t:ae}(o:Nk J [c] e (y1++y) n d c2 t)(p:y≠[])(s:Nk J [c] U (y1++[0]) n d c2 [0])(z:ak y1=n)(F:f=jZ hd++(sp c++(dX v c E Es++(y1++y))))(H:P=fh (iZ hd c) (dX v c E Es) n d c2){a b a' b':aw}:
  LD f (bB iD dU dU::yw hd (iZ hd c)::(e9 v c E Es (iZ hd c) P J (iZ hd c)++[bB (iM (br (ac w 0) iL yes)) a b,bB kh a' b']))/\(∀e∈(bB iD dU dU::yw hd (iZ hd c)::(e9 v c E Es (iZ hd c) P J (iZ hd c)++[bB (iM (br (ac w 0) iL yes)) a b,bB kh a' b'])),∃i a b,e=bB (gu i) a b)/\∃A e B,(bB iD dU dU::yw hd (iZ hd c)::(e9 v c E Es (iZ hd c) P J (iZ hd c)++[bB (iM (br (ac w 0) iL yes)) a b,bB kh a' b']))=A++e::B/\vr e:=by
 have S:=Rk (q:=iZ hd c) G h R o p s z Z (iO _) (by rw[am];exact F);rw[H]
 have K:∃i a b,yw hd (iZ hd c)=bB (gu i) a b/\vr (yw hd (iZ hd c))=J:=by
  unfold yw;cases aq [1,3] hd with
  |true=>exact⟨21,_,_,Z,Z⟩
  |false=>exact⟨22,_,_,Z,Z⟩
 obtain⟨i,L,M,Q,T⟩:=K
 have V:∃i,iM (br (ac w 0) iL yes)=gu i/\∀a b,vr (bB (iM (br (ac w 0) iL yes)) a b)=J:=by
  cases ac w 0 with
  |true=>exact⟨24,Z,λ_ _=>Z⟩
  |false=>exact⟨23,Z,λ_ _=>Z⟩
 obtain⟨i2,X,f⟩:=V;refine⟨⟨λh=>ao h,λh=>ao (il T h),S.nd _ ⟨λh=>ao (il (f a b) h),(λh=>ao h),trivial⟩⟩,λe m=>?_,[_,_],_,_,Z,by generalize v=u;cases u<;>rfl⟩;cases m with
 |head=>exact⟨26,_,_,Z⟩
 |tail _ m=>cases m with
  |head=>exact⟨i,L,M,Q⟩
  |tail _ m=>
   refine(gU.mp m).elim (agK (G6 (k:=0) (j:=0) (Q6 R.1) λE m=>Q6 (R.2 E m)) e) λm=>?_;cases m with
   |head=>exact⟨i2,a,b,by rw[X]⟩
   |tail _ m=>exact⟨25,_,_,eC.mp m⟩
theorem acS(i:hd<4)(b:c∈rS)(m:tl<3)(R:Eg (Q1 v c) E Es)(h:(dX v c E Es).length<=300):∃w,Txt (jZ hd++sp c++dX v c E Es++zx tl) w:=by
 have s:=(by decide:∀r∈([0,1,2]),∀h,h<4->(h,r)∈GR) c b hd i;have t:=(qK b).1;have o:gE (jZ hd++sp c++dX v c E Es++zx tl):=fU (fU (fU ((by decide:∀h,h<4->gE (jZ h)=U) hd i) sf) (JL (R.imp (WW b)))) ((by decide:∀h,h<3->gE (zx h)=U) tl m);have z:=mO (c:=c);rw[aB]at z;have z:=(by decide:∀h,h<4->(jZ h).length<=20) hd i;have i:=(by decide:∀h,h<3->(zx h).length<=20) tl m;have l3:=(by decide:∀r∈([0,1,2]:Y D),r.toNat<=2) c b
 have h:(jZ hd++sp c++dX v c E Es++zx tl).length<=680:=by
  rw[aX,aX,aX]
  lia
 have G:G7 ((jZ hd++sp c++dX v c E Es++zx tl)++[0]):=⟨_,Z,o,h⟩
 have tx:(jZ hd++sp c++dX v c E Es++zx tl)++[0]=jZ hd++(sp c++(dX v c E Es++(zx tl++[0]))):=by rw[am,am,am]
 have f:=R.imp (Ň b);have i:=yH 57 R.3;have L:∀{q i a},(e9 v c E Es q i J a).length<=100:=vt (R.imp Rh) (aO Z);have u:=ay h (show 680<=700 by decide);have y:Nk J [c] U ([]++[0]) 0 0 0 [0]:=.en (c2:=0) Z
 have p:∀{y1 n d c2},zx tl=y1->Nk J [c] U (y1++[0]) n d c2 [0]->ak y1=n->∃w,Txt (jZ hd++sp c++dX v c E Es++zx tl) w:=λ{y1 n d c2}i h z=>by have e:=Rl (w:=0) G b R h (bN _ _) h z (by rw[tx,i]) Z (a:=fh (iZ hd c) (dX v c E Es) n d c2) (b:=fh (iZ hd c) (dX v c E Es) n d c2) (a':=fh (iZ hd c) (dX v c E Es) n d c2) (b':=fh (iZ hd c) (dX v c E Es) n d c2);exact⟨_,eZ.en s t h (by rw[tx,i]) o u f.1 f.2 (by lia) Z L,e.1,e.2,e.3⟩
 cases tl with
 |zero=>exact p Z y Z
 |succ tl=>cases tl with
  |zero=> have e:=Rl (w:=1) G b R .dt (bN _ _) y Z tx Z (a:=fh (iZ hd c) (dX v c E Es) 0 0 0) (b:=aW (fh (iZ hd c) (dX v c E Es) 0 0 0) 3 0 3) (a':=aW (fh (iZ hd c) (dX v c E Es) 0 0 0) 4 1 0) (b':=aW (fh (iZ hd c) (dX v c E Es) 0 0 0) 4 1 0);exact⟨_,eZ.dt s t tx o u f.1 f.2 (by lia) Z L,e.1,e.2,e.3⟩
  |succ tl=> rw[ez.mp (sB (IR (IR m)))]at p ⊢;exact p Z .re Z
theorem JN{c:W}(a:c<=2)(h:u? (Ma c v) v c x):x.length<=300:=by(obtain⟨b,b,h⟩:=h;have e:=b.len a;have b:(kj v).length<=2:=by generalize v=u;cases u<;>exact cw Z);refine h.elim (λh=>?_) λh=>?_;rw[h,aX];lia;obtain⟨b,b,h⟩:=h;have e:=b.len a;rw[h,aX,aX,aX,aX,lA];lia
def acT{c:W}(b:hd<4)(a:c<=2)(e:tl<3)(h:u? (Ma c v) v c x):∃w,Txt (jZ hd++l6 c++x++zx tl) w:=by have l:=JN a h;obtain⟨E,Es,R,f⟩:=WK a h;rw[f]at l ⊢;exact acS b ((by decide:∀c:W,c<3->_∈_) c (Wp a)) e R l
end
def stK(G:cQ)(c:ae)(n k:W):S->St->St->Prop:=ul (motive:=λ_=>S->St->St->Prop) (λ_ s a=>s=a) (λ_ d B s a=>∃b,pr G c n (xJ B).1 s=O (.next,b)/\d (xJ B).2 b a) k
def Br(e:af->aY->PG->dR)(d:W):cQ:={lG d with func:=λf a b c=>br (ac f 262) (e a b c) ((lG d).func f a b c)}
abbrev g7:ae:=yW.lv
def GW(a:af->aY->PG->dR)(d:W):cQ:=X1 (Br a (d+5)) yW.gv [267] [33]
def GX(a:af->aY->PG->dR)(d:W)(z:V):cQ:=Ž (GW a d) (yd (Br a (d+5)).gl [267]) [33] 33 z
def yA:S:=yx 1 Sq
def qQ(h c:W)(a:ae)(w:af)(b:LV)(e:cz):cz:=(211,.val .aG)::(230,.val (iv h))::(4,.val (iv c))::(236,.val (.str a))::(261,.val (.lst w))::(263,b)::e
def ifC(s:S):X:=S.casesOn (motive:=λ_=>X) s .nil (λ_ _=>.nil) (λ_=>.nil) (λ_=>.nil) .nil .nil (λ_ _=>.nil) (λ_ _ _ _ _=>.nil) (λ_ _=>.nil) (λ_ _ _=>.nil) (λ_ _ _=>.nil) (λ_ _=>.nil) (λ_ _ _=>.nil) (λ_ _ _ _=>.nil) (λc _ _=>c) (λ_ _=>.nil) (λ_ _ _=>.nil) (λ_=>.nil) (λ_=>.nil) .nil
structure Rn(rd:af->aY->PG->dR):Prop where
 ok:∀{t:ae}{w:af}{pg:PG},eZ t w->dat 20 (.lst w)->rd [.str t] [] pg=O (.lst w,pg)
section
variable{rd:af->aY->PG->dR}{G:cQ}{lv:ae}{d h c k n f:W}{tx y:ae}{w:af}{e:cz}{s s1 o:St}{B:S}{v:V}{ns:ae}
def iN(a:pr G lv n (xJ B).1 s=O (.next,s1))(b:stK G lv n k (xJ B).2 s1 o):stK G lv n (k+1) B s o:=⟨s1,a,b⟩
def acU:∀{k:W},k<4->iJ (.lst [.str [],.str [45,45,45,10],.str [35,32,114,10],.str [45,45,45,32,35,32,114,10]]) (iv k)=O (.str (jZ k)):=λ{k}h=>by
 iterate 4 (induction k with
  |zero=>rfl
  |succ k _=>?_)
 exact ch h (Op (nN 4 k))
def acV:∀{k:W},k<3->iJ (.lst [.str [],.str [46,46,46,10],.str [35,32,114,10]]) (iv k)=O (.str (zx k)):=λ{k}h=>by
 iterate 3 (induction k with
  |zero=>rfl
  |succ k _=>?_)
 exact ch h (Op (nN 3 k))
def acW:∀{k:W},k<4->(jZ k).length<=20:=λ{k}h=>(by decide:∀h,h<4->(jZ h).length<=20) k h
def acX:∀{k:W},k<3->(zx k).length<=20:=λ{k}h=>(by decide:∀h,h<3->(zx h).length<=20) k h
def WX(l:af)(a:V):∀i:W,ku i l a∈l++[a]:=by induction l with|nil=>exact λ_=>.head _|cons g l b=>intro i;induction i with|zero=>exact .head _|succ i _=>exact .tail _ (b i)
def WY:af:=TL++[iD]
def xO(i:W):gu i∈WY:=WX TL iD i
def WZ:aI (dat 18) WY=U:=by kernel_rfl
def Ro(l:af):(∀e∈l,∃i a b,e=bB (gu i) a b)->aI (dat 19) l=U:=by induction l with|nil=>exact λ_=>Z|cons e l g=> intro h;obtain⟨i,a,b,q⟩:=h e gV;refine(dM ?_).trans (g λe m=>h e (.tail _ m));rw[q];exact(dM (ai WZ (xO i))).trans Z
theorem agL(R:Rn rd)(ns:ae):∃tx w r h c,Txt tx w/\dat 20 (.lst w)/\stK (GW rd d) g7 300 6 yA ⟨[(211,.val .aG)],da ns⟩ ⟨qQ h c tx w (.own []) [],da r⟩:=by refine gq λP i=>?_;have a:cy ns%3<=2:=sB (eD _ (aO Z));have b:cy ns/3%4<4:=eD _ (aO Z);have g:cy ns/7%3<3:=eD _ (aO Z);obtain⟨v,y,r,j,X⟩:=WJ (d:=d) (c:=cy ns%3) (ns:=ns.tail) a;obtain⟨w,T⟩:=acT b a g X;refine i ?_;have i:=acW b;have i:=acX g;have i:=JN a X;have l3:=lA (c:=cy ns%3);have i:=Ro w T.Y';refine⟨_,w,r,cy ns,cy ns%3,T,i,?_⟩;refine iN (s1:=⟨[(211,.val .aG),(230,.val (iv (cy ns)))],da ns.tail⟩) ?_ (iN (s1:=⟨[(211,.val .aG),(230,.val (iv (cy ns))),(4,.val (iv (cy ns%3)))],da ns.tail⟩) Z (iN (s1:=⟨[(211,.val .aG),(230,.val (iv (cy ns))),(4,.val (iv (cy ns%3))),(236,.val (.str (jZ (cy ns/3%4)++l6 (cy ns%3))))],da ns.tail⟩) ?_ (iN (s1:=⟨[(211,.val .aG),(230,.val (iv (cy ns))),(4,.val (iv (cy ns%3))),(236,.val (.str (jZ (cy ns/3%4)++l6 (cy ns%3)++y++zx (cy ns/7%3))))],da r⟩) ?_ (iN (s1:=⟨[(211,.val .aG),(230,.val (iv (cy ns))),(4,.val (iv (cy ns%3))),(236,.val (.str (jZ (cy ns/3%4)++l6 (cy ns%3)++y++zx (cy ns/7%3)))),(261,.val (.lst w))],da r⟩) ?_ (iN (s1:=⟨qQ (cy ns) (cy ns%3) (jZ (cy ns/3%4)++l6 (cy ns%3)++y++zx (cy ns/7%3)) w (.own []) [],da r⟩) Z Z)))));exact dI (v:=iv (cy ns)) (s1:=⟨[(211,.val .aG)],da ns.tail⟩) (Jz Z Z Z Z Z (vn (d:=d+3) ns)) Z;exact dI (s1:=⟨[(211,.val .aG),(230,.val (iv (cy ns))),(4,.val (iv (cy ns%3)))],da ns.tail⟩) (d7 (s1:=⟨[(211,.val .aG),(230,.val (iv (cy ns))),(4,.val (iv (cy ns%3)))],da ns.tail⟩) (jo (w:=iv (cy ns/3%4)) Z Z (acU b) Z) (lu (v:=.str [32]) (w:=iv (cy ns%3)) Z Z (mul_one (ay a (aO Z)))) (by rw[aX];lia)) Z;refine dI (s1:=⟨[(211,.val .aG),(230,.val (iv (cy ns))),(4,.val (iv (cy ns%3))),(236,.val (.str (jZ (cy ns/3%4)++l6 (cy ns%3))))],da r⟩) (d7 (s1:=⟨[(211,.val .aG),(230,.val (iv (cy ns))),(4,.val (iv (cy ns%3))),(236,.val (.str (jZ (cy ns/3%4)++l6 (cy ns%3))))],da r⟩) (d7 (s1:=⟨[(211,.val .aG),(230,.val (iv (cy ns))),(4,.val (iv (cy ns%3))),(236,.val (.str (jZ (cy ns/3%4)++l6 (cy ns%3))))],da ns.tail⟩) Z (jF (s1:=⟨[(211,.val .aG),(230,.val (iv (cy ns))),(4,.val (iv (cy ns%3))),(236,.val (.str (jZ (cy ns/3%4)++l6 (cy ns%3))))],da ns.tail⟩) (vs:=[.aG,iv (cy ns%3),.bool U,iv 2,.none]) Z Z Z Z Z j) ?_) (jo (w:=iv (cy ns/7%3)) Z Z (acV g) Z) ?_) Z;rw[aX,aX];lia;rw[aX,aX,aX];lia;exact dI (v:=.lst w) (s1:=⟨[(211,.val .aG),(230,.val (iv (cy ns))),(4,.val (iv (cy ns%3))),(236,.val (.str (jZ (cy ns/3%4)++l6 (cy ns%3)++y++zx (cy ns/7%3))))],da r⟩) (jF (f:=262) (vs:=[.str (jZ (cy ns/3%4)++l6 (cy ns%3)++y++zx (cy ns/7%3))]) (s1:=⟨[(211,.val .aG),(230,.val (iv (cy ns))),(4,.val (iv (cy ns%3))),(236,.val (.str (jZ (cy ns/3%4)++l6 (cy ns%3)++y++zx (cy ns/7%3))))],da r⟩) Z Z Z Z Z (R.ok T.whole i)) Z
end
def b7:S:=Ï (L9 7 Sq)
def cd7:X:=ifC (L9 1 b7)
def SJ:S:=Ï (L9 12 Sq)
def EE(l:af):W->af:=bm (motive:=λ_=>W->af) (λ_=>[]) (λe _ a i=>br (vr e) (iv i::a (i+1)) (a (i+1))) l
def j'(x y z:V):cz:=[(264,.val x),(258,.val y),(166,.val z)]
def O!(e:cz):=e=[]∨∃x y z,e=j' x y z
section
variable{rd:af->aY->PG->dR}{G:cQ}{lv:ae}{d h c n f i:W}{pg:PG}{tx:ae}{w N A l:af}{nl:LV}{e:cz}{s s1 H:St}{v x y:V}{a b:aw}{ea:X}
def Bs{x:W}(g:aq lv x)(q:G.ro=J)(j:ac 94 G.dT)(k:aj x s.loc=O (.own N))(p:ev G lv J ea s=O (v,s))(o:N.length<=900000):pr G lv n (.expr (.fw (.aR x) 94 (xq [ea]) [] .nil)) s=O (.next,aE s x (.own (N++[v]))):=by
 have m:iQ G lv s (.loc x)=O (.lst N):=by show gd (aq lv x) (bn (aj x s.loc) _)=_;rw[g,k];rfl
 have M:cX G (.lst N) 94 [v]=O (.none,.lst (N++[v])):=by show br (ac 94 G.dT) (gd (bd (ak N) 900000) (O (V.none,Cn.lst (N++[v])))) _=_;rw[j,aB,g8 o];rfl
 refine(ah (λz=>ax z (λ_ s=>nx s)) (ah (λo=>oc (mp o λc=>(Pl.loc x,c)) (λg=>S6 G lv 94 (BC G lv (xq [ea])) J s g) _) m)).trans ?_;show ax (ax (BC G lv (xq [ea]) s) λg j=>gd (calm s j) (bn (iQ G lv j (.loc x)) λc=>ax (cX G c 94 g) λv g=>bn (hM G.ro j (.loc x) g) λs=>fin J v s)) (λ_ s=>nx s)=_;rw[show BC G lv (xq [ea]) s=O ([v],s)from mQ p];show ax (gd (ac s.pg.bD s.pg.bD) (bn (iQ G lv s (.loc x)) λc=>ax (cX G c 94 [v]) λv g=>bn (hM G.ro s (.loc x) g) λs=>fin J v s)) (λ_ s=>nx s)=_;rw[cf,m];show ax (ax (cX G (.lst N) 94 [v]) λv g=>bn (hM G.ro s (.loc x) g) λs=>fin J v s) (λ_ s=>nx s)=_
 have K:hM J s (.loc x) (.lst (N++[v]))=O (aE s x (.own (N++[v]))):=by show bn (aj x s.loc) _=_;rw[k];rfl
 rw[M,q];show ax (bn (hM J s (.loc x) (.lst (N++[v]))) λs=>fin J V.none s) (λ_ s=>nx s)=_;rw[K];rfl
def acY{p q:W}{b:X}(h:ev G lv J b s=O (.tup [x,y],s1)):pr G lv n (.C' [p,q] b) s=O (.next,aE (aE s1 p (.val x)) q (.val y)):=by show ax (ev G lv J b s) (λv s=>bn (uj v) λg=>bn (unpack [p,q] g s) nx)=_;rw[h];rfl
def jG{a b:X}{x:V}(g:gy G lv s (cG a)=C)(j:ev G lv J a s=O (v,s1))(k:ev G lv J b s1=O (x,H))(h:iJ v x=O u):ev G lv J (.sub a b) s=O (u,H):=by show oc (gy G lv s (cG a)) _ (ax (ev G lv J a s) λx s=>ax (ev G lv J b s) λv s=>bn (iJ x v) λw=>fin J w s)=_;rw[g];show ax (ev G lv J a s) (λx s=>ax (ev G lv J b s) λv s=>bn (iJ x v) λw=>fin J w s)=_;exact(jn j).trans ((jn k).trans (QW h))
def acZ{g:Type}{A l:Y g}{e:g}:jj (A++e::l) A.length=O e:=by rw[om,List.getElem?_append_right (aU _),Nat.sub_self];rfl
def item_at{e:V}(g:w=A++e::l):iJ (.lst w) (iv A.length)=O e:=by rw[g];exact acZ
def W0(rd:af->aY->PG->dR)(d h c:W)(tx:ae)(w N:af)(i:W)(a b:aw)(pg:PG):WY.map (λt=>ev (GW rd d) g7 U cd7 ⟨qQ h c tx w (.own N) (j' (iv i) t (.lst [b8 a,b8 b])),pg⟩)=WY.map λt=>O (.bool (vr (bB t a b)),⟨qQ h c tx w (.own N) (j' (iv i) t (.lst [b8 a,b8 b])),pg⟩):=by kernel_rfl
def put3(g:O! e):aE (aE (aE ⟨qQ h c tx w nl e,pg⟩ 264 (.val v)) 258 (.val x)) 166 (.val y)=⟨qQ h c tx w nl (j' v x y),pg⟩:=g.elim (λh=>by rw[h];rfl) λh=>by obtain⟨_,_,_,h⟩:=h;rw[h];rfl
def agM(j:w=A++bB (gu i) a b::l)(k:O! e)(m:N.length<=1000):pr (GW rd d) g7 300 b7 (aE ⟨qQ h c tx w (.own N) e,pg⟩ 264 (.val (iv A.length)))=O (.next,⟨qQ h c tx w (.own (br (vr (bB (gu i) a b)) (N++[iv A.length]) N)) (j' (iv A.length) (gu i) (.lst [b8 a,b8 b])),pg⟩):=by
 have u:ev (GW rd d) g7 J (.sub (.aR 261) (.aR 264)) (aE ⟨qQ h c tx w (.own N) e,pg⟩ 264 (.val (iv A.length)))=O (bB (gu i) a b,aE ⟨qQ h c tx w (.own N) e,pg⟩ 264 (.val (iv A.length))):=k.elim (λh=>by rw[h];exact jG Z Z Z (item_at j)) λh=>by obtain⟨_,_,_,h⟩:=h;rw[h];exact jG Z Z Z (item_at j)
 have j:=acY (G:=GW rd d) (lv:=g7) (n:=300) (p:=258) (q:=166) u;rw[put3 k]at j;refine cY ?_ j;have g:=d6 (W0 rd d h c tx w N A.length a b pg) (xO i);cases q:vr (bB (gu i) a b)with
 |true=> rw[q]at g;exact cY Z (yy (cY Z (Bs Z Z Z Z Z (ay m (aO Z)))) g)
 |false=> rw[q]at g;exact cY Z (nG Z g)
def agN:∀(l A N:af)(e:cz),w=A++l->(∀e∈l,∃i a b,e=bB (gu i) a b)->O! e->N.length+l.length<=1000->∃g,O! g/\(l≠[]->g≠[])/\forL (λv s=>pr (GW rd d) g7 300 b7 (aE s 264 (.val v))) (dF 1 l.length A.length) ⟨qQ h c tx w (.own N) e,pg⟩=O (.next,⟨qQ h c tx w (.own (N++EE l A.length)) g,pg⟩):=by
 intro l
 induction l with
 |nil=> intro A N e _ _ j _;exact⟨e,j,λz=>ch Z z,by rw[show EE [] A.length=[]from Z,eq];rfl⟩
 |cons x l r=>
  intro A N e k o j p;obtain⟨i,a,b,q⟩:=o x gV;rw[q]at k ⊢;have t:=jI N.length l.length 1▸p;have S:=agM (rd:=rd) (d:=d) (h:=h) (c:=c) (tx:=tx) (pg:=pg) k j (ay (fY _ _) p)
  obtain⟨g,u,E,m⟩:=r (A++[bB (gu i) a b]) (br (vr (bB (gu i) a b)) (N++[iv A.length]) N) (j' (iv A.length) (gu i) (.lst [b8 a,b8 b])) (by rw[am];exact k) (λe j=>o e (.tail _ j)) (.inr ⟨_,_,_,Z⟩) (by
   refine ay (dh ?_ _) t;cases vr (bB (gu i) a b)with
   |true=>show(N++[_]).length<=_;rw[aX];exact aU _
   |false=>exact iF _)
  rw[aX]at m;refine⟨g,u,λ_ z=>?_,?_⟩
  ·induction l with
   |nil=> have j:=m;rw[z]at j;have k:=ah (λo:qY=>oc o (λr=>r.2.loc.length) 0) j;exact ch k (by decide:(9)≠6)
   |cons y l _=>exact E (bN _ _) z
  ·show ax (pr (GW rd d) g7 300 b7 (aE ⟨qQ h c tx w (.own N) e,pg⟩ 264 (.val (iv A.length)))) (λf s=>turn f s (forL (λv s=>pr (GW rd d) g7 300 b7 (aE s 264 (.val v))) (dF 1 l.length (A.length+1))))=_
   rw[S];refine m.trans ?_
   have F:∀B,br B (N++[iv A.length]) N++EE l (A.length+1)=N++br B (iv A.length::EE l (A.length+1)) (EE l (A.length+1)):=λB=>by
    induction B with
    |true=>exact am _ _ _
    |false=>rfl
   show O (Fl.next,(⟨qQ h c tx w (.own (br (vr (bB (gu i) a b)) (N++[iv A.length]) N++EE l (A.length+1))) g,pg⟩:St))=_;rw[F];rfl
def ac0:∀(l:af)(i:W),z∈EE l i->∃A e B,l=A++e::B/\z=iv (i+A.length)/\vr e:=by intro l;induction l with|nil=>exact λi m=>nomatch m|cons x l g=>intro i m;have m:z∈br (vr x) (iv i::EE l (i+1)) (EE l (i+1)):=m;(have T:z∈EE l (i+1)->∃A e B,x::l=A++e::B/\z=iv (i+A.length)/\vr e:=λm=>by obtain⟨A,e,B,j,k,o⟩:=g (i+1) m;exact⟨x::A,e,B,by rw[j];rfl,by rw[k,fJ,hJ 1];rfl,o⟩);cases q:vr x with|true=>(rw[q]at m;cases m with|head=>exact⟨[],x,l,Z,Z,q⟩|tail _ m=>exact T m)|false=>rw[q]at m;exact T m
def ac1{e:V}(h:vr e):∀(A:af)(i:W),EE (A++e::B) i≠[]:=by intro A;induction A with|nil=> intro i;show br (vr e) (iv i::EE B (i+1)) _≠[];rw[h];exact bN _ _|cons x A g=>intro i;show br (vr x) (iv i::EE (A++e::B) (i+1)) (EE (A++e::B) (i+1))≠[];cases vr x with|true=>exact bN _ _|false=>exact g _
end
def qi(h c:W)(a:ae)(w:af)(b:LV)(x y z:V)(f d:W)(e:D)(g:cz):cz:=qQ h c a w b ((264,.val x)::(258,.val y)::(166,.val z)::(206,.val (iv f))::(265,.val (iv d))::(255,.val (.int e))::g)
def dN(t:V)(d:D):D:=br (Bp t [[114,111,119],[109,97,112]]) (d+1) (br (Bp t [[114,111,119,32,101,110,100],[109,97,112,32,101,110,100]]) (d-1) d)
def aiq:X:=.sub (.sub (.sub (.aR 261) (.aR 264)) (.int 0)) (.int 0)
def Sh1(g:cz):=g=[]∨∃a,g=[(214,a)]
def sj:X:=.bF 30 (xq [.aR 261]) [] .nil
section
variable{rd:af->aY->PG->dR}{G:cQ}{lv:ae}{d h c k n j i m:W}{pg:PG}{tx:ae}{w N l:af}{nl:LV}{e:cz}{s s1 u:St}{v x y z:V}{a b:aw}{S0:S}
def W3(g:stK G lv n j (yx k S0) s1 u)(f:stK G lv n k S0 s s1):stK G lv n (k+j) S0 s u:=by induction k generalizing S0 s with|zero=>rw[show s=s1 from f,hH];exact g|succ k o=> obtain⟨s0,e,f⟩:=f;rw[Nat.succ_add];exact⟨s0,e,o g f⟩
def st7(f:w.length<=1000)(g:∀e∈w,∃i a b,e=bB (gu i) a b)(o:w≠[]):∃x y z,pr (GW rd d) g7 300 (L9 7 Sq) ⟨qQ h c tx w (.own []) [],pg⟩=O (.next,⟨qQ h c tx w (.own (EE w 0)) (j' x y z),pg⟩):=by
 obtain⟨p,p,r,t⟩:=agN w [] [] [] Z g (.inl Z) (by rw[show([]).length=0 from Z,hH];exact f)
 have S:source (GW rd d) g7 (cG (.bF 218 (xq [sj]) [] .nil)) (O (3,sj)) (O (xq [sj])) (ev (GW rd d) g7 · (.bF 218 (xq [sj]) [] .nil)) ⟨qQ h c tx w (.own []) [],pg⟩=O ((J,dF 1 w.length 0),⟨qQ h c tx w (.own []) [],pg⟩):=by show gd _ _=_;rw[aB,g8 (ay f (aO Z))];rfl
 refine p.elim (λq=>ch q (r o)) λq=>?_;obtain⟨x,y,z,q⟩:=q;refine⟨x,y,z,?_⟩;show ax (source _ g7 (cG (.bF 218 (xq [sj]) [] .nil)) (O (3,sj)) (O (xq [sj])) (ev _ g7 · (.bF 218 (xq [sj]) [] .nil)) ⟨qQ h c tx w _ [],pg⟩) (λr s=>br r.1 (forL (λv s=>pr _ g7 300 b7 (aE s 264 (.val v))) r.2 s) (forL (λv s=>pr _ g7 300 b7 (aE s 264 (.val v))) r.2 s))=_;rw[S];refine t.trans ?_;rw[q];rfl
theorem st8(p:N≠[]):∃f l,pr (GW rd d) g7 300 (L9 8 Sq) ⟨qQ h c tx w (.own N) (j' x y z),pg⟩=O (.next,⟨qQ h c tx w f (j' x y z),pg⟩)/\(f=.own l∨f=.val (.lst l))/\l≠[]/\∀z∈l,z∈N:=by
 induction N with
 |nil=>exact ch Z p
 |cons g N=>induction N with
  |nil=>exact⟨_,[g],nG Z Z,.inl Z,bN _ _,λ_=>id⟩
  |cons o N _=> refine⟨.val _,o::N,?_,.inr Z,bN _ _,λ_ m=>.tail _ m⟩;have f:ev (GW rd d) g7 U (.cmp (.bF 30 (xq [.aR 263]) [] .nil) [.Gt] (xq [.int 1])) ⟨qQ h c tx w (.own (g::o::N)) (j' x y z),pg⟩=O (.bool (a? ((1:D)<((ak N+1+1)))),⟨qQ h c tx w _ _,pg⟩):=Z;rw[cF (by lia)]at f;refine yy (cY Z (dI (s1:=⟨qQ h c tx w (.val (.lst (g::o::N))) _,pg⟩) ?_ Z)) f;show O (V.lst _,_)=_;rw[aB,EX];rfl
def ac2{l:af}{i:W}(h:i<l.length):∃z,jj l i=O z/\z∈l:=⟨l[i],by rw[om,f? h],List.getElem_mem h⟩
def st9(g:nl=.own l∨nl=.val (.lst l))(p:l≠[]):∃f,f∈l/\pr (GW rd d) g7 300 (L9 9 Sq) ⟨qQ h c tx w nl (j' x y z),pg⟩=O (.next,⟨qQ h c tx w nl (j' x y z++[(206,.val f)]),pg⟩):=by
 induction l with
 |nil=>exact ch Z p
 |cons o N _=>
  obtain⟨f,p,r⟩:=ac2 (l:=o::N) (i:=h/12%(ak N+1)) (by rw[aB];exact eD _ (CT _))
  refine⟨f,r,?_⟩;have f:ev (GW rd d) g7 J (.bin .Mod (.bin .FloorDiv (.aR 230) (.int 12)) (.bF 30 (xq [.aR 263]) [] .nil)) ⟨qQ h c tx w nl (j' x y z),pg⟩=O (iv _,⟨qQ h c tx w nl _,pg⟩):=g.elim (λq=>by rw[q];rfl) λq=>by rw[q];rfl
  refine dI (s1:=⟨qQ h c tx w nl (j' x y z),pg⟩) ?_ Z;refine g.elim (λq=>?_) λq=>?_
  ·rw[q]at f ⊢
   show gd (ac pg.bD pg.bD) (bn (jj (o::N) (h/12%(ak N+1))) λg=>O _)=_;rw[cf,p];rfl
  ·rw[q]at f ⊢
   exact jG Z Z f p
end
def pF(t:V):cz:=[(214,.val (.str (WQ t)))]
def r12:S:=.cons (.ifs (.cmp (.aR 255) [.Eq] (xq [.int 0])) (.cons (.set [265] (.aR 264)) (.cons .brk .nil)) .nil) .nil
def I?:X:=.sub (.sub (.sub (.aR 261) (.aR 206)) (.int 1)) (.int 0)
section
variable{rd:af->aY->PG->dR}{G:cQ}{lv:ae}{d h c n f la j i m:W}{pg:PG}{tx tz:ae}{w N A l B:af}{nl:LV}{e g:cz}{s s1:St}{v x y z en t:V}{a b p:aw}{dd d1:D}{S0 S1:S}
def eqI(a b:D):kt (.int a) (.int b)=a? (a=b):=by rw[kt];rfl
def W4:WY.map (λt=>iJ t (.int 0))=WY.map λt=>O (.str (WQ t)):=by kernel_rfl
def Rp(rd:af->aY->PG->dR)(d h c:W)(tx:ae)(w:af)(nl:LV)(x y z:V)(f la:W)(dd:D)(pg:PG)(R:S):WY.map (λt=>pr (GW rd d) g7 300 (.cons (L9 1 SJ) (.cons (L9 2 SJ) R)) ⟨qi h c tx w nl x y z f la dd (pF t),pg⟩)=WY.map λt=>pr (GW rd d) g7 300 R ⟨qi h c tx w nl x y z f la (dN t dd) (pF t),pg⟩:=by kernel_rfl
def agO:dN t dd=dd+dV t:=by
 unfold dN dV;cases Bp t [[114,111,119],[109,97,112]]with
 |true=>rfl
 |false=>cases Bp t [[114,111,119,32,101,110,100],[109,97,112,32,101,110,100]]with
  |true=>exact nf
  |false=>exact(aA dd).symm
def Ņ(h:pr G lv n S0 s=O (.brk,s1)):pr G lv n (.cons S0 S1) s=O (.brk,s1):=by show ax (pr G lv n S0 s) (λf s=>vK f (pr G lv n S1 s) (O (.brk,s)) λv=>O (.ret v,s))=_;rw[h];rfl
def Rr(o:w=A++bB (gu i) a b::l)(r:Sh1 g):pr (GW rd d) g7 300 SJ (aE ⟨qi h c tx w nl x y z f la dd g,pg⟩ 264 (.val (iv A.length)))=br (a? (dd+dV (gu i)=0)) (O (.brk,⟨qi h c tx w nl (iv A.length) y z f A.length (dd+dV (gu i)) (pF (gu i)),pg⟩)) (O (.next,⟨qi h c tx w nl (iv A.length) y z f la (dd+dV (gu i)) (pF (gu i)),pg⟩)):=by
 have u:=d6 W4 (xO i);have E:∀{g},ev (GW rd d) g7 J aiq ⟨qi h c tx w nl (iv A.length) y z f la dd g,pg⟩=O (.str (WQ (gu i)),⟨qi h c tx w nl (iv A.length) y z f la dd g,pg⟩):=λ{g}=>jo (jo (jG Z Z Z (item_at o)) Z Z Z) Z u Z
 have o:aE ⟨qi h c tx w nl (iv A.length) y z f la dd g,pg⟩ 214 (.val (.str (WQ (gu i))))=⟨qi h c tx w nl (iv A.length) y z f la dd (pF (gu i)),pg⟩:=r.elim (λq=>by rw[q];rfl) λq=>by obtain⟨_,q⟩:=q;rw[q];rfl
 refine cY ?_ (o▸dI E Z);refine(d6 (Rp rd d h c tx w nl (iv A.length) y z f la dd pg r12) (xO i)).trans ?_;have k:ev (GW rd d) g7 U (.cmp (.aR 255) [.Eq] (xq [.int 0])) ⟨qi h c tx w nl (iv A.length) y z f la (dd+dV (gu i)) (pF (gu i)),pg⟩=O (.bool (kt (.int (dd+dV (gu i))) (.int 0)),⟨qi h c tx w nl (iv A.length) y z f la (dd+dV (gu i)) (pF (gu i)),pg⟩):=Z;rw[agO];rw[eqI]at k;cases q:a? (dd+dV (gu i)=0)with
 |true=> rw[q]at k;exact Ņ (yy (cY (Ņ Z) Z) k)
 |false=> rw[q]at k;exact cY Z (nG Z k)
def ac3(K:∃i a b,en=bB (gu i) a b)(F:d1+dE en=0):∀(k A:af)(x:V)(dd:D)(g:cz),w=A++(k++en::B)->(∀e∈k,∃i a b,e=bB (gu i) a b)->LB dd k=O d1->Sh1 g->∃u E,forL (λv s=>pr (GW rd d) g7 300 SJ (aE s 264 (.val v))) (dF 1 (k++en::B).length A.length) ⟨qi h c tx w nl x y z f f dd g,pg⟩=O (.next,⟨qi h c tx w nl u y z f (A.length+k.length) 0 (pF E),pg⟩):=by
 intro k
 induction k with
 |nil=>
  intro A x dd g r _ o E;obtain⟨i,a,b,q⟩:=K;rw[q]at r F ⊢;have K:dd+dV (gu i)=0:=by rw[show dd=d1 from au o];exact F
  have S:=Rr (rd:=rd) (d:=d) (h:=h) (c:=c) (tx:=tx) (nl:=nl) (x:=x) (y:=y) (z:=z) (f:=f) (la:=f) (dd:=dd) (pg:=pg) r E;rw[K]at S;refine⟨iv A.length,gu i,?_⟩;show ax (pr (GW rd d) g7 300 SJ (aE ⟨qi h c tx w nl x y z f f dd g,pg⟩ 264 (.val (iv A.length)))) (λf s=>turn f s (forL (λv s=>pr (GW rd d) g7 300 SJ (aE s 264 (.val v))) (dF 1 B.length (A.length+1))))=_;rw[S];rfl
 |cons L k M=>
  intro A x dd g r H o E;obtain⟨i,a,b,q⟩:=H L gV;rw[q]at r o ⊢;have o:br (a? (dd+dV (gu i)=0)) C (LB (dd+dV (gu i)) k)=O d1:=o;have S:=Rr (rd:=rd) (d:=d) (h:=h) (c:=c) (tx:=tx) (nl:=nl) (x:=x) (y:=y) (z:=z) (f:=f) (la:=f) (dd:=dd) (pg:=pg) r E;cases E:a? (dd+dV (gu i)=0)with
  |true=>rw[E]at o;exact aa o
  |false=> rw[E]at o S;obtain⟨u,F,E⟩:=M (A++[bB (gu i) a b]) (iv A.length) (dd+dV (gu i)) (pF (gu i)) (by rw[am];exact r) (λe m=>H e (.tail _ m)) o (.inr ⟨_,Z⟩);rw[aX (as:=A)]at E;refine⟨u,F,?_⟩;show ax (pr (GW rd d) g7 300 SJ (aE ⟨qi h c tx w nl x y z f f dd g,pg⟩ 264 (.val (iv A.length)))) (λf s=>turn f s (forL (λv s=>pr (GW rd d) g7 300 SJ (aE s 264 (.val v))) (dF 1 (k++en::B).length (A.length+1))))=_;rw[S];refine E.trans ?_;rw[fJ A.length,hJ [bB (gu i) a b].length];rfl
def air(o:w=A++(k++en::B))(u:w.length<=1000)(r:∀e∈w,∃i a b,e=bB (gu i) a b)(H:LB 0 k=O d1)(F:d1+dE en=0):∃q E,pr (GW rd d) g7 300 (L9 12 Sq) ⟨qi h c tx w nl x y z A.length A.length 0 [],pg⟩=O (.next,⟨qi h c tx w nl q y z A.length (A.length+k.length) 0 (pF E),pg⟩):=by
 have E:=λe m=>r e (o▸db _ m);obtain⟨q,K,r⟩:=ac3 (E en (db _ gV)) F k A x 0 [] o (λe m=>E e (h? _ m)) H (.inl Z);refine⟨q,K,?_⟩;have q:w.length-A.length=(k++en::B).length:=by rw[o,aX,hq]
 have la:A.length<=1000000:=ay (by rw[o,aX];exact fY _ _) (ay u (aO Z));show ax (source (GW rd d) g7 (cG (.bF 218 (xq [.aR 206,sj]) [] .nil)) C (O (xq [.aR 206,sj])) (ev (GW rd d) g7 · (.bF 218 (xq [.aR 206,sj]) [] .nil)) ⟨qi h c tx w nl x y z A.length A.length 0 [],pg⟩) (λr s=>br r.1 (forL (λv s=>pr (D_ (GW rd d)) g7 300 SJ (aE s 264 (.val v))) r.2 s) (forL (λv s=>pr (GW rd d) g7 300 SJ (aE s 264 (.val v))) r.2 s))=_
 have S:source (GW rd d) g7 (cG (.bF 218 (xq [.aR 206,sj]) [] .nil)) C (O (xq [.aR 206,sj])) (ev (GW rd d) g7 · (.bF 218 (xq [.aR 206,sj]) [] .nil)) ⟨qi h c tx w nl x y z A.length A.length 0 [],pg⟩=O ((J,dF 1 (w.length-A.length) A.length),⟨qi h c tx w nl x y z A.length A.length 0 [],pg⟩):=by show gd (bd (ak w) 1000000) (gd (bd A.length 1000000) (O ((J,dF 1 (ak w-A.length) A.length),(⟨qi h c tx w nl x y z A.length A.length 0 [],pg⟩:St))))=_;rw[aB,g8 (ay u (aO Z)),g8 la];rfl
 rw[S,q];exact r
def ac4{e:V}(k:vr e):∀(A:af),LD tz (A++e::B)->∃N R,e::B=N++R/\qh tz N:=by intro A;induction A with|nil=>exact λh=>h.1 k|cons x A o=>exact λh=>o h.2
def agQ(R:Rn rd)(k:ae):∃tx w A N B,∃h c nl,∃x y z t r,Txt tx w/\dat 20 (.lst w)/\w=A++(N++B)/\qh (tx++[0]) N/\stK (GW rd d) g7 300 12 yA ⟨[(211,.val .aG)],da k⟩ ⟨qi h c tx w nl x y z A.length (A.length+(N.length-1)) 0 (pF t),da r⟩:=by(refine gq λP L=>?_;obtain⟨tx,w,r,h,c,T,P,K⟩:=agL R k;have k:w.length<=1000:=ay T.whole.tl (aO Z);obtain⟨u,o,B0,o,E⟩:=T.ex;obtain⟨x,y,z,Q⟩:=st7 k T.Y' (by rw[o];exact List.append_ne_nil_of_right_ne_nil _ (bN _ _));obtain⟨nl,l,R,F,H,S⟩:=st8 (N:=EE w 0) (by rw[o];exact ac1 E u 0);obtain⟨E,V,o⟩:=st9 F H;obtain⟨A,e,B,u,F,X⟩:=ac0 w 0 (S E V);rw[F,hH]at o;have E:=T.nds;rw[u]at E;obtain⟨N,F,S,H⟩:=ac4 X A E;have E:w=A++(N++F):=by rw[u,S]);(have S:=H;obtain⟨p,q,u,M,u,u,f1,⟨i,a,V,d1,u,X,h0⟩,_⟩:=S;obtain⟨S,g',k12⟩:=air (en:=bB (gu i) a q) (by rw[E,u,am];rfl) k T.Y' X h0;refine L ?_;refine⟨tx,w,A,N,F,h,c,nl,S,y,z,g',r,T,P,E,H,W3 (j:=6) ?_ K⟩;have k:N.length-1=V.length:=by rw[u,aX];rfl);rw[k];exact iN Q (iN R (iN o (iN Z (iN Z (iN k12 Z)))))
def ais{X:af}{B:af}(k:w=A++(bB (gu i) p b::X)++B):ev (GW rd d) g7 J I? ⟨qi h c tx w nl x y z A.length la 0 g,pg⟩=O (b8 p,⟨qi h c tx w nl x y z A.length la 0 g,pg⟩):=jo (jo (jG Z Z Z (item_at (by rw[k,am];rfl))) Z Z Z) Z Z Z
end
def zD(h c:W)(a:ae)(w:af)(b:LV)(x y z:V)(f d:W)(t:V)(e fi:V)(g:LV):cz:=qi h c a w b x y z f d 0 [(214,.val (.str (WQ t))),(266,.val e),(268,.val fi),(225,g)]
def O4:S:=S.casesOn (motive:=λ_=>S) (L9 17 Sq) .nil (λ_ _=>.nil) (λ_=>.nil) (λ_=>.nil) .nil .nil (λ_ _=>.nil) (λ_ _ _ _ _=>.nil) (λ_ _=>.nil) (λ_ _ _=>.nil) (λ_ _ _=>.nil) (λ_ _=>.nil) (λ_ _ _=>.nil) (λ_ _ _ _=>.nil) (λ_ _ _=>.nil) (λ_ _=>.nil) (λ_ _ b=>b) (λ_=>.nil) (λ_=>.nil) .nil
def mvX(a:X):X:=.bF 267 (xq [a,.aR 33]) [] .nil
def ī:X:=.comp (mvX (.aR 40)) 40 (.aR 166) [33]
def Ď(k:W):X:=.sub (.sub (.sub (.aR 261) (.aR 265)) (.int 1)) (.int k)
def txX:X:=.bin .Add (.bin .Mult (.str [32]) (.sub (.aR 33) (.int 2))) (.cut (.aR 236) (.sub (.aR 33) (.int 0)) (.sub (Ď 1) (.int 0)))
def K'(p m:aw):V:=.tup [.int (m.1-p.1+p.2.2),.int (m.2.1-p.2.1),.int m.2.2]
theorem Rt{p:aw}:K' p m=b8 (mo p m):=by(have a:m.1-p.1+p.2.2=m.1+(p.2.2-p.1):=by lia);show V.tup [.int _,.int _,.int m.2.2]=.tup [.int (m.1+(p.2.2-p.1)),.int (m.2.1+-p.2.1),.int m.2.2];rw[a,show m.2.1-p.2.1=m.2.1+-p.2.1 from nf]
section
variable{rd:af->aY->PG->dR}{d h0 h c k f la i m:W}{pg:PG}{tx:ae}{w N G D:af}{nl F:LV}{e:cz}{s:St}{x y z t bg fi u:V}{a b p q:aw}
def El(d:W)(p m:aw)(pg:PG):(lG (d+5)).func 267 [b8 m,b8 p] [] pg=O (K' p m,pg):=by kernel_rfl
def W5(rd:af->aY->PG->dR)(d h c:W)(tx:ae)(w:af)(nl:LV)(x y t bg fi:V)(f la:W)(F:LV)(p a b:aw)(pg:PG):ev (GX rd d (b8 p)) g7 J ī ⟨zD h c tx w nl x y (.lst [b8 a,b8 b]) f la t bg fi F,pg⟩=O (.lst [K' p a,K' p b],⟨zD h c tx w nl x y (.lst [b8 a,b8 b]) f la t bg fi F,pg⟩):=by kernel_rfl
def ac5{u:V}(g:D.length<=1000):x? (pr (GX rd d (b8 p)) g7 300 O4) 258 166 (bB u a b) ⟨zD h c tx w nl x y z f la t bg fi (.own D),pg⟩=O (.next,⟨zD h c tx w nl x u (.lst [b8 a,b8 b]) f la t bg fi (.own (D++[bB u (mo p a) (mo p b)])),pg⟩):=by have j:=W5 rd d h c tx w nl x u t bg fi f la (.own D) p a b pg;have T:ev _ g7 J (.tup (xq [.aR 258,ī])) ⟨zD h c tx w nl x u _ f la t bg fi _,pg⟩=O _:=acz (zC Z (mQ j));rw[Rt,Rt]at T;show pr _ g7 300 O4 ⟨zD h c tx w nl x u _ f la t bg fi _,pg⟩=_;exact cY Z (Bs Z Z Z Z T (ay g (aO Z)))
def ac6:∀(N G D:af)(y z:V),G3 (kO p) (jO p) N G->D.length+N.length<=1000->∃g j,forL (x? (pr (GX rd d (b8 p)) g7 300 O4) 258 166) N ⟨zD h0 c tx w nl x y z f la t bg fi (.own D),pg⟩=O (.next,⟨zD h0 c tx w nl x g j f la t bg fi (.own (D++G)),pg⟩):=by
 intro N
 induction N with
 |nil=> intro G D y z h _;rw[show G=[]from h,eq];exact⟨y,z,Z⟩
 |cons e N o=> intro G D y z h l;obtain⟨r,v,q,⟨i,a,b,A,n⟩,B⟩:=h;have E:=jI D.length N.length 1▸l;obtain⟨g,j,k⟩:=o v (D++[r]) _ _ B (by rw[aX];exact E);refine⟨g,j,?_⟩;have S:=ac5 (rd:=rd) (d:=d) (h:=h0) (c:=c) (tx:=tx) (w:=w) (nl:=nl) (x:=x) (y:=y) (z:=z) (f:=f) (la:=la) (t:=t) (bg:=bg) (fi:=fi) (pg:=pg) (u:=gu i) (a:=a) (b:=b) (p:=p) (ay (fY _ _) l);show ax _ (λf s=>turn f s _)=_;rw[A,S,q];rw[n]at k;refine k.trans ?_;rw[am,n];rfl
end
def ń(a:X):X:=.yO (xq [a,a])
def dX1:X:=.tup (xq [.tup (xq [.str [100,111,99,117,109,101,110,116,32,101,110,100],.str [110,111]]),ń (.aR 268)])
def dX2:X:=.tup (xq [.tup (xq [.str [115,116,114,101,97,109,32,101,110,100]]),ń (.aR 268)])
section
variable{rd:af->aY->PG->dR}{G:cQ}{lv:ae}{d h c k n f j i:W}{pg:PG}{tx M y:ae}{w N A l B D:af}{nl:LV}{s s1 s2:St}{v x y0 z t bg fi u:V}{a b p q:aw}{ea eb ec:X}{bb:I}
def cmp_self{l:af}(h:dat 30 (.lst l)):pe .Eq (.lst l) (.lst l)=O U:=by show gd _ _=_;rw[h,Ra 30 _ h];rfl
def ac7(e:ev G lv J ea s=O (v,s1))(m:ev G lv J eb s1=O (u,s2))(h:pe .Eq v u=O bb)(g:gy G lv s1 (cG eb)=C):ev G lv J (.cmp ea [.Eq] (xq [eb])) s=O (.bool bb,s2):=by show ax _ (λv s=>ax (oc (gy G lv s _) (λo=>gd U _) (ax (ev G lv J eb s) λw s=>bn (pe .Eq v w) λb=>O (b,s))) λb s=>O (V.bool b,s))=_;refine(jn e).trans ?_;rw[g];rw[m];show ax (bn _ λb=>O _) (λb s=>O _)=_;rw[h];rfl
def ac8(e:ev G lv J ea s=O (.str y,s))(o:ev G lv J eb s=O (iv i,s))(r:ev G lv J ec s=O (iv j,s))(g:cq eb=J)(m:cq ec=J):ev G lv J (.cut ea eb ec) s=O (.str ((y.take j).drop i),s):=by show ax (ev G lv J ea s) (λx s=>ax (br _ (O (C,s)) (ax (ev G lv J eb s) λv s=>O (O v,s))) λa s=>ax (br _ (O (C,s)) (ax (ev G lv J ec s) λv s=>O (O v,s))) λb s=>bn (BV x a b) λv=>fin J v s)=_;rw[e,g,m];show ax _ (λa s=>ax (ax (ev G lv J ec s) λv s=>O (O v,s)) λb s=>bn (BV _ a b) λv=>fin J v s)=_;rw[o];show ax _ (λb s=>bn (BV _ _ b) λv=>fin J v s)=_;rw[r];rfl
def agS(h:n<=1000):qu .Mult (.str [32]) (iv n)=O (.str (rep [32] n)):=by show gd _ (gd (bd (1*n) 1000000) _)=_;rw[H?,g8 (ay h (aO Z))];rfl
def Eo{e:Type}{A N B:Y e}{k:W}(g:k=A.length+N.length):((A++(N++B)).take k).drop A.length=N:=by rw[g,<-am,<-aX,List.take_left,q6]
theorem ait(T:Rn rd)(S:N=D++[bB (gu i) a q])(R:w=A++(N++B))(E:tx++[0]=e++(M++r))(Q:r≠[])(m:p.1=(ak e:W))(o:q.1=p.1+(ak M:W))(P:0<=p.2.2)(F:eZ (sp p.2.2++M) g)(V:dat 20 (.lst g))(X:dat 30 (.lst g)):∃r,pr (GX rd d (b8 p)) g7 300 (yx 19 yA) ⟨zD h c tx w nl x y0 z f (A.length+D.length) t bg fi (.val (.lst g)),pg⟩=O (.ret (.bool U),r):=by(obtain⟨H,K,p3⟩:=p;obtain⟨L,q2⟩:=q;obtain⟨n,hn⟩:=Int.eq_ofNat_of_zero_le P;have m:H=_:=m;have o:L=H+_:=o;have hq2:L=((ak e+ak M:W)):=by rw[o,m];exact(fO _ _).symm);subst hn;subst m;subst hq2;have m:=F.len;have m:(rep [32] n++M).length<=700:=m;(have o:n<=1000:=by have:=lY (a:=32) n;rw[aX]at m;lia);(have r:(tx.take (ak e+ak M)).drop (ak e)=M:=by have H:=ah ey E;have L:=List.length_pos_iff.mpr Q;rw[aB,aB];have:tx.take (e.length+M.length)=(tx++[0]).take _:=(List.take_append_of_le_length (by simp at H;lia)).symm;rw[this,E];exact Eo Z);have E:(A++D).length=A.length+D.length:=aX;(have H:iJ (.lst w) (iv (A.length+D.length))=O (bB (gu i) a (((ak e+ak M)),q2)):=by rw[<-E];exact item_at (by rw[R,S,am,am];rfl));have E:ev (GX rd d (b8 ((ak e),K,(n)))) g7 J (Ď 1) ⟨zD h c tx w nl x y0 z f _ t bg fi (.val (.lst g)),pg⟩=O _:=jo (jo (jG Z Z Z H) Z Z Z) Z Z Z;(have H:ev (GX rd d (b8 ((ak e),K,(n)))) g7 J txX ⟨zD h c tx w nl x y0 z f (A.length+D.length) t bg fi (.val (.lst g)),pg⟩=O (.str (rep [32] n++M),⟨zD h c tx w nl x y0 z f (A.length+D.length) t bg fi (.val (.lst g)),pg⟩):=by have e:=ac8 (ea:=.aR 236) (eb:=.sub (.aR 33) (.int 0)) (ec:=.sub _ (.int 0)) Z (jG Z Z Z Z) (jo E Z Z Z) Z Z;rw[r]at e;exact d7 (lu Z (jG Z Z Z Z) (agS o)) e (ay m (aO Z)));exact⟨_,Jy (ac7 (jF Z Z Z Z (mQ H) (T.ok F V)) Z (cmp_self X) Z) Z⟩
end
section
variable{rd:af->aY->PG->dR}{d h c:W}{pg:PG}{tx:ae}{w N A B:af}{nl:LV}{x y z t:V}
def ac9{l:af}(h:G3 k j l a):∀e∈a,∃i b f,e=bB (gu i) b f:=by revert a;induction l with|nil=>exact λ{a}h e m=>by rw[show a=[]from h]at m;exact nomatch m|cons b l g=>intro a h e m;obtain⟨f,r,q,⟨i,x,y,_,n⟩,o⟩:=h;rw[q]at m;cases m with|head=>exact⟨i,_,_,n⟩|tail _ m=>exact g o e m
def ada{l:af}(h:G3 k j l a):a.length=l.length:=by revert a;induction l with|nil=>exact λ{a}h=>by rw[show a=[]from h]|cons f l b=> intro a h;obtain⟨_,_,q,_,e⟩:=h;rw[q];exact ah pm (b e)
def Ru:aI (dat 28) WY=U:=by kernel_rfl
def W6(l:af):(∀e∈l,∃i a b,e=bB (gu i) a b)->aI (dat 29) l=U:=by induction l with|nil=>exact λ_=>Z|cons e l f=> intro h;obtain⟨i,a,b,q⟩:=h e gV;refine(dM ?_).trans (f λe m=>h e (.tail _ m));rw[q];exact(dM (ai Ru (xO i))).trans Z
theorem agT(R:Rn rd)(k:w=A++(N++B))(H:w.length<=900)(G:qh (tx++[0]) N):∃p l u K,ev (GW rd d) g7 J I? ⟨qi h c tx w nl x y z A.length (A.length+(N.length-1)) 0 (pF t),pg⟩=O (b8 p,⟨qi h c tx w nl x y z A.length (A.length+(N.length-1)) 0 (pF t),pg⟩)/\stK (GX rd d (b8 p)) g7 300 6 (yx 13 yA) ⟨qi h c tx w nl x y z A.length (A.length+(N.length-1)) 0 (pF t),pg⟩ l/\aj 225 l.loc=O (.own u)/\pr (GX rd d (b8 p)) g7 300 (yx 19 yA) (aE l 225 (.val (.lst u)))=O (.ret (.bool U),K):=by
 refine gq λl L=>?_;obtain⟨p,q,l,M,l,f,⟨i,l,X,u⟩,⟨i2,a,e,K,n,_,_⟩,P,Q,S,T,o,h0,a'⟩:=G;have E:N.length=e.length+1:=by rw[n,aX];rfl
 have lN1:N.length-1=e.length:=by rw[E];rfl
 have e13:=ais (rd:=rd) (d:=d) (h:=h) (c:=c) (tx:=tx) (nl:=nl) (x:=x) (y:=y) (z:=z) (la:=A.length+e.length) (g:=pF t) (pg:=pg) (A:=A) (X:=X) (B:=B) (i:=i) (p:=p) (b:=l) (w:=w) (by rw[k,u,am])
 have l:N.length<=900:=by
  rw[k,aX,aX]at H
  lia
 obtain⟨g,j,k17⟩:=ac6 (rd:=rd) (d:=d) (h0:=h) (c:=c) (tx:=tx) (w:=w) (nl:=nl) (x:=x) (f:=A.length) (la:=A.length+e.length) (t:=t) (bg:=b8 (mo p p)) (fi:=b8 (mo p q)) (pg:=pg) N f [bB iD dU dU,bB (i8 iL) (mo p p) (mo p p)] y z o (by show 2+N.length<=1000;lia)
 have l:=by exact ada o
 have F:∀r∈(bB iD dU dU::bB (i8 iL) (mo p p) (mo p p)::(f++oQ (mo p q))),∃i a b,r=bB (gu i) a b:=λr m=>by
  cases m with
  |head=>exact⟨26,_,_,Z⟩
  |tail _ m=>cases m with
   |head=>exact⟨22,_,_,Z⟩
   |tail _ m=>
    refine(gU.mp m).elim (ac9 o r) λm=>?_;cases m with
    |head=>exact⟨24,_,_,Z⟩
    |tail _ m=>exact⟨25,_,_,eC.mp m⟩
 have l:=Ro _ F;have m:=W6 _ F;obtain⟨o,r⟩:=ait (rd:=rd) (d:=d) (h:=h) (c:=c) (nl:=nl) (x:=x) (y0:=g) (z:=j) (f:=A.length) (t:=t) (bg:=b8 (mo p p)) (fi:=b8 (mo p q)) (pg:=pg) (i:=i2) (a:=a) (q:=q) (D:=e) (A:=A) (B:=B) (N:=N) (w:=w) (tx:=tx) R n k P Q S T h0 a' l m;refine L ?_;rw[lN1];refine⟨p,⟨zD h c tx w nl x g j A.length (A.length+e.length) t (b8 (mo p p)) (b8 (mo p q)) (.own (bB iD dU dU::bB (i8 iL) (mo p p) (mo p p)::(f++oQ (mo p q)))),pg⟩,_,o,e13,?_,Z,r⟩
 have l:iJ (.lst w) (iv (A.length+e.length))=O (bB (gu i2) a q):=by rw[<-aX];exact item_at (l:=B) (by rw[k,n,am,am];rfl)
 have m1:=El d p p pg;have m2:=El d p q pg;rw[Rt]at m1 m2;refine iN (s1:=⟨qi h c tx w nl x y z A.length (A.length+e.length) 0 [(214,.val (.str (WQ t))),(266,.val (b8 (mo p p)))],pg⟩) ?_ (iN (s1:=⟨qi h c tx w nl x y z A.length (A.length+e.length) 0 [(214,.val (.str (WQ t))),(266,.val (b8 (mo p p))),(268,.val (b8 (mo p q)))],pg⟩) ?_ (iN (s1:=⟨zD h c tx w nl x y z A.length (A.length+e.length) t (b8 (mo p p)) (b8 (mo p q)) (.own [bB iD dU dU,bB (i8 iL) (mo p p) (mo p p)]),pg⟩) Z (iN (s1:=⟨zD h c tx w nl x g j A.length (A.length+e.length) t (b8 (mo p p)) (b8 (mo p q)) (.own (bB iD dU dU::bB (i8 iL) (mo p p) (mo p p)::f)),pg⟩) ?_ (iN (s1:=⟨zD h c tx w nl x g j A.length (A.length+e.length) t (b8 (mo p p)) (b8 (mo p q)) (.own (bB iD dU dU::bB (i8 iL) (mo p p) (mo p p)::(f++[bB (iM iL) (mo p q) (mo p q)]))),pg⟩) ?_ (iN (s1:=⟨zD h c tx w nl x g j A.length (A.length+e.length) t (b8 (mo p p)) (b8 (mo p q)) (.own (bB iD dU dU::bB (i8 iL) (mo p p) (mo p p)::(f++oQ (mo p q)))),pg⟩) ?_ Z)))))
 ·exact dI (v:=b8 (mo p p)) (jF (G:=GX rd d (b8 p)) (f:=267) (vs:=[b8 p,b8 p]) (s1:=⟨qi h c tx w nl x y z A.length (A.length+e.length) 0 (pF t),pg⟩) Z Z Z Z Z m1) Z
 ·exact dI (jF (G:=GX rd d (b8 p)) (f:=267) (vs:=[b8 q,b8 p]) (s1:=⟨qi h c tx w nl x y z A.length (A.length+e.length) 0 [(214,.val (.str (WQ t))),(266,.val (b8 (mo p p)))],pg⟩) Z Z Z Z (zC (jo (jo (jG Z Z Z l) Z Z Z) Z Z Z) (mQ Z)) m2) Z
 ·show ax (O (V.lst ((w.take (A.length+e.length+1)).drop A.length),(⟨zD h c tx w nl x y z A.length (A.length+e.length) t (b8 (mo p p)) (b8 (mo p q)) (.own [bB iD dU dU,bB (i8 iL) (mo p p) (mo p p)]),pg⟩))) (λv s=>bn (ja v) λvs=>forL (x? (pr (GX rd d (b8 p)) g7 300 O4) 258 166) vs s)=_
  rw[k,Eo (by rw[E];rfl),<-k];exact k17
 ·have k:=Bs (G:=GX rd d (b8 p)) (lv:=g7) (n:=300) (x:=225) (ea:=dX1) (s:=⟨zD h c tx w nl x g j A.length (A.length+e.length) t (b8 (mo p p)) (b8 (mo p q)) (.own (bB iD dU dU::bB (i8 iL) (mo p p) (mo p p)::f)),pg⟩) Z Z Z Z Z (by show f.length+1+1<=900000;lia)
  exact k
 ·have k:=Bs (G:=GX rd d (b8 p)) (lv:=g7) (n:=300) (x:=225) (ea:=dX2) (v:=bB kh (mo p q) (mo p q)) (s:=⟨zD h c tx w nl x g j A.length (A.length+e.length) t (b8 (mo p p)) (b8 (mo p q)) (.own (bB iD dU dU::bB (i8 iL) (mo p p) (mo p p)::(f++[bB (iM iL) (mo p q) (mo p q)]))),pg⟩) Z Z Z Z Z (by show(f++[_]).length+1+1<=900000;rw[aX];show f.length+1+1+1<=900000;lia)
  have E:(bB iD dU dU::bB (i8 iL) (mo p p) (mo p p)::(f++[bB (iM iL) (mo p q) (mo p q)]))++[bB kh (mo p q) (mo p q)]=bB iD dU dU::bB (i8 iL) (mo p p) (mo p p)::(f++oQ (mo p q)):=by show _::_::((f++_)++_)=_;rw[am];rfl
  rw[E]at k;exact k
end
end
end Ev
namespace Hd
section
abbrev W7:=PySem.W.Fast.tw14364793385576792824
abbrev Å:=PySem.W.Fast.tw11892475500146522536 W7
abbrev Rv:=PySem.W.Fast.tw10110043849684766642 W7
abbrev X2:=PySem.W.Fast.tw15667345088766844465 W7
abbrev Rw:=PySem.W.Fast.tw12563942051412417395
def Bt:v1=W7:=PySem.W.Fast.te14364793385576792824
def W8:denote v1=Å:=by rw[Bt,PySem.W.Fast.te11892475500146522536]
def W9:segRunT v1=Rv:=by rw[Bt,PySem.W.Fast.te10110043849684766642]
def ade:topGo v1=X2:=by rw[Bt,PySem.W.Fast.te15667345088766844465]
def LF:@e0=Rw:=PySem.W.Fast.te12563942051412417395
abbrev sv(l:Ev.b9)(env:w4)(c:Code)(p:ww)(B:Y Frame):Thread:=⟨(Rw l env).wrap doneF deadEnd id id,c,p,B⟩
def Hb(l:Ev.b9)(a:w4)(c:Code)(p:ww)(B:Y Frame):piecesOf l a c p B=sv l a c p B:=by show(⟨(e0 l a).wrap doneF deadEnd id id,c,p,B⟩:Thread)=_;rw[LF]
def Rx(p:zs)(a:p.modules=[])(b:p.parses=[])(c:p.harvested=[]):p.tablesWhole=qy e4 p.main:=by unfold Program.tablesWhole TablesWhole.wProgram;rw[a,b,c];generalize qy e4 p.main=x;cases x<;>rfl
def lkQ(p q:zs)(loose:Y lm){b:Type}(a:t3)(c:ge->b)(s:ge):=((nr (rc p.main.body) a s.heap&&kq p s.heap&&rx s&&rv a s.heap),ki q loose (rc p.main.body) (λ_=>U) U s,c s)
def Xa{p q:zs}{loose:Y lm}{b:Type}{e:ge->b}{f:ty->b}{M:W}(w:ty)
 (g:(fencedOpening v1 p w M).map (λs=>(s.heap,s.gens,s.drawn,s.toks))=O (py w.params,b! [],a5,g?))
 (size:((py w.params).isNs lw,(py w.params).objs.size,(py w.params).nsMap lw "__annotations__")=(U,c,d))
 (run:∀a,∃s,topRun v1 p w c d M ⟨py w.params,b! [],a5,g?,a⟩ (topStub p)=O s/\lkQ p q loose (py w.params) e s=(U,kn q loose,f w)):
  (openEnds v1 p w M).map (λs=>(ki q loose (rc p.main.body) (λ_=>U) U s,e s))=O (kn q loose,f w):=by
 obtain⟨⟨h,b,d,k,a⟩,e,b⟩:=ab.mp g;simp only[UV]at b;obtain⟨rfl,rfl,rfl,rfl⟩:=b;have z:=size;simp only[UV]at z;obtain⟨c,d,f⟩:=z;obtain⟨s,r,b⟩:=run a;have g:=ah v6 b;have h:=ah Fk b
 have t:topFrom v1 p w M ⟨py w.params,b! [],a5,g?,a⟩=O s:=by unfold topFrom;dsimp only;rw[c,d,f,r];show(match nr (rc p.main.body) (py w.params) s.heap&&kq p s.heap&&rx s&&rv (py w.params) s.heap with|true=>O s|false=>C)=_;rw[show(nr (rc p.main.body) (py w.params) s.heap&&kq p s.heap&&rx s&&rv (py w.params) s.heap)from g]
 unfold openEnds;rw[e];show(topFrom v1 p w M _).map _=_;rw[t];exact ah O h
def last_step{p:zs}{q:ww}:∀s:ge,topRun v1 p w a b 2 s ⟨doneF .next,c,d,[az q]⟩=O s
 |⟨_,_,_,_,_⟩=>rfl
def Hc{p:zs}{q h t:ww}{l:Ev.b9}{i nB:W}{sa:o!}
 (u:b=l++r)
 (s:X2 p w c d n j m=O (sa.abs,⟨Å (.body b a),.body b a,e,[az q]⟩))
 (t!:segRun v1 p w c d 1 k sa.abs (blockOf b a (.body b a) e [az q])=O (.next,sa.abs,.body b a,f))
 (A:Rv p w c d 1 i sa (sv l a (.body b a) f [az q])=O (.next,g,.body b a,h))
 (B:Rv p w c d 1 nB g (sv r a (.body b a) h [az q])=O (.next,o,.body b a,t)):
  topRun v1 p w c d (n+(k+(i+(nB+2)))) j m=O o.abs:=by
 rw[<-ade,<-W8]at s;rw[<-W9,<-Hb]at A B;have a:=piece_app (rest:=[]) (segRun_of B) (piece_nil (last_step _));rw[eq]at a;have c:=piece_app (segRun_of A) a;rw[<-u]at c;exact go_top s (piece_block t! c)
def adf{K:wf->WP}{s:o!}{t:W}(j:w.params=P)
 (h:(a.map s.tree.get,s.n,s.toks)=((K P).map λp=>O p.2,n,t))(b:(K P).all (λp=>!p.2.isFreed)=U)(c:a.all (λd=>jp d n)):
  X.obsZ a s.abs=X.valZ K n t w:=by
 subst j;simp only[UV]at h;obtain⟨e,f,g⟩:=h;obtain⟨T,m,i,o,r,u,v⟩:=s;dsimp only at e f g;subst f g;unfold X.obsZ X.valZ;refine pt ?_ (pt (absHeap_size ..) Z);show a.map (absHeap T m i).get?=_
 have k:∀(a:Y ii)(L:WP),a.map T.get=L.map (λp=>O p.2)->L.all (λp=>!p.2.isFreed)->a.all (λd=>jp d m)->a.map (absHeap T m i).get?=L.map λp=>O p.2:=by
  intro a
  induction a with
  |nil=>intro L h _ _;cases L with
   |nil=>rfl
   |cons p L=>cases h
  |cons d a l=>intro L h b c;cases L with
   |nil=>cases h
   |cons p L=> simp only[fR,List.cons.injEq]at h;simp only[r5,Bool.and_eq_true,im]at b c;rw[fR,fR,l L h.2 b.2 c.2];refine ah (·::_) ?_;rw[abs_get (cw c.1) h.1];obtain⟨_,o⟩:=p;obtain⟨d,d,q,d⟩:=o;cases q<;>first|rfl|(exact Bool.noConfusion (show U=J from b.1))
 exact k a _ e b c
def L5(P:wf)(x:ol×W×bv):M2:=⟨On P x.1,.str x.1 x.2.1,x.2.2⟩
def Ep(P:wf)(n:W)(a:Y (ol×W×bv)):xL:={cls:=.type "dict",data:=.dict (a.map (L5 P)).toArray n}
def aiu(P:wf)(n:W)(a:Y (ol×W×bv)):xL:={cls:=.none,data:=.dict (a.map (L5 P)).toArray n}
def Er(a:Ev.aP):xL:={cls:=.type "tuple",data:=.seq a.toArray}
def Ä(a:Ev.aP):xL:={cls:=.none,data:=.fields a.toArray}
def Ry(c:ol)(a:Ev.aP):xL:={cls:=.type c,data:=.fields a.toArray}
def U?(s:a9):lm:=Ev.l8 s l1 (fu:=λn _ _ _ _=>n)
def T'(c:ol)(n:lm):lm:=match c with
 |""=>l1++n
 |c=>(((l1++nw c)++nw ".")++n)
def Xb(n q:lm)(t a c d e:W)(f:I)(g:W)(h i j:bv)(b:W):xL:={cls:=.type "code",data:=.fields [.str n t,.str q (t+1),.str "/claim/cut.py" (t+2),.int a 0,.int c 0,.int 0 0,.int 0 0,.int d 0,.ref e,.bool f,.int 181 0,.ref g,.none,h,i,j,.int b 0,.int a 0,.str "/claim/cut.py" (b+1)].toArray}
def Ń(s:a9)(c:ol)(t a b d e:W)(f:I)(g:W)(h i j:bv)(k:W):xL:=Xb (U? s) (T' c (U? s)) t a b d e f g h i j k
def Ġ(s:a9)(c:ol)(b d:bv)(e:W)(a:Y (ol×W))(f:bv):xL:=Ev.l8 s default (fu:=λn g h s _=>{cls:=.type "function",data:=.func {name:=n,qualname:=T' c n,params:=g,body:=.stmts h,scope:=s,globals:=lw,closure:=a.map λx=>(nw x.1,x.2),defaults:=b,kwdefaults:=.none,doc:=.none,pyModule:=d,annotations:=C,code:=.ref e,closureTuple:=f,builtins:=wp} })
def aiv(s:a9)(c:ol):xL:=Ev.l8 s default (fu:=λn a b s _=>{cls:=.none,data:=.func {name:=n,qualname:=T' c n,params:=a,body:=.stmts b,scope:=s,globals:=wp,closure:=[],defaults:=.none,kwdefaults:=.none} })
def aiw(n:ol)(a b:Ev.aP)(c:W)(d:Ev.aP)(e:Y (Ev.eU)):xL:={cls:=.type "type",data:=.cls {name:=n,bases:=a,mro:=b,ns:=c,qualname:=n,subclasses:=d},slots:=e.toArray}
def Ã(a:Y (Ev.eU)):xL:={cls:=.type "frame",slots:=a.toArray}
def aix(v:Ev.eU):xL:={cls:=.type "cell",data:=.cell v}
def aiy(l:Y xL):BT:=(l.foldl (λ(x:BT×W)o=>(x.1.ins x.2 o,x.2+1)) (BT.nil,0)).1
abbrev pw:zs:=Re
def Z2(i:W):a9:=(pw.main.body[i]?).getD (.Pass ⟨0,0,0,0⟩)
def bf:Ev.b9:=behindTheImports pw
def qb:w4:={scope:=pw.main.scope,locals:=mainNs,globals:=mainNs,cells:=[],code:=.ref 13,frame:=O 14}
def cB:Code:=.body bf qb
def p0:ww:=⟨0,0,0,0⟩
def pM:ww:=⟨295,0,303,24⟩
def aiz(P:wf):Y xL:=[boot_o_0 P,boot_o_1 P,boot_o_2 P,boot_o_3 P,boot_o_4 P,boot_o_5 P,boot_o_6 P,boot_o_7 P,boot_o_8 P,boot_o_9 P,boot_o_10 P,(Er []),(Ä []),(Xb "<module>" "<module>" 182 1 0 0 11 J 12 .none .none .none 185),(Ã [O (.ref 13),O (.ref 3),O (.ref 3),C,O (.str "__main__" 164),C,O (.ref 0)])]
def dO:=Ep
def dN:=aiu
def eS(n:ol)(t:W)(s:ol)(u:W):ol×W×bv:=(n,t,.str s u)
def t0:xL:=Er []
def f0:xL:=Ä []
def sV(l:Y lm):W->Ev.aP:=bm (motive:=λ_=>W->Ev.aP) (λ_=>[]) (λs _ i n=>.str s n::i (n+1)) l
def tS(n:W)(l:Y lm):xL:=Er (sV l n)
def tR(n:W):xL:=Er [.ref n]
def C_(l:Ev.ae):W->Ev.aP:=bm (motive:=λ_=>W->Ev.aP) (λ_=>[]) (λa _ i n=>ul (motive:=λ_=>Ev.aP) (.int (wv a) 0::i 1) (λn _=>ul (motive:=λ_=>Ev.aP) (.int (wv a) 0::i 2) (λ_ _=>.ref a::i 0) n) n) l
def fL(l:Ev.ae):xL:=Ä (C_ l 0)
abbrev En:=lm×W×bv
abbrev Gs:=Y (I×(wf->xL))
def en(n:lm)(t:W)(v:bv):Y En:=[(n,t,v)]
def gO(P:wf)(n:W)(l:Y En):xL:={cls:=.type "dict",data:=.dict (l.map λx=>⟨On P x.1,.str x.1 x.2.1,x.2.2⟩).toArray n}
def ob(l:Y xL):Gs:=l.map λo=>(J,λ_=>o)
def ko(o:xL):I×(wf->xL):=(U,λ_=>o)
def fi(n:W){a:Type}(f:W->a):a:=ul (motive:=λ_=>a) (f 0) (λn _=>f (n+1)) n
def n3{a:Type}(n:W)(b c d:a):a:=k! (motive:=λ_=>a) n b λn=>k! (motive:=λ_=>a) n c λ_=>d
def lz{b a:Type}(l:Y b)(c:a)(f:b->Y b->a):a:=AT (motive:=λ_=>a) l c f
def ph(k:W1):W:=NameKind.casesOn k 0 1 1 2 2
def fI(s:a9):W×W×Ev.bM×Y lm×I:=Ev.l8 s (0,0,[],[],J) (fu:=λ_ a _ c p=>(p.line,a.args.length,a.defaults,(c.names.filter λx=>ac (ph x.2) 0).map (·.1),c.names.any λx=>ac (ph x.2) 1))
def dV(l:Ev.bM){a:Type}:W->W->(Gs->Ev.aP->W->W->a)->a:=bm (motive:=λ_=>W->W->(Gs->Ev.aP->W->W->a)->a) (λa t k=>k [] [] a t) (λe _ i a t k=>Ev.oW e (Ev.dP (Ev.tD e) (i a t λo l=>k o (.none::l)) (bo:=λb=>i a t λo l=>k o (.bool b::l)) (i:=λn=>i a (t+1) λo l=>k o (.int n t::l))) (tu:=λ_ _ _=>i (a+1) t λo l=>k (ko t0::o) (.ref a::l))) l
def fB(c m:ol)(q:W)(s:a9)(v:Y lm)(a t n:W)(d:bv)(l:Y (ol×W))(e:bv)(o:Gs){b:Type}(k:Gs->En->W->W->W->b):b:=k (o++(ob [t0,f0,tS (t+3) v,t0,aiv s c]++[ko (Ń s c t (fI s).1 (fI s).2.1 3 a U (a+1) (.ref (a+2)) (.ref (a+3)) (.ref (a+4)) n),ko (Ġ s c d (.str m q) (a+5) l e)])) (U? s,n+2,.ref (a+6)) (a+5) (a+7) (n+3)
def mB(c m:ol)(q z:W)(s:a9)(a t:W){b:Type}(k:Gs->En->W->W->W->b):b:=cond (fI s).2.2.2.2 (fB c m q s (fI s).2.2.2.1 (a+1) t (t+4+(fI s).2.2.2.1.length) .none [("__class__",z)] (.ref a) [ko (tR z)] k) (lz (fI s).2.2.1 (fB c m q s (fI s).2.2.2.1 a t (t+3+(fI s).2.2.2.1.length) .none [] .none [] k) λ_ _=>dV (fI s).2.2.1 a t λo l a t=>fi a λa=>fi t λt=>fB c m q s (fI s).2.2.2.1 (a+1) t (t+3+(fI s).2.2.2.1.length) (.ref a) [] .none (o++[ko (Er l)]) k)
def yB(e m:ol)(q z:W)(f:Ev.b9){b:Type}:W->W->Y (Gs×En)->(Gs->Y En->Ev.ae->W->W->b)->b:=bm (motive:=λ_=>W->W->Y (Gs×En)->(Gs->Y En->Ev.ae->W->W->b)->b) (λa t _ k=>k [] [] [] a t) (λs _ i a t x k=>Ev.l8 s (i a t x k) (fu:=λ_ _ _ _ _=>mB e m q z s a t λo g h a t=>fi a λa=>fi t λt=>i a t x λc d j=>k (o++c) (g::d) ((fI s).1::4::h::j)) (asg:=λ_ v _=>(λQ:b=>Ev.oW v Q (co:=λe _ _=>a_ (motive:=λ_=>b) e Q (λ_=>Q) (λ_=>Q) (λ_=>Q) (λ_ _=>Q) (λs=>i a (t+2) x λc d=>k c (en "id" (t+1) (.str s t)++d)) (λ_=>Q) Q)) (lz x (i a t x k) λy x=>fi (a+y.1.length) λa=>fi (y.2.2.1+1) λt=>i a t x λc d=>k (y.1++c) (y.2::d)))) f
def rV(l:Ev.ae):Ev.aP:=l.map ff
abbrev Ds:=ol×Ev.ae×W×Ev.ae×Y (Gs×En)
def kO(d:Ds)(m:ol)(q l:W)(v:Y lm)(c:Ev.b9)(a t z:W){b:Type}(k:Gs->Y En->Ev.ae->W->W->b):b:=yB d.1 m q (a+3) c (a+7+z) (t+12) d.2.2.2.2 λf e i x y=>fi x λx=>fi y λy=>fi (y+v.length) λu=>let A:=x+2;let r:=d.2.1;let n:=d.2.2.1;let b:=nw d.1;let T:Ev.aP:=n3 n [.type "object"] [.type "object"] [.type "Exception",.type "BaseException",.type "object"];let B:Ev.aP:=lz r (T.take 1) λc _=>[.ref c];let E:=e++en "__static_attributes__" u (.ref x);let h:=en "__module__" (t+7) (.str m q);let g:=en "__firstlineno__" (t+11) (.int (wv l) (t+10));let X:=lz r (n3 n 2 2 1) λ_ _=>0;let w:=u+3+X+X+z+n3 X 0 2 0;k (ob [lz r (n3 n t0 (Er B) (Er B)) λ_ _=>Er B,Ry "builtin_function_or_method" [.builtin "type.__prepare__",.type "type"]]++((J,λP=>gO P (4+e.length) (h++(en "__qualname__" (t+9) (.str b (t+8))++(g++E)))):: (n3 z [] [ko (aix (O (.ref A)))] []++(ob [t0,fL i,Xb d.1 d.1 (t+2) l 0 0 (a+3+z) J (a+4+z) .none .none .none (t+5),Ã [O (.ref (a+5+z)),O (.ref 3),O (.ref (a+2)),C,O (.str m q),C,O (.ref 0)]]++(f++ (ko (tS y v)::(U,λP=>gO P (2+X+z) (h++(g++(E++(n3 X [] (en "__weakref__" (u+2) (.ref (A+1))) (en "__dict__" (u+2) (.ref (A+1))++en "__weakref__" (u+4) (.ref (A+2)))++en "__doc__" (u+1+X+X+z) .none))))):: ko (aiw d.1 B (.ref A::rV r++T) (x+1) (rV d.2.2.2.1) [lz r (n3 n C (O (.ref a)) (O (.ref a))) λ_ _=>O (.ref a),C,O (.str b t),O (.str b (t+8)),O (.builtin (n3 n "object.__new__" "object.__new__" "Exception.__new__")),O (.bool U)]):: (let c:=[ko (Ry "getset_descriptor" [.str "__weakref__" (u+X+X-1),.ref A,.builtin "ExceptionGroup.__weakref__",.none])];n3 X [] c (ko (Ry "getset_descriptor" [.str "__dict__" (u+1),.ref A,.builtin "function.__dict__",.builtin "function.__dict__#set"])::c)++ob [Ry "super" [.ref A,.ref A,.ref A],Ry "builtin_function_or_method" [.builtin "object.__init_subclass__",.ref A]]))))))) (en b w (.ref A)) [l,0,a+5+z] (A+X+3) (w+1)
def tB(b:Ev.b9){a:Type}:ol->W->W->W->Y Ds->(ol->W->Gs->Y En->Ev.ae->a)->a:=bm (motive:=λ_=>ol->W->W->W->Y Ds->(ol->W->Gs->Y En->Ev.ae->a)->a) (λm q _ _ _ k=>k m q [] [] []) (λs _ i m q a t d k=>Ev.l8 s (i m q a t d k) (fu:=λ_ _ _ _ _=>mB "" m q 0 s a t λo e f a t=>fi a λa=>fi t λt=>i m q a t d λm q c g h=>k m q (o++c) (e::g) ((fI s).1::0::f::h)) (asg:=λ_ _ _=>lz d (i m q a t d k) λy d=>fi t λq=>fi (t+2) λt=>i y.1 q a t d k) (kl:=λb v p=>lz d (i m q a t d k) λy d=>kO y m q p.line v b a t (cond (b.any λs=>(fI s).2.2.2.2) 1 0) λo e f a t=>fi a λa=>fi t λt=>i m q a t d λm q c g h=>k m q (o++c) (e++g) (f++h))) b
def xT(g:Gs)(n:lm)(t r:W):Gs×En:=(g,n,t,.ref r)
def cM(s:ol):Ds:=(s,[],0,[],[])
def cE(s:ol)(r b:Ev.ae):Ds:=(s,r,0,b,[])
def cT(s:ol):Ds:=cE s [114] []
def dL(x y:Ev.ae):Y Ds:=[cM "yaml.error",("Mark",[],0,[],[]),("YAMLError",[],2,[95,659],[]),("MarkedYAMLError",[67],2,x,[]),cM "yaml.tokens",("Token",[],1,[135,147,159,179,191,203,215,227,239,251,263,275,287,299,311,323,342,361,380,400],[]),cT "DirectiveToken",cT "DocumentStartToken",cT "DocumentEndToken",cT "StreamStartToken",cT "StreamEndToken",cT "BlockSequenceStartToken",cT "BlockMappingStartToken",cT "BlockEndToken",cT "FlowSequenceStartToken",cT "FlowMappingStartToken",cT "FlowSequenceEndToken",cT "FlowMappingEndToken",cT "KeyToken",cT "ValueToken",cT "BlockEntryToken",cT "FlowEntryToken",cT "AliasToken",cT "AnchorToken",cT "TagToken",cT "ScalarToken",cM "yaml.events",("Event",[],1,[449,481,501,513,533,553],[]),cE "NodeEvent" [427] [469,565,585],cE "CollectionStartEvent" [449,427] [597,621],cE "CollectionEndEvent" [427] [609,633],cE "StreamStartEvent" [427] [],cE "StreamEndEvent" [427] [],cE "DocumentStartEvent" [427] [],cE "DocumentEndEvent" [427] [],cE "AliasEvent" [449,427] [],cE "ScalarEvent" [449,427] [],cE "SequenceStartEvent" [469,449,427] [],cE "SequenceEndEvent" [481,427] [],cE "MappingStartEvent" [469,449,427] [],cE "MappingEndEvent" [481,427] [],cM "yaml.reader",("ReaderError",[67],2,[],[]),("Reader",[],1,y,[]),cM "yaml.scanner",("ScannerError",[95,67],2,[],[]),("SimpleKey",[],0,[],[]),("Scanner",[730],0,[1521],[xT [(U,λP=>dO P 18 [eS "0" 1905 "\x00" 1906,eS "a" 1908 "\x07" 1909,eS "b" 1911 "\x08" 1912,eS "t" 1914 "\t" 1915,eS "\t" 1917 "\t" 1918,eS "n" 1920 "\n" 1921,eS "v" 1923 "\x0b" 1924,eS "f" 1926 "\x0c" 1927,eS "r" 1929 "\x0d" 1930,eS "e" 1932 "\x1b" 1933,eS " " 1935 " " 1936,("\"",1938,.str "\"" 1939),eS "\\" 1941 "\\" 1942,eS "/" 1944 "/" 1945,eS "N" 1947 "" 1948,eS "_" 1950 " " 1951,eS "L" 1953 " " 1954,eS "P" 1956 " " 1957]),(J,λ_=>t0)] "ESCAPE_REPLACEMENTS" 1959 1213,xT [(U,λP=>dO P 3 [("x",1960,.int (2) 1961),("u",1962,.int (4) 1963),("U",1964,.int (8) 1965)])] "ESCAPE_CODES" 1969 1215]),cM "yaml.parser",("ParserError",[95,67],2,[],[]),("Parser",[1281,730],0,[],[xT [(U,λP=>dO P 2 [eS "!" 2128 "!" 2129,eS "!!" 2130 "tag:yaml.org,2002:" 2131])] "DEFAULT_TAGS" 2134 1304]),cM "law_te0056_02"]
def oL(b:Ev.b9)(d:Y Ds)(e:Y En)(g:Gs):Gs:=tB b "__main__" 164 15 187 d λm q a b c=>[(J,boot_o_0),(U,boot_o_1),(U,λP=>dN P 2 [("type.__subclasses__.Exception.0",276,.int (67) 0),("type.__subclasses__.Exception.n",277,.int (1) 0)]),(U,λP=>let l:=b++e;gO P (9+l.length) ((("__name__",165,.str m q)::[("__doc__",166,.none),("__package__",167,.none),("__loader__",168,.builtin "__main__.__loader__#opaque"),("__spec__",169,.none),("__annotations__",170,.ref 6),("__builtins__",171,.ref 4),("__file__",173,.str "/claim/cut.py" 172),("__cached__",174,.none)]:Y En)++l)),(J,boot_o_4),(J,boot_o_5),(J,boot_o_6),(J,boot_o_7),(J,boot_o_8),(J,boot_o_9),(J,boot_o_10)]++(ob [t0,fL c,Xb "<module>" "<module>" 182 1 0 0 11 J 12 .none .none .none 185,Ã [O (.ref 13),O (.ref 3),O (.ref 3),C,O (.str "__main__" 164),C,O (.ref 0)]]++(a++g))
def mL(P:wf):Y xL:=(oL (pw.main.body.take 49) (dL [744] []) [] []).map (·.2 P)
def eo(l:Y xL):Y xL×Y xL:=bm (motive:=λ_=>Y xL×Y xL) ([],[]) (λa _ i=>(a::i.2,i.1)) l
def bT(n:W):Y xL->BT:=ul (motive:=λ_=>Y xL->BT) (λ_=>.nil) (λ_ i l=>bm (motive:=λ_=>BT) .nil (λo r _=>.node o (i (eo r).1) (i (eo r).2)) l) n
def aiA(P:wf):BT:=bT 11 (mL P)
def S0(w:ty)(a:c6):ge:=⟨py w.params,b! [],a5,g?,a⟩
def Sa(w:ty)(a:c6):o!:=⟨aiy (aiz w.params),15,(py w.params).life,b! [],a5,187,a⟩
def Sm(w:ty)(a:c6):o!:=⟨aiA w.params,768,(py w.params).life,b! [],a5,1342,a⟩
def kG:Gs:=oL (pw.main.body.take 63) (dL [744,1293] [1281]) (en "law" 2509 (.ref 1591)) (ob [t0,t0,t0]++[ko (Ń (Z2 63) "" 2504 1628 1 3 1587 U 1588 .none .none (.ref 1589) 2507),ko (Ġ (Z2 63) "" .none (.str "law_te0056_02" 2419) 1590 [] .none)])
def kI(l:Gs):W->Y (W×(wf->xL)):=bm (motive:=λ_=>W->Y (W×(wf->xL))) (λ_=>[]) (λg _ i n=>cond g.1 ((n,g.2)::i (n+1)) (i (n+1))) l
def K(P:wf):WP:=(kI kG 0).map λx=>(x.1,x.2 P)
def keys:Y ii:=(kI kG 0).map (·.1)
def q:zs:={pw with main:={pw.main with body:=pw.main.body.drop 63} }
def loose:Y lm:=pw.boundNames.filter (λn=>n !=("law":lm))
def cut:bf=bf.take 49++bf.drop 49:=(BO 49 bf).symm
def ZB(w:ty)(a:c6):X2 pw w 11 (O (.ref 6)) 12 (S0 w a) (topStub pw)=O ((Sa w a).abs,⟨Å cB,cB,p0,[az p0]⟩):=by kernel_rfl
def t!(w:ty)(a:c6):segRun v1 pw w 11 (O (.ref 6)) 1 1 (Sa w a).abs (blockOf bf qb cB p0 [az p0])=O (.next,(Sa w a).abs,cB,p0):=by kernel_rfl
def size(w:ty):((py w.params).isNs lw,(py w.params).objs.size,(py w.params).nsMap lw "__annotations__")=(U,11,O (.ref 6)):=by kernel_rfl
def aiB(w:ty)(a:c6):Rv pw w 11 (O (.ref 6)) 1 10366 (Sa w a) (sv (bf.take 49) qb cB p0 [az p0])=O (.next,Sm w a,cB,pM):=by kernel_rfl
def keys_eq(P:wf):keys=(K P).map (·.1):=by kernel_rfl
def Xc:keys.all (λa=>jp a 1592):=by decide+kernel
def Xd(P:wf):(K P).all (λp=>!p.2.isFreed)=U:=by kernel_rfl
abbrev seenQ:=PySem.W.Fast.tw4187177175401517315
def Rz:@ki=seenQ:=PySem.W.Fast.te4187177175401517315
def Â(w:ty)(r:N (Flow×o!×Code×ww)):=r.map λx=>(x.1,x.2.2.1,(nr (rc pw.main.body) (py w.params) x.2.1.abs.heap&&kq pw x.2.1.abs.heap&&rx x.2.1.abs&&rv (py w.params) x.2.1.abs.heap),seenQ q loose (rc pw.main.body) (λ_=>U) U x.2.1.abs,(keys.map x.2.1.tree.get,x.2.1.n,x.2.1.toks))
abbrev wF(w:ty):ty:=w.withFollow "special-get-raises" J
abbrev wT(w:ty):ty:=w.withFollow "special-get-raises" U
abbrev aZ(w:ty)(os:c6):=Rv pw w 11 (O (.ref 6)) 1 4798 (Sm w os) (sv (bf.drop 49) qb cB pM [az p0])
abbrev Á(w:ty):=(Flow.next,cB,U,kn q loose,(((K w.params).map λp=>O p.2),1592,2510))
def aiC(w:ty)(a:c6):Â (wF w) (aZ (wF w) a)=O (Á (wF w)):=by kernel_rfl
def aiD(w:ty)(a:c6):Â (wT w) (aZ (wT w) a)=O (Á (wT w)):=by kernel_rfl
abbrev jq:OpenLaw:=et
abbrev M:W:=12+(1+(10366+(4798+2)))
def opn(w:ty):(fencedOpening v1 pw w M).map (λs=>(s.heap,s.gens,s.drawn,s.toks))=O (py w.params,b! [],a5,g?):=boot_open (by kernel_rfl) (by decide+kernel) (λs=>by kernel_rfl) w
def RA(w:ty)(h:∀a,Â w (aZ w a)=O (Á w)):
  (openEnds v1 pw w M).map (λs=>(ki q loose (rc pw.main.body) (λ_=>U) U s,X.obsZ keys s))=O (kn q loose,X.valZ K 1592 2510 w):=by
 refine Xa w (opn w) (size w) λa=>?_;obtain⟨⟨f,c,b,b⟩,e,d⟩:=ab.mp (h a);simp only[UV]at d;obtain⟨rfl,rfl,f,g,b⟩:=d;refine⟨c.abs,Hc (b:=bf) (l:=bf.take 49) (r:=bf.drop 49) cut (ZB w a) (t! w a) (aiB w a) e,?_⟩;refine pt f (pt ?_ (adf rfl (by rw[b.1,b.2.1,b.2.2]) (Xd _) Xc))
 have a:ki q loose (rc pw.main.body) (λ_=>U) U c.abs=kn q loose:=by rw[Rz];exact g
 exact a
def left:LeftO pw q loose (λ_=>U) (X.obsZ keys) (X.valZ K 1592 2510) M:=λw=>by(have e:=World.withFollow_self w "special-get-raises";cases a:w.params.followText "special-get-raises"<;>rw[a]at e);have:=RA (wF w) (aiC w);rw[show wF w=w from e]at this;exact this;have:=RA (wT w) (aiD w);rw[show wT w=w from e]at this;exact this
namespace Said
abbrev l:OpenLaw:=et
abbrev p:zs:=Re
abbrev D!:=PySem.W.Fast.tw13343964577679436407
abbrev V_:=PySem.W.Fast.tw17119622794617984870
abbrev ć:=PySem.W.Fast.tw8326940854005059898
def adk:@readsOut=D!:=PySem.W.Fast.te13343964577679436407
def RB:@RT=V_:=PySem.W.Fast.te17119622794617984870
def adl:@noRoadLSs=ć:=PySem.W.Fast.te8326940854005059898
def G2:D! p p.main.body ("vars":lm)=J:=by kernel_rfl
def A4:D! p p.main.body ("dir":lm)=J:=by kernel_rfl
def b3Q:D! p p.main.body ("locals":lm)=J:=by kernel_rfl
def agV:(["vars","dir","locals"]:Y lm).filter (readsOut p p.main.body)=[]:=by rw[adk];show List.filter (D! p p.main.body) [("vars":lm),("dir":lm),("locals":lm)]=[];rw[ar,G2,ar,A4,ar,b3Q];rfl
def n0Q:ć {strict:=!(rc p.main.body).all cThrough.contains,foot:=C,bare:=[]} p.main.body:=by kernel_rfl
def n1Q:noRoadLSs {strict:=!(rc p.main.body).all cThrough.contains,foot:=C,bare:=(["vars","dir","locals"]:Y lm).filter (readsOut p p.main.body)} p.main.body:=by rw[agV,adl];exact n0Q
def c2':PySem.W.Fast.tw8377067652309620493 p:=by kernel_rfl
theorem c2Q:namesResolve p:=by rw[PySem.W.Fast.te8377067652309620493];exact c2'
def c3:(p.boundNames.all (λn=>!worldNames.contains n)):=by kernel_rfl
def m0:(V_ p p.main.body λ_ n=>attrL n):=by kernel_rfl
def m1:(RT p p.main.body λ_ n=>attrL n):=by rw[RB];exact m0
def c1:(sreFenced p.main&&((moduleNames p.main.body).isEmpty||lookedIntoSs (moduleNames p.main.body) p.main.body)):=by kernel_rfl
def agW:looksOpen p:=by unfold looksOpen;exact io (io (io (io c1 c2Q) c3) n1Q) m1
def m2:(V_ l.prog l.above (λ_ n=>!l.own.contains n)):=by kernel_rfl
def m3:RT l.prog l.above (λ_ n=>!l.own.contains n):=by rw[RB];exact m2
def agX:l.row.partSaid:=by
 unfold OpenRow.partSaid;refine io (io (io (io (io (io (io (io (io (io (io (io (io agW ?_) ?_) ?_) ?_) ?_) ?_) ?_) ?_) ?_) ?_) ?_) ?_) ?_
 all_goals kernel_rfl
def aiE:l.row.wellSaid:=by unfold OpenRow.wellSaid;exact io (io agX (by kernel_rfl)) (by kernel_rfl)
def aiF:l.wellSaid:=by
 unfold OpenLaw.wellSaid;refine io (io (io (io (io (io (io (io (io (io (io (io (io (io (io (io (io (io aiE ?_) ?_) ?_) ?_) ?_) ?_) ?_) ?_) ?_) ?_) ?_) ?_) ?_) ?_) ?_) ?_) m3) ?_
 all_goals kernel_rfl
end Said
def Et:DefRec:=Ev.l8 (Z2 63) ⟨l1,⟨[],[],C,[],[],C,[]⟩,[],⟨.module,[],J,J,[]⟩,p0⟩ (fu:=λa b c d e=>⟨a,b,c,d,e⟩)
def Xe:defOf q jq.row.name=O (Et,[]):=by kernel_rfl
def Xf:jq.row.prog.theDef jq.row.name=O (Et.params,Et.body,Et.scope):=by kernel_rfl
def adm:kwWritten? Et.params.kwonlyargs Et.params.kw_defaults=O []:=by kernel_rfl
def adn:(chainsOk q&&opensWell jq.row.prog&&(frees jq.row.toRowW&&jq.row.within.isEmpty)):=by kernel_rfl
def ado:PySem.W.Fast.tw6116379765354995101 e4 pw.main=U:=by kernel_rfl
def whole:pw.tablesWhole:=by rw[Rx pw Z Z Z,PySem.W.Fast.te6116379765354995101];exact ado
def RC:jq.row.prog.bare:=⟨Z,Z,Z,Z,Z,whole⟩
def Xg:jq.row.toRowW.promised:=⟨[.list []],by decide+kernel,by decide+kernel⟩
def head(b:WalkX q loose (λ_ _=>mf) (X.obsZ keys) (X.valZ K 1592 2510) jq.row.toRowW Et [] λf a=>dn f a):jq.Holds:=holds_law Said.aiF λa=>holds_openX (r:=jq.row) (q:=q) (loose:=loose) (Xt:=λ_=>U) (XP:=λ_ _=>mf) (Yf:=X.obsZ keys) (Ya:=X.valZ K 1592 2510) (N:=M) left (λ_ _=>trivial) (λ_ _ _ _ _=>trivial) Xe Xf adm (λ_ _=>recFacts_nil Z) Z a adn RC Xg b
end
end Hd
namespace Ev
section
local macro_rules | `(tactic| trivial) => `(tactic| first | exact aa | exact fun _ => aa | exact fun _ _ => aa | exact ao | exact fun _ => ao | exact fun _ _ => ao | exact id | exact fun _ => id)
abbrev KP(P:wf):WP:=Hd.K P
def R!{a:Type}(w:bv)(d:a)(i:D->a:=λ_=>d)(s:lm->W->a:=λ_ _=>d)(rf:ii->a:=λ_=>d):a:=ô (motive:=λ_=>a) w d d d (λ_=>d) (λj _=>i j) (λ_ _=>d) s (λ_ _=>d) (λ_=>d) (λ_=>d) rf
def tn{a:Type}(o:xL)(d:a)(sq:XV bv->a:=λ_=>d)(ce:eU->a:=λ_=>d)(fu:sw->a:=λ_=>d)(cl:ClassData->a:=λ_=>d)(fl:XV bv->a:=λ_=>d):a:=Data.casesOn (motive:=λ_=>a) o.data d (λ_=>d) (λx _=>sq x) (λ_ _=>d) (λ_ _ _=>d) (λ_ _=>d) ce fu cl fl d
def strOf(w:bv):N (lm×W):=R! w C (s:=λs t=>O (s,t))
def intOf(w:bv):N D:=R! w C (i:=O)
def refOf(w:bv):N ii:=R! w C (rf:=O)
def Eu(o:xL):N sw:=tn o C (fu:=O)
def zE(o:xL):N ClassData:=tn o C (cl:=O)
def JO(o:xL):N (XV bv):=tn o C (fl:=O)
def RD(o:xL):N (eU):=tn o C (ce:=O)
def À(b:FuncBody):N (b9):=FuncBody.casesOn (motive:=λ_=>N (b9)) b O λ_=>C
def RG(o:xL):N (aP):=gd (a? (o.cls=.type "tuple")) (gd o.dict.isNone (gd o.slots.isEmpty (tn o C (sq:=λx=>O x.toList))))
def cst(v:V)(w:bv):I:=dP v J (no:=a? (w=.none)) (bo:=λb=>a? (w=.bool b)) (i:=λi=>oc (intOf w) (λj=>a? (j=i)) J) (s:=λl=>oc (strOf w) (λq=>a? (q.1.cps.toList=l)&&EA q.1) J) (tu:=λl=>l.isEmpty&&a? (w=.ref 784))
def codeB(K:WP)(a:bv)(q:lm):I:=oc (refOf a) (λc=>oc (K.lookup c) (λo=>oc (JO o) (λa=>oc (a[1]?:eU) (λw=>oc (strOf w) (λp=>a? (p.1=q)) J) J) J) J) J
def JP(b:jL):jL×jL:=bm (motive:=λ_=>jL×jL) ([],[]) (λp r a=>oc p.2 (λ_=>([],p::r)) (p::a.1,a.2)) b
def Y?(b:jL):aP->I:=bm (motive:=λ_=>aP->I) (λa=>lc a U λ_ _=>J) (λp _ c a=>oc p.2 (λv=>lc a J λw a=>cst v w&&c a) J) b
def ł(K:WP)(a:jL)(d:bv):I:=oc (refOf d) (λT=>oc (K.lookup T) (λo=>oc (RG o) (Y? (JP a).2) J) J) (a? (d=.none)&&lc (JP a).2 U λ_ _=>J)
def Xh(a:Y (lm×W1))(k:W1)(l:ae):I:=aI (λx=>a? (a.lookup (IN x)=O k)) l
def xP(l:ae):I:=bm (motive:=λ_=>I) U (λa l b=>!aq l a&&b) l
def ă(p:l5):I:=p.posonlyargs.isEmpty&&(p.kwonlyargs.isEmpty&&(p.vararg.isNone&&p.kwarg.isNone))
def X!(K:WP)(a:sw)(c:b9)(b:S)(d e f:ae):I:=lF IN b c&&(codeB K a.code a.qualname&&(!a.scope.isCoroutine&&(!a.scope.isGenerator&&(a? (a.scope.kind=.function)&&(ac a.globals lw&&(ac a.builtins wp&&(ă a.params&&(a? (a.params.args.map (·.arg)=d.map IN)&&(Xh a.scope.names .local e&&Xh a.scope.names .globalImplicit f)))))))))
def ġ(K:WP)(d:Def)(o:xL):I:=oc (Eu o) (λa=>oc (À a.body) (λb=>X! K a b d.body (d.params.map (·.1)) d.lv d.gv&&(a.scope.names.all (λx=>!a? (x.2=.cell))&&(ł K d.params a.defaults&&(uR d.lv d.body&&(aI (λp=>aq d.lv p.1) d.params&&xP (d.params.map (·.1))))))) J) J
def ģ(K:WP)(c d e f:ae)(b:S)(o:xL):I:=oc (Eu o) (λa=>oc (À a.body) (λg=>X! K a g b c d e&&(a.closure.isEmpty&&(a? (a.defaults=.none)&&Xh a.scope.names .cell f))) J) J
def SK(P:wf)(a:ii)(d:Def):I:=oc ((KP P).lookup a) (ġ (KP P) d) J
def Wc{M:bv->Prop}(w:bv)(a:M .none:=by trivial)(c:M .ellipsis:=by trivial)(d:M .notImplemented:=by trivial)(e:∀b,M (.bool b):=by trivial)(i:∀j t,M (.int j t):=by trivial)(f:∀j t,M (.float j t):=by trivial)(s:∀s t,M (.str s t):=by trivial)(g:∀j t,M (.bytes j t):=by trivial)(h:∀b,M (.type b):=by trivial)(k:∀b,M (.builtin b):=by trivial)(rf:∀b,M (.ref b):=by trivial):M w:=ô w a c d e i f s g h k rf
def xQ{q:lm×W}:strOf w=O q->w=.str q.1 q.2:=Wc (M:=λw=>strOf w=O q->w=.str q.1 q.2) w (s:=λ_ _ h=>au h▸Z)
def RH:intOf w=O j->∃t,w=.int j t:=Wc (M:=λw=>intOf w=O j->∃t,w=.int j t) w (i:=λ_ t h=>⟨t,au h▸Z⟩)
def xR:refOf w=O a->w=.ref a:=Wc (M:=λw=>refOf w=O a->w=.ref a) w (rf:=λ_ h=>au h▸Z)
def Dc{M:Data->Prop}(d:Data)(a:M .plain:=by trivial)(b:∀v,M (.prim v):=by trivial)(sq:∀x n,M (.seq x n):=by trivial)(c:∀x n,M (.dict x n):=by trivial)(se:∀x n t,M (.set x n t):=by exact λ_ _ _=>aa)(e:∀x n,M (.bytearray x n):=by trivial)(ce:∀v,M (.cell v):=by trivial)(fu:∀f,M (.func f):=by trivial)(cl:∀f,M (.cls f):=by trivial)(fl:∀f,M (.fields f):=by trivial)(g:M .freed:=by trivial):M d:=Data.casesOn d a b sq c se e ce fu cl fl g
def sA:Eu o=O f->o.data=.func f:=Dc (M:=λd=>Eu {o with data:=d}=O f->d=.func f) o.data (fu:=λ_ h=>au h▸Z)
def Bu:zE o=O f->o.data=.cls f:=Dc (M:=λd=>zE {o with data:=d}=O f->d=.cls f) o.data (cl:=λ_ h=>au h▸Z)
def JQ:JO o=O f->o.data=.fields f:=Dc (M:=λd=>JO {o with data:=d}=O f->d=.fields f) o.data (fl:=λ_ h=>au h▸Z)
def Xi:RD o=O f->o.data=.cell f:=Dc (M:=λd=>RD {o with data:=d}=O f->d=.cell f) o.data (ce:=λ_ h=>au h▸Z)
def JR{l:b9}(h:À b=O l):b=.stmts l:=by induction b with|stmts a=>exact au h▸Z|expr=>exact aa (h)
def adq{s:XV (eU)}{l:aP}:tn ⟨c,C,d,s⟩ C (sq:=λx=>O x.toList)=O l->∃n,d=.seq l.toArray n:=Dc (M:=λd=>tn ⟨c,C,d,s⟩ C (sq:=λx=>O x.toList)=O l->∃n,d=.seq l.toArray n) d (sq:=λx n h=>⟨n,by rw[<-au h]⟩)
def Xj{l:aP}(h:RG o=O l):∃n,o=jS l n:=by obtain⟨c,d,t,s⟩:=o;refine bW h λb h=>bW h λa h=>bW h λe h=>?_;have a:d=C:=vz.mp a;rw[a]at h ⊢;obtain⟨n,h⟩:=adq h;exact⟨n,by rw[show c=.type "tuple" from aO b,h,show s=#[]from Array.isEmpty_iff.mp e];rfl⟩
def He(b:B 784 (jS [] 0)){v:V}{w:bv}:cst v w->Rd g B w v:=Vc (M:=λv=>cst v w=U->Rd g B w v) v (no:=aO) (bo:=λ_=>aO) (i:=λi h=>jm h λj c e=>by
  obtain⟨t,a⟩:=RH c;exact⟨t,aO e▸a⟩) (s:=λl h=>jm h λq c e=>ag e λd a=>ag a λa e=>⟨q.1,q.2,xQ c,aO d,ay (cw a) (aO Z),e⟩) (tu:=λl h=>ag h λa c=>by
  rw[cO.mp a];exact⟨784,[],0,aO c,b,eG _,Z⟩)
section
variable{K:WP}{g:fA}{B:bl}{q:lm}{cd d w:bv}{F:jL}{ws:aP}{l lv gv G:ae}{f:ii}{o:xL}{D:Def}{b:S}{fd:sw}{body:b9}
def RI(h:codeB K cd q){a:t3}(X:K.In a):a.CodeRec cd q:=jm h λc a h=>jm h λo e h=>jm h λi j h=>jm h λw k h=>jm h λp m h=>⟨c,o,i,p.2,xR a,X _ _ e,JQ j,by rw[k,xQ m,aO h]⟩
def Bw:F=(JP F).1++(JP F).2/\∀p∈(JP F).1,p.2=C:=by induction F with|nil=>exact⟨Z,λ_ h=>ch h cr⟩|cons p r a=>show p::r=(oc p.2 (λ_=>([],p::r)) (p::(JP r).1,(JP r).2)).1++(oc p.2 (λ_=>([],p::r)) (p::(JP r).1,(JP r).2)).2/\∀q∈(oc p.2 (λ_=>([],p::r)) (p::(JP r).1,(JP r).2)).1,q.2=C;cases e:p.2 with|some v=>exact⟨Z,λ_ h=>ch h cr⟩|none=>exact⟨ah (p::·) a.1,λq h=>(c?.mp h).elim (λz=>z▸e) (a.2 q)⟩
def ads(a:B 784 (jS [] 0)):∀{ws},Y? F ws->Kx g B F ws:=by induction F with|nil=>(intro ws h;induction ws with|nil=>exact⟨[],Z,Z⟩|cons _=>exact ao h)|cons p r c=>refine λ{ws}h=>jm h λv e h=>?_;induction ws with|nil=>exact ao h|cons w ws _=> refine ag h λh i=>?_;obtain⟨j,k,r⟩:=c i;exact⟨v::j,by rw[fR,fR,k,e],w,ws,Z,He a h,r⟩
def adt(m:∀e o,K.lookup e=O o->B e o)(k:B 784 (jS [] 0))(h:ł K F d):∃e i a,F=e++i/\(∀p∈e,p.2=C)/\Kx g B i a/\((d=.none/\a=[])∨∃T n,d=.ref T/\B T (jS a n)):=by cases c:refOf d with|none=>(have h:oc (refOf d) _ (a? (d=.none)&&lc (JP F).2 U λ_ _=>J)=U:=h;rw[c]at h;refine ag h λe j=>⟨_,_,[],Bw.1,Bw.2,?_,.inl ⟨aO e,Z⟩⟩;cases e:(JP F).2 with|nil=>exact⟨[],Z,Z⟩|cons=>rw[e]at j;exact ao j)|some T=> have h:oc (refOf d) (λT=>oc (K.lookup T) (λo=>oc (RG o) (Y? (JP F).2) J) J) _=U:=h;rw[c]at h;refine jm h λo i h=>jm h λa j h=>?_;obtain⟨n,e⟩:=Xj j;exact⟨_,_,a,Bw.1,Bw.2,ads k h,.inr ⟨T,n,xR c,e▸m _ _ i⟩⟩
def Hg(h:Xh a k l)(x:W)(c:aq l x):a.lookup (IN x)=O k:=aO (ai h (fT c))
def RJ:xP l->l.Nodup:=by induction l with|nil=>exact λ_=>.nil|cons a l c=>exact λh=>ag (h) λa e=>mT.mpr ⟨λq=>by rw[o3 q]at a;exact ao a,c e⟩
def not_of{b:I}(h:(!b)):b=J:=by induction b with|true=>exact ao h|false=>rfl
def agZ{p:l5}(h:ă p):gm p:=ag h λa h=>ag h λc h=>ag h λe h=>⟨cO.mp a,cO.mp c,vz.mp e,vz.mp h⟩
def Ģ{P:Prop}(c:∀a o,K.lookup a=O o->B a o)(h:X! K fd body b l lv gv)(k:lF IN b body->(∀h,dq B h->h.CodeRec fd.code fd.qualname)->fd.scope.isCoroutine=J->fd.scope.isGenerator=J->fd.scope.kind=.function->fd.globals=lw->fd.builtins=wp->gm fd.params->fd.params.args.map (·.arg)=l.map IN->(∀x,aq lv x->fd.scope.names.lookup (IN x)=O .local)->(∀x,aq gv x->fd.scope.names.lookup (IN x)=O .globalImplicit)->P):P:=ag h λe h=>ag h λi h=>ag h λj h=>ag h λm h=>ag h λn h=>ag h λp h=>ag h λr h=>ag h λs h=>ag h λt h=>ag h λh u=> k e (λe e=>RI i λa o i=>e a o (c a o i)) (not_of j) (not_of m) (aO n) (aK p) (aK r) (agZ s) (aO t) (Hg h) (Hg u)
variable(H:g.nm=IN)
def ag0(a:∀c o,K.lookup c=O o->B c o)(i:B 784 (jS [] 0))(e:K.lookup f=O o)(h:ġ K D o):∃fd body,FnAt g B f D o fd body:=jm h λfd c h=>jm h λbody j h=>ag h λk h=>ag h λm h=>ag h λn h=>ag h λr h=>ag h λh s=>Ģ a k λk t u v x y z A E lv gv=>⟨fd,body,a _ _ e,sA c,JR j,by rw[H];exact k,t,u,v,x,y,z,λx c q=>by have z:=E7.mp m x c;rw[cF q]at z;exact ao z,A,by rw[E,jv];show _=D.params.map λp=>g.nm p.1;rw[H];rfl,adt a i n,by rw[H];exact lv,by rw[H];exact gv,r,λp a=>ai h a,RJ s⟩
def Y4(c:∀a o,K.lookup a=O o->B a o)(e:K.lookup f=O o)(h:ģ K l lv gv G b o):∃fd body,í g B f l lv gv G o fd body/\lF g.nm b body:=jm h λfd a h=>jm h λbody i h=>ag h λj h=>ag h λk h=>ag h λh m=>Ģ c j λj n p r s t u v x lv gv=> ⟨fd,body,⟨c _ _ e,sA a,JR i,n,p,r,s,t,u,cO.mp k,v,by rw[H];exact x,aO h,by rw[H];exact lv,by rw[H];exact gv,by rw[H];exact Hg m⟩,by rw[H];exact j⟩
end
section
open Hd (Ep L5)
def qj:Y (W×W):=[(60,690),(100,706),(126,698),(91,713),(31,727),(128,1278),(56,834),(57,827),(51,813),(52,820),(240,1333),(168,1340),(173,1347),(181,1354),(179,1361),(183,1368),(182,1375),(180,1382),(208,1389),(204,1396),(187,1404),(197,1411),(199,1418),(192,1425),(198,1432),(202,1439),(203,1446),(194,1453),(207,1461),(200,1518),(175,792),(177,799),(170,806),(105,841),(90,848),(59,855),(110,862),(45,869),(61,876),(64,890),(66,897),(98,904),(67,911),(103,925),(69,932),(107,946),(73,960),(76,974),(77,981),(78,988),(79,995),(80,1002),(81,1009),(121,1016),(82,1023),(83,1030),(123,1037),(85,1044),(63,1058),(65,1065),(72,1072),(75,1086),(84,1093),(58,1100),(118,1163),(120,1170),(122,1177),(139,1184),(140,1191),(144,1198),(149,1205),(124,1212),(154,1222),(155,1229),(158,1236),(125,1243),(161,1250),(133,1264),(28,720),(37,668),(247,1530),(213,1537),(256,1544),(219,1551),(259,1558),(260,1565),(241,1572),(262,1579),(267,1586),(286,1591)]
def sI:Y (W×W):=[(32,53),(281,114),(174,135),(97,147),(99,159),(95,179),(96,191),(111,203),(115,215),(93,227),(102,239),(104,251),(106,263),(108,275),(113,287),(116,299),(112,311),(109,323),(117,342),(119,361),(134,380),(151,400),(282,427),(283,449),(284,469),(285,481),(172,501),(184,513),(178,533),(185,553),(189,565),(193,585),(191,597),(201,609),(195,621),(205,633),(92,763)]
def Av:Y (W×W):=[(176,1304),(156,1213),(157,1215)]
def gG:W:=1521
def Xk:ae:=[1,2,3,4,5,6,7,8,9,10,11,12,13,14,15,16,17,18,19,38,39,40]
def adr(l:Y (W×W))(x:W):W:=oc (aj x l) id 0
def uW(l:Y (W×W))(x:W):I:=aq (l.map (·.1)) x
def A2:Y (W×bv):=[(0,.builtin "len"),(1,.builtin "isinstance"),(3,.type "range"),(4,.type "enumerate"),(5,.type "list"),(7,.type "str"),(8,.builtin "max")]
def Y5(b:W):bv:=oc (aj b A2) id (.builtin "len")
def gW(w:ty)(a:I)(b c:ii)(d:I)(e:ii):fA:=⟨Hd.pw,w,adr sI,adr qj,Y5,adr Av,IN,uW sI,uW qj,uW Av,fK,aq Xk,a,b,c,gG,d,e⟩
def SM(s:lm):W:=bm (motive:=λ_=>W) 0 (λc _ i=>c+1+1114113*i) s.cps.toList
def Xl(x:N (eU)):I:=oc x Option.isNone J
variable(P:wf)
def clF(a:ii):=(sK (KP P) (.ref a) "__class__",zn (KP P) (.ref a) "__call__",sK (KP P) (.ref a) "__setattr__",mroIn (KP P) a (.type "object"),Xl (sK (KP P) (.ref a) "__bool__")&&(Xl (sK (KP P) (.ref a) "__len__")&&(j? (KP P) a ""&&(c5 (KP P) a&&(readsIn (KP P) a (.type "type")&&(H_ (KP P) a&&(ct (KP P) a&&(oc ((KP P).lookup a) (λo=>(zE o).isSome) J&&aI (λb=>Xl (sK (KP P) (.ref a) (IN b))) Xk))))))))
def aiG(a:ii)(q:W×V):I:=oc (sK (KP P) (.ref a) (IN q.1)) (λu=>oc u (λw=>Xl (zn (KP P) w "__get__")&&(a4 w&&(!b6.contains (IN q.1)&&(cst q.2 w&&oc (findCls (KP P) (.ref a) (.type "type") (IN q.1)) (λr=>CFound.casesOn (motive:=λ_=>I) r (λu=>a? (u=w)) λ_ _ _ _=>J) J)))) J) J
def ċ(m:W):=(sK (KP P) (.ref gG) (IN m),zn (KP P) (.ref (adr qj m)) "__get__",H' (KP P) (.ref (adr qj m)),uW qj m&&(isFn (KP P) (.ref (adr qj m))&&!b6.contains (IN m)))
def inB(p:W×XD):I:=oc (sK (KP P) (.ref (adr sI p.1)) "__init__") (λu=>oc (bn u refOf) (λf=>SK P f ⟨(0,C)::p.2.params,0::p.2.params.map (·.1),[],AD p.2.fields⟩&&a? (typeIn (KP P) (.ref f)=O (.type "function"))) J) J&&(aI (λq=>aq Xk q.1) p.2.fields&&(xP (p.2.fields.map (·.1))&&bd p.2.fields.length 1000))
def aiH:oh:=oK++ŀ
def X'(x a:W):I:=a? (nsIn (KP P) lw (IN x)=O (O (.ref a)))
def N2(k:W):I:=uW Av k&&(a? (sK (KP P) (.ref gG) (IN k)=O (O (.ref (adr Av k))))&&(Xl (zn (KP P) (.ref (adr Av k)) "__get__")&&(!b6.contains (IN k)&&!(adr Av k==Do))))
def Ō:Y (ol×W×bv):=[("!",2128,.str "!" 2129),("!!",2130,.str "tag:yaml.org,2002:" 2131)]
def ŋ:Y (ol×W×bv):=[("0",1905,.str "\x00" 1906),("a",1908,.str "\x07" 1909),("b",1911,.str "\x08" 1912),("t",1914,.str "\t" 1915),("\t",1917,.str "\t" 1918),("n",1920,.str "\n" 1921),("v",1923,.str "\x0b" 1924),("f",1926,.str "\x0c" 1927),("r",1929,.str "\x0d" 1930),("e",1932,.str "\x1b" 1933),(" ",1935,.str " " 1936),("\"",1938,.str "\"" 1939),("\\",1941,.str "\\" 1942),("/",1944,.str "/" 1945),("N",1947,.str "" 1948),("_",1950,.str " " 1951),("L",1953,.str " " 1954),("P",1956,.str " " 1957)]
def Ŋ:Y (ol×W×bv):=[("x",1960,.int (2) 1961),("u",1962,.int (4) 1963),("U",1964,.int (8) 1965)]
def Z?:Y (ae×V):=[([120],.int 2),([117],.int 4),([85],.int 8)]
variable(es:Y (ol×W×bv))
def SN:jc:=es.map λx=>(nw x.1,x.2.2)
def Dt:Y (ae×V)->I:=bm (motive:=λ_=>Y (ae×V)->I) (λl=>lc l U λ_ _=>J) (λx _ a l=>lc l J λq l=>a? ((nw x.1).cps.toList=q.1)&&(EA (nw x.1)&&(cst q.2 x.2.2&&a l))) es
def fAt:I:=aI (λp=>oc ((KP P).lookup p.2) (λo=>(Eu o).isSome) J) qj
def RK:(xP (So.map λs=>SM (nw s))&&aI (λs=>lc (nw s).cps.toList J λc _=>!ac c 0) So):=by kernel_rfl
def adw:sI.map (λp=>clF P p.2)=EN (λ_=>(O (O (.builtin "object.__class__")),O (O (.builtin "type.__call__")),O (O (.builtin "object.__setattr__")),O U,U)) sI:=by kernel_rfl
def adx:aI (λp=>aI (aiG P (adr sI p.1)) p.2.consts) yf=U:=by kernel_rfl
def ady:aI (λp=>aI (λk=>br (aq p.2.mro k.1) (isIn (KP P) (.ref (adr sI p.1)) k.2) (kin_not (KP P) (adr sI p.1) k.2)) sI) yf=U:=by kernel_rfl
def ag4:sK (KP P) (.ref gG) "__setattr__"=O (O (.builtin "object.__setattr__")):=by kernel_rfl
def xS:(j? (KP P) gG ""&&(c5 (KP P) gG&&(ct (KP P) gG&&(H_ (KP P) gG&&aI (λa=>Xl (sK (KP P) (.ref gG) (IN a))) (J!++yv))))):=by kernel_rfl
def adz:uv.map (λp=>ċ P p.1)=EN (λp=>(O (O (.ref (adr qj p.1))),O (O (.builtin "function.__get__")),O J,U)) uv:=by kernel_rfl
def adA:fAt P:=by kernel_rfl
def adB:(zn (KP P) (.builtin "object.__class__") "__get__",H' (KP P) (.builtin "object.__class__"))=(O (O (.builtin "getset_descriptor.__get__")),O U):=by kernel_rfl
def adC:((KP P).lookup Do).isSome=U:=by kernel_rfl
def adD:aI (λp=>SK P (adr qj p.1) p.2) uv=U:=by kernel_rfl
def RN:aI (λp=>SK P (adr qj p.1) p.2) aiH=U:=by kernel_rfl
def adE:oc ((KP P).lookup (adr qj 286)) (ģ (KP P) [242] yW.lv yW.gv [33] Sq) J=U:=by kernel_rfl
def Xm:aI (λp=>aq (pA.map (·.1)) p.1) (oK++pA)=U:=by kernel_rfl
def adF:aI (inB P) yf=U:=by kernel_rfl
def RU:aI (λp=>X' P p.1 p.2) ((237,gG)::sI)=U:=by kernel_rfl
def RW:aI (λp=>X' P p.1 (adr qj p.1)) pA=U:=by kernel_rfl
def adG:aI (λp=>Xl (nsIn (KP P) lw (IN p.1))&&!a? (IN p.1=nw "__name__")) u'=U:=by kernel_rfl
def adH:u'.map (λp=>m4 (IN p.1))=EN (λp=>mp (sQ p.2) Y5) u':=by kernel_rfl
def Hh:(N2 P 176&&(N2 P 156&&N2 P 157)):=by kernel_rfl
def adI:(KP P).lookup 1304=O (Ep P 2 Ō):=by kernel_rfl
def adJ:(KP P).lookup 1215=O (Ep P 3 Ŋ):=by kernel_rfl
def adK:(KP P).lookup 1213=O (Ep P 18 ŋ):=by kernel_rfl
def t8:(Dt Ō Di&&(xP (Di.map λp=>SM ⟨p.1.toArray⟩)&&(Dt ŋ Vf&&(xP (Vf.map λp=>SM ⟨p.1.toArray⟩)&&(Dt Ŋ Z?&&xP (Z?.map λp=>SM ⟨p.1.toArray⟩)))))):=by kernel_rfl
def Ç:(KP P).lookup 784=O (jS [] 0):=by kernel_rfl
def xU:IN jb="append"/\IN wa="extend"/\IN MD="pop"/\IN v9="insert"/\IN Fo="join":=⟨by kernel_rfl,by kernel_rfl,by kernel_rfl,by kernel_rfl,by kernel_rfl⟩
def JS:(aI (λp=>uW sI p.1) yf&&aI (λp=>uW qj p.1) pA):=by kernel_rfl
end
section
open Hd (Ep L5)
section
variable{n:Type}{f:n->W}{l:Y (W×W)}{x:W}
def ag5:∀{l:Y n}{x y:W}{c b:n},xP (l.map f)->l[x]?=O c->l[y]?=O b->f c=f b->x=y:=λ{l}=>by induction l with|nil=>exact λ_ h=>aa (il List.getElem?_nil h)|cons d l k=>have i:∀{y:W}{b:n},aq (l.map f) (f d)=J->l[y]?=O b->f d≠f b:=λh a e=>ao (il h (o3 (e▸fm (yG a))));intro x y c b h g a e;refine ag (show(!aq (l.map f) (f d)&&xP (l.map f))from h) λj m=>?_;induction x with|zero=>(induction y with|zero=>rfl|succ y=>exact ch (au g▸e) (i (not_of j) a))|succ x=>induction y with|zero=>exact ch (au a▸e.symm) (i (not_of j) g)|succ y=>exact ah pm (k m g a e)
def vu{i:W}{s:ol}(h:So[i]?=O s):IN i=nw s:=by unfold IN;rw[h]
def vv{i:W}(h:So[i]?=C):IN i=⟨#[0,i]⟩:=by unfold IN;rw[h]
def Hi(x y:W)(e:IN x=IN y):x=y:=by
 have c:∀{i k:W}{s:ol},So[i]?=O s->nw s≠⟨#[0,k]⟩:=λh q=>by have z:=ai (bO RK).2 (yG h);rw[q]at z;exact ao z
 cases b:So[x]? with
 |some s=>cases a:So[y]? with
  |some t=>exact ag5 (bO RK).1 b a (ah SM (il (vu b) (e.trans (vu a))))
  |none=>exact ch (il (vu b) (e.trans (vv a))) (c b)
 |none=>cases a:So[y]? with
  |some t=>exact ch (il (vu a) (il e (vv b))) (c a)
  |none=>exact(fq (fq (ah (λs:lm=>s.cps.toList) (il (vv b) (e.trans (vv a))))).2).1
def vx(h:uW l x):(x,adr l x)∈l:=by have h:aq _ x:=h;rw[<-ik]at h;unfold adr;cases e:aj x l with|some a=>exact cV e|none=>rw[e]at h;exact ao h
def uD(h:Xl z):z=O C:=jm h λu a h=>by rw[a,vz.mp h]
end
structure GS(G:cQ):Prop where
 cls:G.cls=λc=>aj c yf
 Ċ:G.du=jC
 cd:G.cA=mJ
 iy:(G.dT,G.dD,G.qs,G.ew,G.lE)=(jb,wa,MD,v9,Fo)
structure Start(w:ty)(h:t3)(mg mb:lm->eU):Prop where
 jB:(KP w.params).In h
 g:h.Ns lw mg
 b:h.Ns wp mb
 bi:∀x,x≠nw "__name__"->mb x=m4 x
 xV:h.NoLimit
abbrev B0(h:t3):bl:=λa o=>h.get? a=O o
section
variable{w:ty}{h:t3}{R T:lm->eU}{hp ht:I}{par dG aG:ii}{G:cQ}{c:W}{P:wf}
def Bx{Q:Prop}(d:uW sI c)(k:sK (KP P) (.ref (adr sI c)) "__class__"=O (O (.builtin "object.__class__"))->zn (KP P) (.ref (adr sI c)) "__call__"=O (O (.builtin "type.__call__"))->sK (KP P) (.ref (adr sI c)) "__setattr__"=O (O (.builtin "object.__setattr__"))->mroIn (KP P) (adr sI c) (.type "object")=O U->sK (KP P) (.ref (adr sI c)) "__bool__"=O C->sK (KP P) (.ref (adr sI c)) "__len__"=O C->j? (KP P) (adr sI c) ""->c5 (KP P) (adr sI c)->readsIn (KP P) (adr sI c) (.type "type")->H_ (KP P) (adr sI c)->ct (KP P) (adr sI c)->(∃o a,(KP P).lookup (adr sI c)=O o/\o.data=.cls a)->(∀b,aq Xk b->sK (KP P) (.ref (adr sI c)) (IN b)=O C)->Q):Q:=by have e:=gB (A7 (adw P) _ (vx d));have d:=gB e.2;have f:=gB d.2;have g:=gB f.2;exact ag g.2 λi z=>ag z λj z=>ag z λl z=>ag z λm z=>ag z λn z=>ag z λp z=>ag z λr z=>ag z λs t=>k e.1 d.1 f.1 g.1 (uD i) (uD j) l m n p r (jm s λo u h=>by cases q:zE o with|some a=>exact⟨o,a,u,Bu q⟩|none=>rw[q]at h;exact ao h) λb a=>uD (ai t (fT a))
def adM(d:((SN a).map (·.1)).Nodup):(Ep w.params n a).IsDictOf (No b w) (SN a):=
 ⟨_,n,⟨Z,Z,Z⟩,Z,λe e=>by
  obtain⟨x,_,q⟩:=eO.mp (List.mem_toArray.mp e);exact⟨x.1,q▸strKind_is b w x.1 x.2.1,q▸Z⟩,by
  clear d
  induction a with
  |nil=>exact Pairs.nil
  |cons x r f=>exact Pairs.cons (strKind_is b w x.1 x.2.1) Z f,d⟩
def adN{l:Y (ae×V)}(e:(SN a).map (·.1.cps.toList)=l.map (·.1))(b:xP (l.map λp=>SM ⟨p.1.toArray⟩)):((SN a).map (·.1)).Nodup:=by(have q:((SN a).map (·.1)).map (λs:lm=>SM ⟨s.cps.toList.toArray⟩)=l.map λp=>SM ⟨p.1.toArray⟩:=by have:=ah (b? λt:ae=>SM ⟨t.toArray⟩) e;rw[jv,jv]at this;rw[jv];exact this);exact List.Pairwise.of_map _ (λ_ _ n z=>n (z▸Z)) (q▸RJ b)
def ag6(b:F 784 (jS [] 0)){a:Y (ol×W×bv)}:∀{l:Y (ae×V)},Dt a l->(∀d∈SN a,hZ d.1)/\(SN a).map (·.1.cps.toList)=l.map (·.1)/\cD g F ((SN a).map (·.2)) (l.map (·.2)):=by induction a with|nil=> intro l h;rw[Yp h];exact⟨λ_ h=>ch h cr,Z,Z⟩|cons x r e=> refine λ{l}h=>Gl h λq a f h=>ag h λg h=>ag h λi h=>ag h λj k=>?_;obtain⟨m,n,c⟩:=e k;rw[f];exact⟨λd e=>(c?.mp e).elim (λz=>z▸Nt i) (m d),by show(nw x.1).cps.toList::(SN r).map _=q.1::a.map _;rw[aO g,n],_,_,Z,He b j,c⟩
def RX(S:Start w h R T){a n:W}{b:Y (ol×W×bv)}{l:Y (ae×V)}(e:(KP w.params).lookup a=O (Ep w.params n b))(s:Dt b l)(d:xP (l.map λp=>SM ⟨p.1.toArray⟩))(f:bd b.length 1000):∃o,h.get? a=O o/\∀p:Pt,(B0 h).le p.F->p.h.get? a=O o->Cd (gW w hp par dG ht aG) p a l:=⟨_,S.jB _ _ e,λp a hp=>by obtain⟨x,y,z⟩:=ag6 (a _ _ (S.jB _ _ (Ç w.params))) s;exact⟨SN b,Heap.dictOf_iff.mpr ⟨_,hp,adM (adN y d)⟩,ay (cZ (i9 _)) (ay (cw f) (aO Z)),x,y,z⟩⟩
def ĳ{Q:Prop}{l:Y (ae×V)}(e:mJ k=O l)(a:k=176->l=Di->Q)(b:k=156->l=Vf->Q)(d:k=157->l=Z?->Q):Q:=jg e (λh e=>a (aK h) (au e).symm) λ_ e=>jg e (λh e=>b (aK h) (au e).symm) λ_ e=>jg e (λh e=>d (aK h) (au e).symm) λ_=>aa
def RY{l:Y (ae×V)}(e:mJ k=O l):N2 P k:=ĳ e (λh _=>h▸(bO (Hh P)).1) (λh _=>h▸(bO (bO (Hh P)).2).1) λh _=>h▸(bO (bO (Hh P)).2).2
def ag7(e:jC m):ċ P m=(O (O (.ref (adr qj m))),O (O (.builtin "function.__get__")),O J,U):=by have e:(aj m uv).isSome=U:=e;cases q:aj m uv with|none=>rw[q]at e;exact ao e|some a=>exact A7 (adz P) _ (cV q)
def bi_or(b:W):(∃a,Y5 b=.builtin a)∨∃n,Y5 b=.type n:=by(have h:∀p∈A2,(∃a,p.2=.builtin a)∨∃n,p.2=.type n:=λp hp=>by simp only[A2,c?,cr,or_false]at hp;rcases hp with q|q|q|q|q|q|q<;>rw[q]<;>first|exact .inl ⟨_,Z⟩|exact .inr ⟨_,Z⟩);unfold Y5;cases q:aj b A2 with|none=>exact .inl ⟨_,Z⟩|some v=>exact h _ (cV q)
def ag8(b:W):a4 (Y5 b):=by unfold Y5;cases q:aj b A2 with|none=>kernel_rfl|some v=>exact E7.mp (show A2.all (λp=>a4 p.2)=U by kernel_rfl) _ (cV q)
def kf(S:Start w h R T)(g:GS G):KF (KP w.params) (gW w hp par dG ht aG) G (B0 h):=
 have t:=S.jB _ _ (Ç w.params);have n:=gB g.iy;have p:=gB n.2;have n3:=gB p.2;have r:=gB n3.2;have s:=λd i=>uD (ai (bO (bO (bO (bO (xS w.params)).2).2).2).2 (fT i))
 {inj:=Hi
  bool:=λc a=>Bx a λ_ _ _ _ h _ _ _ _ _ _ _ _=>h
  len:=λc a=>Bx a λ_ _ _ _ _ h _ _ _ _ _ _ _=>h
  handed:=ag8
  Kc:=λc _ a=>Bx a λ_ _ _ _ _ _ h _ _ _ _ _ _=>h
  Fv:=λc a=>Bx a λ_ _ _ _ _ _ _ h _ _ _ _ _=>h
  Ti:=λc d a i=>Bx a λ_ _ _ _ _ _ _ _ _ _ _ _ h=>h d i
  Ad:=λc a=>Bx a λ_ _ _ _ _ _ _ _ h _ _ _ _=>h
  const:=λc u d v v k=>jm (ai (ai (adx w.params) (cV (il (qo g.cls c) v))) (cV k)) λx v e=>jm e λy z e=>ag e λA e=>ag e λB e=>ag e λE e=>ag e λF e=>jm e λH K e=>by
   refine⟨y,v.trans (ah O z),uD A,B,not_of E,He t F,K.trans ?_⟩
   induction H with
   |val x=>rw[aO e]
   |get=>exact ao e
  Cf:=λ_ _=>(bO (xS w.params)).1
  Cg:=λ_=>(bO (bO (xS w.params)).2).1
  Ci:=λd _ i=>s d i
  KN:=λ_=>⟨ag4 w.params,(bO (bO (bO (xS w.params)).2).2).1⟩
  HC:=λd _ i=>by show ee (KP w.params) gG (IN d)=O C;unfold ee;rw[s d i];rfl
  Cj:=λi _ i=>by have e:=gB (ag7 (P:=w.params) (g.Ċ▸i));have k:=gB e.2;have i:=gB k.2;exact ag i.2 λf b=>ag b λb j=>⟨f,e.1,b,k.1,i.1,not_of j⟩
  Tj:=λc a=>Bx a λ_ b _ _ _ _ _ _ _ _ _ j _=>by obtain⟨o,i,d,k⟩:=j;exact⟨o,i,d,k,b⟩
  Fw:=λi i=>jm (ai (adA w.params) (vx i)) λo m e=>by
   cases q:Eu o with
   |some L=>exact⟨o,L,S.jB _ _ m,sA q⟩
   |none=>rw[q]at e;exact ao e
  N3:=bi_or
  G1:=Z
  O1:=Z
  Zu:=Z
  N?:=Z
  N!:=Z
  N_:=Z
  N':=Z
  dT:=by rw[n.1];exact xU.1
  dD:=by rw[p.1];exact xU.2
  qs:=by rw[n3.1];exact xU.3
  ew:=by rw[r.1];exact xU.4
  lE:=by rw[r.2];exact xU.5
  E2:=λc k u _ i e=>by have t:=ai (ai (ady w.params) (cV (il (qo g.cls c) e))) (vx i);exact⟨λq=>by rw[q]at t;exact t,λq=>by rw[q]at t;exact t⟩
  Tn:=λc a=>Bx a λf _ _ b _ _ _ _ _ _ _ _ _=>⟨f,b⟩
  E1:=gB (adB w.params)
  To:=by obtain⟨o,m⟩:=BJ.mp (adC w.params);exact⟨o,S.jB _ _ m⟩
  Cm:=λk l e=>not_of (bO (bO (bO (bO (RY (P:=w.params) (g.cd▸e))).2).2).2).2
  MO:=λk l e=>ĳ (g.cd▸e) (λf b=>by rw[f,b];exact RX S (adI w.params) (bO t8).1 (bO (bO t8).2).1 Z) (λf b=>by rw[f,b];exact RX S (adK w.params) (bO (bO (bO t8).2).2).1 (bO (bO (bO (bO t8).2).2).2).1 Z) λf b=>by rw[f,b];exact RX S (adJ w.params) (bO (bO (bO (bO (bO t8).2).2).2).2).1 (bO (bO (bO (bO (bO t8).2).2).2).2).2 Z
  KX:=λd l _ e=>ag (RY (g.cd▸e)) λf z=>ag z λb z=>ag z λj z=>ag z λa _=>⟨f,aO b,uD j,not_of a⟩}
def xW(S:Start w h R T):(∀a,dq (B0 h) a->a.Ns lw R)/\∀a,dq (B0 h) a->a.Ns wp T:=⟨λ_ a=>S.g.keeps a,λ_ a=>S.b.keeps a⟩
def JU(S:Start w h R T){x a:W}(e:X' w.params x a):R (IN x)=O (.ref a):=mg_of S.jB S.g (aO e)
def x7(S:Start w h R T){b:oh}(g:∀x a,aj x b=O a->∃d,(x,d)∈pA):iU (gW w hp par dG ht aG) (B0 h) (X_ b):=λx v e=>ma e (λu b e=>by
  have m:=cV b;refine ag (ai (adG w.params) m) λi f=>?_;have j:=A7 adH _ m
  have l:∃k,u=.bi k:=by simp only[u',c?,cr,or_false,UV]at m;rcases m with q|q|q|q|q|q|q<;>exact⟨_,q.2⟩
  obtain⟨k,b⟩:=l;rw[<-au e,b];refine⟨Y5 k,Z,.inr ⟨R,T,(xW S).1,mg_none_of S.jB S.g (uD i),(xW S).2,?_⟩⟩;show T (IN x)=_;rw[S.bi _ λq=>by rw[cF q]at f;exact ao f,j,b];rfl) λ_ e=>ma e (λb f e=>by
  have b:=ai (bO JS).1 (cV f);rw[<-au e];exact⟨.ref _,⟨Z,b⟩,.inl ⟨R,(xW S).1,JU S (ai (RU w.params) (.tail _ (vx b)))⟩⟩) λ_ e=>iH e λa b e=>by
  obtain⟨d,m⟩:=g x a b;rw[<-e];exact⟨.ref _,⟨Z,ai (bO JS).2 m⟩,.inl ⟨R,(xW S).1,JU S (ai (RW w.params) m)⟩⟩
end
end
def GS.to(x:GS G)(h:(H.cls,H.du,H.cA,H.dT,H.dD,H.qs,H.ew,H.lE)=(G.cls,G.du,G.cA,G.dT,G.dD,G.qs,G.ew,G.lE)):GS H:=have e:=gB h;have a:=gB e.2;have b:=gB a.2;⟨e.1.trans x.cls,a.1.trans x.Ċ,b.1.trans x.cd,b.2.trans x.iy⟩
def ŉ:GS (Gj a fK m f):=⟨Z,Z,Z,Z⟩
def aiI(d:W):GS (pS d):=by cases d<;>exact ŉ
def Ļ(d:W):GS (lG d):=by cases d<;>exact ŉ.to Z
structure H2(fns:oh)(G:cQ):Prop where
 gs:GS G
 gl:G.gl=X_ fns
 bU:G.bw=fK
 sup:G.sup=λ_ _ _=>C
 comp:G.comp=λ_ _ _ _ _ _=>C
 ro:G.ro=J
def RZ(d:W):H2 oK (pS d):=⟨aiI d,by cases d<;>rfl,by cases d<;>rfl,by cases d<;>rfl,by cases d<;>rfl,by cases d<;>rfl⟩
def LG(d:W):H2 pA (lG d):=⟨Ļ d,by cases d<;>rfl,by cases d<;>rfl,by cases d<;>rfl,by cases d<;>rfl,by cases d<;>rfl⟩
def ij.two(r:ij k A):A.depth+2<Fa:=fQ (ay (d9 (aO Z) _) (fY _ _)) r.depth
def ij.bS(r:ij j A)(h:k<=j):ij k A:=⟨fQ (d9 h _) r.depth,fQ (d9 (yH 3 h) _) r.units,r.handled⟩
def By(c:∀p∈a,p∈oK++pA)(h:aj x a=O b):∃a,(x,a)∈pA:=by obtain⟨p,a,e⟩:=eO.mp (fT (ai Xm (c _ (cV h))));exact⟨p.2,(show p.1=x from e)▸a⟩
section
variable{w:ty}{h:t3}{z B:lm->eU}{hp ht:I}{par dG aG:ii}{G:cQ}{A:v2}{k d:W}{E:oh}
def oS(S:Start w h z B):∀a,dq (B0 h) a->a.NoLimit:=λ_ a=>S.xV.keeps a
def Ew(S:Start w h z B){b:ii}{a:Def}(e:SK w.params b a):∃o c f,(KP w.params).lookup b=O o/\FnAt (gW w hp par dG ht aG) (B0 h) b a o c f:=jm e λo b e=>by obtain⟨c,f,a⟩:=ag0 (g:=gW w hp par dG ht aG) Z S.jB (S.jB _ _ (Ç _)) b e;exact⟨o,c,f,b,a⟩
def adO(S:Start w h z B)(i:GS G)(g:uW sI k)(n:A.depth+2<Fa):fS (gW w hp par dG ht aG) (B0 h) A (.ref (adr sI k)) [] λb c e=>mp (make G k b c) (·,e):=λb c e v o j=>iH j λa a _=>bL a λa l _=>by refine ag (ai (adF w.params) (cV (il (qo i.cls k) l))) λa t=>ag t λm t=>ag t λq r=>jm a λu s a=>jm a λfI f a=>ag a λa t=>bL f λx u f=>?_;obtain⟨x,x,x,_,x⟩:=Ew S a;exact Bx g λ_ _ c1 _ _ _ _ _ _ a c3 _ y=>NS ⟨g,a,s.trans (by rw[u,xR f]),aO t,x,⟨c1,c3⟩,λp hp=>⟨by show ee _ (adr sI k) (IN p.1)=O C;unfold ee;rw[y p.1 (ai m hp)];rfl,ai m hp⟩,RJ q,cw r⟩ l (kf S i) S.jB n (oS S) b c e v o j
def LH(w:ty)(h:t3)(hp:I)(par dG:ii)(ht:I)(aG:ii)(G:cQ)(A:v2):=(∀m,hp->uW qj m->fS (gW w hp par dG ht aG) (B0 h) A (.ref (adr qj m)) [.ref par] (G.av m))/\∀f,uW qj f->fS (gW w hp par dG ht aG) (B0 h) A (.ref (adr qj f)) [] (G.func f)
def ĺ(S:Start w h z B)(f:GS G)(g:ij d A)(x:LH w h hp par dG ht aG G A){b:jM}{c:X->W->X->ae->ae->St->mc}{a:w4}{L:ii}{e:ae}:Cx.eV ⟨A,a,KP w.params,gW w hp par dG ht aG,{G with gl:=b,comp:=c},B0 h,L,e⟩:=⟨x.1,x.2,λ_ a=>adO S (f.to Z) a g.two⟩
def Xn(S:Start w h z B)(a:H2 E G)(c:ij (d+1) A)(x:∀b,ij d b->LH w h hp par dG ht aG G b)(e:Def)(f:sw)(g L:ii):(Az A (KP w.params) (gW w hp par dG ht aG) G (B0 h) e f g L).Calls:=(ĺ S a.gs (c.deeper _) (x _ (c.deeper _))).calls a.sup a.comp
def dc(S:Start w h z B)(a:H2 E G)(l:∀p∈E,p∈oK++pA)(i:ij (d+1) A)(x:∀e,ij d e->LH w h hp par dG ht aG G e){c:ii}{b:Def}(j:SK w.params c b){f:aP}{g:af}(m:cD (gW w hp par dG ht aG) (B0 h) f g):fS (gW w hp par dG ht aG) (B0 h) A (.ref c) f λe f n=>run G 300 b (g++e) f n:=by obtain⟨o,e,f,_,f⟩:=Ew S j;exact NR f (kf S a.gs) S.jB (by rw[a.gl];exact x7 S λx b h=>By l h) (λ_ h=>il (qo a.bU _) h) i (oS S) (λL _=>Xn S a i x b e c L) 300 m
def sC:∀p∈oK,p∈oK++pA:=λ_ h=>gU.mpr (.inl h)
def JV:∀p∈pA,p∈oK++pA:=λ_ h=>gU.mpr (.inr h)
def Ĺ:cD (gW w hp par dG ht aG) (B0 h) [] []:=Z
def R0(a:hp):cD (gW w hp par dG ht aG) (B0 h) [.ref par] [.par]:=⟨_,_,Z,⟨Z,a⟩,Z⟩
def Bz(S:Start w h z B)(d:W):∀A,ij d A->LH w h hp par dG ht aG (pS d) A:=by induction d with|zero=>exact λA _=>⟨λ_ _ _ _ _ _ _ _ e=>aa e,λ_ _ _ _ _ _ _ e=>aa e⟩|succ d i=>exact λA j=>⟨λm l _ a b c v f e=>bL e λm g e=>dc S (RZ d) sC j i (ai (adD w.params) (cV g)) (R0 l) a b c v f e,λl _ a b c v f e=>bL e λm g e=>dc S (RZ d) sC j i (ai (RN w.params) (gU.mpr (.inl (cV g)))) Ĺ a b c v f e⟩
def adP(S:Start w h z B)(d:W):∀A,ij d A->LH w h hp par dG ht aG (lG d) A:=by induction d with|zero=>exact λA _=>⟨λ_ _ _ _ _ _ _ _ e=>aa e,λ_ _ _ _ _ _ _ e=>aa e⟩|succ d a=> exact λA b=>⟨λ_ _ _ _ _ _ _ _ e=>aa e,λf _ c f g v i e=>bL e λj j e=>dc S (LG d) JV b a (ai (RN w.params) (gU.mpr (.inr (cV j)))) Ĺ c f g v i e⟩
end
structure R2(K:WP)(prog:zs)(C:ii)(selfN mname:lm)(fd:sw)(cc D cda f2:ii):Prop where
 Z3:fd.closure.lookup ("__class__":lm)=O cc
 ks:fd.scope.names.lookup ("super":lm)=O .globalImplicit
 kc:fd.scope.names.lookup ("__class__":lm)=O .free
 head:((fd.params.posonlyargs++fd.params.args).head?).map (·.arg)=O selfN
 code:fd.code=.ref cda
 ahd:∃oc vs file tf,K.lookup cda=O oc/\oc.data=.fields vs/\vs[2]?=O (.str file tf)/\((prog.main.file:lm)==file)=U
 cell:∃oc,K.lookup cc=O oc/\oc.data=.cell (O (.ref D))
 cls:∃oD cd,K.lookup D=O oD/\oD.data=.cls cd
 mro:mroIn K C (.ref D)=O U
 top:(prog.main.scope.names.lookup ("super":lm)).isSome=J
 opq:nsIn K cStatics "thirdparty.any"=O none
 av:∃cd,clsIn K C=O cd/\alongIn K mname ((cd.mro.dropWhile (·!=.ref D)).drop 1)=O (O (.ref f2))
 Fw:∃o fd,K.lookup f2=O o/\o.cls=.type "function"/\o.data=.func fd
def BA(G:cQ)(d:Def)(e:af->aY->PG->dR)(f:S)(n:W)(b:af)(c:aY)(a:PG):dR:=one b λv=>lc c (ax (e [v] [] a) λ_ a=>ax (pr (ye G d) d.lv n f ⟨[(0,.val .par),(21,.val v)],a⟩) λf s=>O (km f,s.pg)) λ_ _=>C
section
variable{prog:zs}{w:ty}{A:v2}{E:aT}{s:ge}{c':Code}{env:w4}
def xX(k:(fb a (Gc b env)).all (!·.1)=U)(l:b.length<=20)(m:(e.endLine==a.line))
 (j:b5 (WF prog w) A c' (a8 o d env (Db o env)) (λc g=>∀i,he (WF prog w) A (e! c d i) (λf h=>he (WF prog w) A (o_ a f.1 f.2 (fb a (Gc b env)) (hT a (dg [] env))) Q E h) E g) E s):
  b5 (WF prog w) A c' (Db (.Call (.Attribute o d e) b [] a) env) Q E s:=by
 refine H5 (ks_wpAt_mono j (λc g i=>c_ (bR (uh ?_))) λ_ _ x=>x)
 have g:Ok (b.length+0) (fb a (Gc b env)) (hT a (dg [] env)):=by unfold Ok;rw[k];exact cF (fQ l (aO Z))
 have j:a7 U o env e a=H1 a:=by unfold a7;rw[m];rfl
 show he _ _ (holding [c] (calleeOf (Ok (b.length+0) (fb a (Gc b env)) (hT a (dg [] env))) o env c d)>>=_) _ _ _;rw[g];refine bR (ue (jt (i _) (λf h c=>?_) λ_ _ x=>x));exact bR (fN (show a7 (Ok (b.length+0) (fb a (Gc b env)) (hT a (dg [] env))) o env e a=H1 a by rw[g];exact j) c)
end
section
variable{A:v2}{K:WP}{g:fA}{G:cQ}{B:bl}{d:Def}{o:xL}{fd:sw}{body:b9}{f:ii}{k:W}{p:Pt}{pg:PG}{as:af}{ks b:aY}{ws:aP}{kws:jc}
def Y6(h:aq c x)(i:aj x a=O (.val e)):ev G c J (.aR x) ⟨a,pg⟩=O (e,⟨a,pg⟩):=by show ax (J7 G c x ⟨a,pg⟩) (fin J)=_;unfold J7;rw[dM h,i];rfl
variable(D:FnAt g B f d o fd body)
def JW(i:Inj g)(h:pO d.params as ks=O b)(s:cD g p.F ws as)(t:ot g p.F kws ks)(j:B.le p.F)(l:pD p)(x:qO g p pg):∃a,m5 p.s fd ⟨ws,kws⟩ a/\(∀y∈a,fd.scope.names.lookup y.1=O .local)/\(∀z v,(z,v)∈b->∃w,a.reverse.lookup (g.nm z)=O w/\Rd g p.F w v)/\
  ∀c,c.Ns p.h.objs.size (λx=>a.reverse.lookup x)->(∀e o,p.h.get? e=O o->c.get? e=O o)->bC (Az A K g G B d fd f p.h.objs.size) {(p.up c (p.s.toks+a.length) p.F p.ow)with ow:=bQ p.h.objs.size (O .frame) p.ow} ⟨b.map λp=>(p.1,.val p.2),pg⟩:=by
 refine gq λP u=>?_;have r:=λe o n=>(x.own.fz e o (j _ _ n)).1;obtain⟨e,e,e,E,F,H,L⟩:=D.Z1
 have P:FX fd p.s e:=L.elim (λz M A e Q q=>by rw[z.1];exact cP (q C z.2.symm)) λz M A e Q q=>by obtain⟨T,m,e,L⟩:=z;rw[e];exact hF (r _ _ L) Z (q _ Z)
 obtain⟨a,e,r,L⟩:=w6 (s:=p.s) i h D.nd s t D.plain D.names E F (H.bS j) P;refine u ?_;have s:(b.map (·.1)).Nodup:=by rw[r];exact D.nd
 have t:(a.map (·.1)).Nodup:=by rw[e.1];exact names_nodup i s
 have h:∀q∈a,a.reverse.lookup q.1=O q.2:=λq h=>lookup_mem (by rw[EZ];exact(ES _).nodup_iff.mpr t) (EY.mpr h);refine⟨a,L,λy u=>?_,λz v v=>?_,λc t E=>?_⟩
 ·have F:y.1∈b.map λp=>g.nm p.1:=by rw[<-e.1];exact fm u
  obtain⟨z,u,n⟩:=eO.mp F;have F:z.1∈d.params.map (·.1):=by rw[<-r];exact fm u
  obtain⟨u,r,z⟩:=eO.mp F;rw[<-n,<-z];exact D.lv _ (D.par u r)
 ·obtain⟨w,n,r⟩:=e.mem v
  exact⟨w,h _ n,r⟩
 ·have n:=t
  obtain⟨oL,_,_,r,_⟩:=n;exact⟨enter x l r E,dS,⟨_,t,λx=>Ip (m:=λy=>a.reverse.lookup y) i s e h (λx e=>∃t,a.reverse.lookup (g.nm x)=O (.ref t)/\bQ p.h.objs.size (O .frame) p.ow t=O (.loc x)/\we g {(p.up c (p.s.toks+a.length) p.F p.ow)with ow:=bQ p.h.objs.size (O .frame) p.ow} t e) x⟩,j⟩
def Xo{c:W->lm}{body:b9}{P:Prop}(r:lF c (.cons (.expr (.sup m (.cons (.aR x) .nil))) a) body)
 (k:∀j l h e i n q,body=.Expr (.Call (.Attribute (.Call (.Name "super" j) [] [] l) (c m) h) e [] i) n::q->ph c (.cons (.aR x) .nil) e->(h.endLine==i.line)->e.length<=20->d5 (.Call (.Attribute (.Call (.Name "super" j) [] [] l) (c m) h) e [] i)->lF c a q->P):P:=by
 obtain⟨u,q,w,a,y⟩:=lQ r;refine Ų (f:=λv _=>eK c (.sup m (.cons (.aR x) .nil)) v&&d5 v) a λev n r a=>ag a λa z=>?_;obtain⟨s,e,t,i,F,a⟩:=ur (f:=λs as kws p=>isAt s λv E h=>J8 v (λs e t _=>ng s (λs=>a? (s=("super")))&&e.isEmpty&&t.isEmpty)&&iB c m E&&ph c (.cons (.aR x) .nil) as&&kws.isEmpty&&ac h.endLine p.line&&bd as.length 20) a;obtain⟨s,s,h,t,a⟩:=yV a;refine ag a λa v=>ag a λa x=>ag a λa H=>ag a λa L=>ag a λa M=>?_;obtain⟨E,E,E,l,P,a⟩:=ur a;refine ag a λa j3=>ag a λa j2=>?_;obtain⟨E,j,Q,j1⟩:=kD a;have E:u=.Expr (.Call (.Attribute (.Call (.Name "super" j) [] [] l) (c m) h) e [] i) n:=by rw[r,F,t,P,Q,aO j1,cO.mp j2,cO.mp j3,cO.mp H,show s=c m from aO M]
 exact k j l h e i n q (E▸w) L (fZ.mpr (aK x)) (cw v) (by have E:=(r▸E);exact(Stmt.Expr.inj E).1▸z) y
def R3{K:WP}{s:zs}{A:v2}{i:ii}{t:lm}{fd:sw}{D f:ii}{o:xL}{h:t3}{dr:Drawn}{m n r:lm->eU}{p0 S:ww}{whole:e5 bv}
 (a:R2 K s i c z fd E D F H)(V:(t==("__class__":lm))=J)(X:K.In h)(hf:h.get? f=O o)(hd:o.data=.func fd)(l:fd.scope.kind=.function)(g1:h.Ns fd.globals m)(g2:m "super"=C)(g3:h.Ns fd.builtins n)(g4:n "super"=O (.type "super"))
 (hl:fd.scope.names.lookup c=O .local)(hns:h.Ns L r)(hm:r c=O (.ref x))(hx:h.get? x=O e)(hxc:e.cls=.ref i)(hnc:∀M,e.data≠.cls M)
 (q:∀j,j.get? h.objs.size=O {cls:=.type "super",dict:=C,data:=.fields #[.ref D,.ref x,.ref i],slots:=#[]}->(∀y o,h.get? y=O o->j.get? y=O o)->Q (.ref h.objs.size) ⟨j,u,dr,v,w⟩):
  b5 (WF s P) A (.func R (Tm fd L f)) (a8 (.Call (.Name "super" p0) [] [] S) t (Tm fd L f) whole) Q T ⟨h,u,dr,v,w⟩:=by
 refine gq λP h=>?_;obtain⟨oc,c,c,c,c1,i,c3,j⟩:=a.ahd;obtain⟨c,m,n⟩:=a.cell;obtain⟨c,c,c,e⟩:=a.cls;obtain⟨r,r,s⟩:=ab.mp a.head;refine h ?_;refine ks_wpAt_super_base (env:=Tm fd L f) a.ks a.kc V Z hf hd r a.code (X _ _ c1) i c3 j a.top (B? l a.ks (k8 (env:=Tm fd L f) g1 g2 g3 g4 ⟨Z,wpAny_loadName_free l a.kc a.Z3 ⟨_,X _ _ m,n⟩ ?_⟩));rw[s];exact EO l hl hns hm (ks_wpAny_isType_cls (X _ _ c) e ⟨Z,ks_wpAny_call_super (X _ _ c) e hx hxc hnc (looks_mroIn X a.mro) q⟩)
def R5(kf:KF K g G B)(M:∀a o,K.lookup a=O o->B a o)(x7:iU g B G.gl)(P:∀a,G.bw a->g.bw a)(s:ij (k+1) A)(H:∀h,dq B h->h.NoLimit)
 (Q:∀L,(Az A K g G B d fd f L).Calls)(n:g.dj){c:W}{m:S}(w:d.params=[(0,C),(21,C)])(h21:aq d.lv 21)(v:d.body=.cons (.expr (.sup c (.cons (.aR 21) .nil))) m)(hro:G.ro=J)
 {x E F j:ii}(i:R2 K g.prog g.uN (g.nm 0) (g.nm c) fd x E F j)(y:(g.nm c==("__class__":lm))=J)
 {e r:lm->eU}(g1:∀h,dq B h->h.Ns lw e)(R:e "super"=C)(T:∀h,dq B h->h.Ns wp r)(V:r "super"=O (.type "super"))
 {u:af->aY->PG->dR}(hc:∀t:v2,ij k t->fS g B t (.ref j) [.ref g.par] u)(z:W):fS g B A (.ref f) [.ref g.par] (BA G d u m z):=λas ks pg c c e p ws kws l x r t L c q=>yj e λv0 has e=>lb e λhks e=>aQ e λc c er e=>aQ e λfl σ' e3 c=>iu c λh u=>by
 have c:=λa o e=>(x.own.fz a o (r _ _ e)).1;obtain⟨cdC,E,hm⟩:=i.av;obtain⟨a,a,F,hofc,hfd2⟩:=i.Fw;have a:pO d.params (.par::as) ks=O [(0,.par),(21,v0)]:=by rw[w,has,hks];rfl
 obtain⟨binds,k1,k2,k3,k4⟩:=JW (A:=A) (K:=K) (G:=G) D kf.inj a (⟨_,_,Z,⟨Z,n⟩,t⟩) L r l x;obtain⟨w0,hw0,rw0⟩:=k3 0 .par gV;refine ks_codeAny_call_defAt (fd:=fd) (body:=body) (binds:=binds) (qV (nH _) (qV (nH _) s.two)) (c _ _ D.at_) D.data (H _ c) (D.code _ c) D.A0 k1 D.cell k2 (λa H L=>?_) D.co D.bD D.kind
 let c:Cx:=Az A K g G B d fd f p.h.objs.size
 have r:bC c _ _:=k4 a H L;have a:c.OK:=Iq D kf M x7 P s p.h.objs.size;have M:c.Calls:=Q p.h.objs.size;have X:=a.In r;have t:=r.Tp;obtain⟨P,P,P,Q⟩:=qB r n;have P:=D.is;rw[v]at P
 have lR:=by have:=D.loc;rw[v]at this;exact(bO (show(U&&uR d.lv m)from this)).2
 refine Xo P λv v v v P pos0 es1 hbd i4 i6 i7 nc hb1=>?_;rw[hbd];have GL:=(bz a M (.cons (.aR 21) .nil)).2 v i4;refine ks_wpAt_execs_cons (ks_wpAt_Expr_any (xX (GL.pl P).2 i7 i6 ?_) (zb a) (jd nc));refine R3 i y X (t _ _ D.at_) D.data D.kind (by rw[D.globals];exact g1 _ t) R (by rw[D.builtins];exact T _ t) V (D.lv 0 (D.par (0,C) (by rw[w];exact .head _))) H (hw0.trans (ah O (rw0.1))) Q.at_ Z (λc e=>nomatch e) λt v c=>?_;intro e;have e:=Nx.grow r (p.s.toks+binds.length) c (λ_ _=>id) λ_ _=>.inl;have c:=a.In e.rel;obtain⟨r,r,_,r⟩:=qB e.rel n;refine ks_wpAny_getMethod_super v (looks_opaque c i.opq) (l₀:=cdC.mro) (λA Q i n k q=>bR ((looks_clsIn c E) A _ i n k (cP q))) Z c hm (c _ _ F) hofc (ks_ne c r E) y ?_;have n3:=e.trans (Nx.alloc e.rel {cls:=.type "method",data:=.fields #[.ref j,.ref g.par]} (p.s.toks+binds.length+1) Z)
 refine qC (kxs:=yc) (kws:=[]) (ks:=[]) (kvs:=[]) (kw:=[]) (vs:=[v0]) (σ2:=⟨[(0,.val .par),(21,.val v0)],pg⟩) (first:=[]) GL.pl (λ_=>⟨Z,Z,Z⟩) GL.l Ag (σ1:=⟨[(0,.val .par),(21,.val v0)],pg⟩) (mQ (Y6 h21 Z)) Z Z n3.rel λi c c c n r=>?_
 ·have e:=c.rel.st _ _ (c.ext.le _ _ (p.F.hV t.objs.size {cls:=.type "method",data:=.fields #[.ref j,.ref g.par]}))
  refine⟨⟨.boundFrame,λj j j=>?_⟩,?_⟩
  ·unfold o1
   refine bR (qq e ?_);refine bR (qq (a.In c.rel _ _ F) ?_);rw[hfd2];exact cP j
  ·rw[vA.mp r.1]
   refine sP (ks_codeAny_call_bound e (call_K (pre:=[.ref g.par]) hro c.rel (hc _ (s.deeper (Tm fd p.h.objs.size f))) er n (show ot g i.F [] []from⟨Z,Z⟩) _ λi e e j=>?_));refine c_ ((oz z m _ a M lR).2 es1 hb1 i _ fl σ' e3 e.rel _ _ λj a a m=>?_);have n:=((n3.trans (c.trans e)).ext.weak λ_=>Ce).trans Z a.ext;have e:=λc i=>q (off j) c Ir (u▸leave l x.own L n) (u▸AB a.rel.pg) i;refine Z8 m (λa c=>?_) (λa c=>?_) λu y a c i=>?_
   ·rw[c];exact e _ (by rw[<-h,a];exact Z)
   ·rw[c];exact e _ (by rw[<-h,a];exact Z)
   ·rw[c];exact e _ (by rw[<-h,a];exact i)
end
def Xp(a:af)(b:aY)(c:PG):dR:=run (pS 20) 300 kW (.par::a) b c
def R6:S:=yx 1 md
def R7:S:=yx 1 oe
def Æ:af->aY->PG->dR:=BA (pS 20) jQ Xp R6 300
def R8:af->aY->PG->dR:=BA (pS 20) pQ Æ R7 300
abbrev pZ:cQ:=ye (pS 20) jQ
def Y7(t:ae):PG:=⟨Gz (.str (t++[0])),[],6⟩
def adR:md=.cons (.expr (.sup 41 (.cons (.aR 21) .nil))) R6:=Z
def adS:oe=.cons (.expr (.sup 41 (.cons (.aR 21) .nil))) R7:=Z
def ahe(t x:ae):pr pZ [0,21] 300 R6 ⟨jY t,⟨oP (.str oO) (.str x),[],0⟩⟩=O (.next,⟨jY t,⟨PI (.str x),[],3⟩⟩):=by kernel_rfl
def ahf(t x:ae):pr pZ [0,21] 300 R7 ⟨jY t,⟨PI (.str x),[],3⟩⟩=O (.next,⟨jY t,⟨Gz (.str x),[],6⟩⟩):=by kernel_rfl
def adT{t:ae}(b:gE t)(c:t.length<=800):R8 [.str t] [] ⟨[],[],0⟩=O (.none,Y7 t):=by(have s:Æ [.str t] [] ⟨[],[],0⟩=O (.none,⟨PI (.str (t++[0])),[],3⟩):=by show ax (Xp [.str t] [] ⟨[],[],0⟩) (λ_ a=>ax (pr pZ [0,21] 300 R6 ⟨jY t,a⟩) λf s=>O (km f,s.pg))=_;rw[show Xp [.str t] [] ⟨[],[],0⟩=_ from Lk b c];show ax (pr pZ [0,21] 300 R6 ⟨jY t,⟨oP (.str oO) (.str (t++[0])),[],0⟩⟩) (λf s=>O (km f,s.pg))=_;rw[ahe];rfl);show ax (Æ [.str t] [] ⟨[],[],0⟩) (λ_ a=>ax (pr pZ [0,21] 300 R7 ⟨jY t,a⟩) λf s=>O (km f,s.pg))=_;rw[s];show ax (pr pZ [0,21] 300 R7 ⟨jY t,⟨PI (.str (t++[0])),[],3⟩⟩) (λf s=>O (km f,s.pg))=_;rw[ahf];rfl
def adU{t:ae}(a:eZ t c)(h:19<=d):R8 [.str t] [] ⟨[],[],0⟩=O (.none,Y7 t)/\∃e f,(pS d).av bP [] [] (Y7 t)=O (e,f)/\∃i,uE (ev (pR d) qa · DC) (pr (pR d) qa g DD) 300 ⟨fG b [] e,f⟩=O (.next,⟨fG b c .none,i⟩):=⟨adT a.good (ay a.len (aO Z)),WA a h⟩
def aiJ(P:wf)(d a c b:ii):I:=(oc ((KP P).lookup c) (λo=>oc (JO o) (λc=>oc (c[2]?:eU) (λw=>oc (strOf w) (λq=>(Hd.pw.main.file:lm)==q.1) J) J) J) J&&(oc ((KP P).lookup d) (λo=>a? (RD o=O (O (.ref a)))) J&&(oc ((KP P).lookup a) (λo=>(zE o).isSome) J&&(a? (mroIn (KP P) gG (.ref a)=O U)&&(!(Hd.pw.main.scope.names.lookup ("super":lm)).isSome&&(Xl (nsIn (KP P) cStatics "thirdparty.any")&& (oc (clsIn (KP P) gG) (λc=>a? (alongIn (KP P) (IN 41) ((c.mro.dropWhile (·!=.ref a)).drop 1)=O (O (.ref b)))) J&&oc ((KP P).lookup b) (λo=>a? (o.cls=.type "function")&&(Eu o).isSome) J)))))))
def Xq(P:wf)(a b d c e:ii):I:=oc ((KP P).lookup a) (λo=>oc (Eu o) (λa=>a? (a.closure.lookup ("__class__":lm)=O b)&&(a? (a.scope.names.lookup ("super":lm)=O .globalImplicit)&&(a? (a.scope.names.lookup ("__class__":lm)=O .free)&&(a? (((a.params.posonlyargs++a.params.args).head?).map (·.arg)=O (IN 0))&&(a? (a.code=.ref c)&&aiJ P b d c e))))) J) J
def xY(P:wf):(Xq P 783 771 1281 782 682&&(Xq P 1312 1299 1521 1311 783&&(SK P 682 kW&&(SK P 783 jQ&&SK P 1312 pQ)))):=by kernel_rfl
def ahg(P:wf):(nsIn (KP P) lw "super",m4 "super",(IN 41==("__class__":lm)),a? (("super":lm)=nw "__name__"))=(O C,O (.type "super"),J,J):=by kernel_rfl
section
variable{w:ty}{h:t3}{y z:lm->eU}{ht:I}{par dG aG:ii}{A:v2}
def some_of{a:Type}{o:N a}(h:o.isSome):∃a,o=O a:=BJ.mp h
def adV{i:ii}(e:Xq P c d f g i){o:xL}{b:sw}(a:(KP P).lookup c=O o)(j:o.data=.func b):R2 (KP P) Hd.pw gG (IN 0) (IN 41) b d f g i:=jm e λc k e=>jm e λc l e=>ag e λc e=>ag e λd e=>ag e λf e=>ag e λg e=>ag e λi e=>ag e λm e=>ag e λn e=>ag e λp e=>ag e λr e=>ag e λs e=>ag e λt e=>ag e λu v=>by
 have q:=by have e:=sA l;rw[<-au (il a k),j]at e;exact(k7 e).symm
 rw[q]at c d f g i
 exact⟨aO c,aO d,aO f,aO g,aO i,jm m λo a h=>jm h λc d h=>jm h λw e h=>jm h λq f h=>⟨o,c,q.1,q.2,a,JQ d,by rw[e,xQ f],h⟩,jm n λo a h=>⟨o,a,Xi (aO h)⟩,jm p λo a h=>by
  obtain⟨c,d⟩:=some_of h;exact⟨o,c,a,Bu d⟩,aO r,not_of s,uD t,jm u λc d h=>⟨c,d,aO h⟩,jm v λo a h=>ag h λc d=>by
  obtain⟨b,e⟩:=some_of d;exact⟨o,b,a,aO c,sA e⟩⟩
variable(S:Start w h y z)
def Xr(A:v2)(a:ij 21 A):fS (gW w U par dG ht aG) (B0 h) A (.ref 682) [.ref par] Xp:=dc S (RZ 20) sC a (λa r=>Bz S 20 a r) (bO (bO (bO (xY w.params)).2).2).1 (R0 Z)
def JX(o:20<=k)(i:ij (k+1) A){e j a l b:ii}{d:Def}(s:Xq w.params e j a l b)(m:SK w.params e d)(p:d.params=[(0,C),(21,C)])(q:aq d.lv 21){g:Ev.S}(r:d.body=.cons (.expr (.sup 41 (.cons (.aR 21) .nil))) g){f:af->aY->PG->dR}(t:∀c:v2,ij k c->fS (gW w U par dG ht aG) (B0 h) c (.ref b) [.ref par] f):fS (gW w U par dG ht aG) (B0 h) A (.ref e) [.ref par] (BA (pS 20) d f g 300):=by obtain⟨b,g,b,j,a⟩:=Ew S m;have n:=gB (ahg w.params);have f:=gB n.2;have n3:=gB f.2;have b:=RZ 20;exact R5 a (kf S b.gs) S.jB (by rw[b.gl];exact x7 S λx a h=>By sC h) (λ_ h=>il (qo b.bU _) h) i (oS S) (λL=>Xn S b (i.bS (eN o)) (λc i=>Bz S 20 c i) d g e L) Z p q r b.ro (adV s j a.data) n3.1 (xW S).1 (mg_none_of S.jB S.g n.1) (xW S).2 ((S.bi _ (of_decide_eq_false n3.2)).trans f.1) t 300
def Xs(A:v2)(a:ij 23 A):fS (gW w U par dG ht aG) (B0 h) A (.ref 1312) [.ref par] R8:=JX S (aO Z) a (bO (bO (xY w.params)).2).1 (bO (bO (bO (bO (xY w.params)).2).2).2).2 Z Z adS λ_ r=>JX S (aO Z) r (bO (xY w.params)).1 (bO (bO (bO (bO (xY w.params)).2).2).2).1 Z Z adR λa r=>Xr S a r
end
def si:S:=yx 1 B7
def ĸ(d:W)(a:af)(b:aY)(c:PG):dR:=one a λv=>lc b (bn (dW v) λt=>ax (R8 [.str t] [] ⟨[],[],0⟩) λu a=>gd (dP u J (no:=U)) (ax (pr (pR d) qa 300 si ⟨[(236,.val (.str t)),(235,.val .par)],a⟩) λf _=>vK f C C λv=>gd (dat 20 v) (O (v,c)))) λ_ _=>C
abbrev t9:af->aY->PG->dR:=ĸ 20
def SO(p:Pt):Pt:={p with ow:=λa=>mp (p.ow a) λ_=>.ck}
def te(k:N Ow):N Ow:=bn k λk=>Ow.casesOn (motive:=λ_=>N Ow) k C aaG C C aaG C (O .ck)
def sD(q:Pt)(L:ii):Pt:=⟨{q.s with heap:=(q.h.push TD).push (c8 gG q.h.objs.size)},q.F,bQ (q.h.objs.size+1) (O .par) (bQ q.h.objs.size (O .dict) (bQ L (O .frame) λa=>te (q.ow a)))⟩
def adW(P:wf):(sK (KP P) (.ref gG) "__init__",typeIn (KP P) (.ref 1312),zn (KP P) (.ref gG) "__call__",oc ((KP P).lookup gG) (λo=>(zE o).isSome) J&&(SK P (adr qj 262) iS&&uR qa si))=(O (O (.ref 1312)),O (.type "function"),O (O (.builtin "type.__call__")),U):=by kernel_rfl
def adX(n:W):∀v,dat n v->∀w,Rd g F w v->Rd b F w v:=by
 induction n with
 |zero=>exact λv=>Vc (M:=λv=>dat 0 v=U->∀w,Rd g F w v->Rd b F w v) v (no:=λ_ _=>id) (bo:=λ_ _ _=>id) (i:=λ_ _ _=>id) (s:=λ_ _ _=>id)
 |succ n c=>
  have L:∀{l:af},aI _ l=U->∀a,cD g F a l->cD b F a l:=λ{l}=>by
   induction l with
   |nil=>exact λ_ _=>id
   |cons v l d=>exact λh a r=>cp h λe f=>mw (c v e) (d f) a r
  exact λv=>Vc (M:=λv=>dat _ v=U->∀w,Rd g F w v->Rd b F w v) v (no:=λ_ _=>id) (bo:=λ_ _ _=>id) (i:=λ_ _ _=>id) (s:=λ_ _ _=>id) (tu:=λl h w=>by
   exact λr=>by obtain⟨b,a,m,e,f,z,r⟩:=r;exact⟨b,a,m,e,f,z,L h a r⟩) (ls:=λl h w=>by
   exact λr=>by obtain⟨b,a,m,e,f,z,r⟩:=r;exact⟨b,a,m,e,f,z,L h a r⟩)
def Xu:dP u J (no:=U)=U->u=.none:=Vc (M:=λu=>dP u J (no:=U)=U->u=.none) u (no:=λ_=>Z)
section
variable{g:fA}{p p2:Pt}{pg i m:PG}{a:ii}{k:Ow}
def sE(h:(SO p).ow a=O k):k=.ck/\∃j,p.ow a=O j:=iH h λj b e=>⟨e.symm,j,b⟩
def Xv(h:p.ow a=C):(SO p).ow a=C:=by show mp (p.ow a) _=C;rw[h];rfl
def adY(h:p.ow a=O k):(SO p).ow a=O .ck:=by show mp (p.ow a) _=_;rw[h];rfl
def JY(x:Own p):Own (SO p):=⟨λa o f=>⟨(x.fz a o f).1,Xv (x.fz a o f).2⟩,λa k h=>by obtain⟨_,j,h⟩:=sE h;exact x.sF a j h,λa b k h _ n=>ch (sE h).1 n⟩
def ķ:pD (SO p):=λa=>by cases h:(SO p).ow a with|none=>rfl|some k=>rw[(sE h).1];rfl
def ahj(x:Own p)(b:g.dj=J)(c:g.rA=J):qO g (SO p) pg:=⟨JY x,λe=>ao (il b e),λe=>ao (il c e)⟩
def Xw(x:qO g p pg)(l:pD p)(e:uQ (SO p) i p2 m)(c:Own p2):pD {p2 with ow:=p.ow}/\uQ p pg {p2 with ow:=p.ow} pg/\qO g {p2 with ow:=p.ow} pg:=by
 have b:∀a o,p.h.get? a=O o->p2.h.get? a=O o:=λa o h=>e.keep a o h (by
  cases q:(SO p).ow a with
  |none=>rfl
  |some k=>rw[(sE q).1];rfl)
 have d:Own {p2 with ow:=p.ow}:=⟨λa o f=>⟨(c.fz a o f).1,by
  cases q:p.ow a with
  |none=>rfl
  |some k=>exact aa ((c.fz a o f).2.symm.trans ((e.ck a).mp (adY q)))⟩,λa k h=>by
  obtain⟨o,c⟩:=x.own.sF a k h;exact⟨o,b a o c⟩,x.own.inj⟩
 exact⟨l,⟨e.le,e.sh,λa o h _=>b a o h,λa o h=>⟨o,b a o h⟩,λ_ _ _=>.inl Z,λ_=>.rfl,λ_=>.rfl,aU _,λ_=>⟨λ_=>Z,λ_ _=>id⟩⟩,x.to d (λa _ o _ _=>b a o) (λ_ _ h _=>h) e.le⟩
end
section
variable{w:ty}{q e:Pt}{L a:ii}{k:Ow}{pg:PG}{ro:I}
def mS(h:te j=O k):k=.ck/\j=O .ck:=bL h λj b e=>by rw[b];revert e;exact Ow.casesOn (motive:=λj=>Ow.casesOn (motive:=λ_=>N Ow) j C aaG C C aaG C (O .ck)=O k->k=.ck/\O j=O .ck) j aa bX aa aa bX aa λe=>⟨(au e).symm,Z⟩
def sN{k:Ow}(e:O j=O k)(n:j≠k):Ch:=n (au e)
def ub(o:xL)(e:q.h.get? a=O o):(sD q L).h.get? a=O o:=g9 _ (g9 _ e)
def Y8:(sD q L).h.get? q.h.objs.size=O (fC [] 0):=g9 _ (gX q.h Z)
def Y9:(sD q L).h.get? (q.h.objs.size+1)=O (kZ gG q.h.objs.size):=by have:=gX (q.h.push TD) (o:=c8 gG q.h.objs.size) Z;rwa [sM]at this
variable(O:Own q)
def R9(e:q.ow a=some k):(sD q L).ow a=bQ L (some .frame) (λa=>te (q.ow a)) a:=have n:∀{b},q.h.objs.size<=b->a≠b:=λl z=>aa (il (O.new l) (z▸e));(bp (n (iF _))).trans (bp (n (aU _)))
variable(oL:q.ow L=some .frame)
def Sb:(sD q L).ow L=some .frame:=(R9 O oL).trans dS
def Xx:Own (sD q L):=by
 have b:∀{a},q.h.objs.size<=a->∀o,¬q.F a o:=λl o f=>aa (il (jr l) (O.fz _ _ f).1);obtain⟨c,c⟩:=O.sF _ _ oL
 have d:Own ⟨(sD q L).s,q.F,λa=>te (q.ow a)⟩:=⟨λa o f=>⟨ub (L:=L) o (O.fz _ _ f).1,by
  show te (q.ow a)=C;rw[(O.fz _ _ f).2];rfl⟩,λa k h=>by
  obtain⟨o,g⟩:=O.sF a _ (mS h).2;exact⟨o,ub (L:=L) o g⟩,λa g k h _ n=>ch (mS h).1 n⟩
 exact((d.give (t:=L) (k:=.frame) (ub (L:=L) _ c) (λo f=>aa ((O.fz _ _ f).2.symm.trans oL)) λa z=>bx Z (mS z).1).give (t:=q.h.objs.size) (k:=.dict) (Y8 (L:=L)) (b (aU _)) λa z=>(aJ z).elim (λz=>sN z.2 (bx Z)) λz=>bx Z (mS z.2).1).give (t:=q.h.objs.size+1) (k:=.par) (Y9 (L:=L)) (b (iF _)) λa z=>(aJ z).elim (λz=>sN z.2 (bx Z)) λz=>(aJ z.2).elim (λz=>sN z.2 (bx Z)) λz=>bx Z (mS z.2).1
def adZ:qO (gW w U (q.h.objs.size+1) q.h.objs.size J 0) (sD q L) ⟨[],[],0⟩:=⟨Xx O oL,λ_=>⟨dS,(bp (nM (nH _))).trans dS,Y9,[],0,⟨Y8,Z,eG _,λ_ h=>ch h cr,λ_=>Z⟩⟩,λh=>ao h⟩
def Xy(x:Ext (Ey ro) e pg q pg)(b:∀a k,e.ow a=some k->(a≠L/\k=.ck)∨(a=L/\k=.frame))(g:e.ow L=some .frame):Ext (k6 ro) e pg (sD q L) pg:=by have i:∀{a k},e.ow a=some k->a≠L->q.ow a=some .ck->(sD q L).ow a=some .ck:=λh n z=>(R9 O z).trans ((bp n).trans (by show te (q.ow _)=_;rw[z];rfl));have bk:∀{a k},(sD q L).ow a=some k->k=.ck->q.ow a=some .ck:=λz c=>(aJ z).elim (λz=>(sN z.2 (by rw[c];exact bx Z)).elim) λz=>(aJ z.2).elim (λz=>(sN z.2 (by rw[c];exact bx Z)).elim) λz=>(aJ z.2).elim (λz=>(sN z.2 (by rw[c];exact bx Z)).elim) λz=>(mS z.2).2;have c:∀{a},(sD q L).ow a=some .frame->a=L:=λz=>(aJ z).elim (λz=>(sN z.2 (bx Z)).elim) λz=>(aJ z.2).elim (λz=>(sN z.2 (bx Z)).elim) λz=>(aJ z.2).elim (λz=>z.1) λz=>(bx Z (mS z.2).1).elim;refine⟨x.le,ah (λs:ge=>({s with heap:=(sD q L).s.heap}:ge)) x.sh,λa o h k=>ub o (x.keep a o h (Ce k)),λa o h=>?_,λa o h=>?_,λa=>⟨λh=>i h (λz=>sN (il (z▸h) g) (bx Z)) ((x.ck a).mp h),λh=>(x.ck a).mpr (bk h Z)⟩,λa=>⟨λh=>(b a _ h).elim (λz=>(bx Z z.2).elim) λz=>by rw[z.1];exact Sb O oL,λh=>by rw[c h];exact g⟩,aU _,λ_=>⟨λ_=>Z,λa t h=>(b t _ h).elim (λz=>(bx Z z.2).elim) λz=>(bx Z z.2).elim⟩⟩;obtain⟨d,f⟩:=x.ex a o h;exact⟨d,ub d f⟩;cases z:e.ow a with|some k=>refine(b a k z).elim (λy=>.inl ?_) λy=>.inl ?_;rw[y.2]at z ⊢;exact i z y.1 ((x.ck a).mp z);rw[y.1,y.2];exact Sb O oL|none=> refine .inr ?_;have b:q.ow a=C:=(x.to a o h).elim (λy=>y.trans z) id;have nL:a≠L:=λy=>aa (il b (y▸oL));obtain⟨d,f⟩:=x.ex a o h;have c:=pH f;exact(bp (nM (Nat.lt_succ_of_lt c))).trans ((bp (nM c)).trans ((bp nL).trans (by show te (q.ow a)=C;rw[b];rfl)))
end
section
variable{w:ty}{h:t3}{mg mb:lm->eU}{ht:I}{par dG aG:ii}{A:v2}
abbrev Xz(w:ty):fA:=gW w J 0 0 J 0
abbrev E?(w:ty)(x d:ii):fA:=gW w U x d J 0
abbrev cR(w:ty)(h:t3)(A:v2)(fd:sw)(L:ii)(g:fA):Cx:=Az A (KP w.params) g (pS 20) (B0 h) iS fd (adr qj 262) L
theorem Sd(S:Start w h mg mb)(i:ij 40 A):fS (gW w J par dG ht aG) (B0 h) A (.ref (adr qj 262)) [] t9:=λas ks pg v pg' e p a kws l x j r a R q=>yj e λv0 b e=>lb e λd e=>bL e λt f e=>aQ e λa' g k e=>bW e λhu e=>aQ e λfl σ' e2 e=>by have z:=gB (adW w.params);have G:=gB z.2;have H:=gB G.2;refine ag H.2 λzc n=>ag n λn zl=>?_;rw[b,gj f]at r;rw[d]at a;have g:dq (B0 h) p.h:=λd o e=>(x.own.fz d o (j _ _ e)).1;obtain⟨o,fd,body,ho,b⟩:=Ew (hp:=J) (par:=0) (dG:=0) (ht:=J) (aG:=0) S n;have f:=RZ 20;have s:=i.bS (show 21<=40 by decide);obtain⟨binds,u,y,B,B⟩:=JW (A:=A) (K:=KP w.params) (G:=pS 20) (p:=SO p) (pg:=⟨[],[],0⟩) (as:=[.str t]) (b:=[(236,.str t)]) b Hi Z r ⟨a.1,a.2⟩ j ķ (ahj x.own Z Z);refine EJ (fd:=fd) (body:=body) (binds:=binds) (qV (nH _) (qV (nH _) i.two)) (g _ _ b.at_) b.data (oS S _ g) (b.code _ g) b.A0 u b.cell y (λg a K=>?_) b.co b.bD b.kind;let c:Cx:=cR w h A fd p.h.objs.size (Xz w);have r:=B g a K;change bC c _ _ at r;(refine wq (M:=M' c) (A:=c.A) (m:=e0 body c.env) λQ E hQ=>?_;have L:∀{hp par dG},iU (gW w hp par dG J 0) (B0 h) (pS 20).gl:=by rw[f.gl];exact x7 S λx b h=>By sC h);have M:∀d,(pS 20).bw d=U->fK d:=λ_ h=>il (qo f.bU _) h;have u:c.OK:=Iq b (kf S f.gs) S.jB L M s p.h.objs.size;have Q:c.Calls:=Xn S f s (λB r=>Bz (hp:=J) (par:=0) (dG:=0) (ht:=J) (aG:=0) S 20 B r) iS fd (adr qj 262) p.h.objs.size;obtain⟨a,es1,j,a,hb1⟩:=lQ (x:=.set [235] (.bF 237 (.cons (.aR 236) .nil) [] .nil)) (xs:=si) b.is;rw[j];refine rM (f:=λj v _=>bV IN [235] j&&eK IN (.bF 237 (.cons (.aR 236) .nil) [] .nil) v&&!([235]:ae).isEmpty&&d5 v) a λj ev j R a=>ag a λa j=>ag a λa _=>ag a λa i2=>mC (c:=c) a λy1 T V y=>?_;obtain⟨a,as',E,E,E,i2⟩:=ur (f:=λa as kws p=>ng a (λa=>iB IN 237 a&&LK a)&&ph IN (.cons (.aR 236) .nil) as&&nZ IN [] kws&&ph IN .nil (kws.map (λP:wn=>P.value))) i2;refine ag i2 λi2 j4=>ag i2 λi2 j3=>ag i2 λj1 j2=>?_;obtain⟨a,F,F,j1⟩:=kD j1;refine ag j1 λj1 j5=>?_;rw[R,V,(cO.mp y:T=[]),E,F,show a=IN 237 from aO j1,cO.mp j3];rw[E,F,show a=IN 237 from aO j1,cO.mp j3]at j;have GL:=(bz u Q (.cons (.aR 236) .nil)).2 as' j2;refine yF (zQ (yM (qW ?_ (not_of (show(!(IN 237==("__debug__":lm)))=U by kernel_rfl)))) (jd j));refine B? b.kind (b.gv 237 Z) (l2 (env:=Tm fd p.h.objs.size (adr qj 262)) (by show g.Ns fd.globals mg;rw[b.globals];exact(xW S).1 _ r.Tp) (JU S (ai (RU w.params) gV)) ?_);refine qC (kxs:=yc) (kws:=[]) (ks:=[]) (kvs:=[]) (kw:=[]) (vs:=[.str t]) (σ1:=⟨[(236,.val (.str t))],⟨[],[],0⟩⟩) (σ2:=⟨[(236,.val (.str t))],⟨[],[],0⟩⟩) (first:=[]) GL.pl (λ_=>⟨Z,Z,Z⟩) GL.l Ag (mQ (Y6 Z Z)) Z Z r λp4 E a g r4 rk4=>?_;have j:=u.In g.rel;obtain⟨⟨a,Q,R,T,V⟩,u,F⟩:=p4;rw[vA.mp rk4.1];refine⟨⟨.machine,λE' Q' q'=>jm zc λoC hoC hc=>?_⟩,sP ?_⟩;obtain⟨cd,hcd⟩:=some_of hc;unfold o1;refine bR (qq (j _ _ hoC) ?_);rw[Bu hcd];exact bR ((ó j H.1).here (cP q'));refine make_core (makes_of j (bO (bO (bO (bO (xS w.params)).2).2).2).1) (ql j z.1) (λH=>bind_fn j H G.1) (.inl Z) ?_;have oL:F p.h.objs.size=O .frame:=g.rel.kr;have G:=g.rel.pg.own;have j:ij 23 ((A.deeper (Tm fd p.h.objs.size (adr qj 262))).under (.builtin "type.__call__" ⟨.ref gG::E,[]⟩)):=⟨by have:=i.depth;show A.depth+1+1+10+23<Fa;lia,by have:=i.units;show A.units+3+1+100+3*23<Rq;lia,i.handled⟩;let i:Cx:={cR w h A fd p.h.objs.size (E? w (a.objs.size+1) a.objs.size)with A:=(A.deeper (Tm fd p.h.objs.size (adr qj 262))).under (.builtin "type.__call__" ⟨.ref gG::E,[]⟩)};(have H:bC i (sD ⟨⟨a,Q,R,T,V⟩,u,F⟩ p.h.objs.size) ⟨[(236,.val (.str t))],⟨[],[],0⟩⟩:=by refine⟨adZ G oL,Sb G oL,?_,g.rel.base⟩;obtain⟨m,y,hl⟩:=g.rel.loc;refine⟨m,y.keeps λd o e=>ub (q:=⟨⟨a,Q,R,T,V⟩,u,F⟩) o e,λy=>?_⟩;by_cases i:ac 236 y=U;have:=hl y;rw[fE i]at this ⊢;exact this;rw[dH (d8.mpr i)];exact trivial);refine call_K (pre:=[.ref (a.objs.size+1)]) Z H (Xs S _ j) k (show cD (E? w (a.objs.size+1) a.objs.size) u E [.str t]from r4) (show ot (E? w (a.objs.size+1) a.objs.size) u [] []from⟨Z,Z⟩) _ λo t i j=>⟨?_,?_⟩;have j:Rd (E? w (a.objs.size+1) a.objs.size) o.F t a':=j;rw[Xu hu]at j;exact j;obtain⟨j,o,j,t,j⟩:=Ew (hp:=U) (par:=a.objs.size+1) (dG:=a.objs.size) (ht:=J) (aG:=0) S n;(have n:o=fd:=by have k:=j.data;rw[au (il t ho),b.data]at k;exact(k7 k).symm);rw[n]at j;let c1:Cx:=cR w h A fd p.h.objs.size (E? w (a.objs.size+1) a.objs.size);have b:c1.OK:=Iq j (kf S f.gs) S.jB L M s p.h.objs.size;have j:c1.Calls:=Xn S f s (λB r=>Bz (hp:=U) (par:=a.objs.size+1) (dG:=a.objs.size) (ht:=J) (aG:=0) S 20 B r) iS fd (adr qj 262) p.h.objs.size;refine iT (c:=c1) (v:=.par) b ⟨i.rel.pg,i.rel.kr,i.rel.loc,i.rel.base⟩ (show aq iS.lv 235 from Z) ⟨Z,Z⟩ λf a=>?_;refine(oz 300 si _ b j zl).2 es1 hb1 f _ fl σ' e2 a.rel _ _ λf b b j=>?_;have k:=(Xy (ro:=J) G oL g.ext (λd P e=>(aJ e).elim (λz=>.inr ⟨z.1,(au z.2).symm⟩) λz=>.inl ⟨z.1,(sE z.2).1⟩) dS).trans Z ((i.ext.weak λ_=>Ce).trans Z (a.ext.trans Z b.ext));have X:=leave ķ (JY x.own) K k;obtain⟨d,g,i⟩:=Xw x l X (AB b.rel.pg).own;refine hQ _ _ ?_;refine Z8 j (λa _=>?_) (λa _=>?_) λy z a b j=>?_;rw[a]at e;exact aa e;rw[a]at e;exact aa e;rw[a]at e;refine bW (show gd (dat 20 y) (O (y,pg))=O (v,pg')from e) λa e=>iu e λe hp=>?_;rw[b];rw[<-hp,<-e]at q;exact q {off f with ow:=p.ow} z d g i (adX 20 y a z j)
end
section
variable{d:W}{pg:PG}{t:ae}{i:af}
def ahk(g:(pS d).av bP [] [] (Y7 t)=O (e,a))(h:uE (ev (pR d) qa · DC) (pr (pR d) qa 300 DD) 300 ⟨fG (.str t) [] e,a⟩=O (.next,⟨fG (.str t) i .none,b⟩)):∃b,pr (pR d) qa 300 si ⟨[(236,.val (.str t)),(235,.val .par)],Y7 t⟩=O (.ret (.lst i),b):=by
 have b:ev (pR d) qa J Li ⟨[(236,.val (.str t)),(235,.val .par),(238,.own [])],Y7 t⟩=O (e,⟨[(236,.val (.str t)),(235,.val .par),(238,.own [])],a⟩):=by unfold Li;rw[Du Z Z PD p9 Z,show(pR d).av bP [] [] (Y7 t)=O (e,a)from g];rfl
 exact⟨_,cY (cY (cY (Jy Z Z) h) (dI b Z)) Z⟩
def Hc(b:eZ t i)(h:dat 20 (.lst i))(c:19<=d):ĸ d [.str t] [] pg=O (.lst i,pg):=by refine gq λP e=>?_;obtain⟨g,a,a,g1,f,f⟩:=adU b c;obtain⟨b,R⟩:=ahk g1 f;refine e ?_;show ax (R8 [.str t] [] ⟨[],[],0⟩) (λu a=>gd (dP u J (no:=U)) (ax (pr (pR d) qa 300 si ⟨[(236,.val (.str t)),(235,.val .par)],a⟩) λf _=>vK f C C λv=>gd (dat 20 v) (O (v,pg))))=_;rw[g];show ax (pr (pR d) qa 300 si ⟨[(236,.val (.str t)),(235,.val .par)],Y7 t⟩) (λf _=>vK f C C λv=>gd (dat 20 v) (O (v,pg)))=_;rw[R];exact agj h
def Za:Rn t9:=⟨λa h=>Hc a h (aO Z)⟩
end
section
variable{c:Cx}{p:Pt}{σ σ1:St}{E:aT}{cv:ae}{gi gl1:jM}{elt it:X}{y x:W}{cs:ae}{rs:af}
def Ex(s:c.OK)(u:c.eV)(A:c.G.sup=λ_ _ _=>C)(t:kL c cv gi gl1)(j:c.G.ro=J){k d:Expr}{i:c7}{l o:ww}(e:rP c.G gi cv elt y it cs c.lv σ=O (.lst rs,σ1))(H:eK c.g.nm elt k)(F:eK c.g.nm it d)(v:DL c.g.nm elt y cs i)(z:nW d)
 (G:bC c p σ){r:N (bv->e5 df)}{Q:aT}(q:∀f h a B b g n m,Nx c p σ.pg f h->oy c (Ey J) [a,B] f h.pg b σ1->f.h.get? a=C->f.h.get? B=C->a≠B->b.h.get? a=O (eE g n)->jT g->cD c.g b.F g rs->b.h.Ns B m->compPost (M' c) c.A E r Q (.ref a) B (.ok .next) b.s):
  he (M' c) c.A (ò (.ListComp k [⟨.Name (c.g.nm y) l,d,[],0⟩] i o) i c.env (firstIterPos [⟨.Name (c.g.nm y) l,d,[],0⟩] o) (newList []) J (Db d c.env) r) Q E p.s:=
 bW e λi e=>aQ e λd h k e=>aQ e λd d l e=>iu e λo r=>by
  have d:=NV v
  obtain⟨e,v,K⟩:=xa λp w L=>by obtain⟨M,e,P⟩:=d.free p w L;refine ag i λw _=>ag (ai w e) λL Q=>?_;obtain⟨w,R⟩:=BJ.mp Q;obtain⟨Q,_,S,_⟩:=t.cell M w L R;exact⟨Q,P▸S⟩
  refine j_ Z (lO z) v d.kind d.names (CM s (u.x5 A) j k F G λf k n k k v z=>?_);obtain⟨A,P,A,A,w,F⟩:=v;refine w9 j A w z F k.rel d.cell d.kind d.SG (G':=Ux c.G gi elt) j (λB=>(bz (NY s t d i K B) u.Us elt).1 _ H) l λa B b g n m L d fB i j e l s=>?_;exact q f h a B b g n m k (r▸L) d fB i j e ((au (ah ja o))▸l) s
def Se(g:c.OK)(P:c.eV)(R:c.G.sup=λ_ _ _=>C)(S:kL c cv gi gl1)(H:c.G.ro=J){i:a9}(V:aq c.lv x)(r:XM c.g.nm (.setC x elt y it cs) i)(t:rP c.G gi cv elt y it cs c.lv σ=O (.lst rs,σ1))(T:bC c p σ){Q:yk}
 (q:∀b f n u m j s,(∀a o,p.h.get? a=O o->Ey J (p.ow a)->a≠c.L->j.get? a=O o)->p.h.get? b=C->b≠c.L->j.get? b=O (eE f n)->jT f->cD c.g u f rs->j.Ns c.L m->m (c.g.nm x)=O (.ref b)->Q .next {p.s with heap:=j,toks:=s}):he (M' c) c.A (exec i c.env) Q E p.s:=by
 refine rM r λu u spos hs' r=>ag r λu hE=>qF u λX ht u=>?_;obtain⟨X,p0,hn,u⟩:=kD u;rw[hs',ht,hn,gZ u];obtain⟨a,u,sc,pos,u,r⟩:=Mu hE;refine AG r λpx iter r h1 j h h4=>?_;rw[u,r]
 have fin:∀{k v b B d f n h mL},Nx c p σ.pg k v->oy c _ [b,B] k v.pg d σ1->k.h.get? b=C->d.h.get? b=O _->jT f->cD c.g d.F f rs->(∀a,a≠c.L->a≠B->h.get? a=d.h.get? a)->b≠B->k.h.get? B=C->h.Ns c.L mL->mL (c.g.nm x)=O _->∀s,Q .next {d.s with heap:=h,toks:=s}:=λ{k v b B d f n h mL}e L l w A F r G fB Q hm s=>by
  have sh:d.s={p.s with heap:=d.h,toks:=d.s.toks}:=(L.ext.sh).trans (ah (λX:ge=>{X with heap:=d.h,toks:=d.s.toks}) e.ext.sh);have X:=e.rel.kr
  have u:b≠c.L:=λz=>by obtain⟨o,K⟩:=e.rel.pg.own.sF _ _ X;exact aa (il l (z▸K))
  rw[sh];refine q b f n d.F mL h s (λa o i s nL=>?_) ?_ u ((r b u G).trans w) A F Q hm
  ·have t:=e.ext.keep a o i (H.symm▸s)
   have z:=(e.ext.to a o i).elim (λz=>z.symm▸s) λz=>z.symm▸Z;exact(r a nL λz=>aa (il fB (z▸t))).trans (L.ext.keep a o t z)
  ·cases i:p.h.get? b with
   |none=>rfl
   |some o=> obtain⟨r,K⟩:=e.ext.ex b o i;exact aa (il l K)
 obtain⟨M,hb⟩:∃M,lN (.ListComp a [⟨.Name (c.g.nm y) px,iter,[],0⟩] sc pos) (O (.Name (c.g.nm x) p0)) spos.line c.env=H1 M:=⟨_,Z⟩
 induction M with
 |false=> refine zQ ?_ hb;refine Ex g P R S H t h1 j h h4 T λk v b B d f n m e L l fB G w A F u=>?_;refine⟨m,u,λM o=>?_⟩;obtain⟨mL,nL,_⟩:=L.rel.loc;have s:c.L≠B:=λz=>bx Z (au (il (z▸L.rel.kr) (L.ck B aat)));refine BM (g.loc x V) (g.locals▸nL.sameBut o s) (λh n3 r=>?_) (mA g);rw[g.locals]at n3 r;exact fin e L l w A F (λa e K=>(r.2 a e).trans (o.2 a K)) G fB n3 (eP Z) _
 |true=> rw[nq _ _ _ _ hb];refine bR (uh (bR ?_));refine bR (jt (Ex g P R S H t h1 j h h4 T λk v b B d f n m e L l fB G w A F u=>?_) (λ_ b b=>cP (cP b)) λ_ _ i=>i);obtain⟨mL,nL,_⟩:=L.rel.loc;have s:c.L≠B:=λz=>bx Z (au (il (z▸L.rel.kr) (L.ck B aat)));refine zF (BM (g.loc x V) (g.locals▸nL) (λM n3 o=>?_) (mA g));rw[g.locals]at n3 o;refine⟨m,u.sameBut o λz=>s z.symm,λh r=>?_⟩;exact fin e L l w A F (λa e K=>(r.2 a K).trans (o.2 a e)) G fB (n3.sameBut r s) (eP Z) _
end
def Zb(B:S):I:=S.casesOn (motive:=λ_=>I) B J (λ_ _=>U) aay aay J J (λ_ _=>J) (λ_ _ _ _ _=>J) (λ_ _=>J) (λ_ _ _=>J) (λ_ _ _=>J) (λ_ _=>J) (λ_ _ _=>J) (λ_ _ _ _=>J) (λ_ _ _=>J) (λ_ _=>J) (λ_ _ _=>J) aay aay J
def Sf(a:ae)(k:W):S->I:=ul (motive:=λ_=>S->I) aaz (λ_ b B=>Zb B&&(uR a (xJ B).1&&b (xJ B).2)) k
def XA(p:Pt)(L:ii):Pt:=⟨{p.s with heap:={p.s.heap with objs:=#[]} },λ_ _=>Ch,bQ L (O .frame) λ_=>C⟩
def XB(h:Zb B):B=.cons (xJ B).1 (xJ B).2:=by induction B with|cons a b _=>rfl|_=>exact ao h
section
variable{c:Cx}{p:Pt}{v w:St}{E:aT}{n:W}{a:ii}{Q:yk}
def Sg(h:c.OK)(i:c.Calls)(j:c.G.ro=J):∀(k:W){B:S}{d:b9}{p:Pt}{v:St},Sf c.lv k B->lF c.g.nm B d->stK c.G c.lv n k B v w->bC c p v->(∀e f,lF c.g.nm (yx k B) f->bC c e w->Ext (k6 J) p v.pg e w.pg->he (M' c) c.A (e0 f c.env) Q E e.s)->he (M' c) c.A (e0 d c.env) Q E p.s:=by
 intro k
 induction k with
 |zero=> intro B d p v _ b g r H;rw[g]at r H;exact H p d b r .refl
 |succ k l=> intro B d p v d b g r H;refine ag d λc1 d=>ag d λk d=>?_;obtain⟨m,o,q⟩:=g;have g:=XB c1;rw[g]at b;obtain⟨g,s,s,t,b⟩:=lQ b;rw[s];refine yF ((oz n (xJ B).1 c h i k).1 g t p v .next m o r _ _ λg g i g=>Z8 g (λ_ k=>?_) (λg _=>ao (ah (λh=>vK h J U λ_=>J) g)) λ_ _ g _ _=>ao (ah (λh=>vK h J J λ_=>U) g));rw[k];exact l d b q i.rel λe f b d g=>H e f b d ((j▸i.ext).trans Z g)
def Hj(h:(XA p L).ow b=O j):b=L/\j=.frame:=(aJ (show bQ L _ aaG b=O j from h)).elim (λz=>⟨z.1,(au z.2).symm⟩) λz=>aa z.2
def BE.mk0(r:bC c p v)(f:p.ow a=O .ck)(i:∀b,p.ow b=O .ck->b=a):(∀b∈[a],(XA p c.L).h.get? b=C)/\BE c [a] (XA p c.L) v.pg p v:=by have d:∀b,(XA p c.L).h.get? b=C:=λb=>jr (eG _);have nL:c.L≠a:=λq=>bx Z (au (il (q▸r.kr) f));have u:∀b,b≠a->(un [a] p).ow b=p.ow b:=λb h=>nv λm=>h (eC.mp m);have g:(un [a] p).ow a=C:=wW gV;refine⟨λb _=>d b,r,⟨λ_ _ h=>h.elim,Z,λb o e=>aa (il (d b) e),λb o e=>aa (il (d b) e),λb o e=>aa (il (d b) e),λb=>⟨λh=>(bx Z (Hj h).2).elim,λh=>?_⟩,λb=>⟨λh=>?_,λh=>?_⟩,aU _,λ_=>⟨λ_=>Z,λb t h=>(bx Z (Hj h).2).elim⟩⟩,λb m=>eC.mp m▸f⟩;by_cases q:b=a;rw[q,g]at h;exact aa h;exact ch (i b (il (u b q) h)) q;rw[(Hj h).1,u _ nL];exact r.kr;by_cases q:b=a;rw[q,g]at h;exact aa h;rw[r.pg.own.inj b c.L .frame (il (u b q) h) r.kr (λz=>bx Z z)];exact(dS:bQ c.L _ aaG c.L=_)
end
def Si:X:=.bin .Mod (.aR 212) (.int 27720)
def ę:X:=.cut (.aR 242) .nil (.int 12)
def JZ(a:Y D):ae:=(a.take 12).map λi=>(TE i 27720).toNat
abbrev LC(d:W):jM:=yd (Br t9 (d+5)).gl [267]
def ad0:(Sf g7 12 yA&&(Sf g7 6 (yx 13 yA)&&uR g7 (yx 19 yA))):=by kernel_rfl
section
variable{f:Y D}{G:cQ}{pg:PG}{d:W}
def aiK(d:W):H2 pA (Br t9 d):=⟨(Ļ d).to Z,(LG d).gl,(LG d).bU,(LG d).sup,(LG d).comp,(LG d).ro⟩
def aiL(i:D):ev (Ux G a Si) [212] J Si ⟨[(212,.val (.int i))],pg⟩=O (iv (TE i 27720).toNat,⟨[(212,.val (.int i))],pg⟩):=(show O (V.int (TE i 27720),St.mk [_] pg)=_ by rw[show V.int (TE i 27720)=iv (TE i 27720).toNat from ah V.int (yI (Int.emod_nonneg _ (aO Z))).symm])
def ahl(l:Y D):CI (sk (ev (Ux G a Si) [212] · Si) 212) (l.map V.int) pg=O ((l.map λi=>(TE i 27720).toNat).map iv,pg):=by induction l with|nil=>rfl|cons i l c=>show ax (sk (ev (Ux G a Si) [212] · Si) 212 (.int i) pg) (λv pg=>ax (CI _ _ pg) λb pg=>O (v::b,pg))=_;(have e:sk (ev (Ux G a Si) [212] · Si) 212 (.int i) pg=O (iv (TE i 27720).toNat,pg):=by show ax (ev _ [212] J Si ⟨[_],pg⟩) (λv s=>O _)=_;rw[aiL];rfl);rw[e];show ax _ (λb pg=>O (_::b,pg))=_;rw[c];rfl
def ad1:rP (GW t9 d) (LC d) [33] Si 212 ę [] g7 ⟨[(242,.val (.lst (f.map .int)))],pg⟩=O (.lst ((JZ f).map iv),⟨[(242,.val (.lst (f.map .int)))],pg⟩):=by show ax (ax (O (V.lst _,St.mk [_] pg)) λv s=>bn (ja v) λa=>gd _ (O (a,s))) (λa s=>ax (CI _ a s.pg) λb pg=>O (V.lst b,(⟨s.loc,pg⟩:St)))=_;rw[<-List.map_take];show ax (gd (bd (ak ((f.take 12).map V.int)) 1000) (O ((f.take 12).map V.int,St.mk [_] pg))) (λa s=>ax _ λb pg=>O _)=_;rw[aB,i9,Mg,g8 (ay (Nat.min_le_left _ _) (aO Z))];show ax _ (λb pg=>O (V.lst b,(⟨[_],pg⟩:St)))=_;rw[ahl];rfl
def ahm{l:ae}:∀{a},cD g F a (l.map iv)->cD b c a (l.map iv):=by induction l with|nil=>exact id|cons n l e=>exact λr=>mw (λ_=>id) (λ_=>e) _ r
end
def SP(a b:ge):=b={a with heap:=b.heap,toks:=b.toks}
def SP.trans(h:SP a b)(k:SP b c):SP a c:=l? k (by rw[show b={a with heap:=b.heap,toks:=b.toks}from h])
section
variable{w:ty}{h:t3}{mg mb:lm->eU}{ht:I}{par dG aG:ii}{A:v2}{d:W}
def ad2(S:Start w h mg mb)(i:d+5<=40)(a:ij 40 A):LH w h J par dG ht aG (Br t9 (d+5)) A:=⟨λ_ h=>ao h,λj k b c f v g e=>jg e (λl e=>by rw[aK l];exact Sd S a b c f v g e) λ_ e=>(adP S (d+5) A (a.bS i)).2 j k b c f v g e⟩
def Sj(d:W)(E:d+5<=40){s:ge}(S:Start w s.heap mg mb)(m:ij 41 A){sa:ii}{l:aP}{n:W}{k:Y D}(K:s.heap.get? sa=O (eE l n))(L:jT l)(Q:cD (Xz w) (B0 s.heap) l (k.map .int)){R:ep->ge->Prop}
 (q:∀j u,(∀a o,s.heap.get? a=O o->j.get? a=O o)->R (.ok (.ret (.bool U))) {s with heap:=j,toks:=u}):Uf (WF Hd.pw w) A (.call (.ref (adr qj 286)) ⟨[.ref sa],[]⟩) R s:=jm (adE w.params) λo ho t=>by
 refine gq λP V=>?_;have con:=bO ad0;have con2:=bO con.2;obtain⟨fd,body,g,hb⟩:=Y4 (g:=Xz w) (B:=B0 s.heap) Z S.jB ho t;have i:=aiK (d+5);have B:dq (B0 s.heap) s.heap:=λ_ _ e=>e;have x0:qO (Xz w) ⟨s,B0 s.heap,λ_=>C⟩ ⟨[],[],0⟩:=⟨⟨λ_ _ e=>⟨e,Z⟩,λ_ _=>aa,λ_ _ _=>aa⟩,ao,ao⟩;have r:∀{ht aG},iU (gW w J 0 0 ht aG) (B0 s.heap) (Br t9 (d+5)).gl:=by rw[i.gl];exact x7 S λx g h=>By JV h
 have isA:∀a,(Br t9 (d+5)).bw a=U->fK a:=λ_ h=>il (qo i.bU _) h;have R:∀{ht aG},(F_ A (KP w.params) (gW w J 0 0 ht aG) (GW t9 d) g7 fd (adr qj 286) (B0 s.heap) s.heap.objs.size).eV:=ĺ S i.gs (m.deeper _) (ad2 S E (m.deeper _));have hgi:∀z,aq [33] z->aq [267] z=J:=λz h=>by rw[eC.mp (fT h)];rfl
 obtain⟨E,T,E,G⟩:=w6 (s:=s) (fd:=fd) (p1:=[(242,C)]) (p2:=[]) (g:=Xz w) (F:=B0 s.heap) Hi (show pO [(242,C)] [.lst (k.map .int)] []=O [(242,.lst (k.map .int))]from Z) (mT.mpr ⟨cr,zR⟩) (show cD (Xz w) (B0 s.heap) [.ref sa] [.lst (k.map .int)]from⟨_,_,Z,⟨sa,l,n,Z,K,L,Q⟩,Z⟩) (show ot (Xz w) (B0 s.heap) [] []from⟨Z,Z⟩) g.plain g.names Z (λ_ h=>by rw[eC.mp h]) ⟨[],Z,Z⟩ (λM A E Q q=>by rw[g.nod];exact cP (q C Z));obtain⟨w0,l,K⟩:=aav T;rw[l]at G;obtain⟨a,T⟩:=F3 (n:=s.heap.objs.size+1) (g.cv 33 Z);refine V ?_;refine call_cells (fd:=fd) (body:=body) (qV (nH _) (qV (nH _) m.two)) (B _ _ g.at_) g.data (oS S _ B) (g.code _ B) g.A0 G g.Z3 (λy V=>by rw[eC.mp V];exact .inl (g.lv 242 Z)) (λl X=>?_) g.co g.bD g.kind
 suffices H:∀(Q:yk)(E:aT),(∀j u,(∀a o,s.heap.get? a=O o->j.get? a=O o)->Q (.ret (.bool U)) {s with heap:=j,toks:=u})->he (WF Hd.pw w) _ (e0 body _) Q E l from H _ _ q
 intro Q E q;obtain⟨u,tk,L⟩:=X.toInCall.same;have kl:(xz fd s.heap.objs.size (adr qj 286)).kindOf ((Xz w).nm 242)=O .local:=g.lv 242 Z;have l:=X.toInCall.ns;have B:=X.toInCall.keep;have j:=X.cell (IN 33) a T;have G:s.heap.objs.size<a:=X.above _ _ (Sc T);rw[L]at l B j ⊢;have one:∀{b},b∈[a]->b=a:=eC.mp
 let c:Cx:=F_ A (KP w.params) (Xz w) (GW t9 d) g7 fd (adr qj 286) (B0 s.heap) s.heap.objs.size
 obtain⟨L,p1,g1,g2,g3,L,L⟩:=CO (c:=c) (v:=[(242,.val (.lst (k.map .int)))]) (pk:=[a]) (h0:=u) (t:=tk) x0 (λ_=>Z) Z (λ_ _=>id) B l (λb h=>one h▸G) (λb h=>one h▸(by obtain⟨o,h,_⟩:=j;exact⟨o,h⟩)) λl B b=>by
  by_cases l:ac 242 b=U
  ·rw[fE l,<-aK l]
   exact⟨w0,by simp[bindL,kl];rfl,B▸K⟩
  ·rw[dH (d8.mpr l)];exact trivial
 have l:∃B,p1.h.IsCell a B:=⟨_,by rw[show p1.h=u from ah Shared.heap g2];exact j⟩;obtain⟨uc,u,hoa,hda⟩:=l;rw[<-g2];have j:c.OK:=N6 g (kf S i.gs) S.jB r isA m _;have l:kL c [33] (LC d) (Br t9 (d+5)).gl:=Iw g r hgi _;obtain⟨B,K,he1,i1,hb1⟩:=lQ (x:=.setC 211 Si 212 ę []) (xs:=yA) hb;rw[he1];show he (M' c) c.A (e0 (B::K) c.env) Q E p1.s;refine yF (Se (rs:=(JZ k).map iv) j R i.sup l i.ro (show aq g7 211 from Z) i1 ad1 L.rel λj wt nt F a' l B keep fresh nL hD hzt E hL hm=>?_);have nz:∀{b:ii}{o:xL},s.heap.get? b=O o->b≠s.heap.objs.size:=λe=>nM (pH e);have na:∀{b:ii}{o:xL},s.heap.get? b=O o->b≠a:=λe=>nM (qV (pH e) G);have K:∀b o,s.heap.get? b=O o->p1.h.get? b=O o/\p1.ow b=C:=λb o e=>L.rel.pg.own.fz b o (by rw[g3];exact e);have kp:∀b o,s.heap.get? b=O o->l.get? b=O o:=λb o e=>keep b o (K b o e).1 (by rw[(K b o e).2];rfl) (nz e);have nD:∀{b:ii}{o:xL},s.heap.get? b=O o->b≠j:=λe z=>aa (il fresh (z▸(K _ _ e).1));have aD:a≠j:=λz=>aa (il fresh (z▸hoa));have aL:a≠s.heap.objs.size:=ed G;have ha2:l.get? a=O u:=keep a u hoa (by rw[L.ck a gV];rfl) aL;have G:=hL;obtain⟨oL,_,_,K,_⟩:=G
 let G:=bQ j (O .aG) (bQ s.heap.objs.size (O .frame) (bQ a (O .ck) λ_=>C))
 let P:Pt:=⟨{p1.s with heap:=l,toks:=B},B0 s.heap,G⟩
 let c1:Cx:=F_ A (KP w.params) (gW w J 0 0 U j) (GW t9 d) g7 fd (adr qj 286) (B0 s.heap) s.heap.objs.size
 have L:Own ⟨{p1.s with heap:=l,toks:=B},B0 s.heap,bQ a (O .ck) λ_=>C⟩:=(show Own ⟨{p1.s with heap:=l,toks:=B},B0 s.heap,λ_=>C⟩from⟨λb o e=>⟨kp b o e,Z⟩,λ_ _=>aa,λ_ _ _=>aa⟩).give (t:=a) (k:=.ck) ha2 (λo e=>na e Z) λ_=>aa;have O2:=L.give (t:=s.heap.objs.size) (k:=.frame) K (λo e=>nz e Z) λb e=>(aJ (show bQ a (O .ck) aaG b=O .frame from e)).elim (λy=>bx Z (au y.2)) λy=>aa y.2;have K:Own P:=O2.give (t:=j) (k:=.aG) hD (λo e=>nD e Z) λb e=>(aJ (show bQ s.heap.objs.size (O .frame) (bQ a (O .ck) λ_=>C) b=O .aG from e)).elim (λy=>bx Z (au y.2)) λy=>(aJ y.2).elim (λy=>bx Z (au y.2)) λy=>aa y.2
 have r1:bC c1 P ⟨[(211,.val .aG)],da (JZ k)⟩:=by
  refine⟨⟨K,ao,λ_=>⟨dS,wt,nt,hD,hzt,ahm E⟩⟩,(bp λz=>nL z.symm).trans dS,⟨a',hL,λy=>?_⟩,λ_ _=>id⟩;by_cases K:ac 211 y=U
  ·rw[fE K,<-aK K]
   exact⟨.ref j,hm,Z,Z⟩
  ·rw[dH (d8.mpr K)];exact trivial
 have far2:∀b,G b=O .ck->b=a:=λb e=>(aJ e).elim (λy=>(bx Z (au y.2)).elim) λy=>(aJ y.2).elim (λy=>(bx Z (au y.2)).elim) λy=>(aJ y.2).elim (λy=>y.1) λy=>aa y.2;have P:G a=O .ck:=(bp aD).trans ((bp aL).trans dS);obtain⟨L,K,K,_⟩:=Y4 (g:=gW w J 0 0 U j) (B:=B0 s.heap) Z S.jB ho t
 have hfd:L=fd:=by have L:=K.data;rw[g.data]at L;exact(k7 L).symm
 rw[hfd]at K;have L:c1.OK:=N6 K (kf S i.gs) S.jB r isA m _;have cap1:kL c1 [33] (LC d) (Br t9 (d+5)).gl:=Iw K r hgi _;have m:=(R (ht:=U) (aG:=j)).comp L i.sup cap1 Z;obtain⟨r,r,r,r,r,r,K,nl,x,y,z,tt,b',c',D20,hw,NE,K12⟩:=agQ (d:=d) Za (JZ k);obtain⟨p,k,k,σ3,e13,K6,hdue,hret⟩:=agT (d:=d) (h:=r) (c:=K) (pg:=da b') (nl:=nl) (x:=x) (y:=y) (z:=z) (t:=tt) Za hw (ay c'.whole.tl (aO Z)) NE;refine Sg L m i.ro 12 con.1 hb1 K12 r1 λk k r K x3=>?_;obtain⟨k,k,he4,k,hb4⟩:=lQ r;rw[he4];refine rM (f:=λr v _=>bV IN [33] r&&eK IN I? v&&!([33]:ae).isEmpty&&d5 v) k λr r ps hs' k=>ag k λk nc=>ag k λk _=>ag k λk i5=>mC (c:=c1) k λy1 k hn1 hn=>?_;rw[hs',hn1,(cO.mp hn:k=[])];refine yF (zQ (((bz L m I?).1 r i5).val e13 K _ _ λk m r K=>?_) (jd nc));have m:Ext (k6 J) _ _ k _:=x3.trans Z (r.ext.weak λ_=>Ce);have fa4:k.ow a=O .ck:=(m.ck a).mp P;have c4:k.h.IsCell a uc:=⟨u,m.keep a u ha2 (by show k6 J (G a)=U;rw[P];rfl),hda⟩;obtain⟨a,u⟩:=BE.mk0 r.rel fa4 λb e=>far2 b ((m.ck b).mpr e);refine F5 (gi:=LC d) (v:=b8 p) L cap1 (show aq [33] 33 from Z) T (g.cv 33 Z) cr a (λb h=>ch h cr) u c4 K λG _ _ a K r u=>?_;have g:=((R (ht:=U) (aG:=j)).lg r).comp a i.sup K Z;refine Sg a g i.ro 6 con2.1 hb4 K6 u.rel λK L P R T=>?_;obtain⟨i,j,j,n7,_,_⟩:=Nx.freeze R hdue;rw[<-j];refine(oz 300 (yx 19 yA) _ a g con2.2).2 L P i _ _ σ3 hret n7.rel _ _ λa g g L=>?_;have sh:=SP.trans (b:=p1.s) (by rw[g2];rfl) (SP.trans (b:={p1.s with heap:=l,toks:=B}) Z (SP.trans (b:=k.s) m.sh (SP.trans (b:=G.s) u.ext.sh (SP.trans (b:=K.s) T.sh (SP.trans (b:=i.s) (by rw[j];rfl) g.ext.sh)))));have i:=λb o e=>(g.rel.pg.own.fz b o (g.rel.base b o (r b o e))).1;have e:Q (.ret (.bool U)) a.s:=by rw[show a.s={s with heap:=a.s.heap,toks:=a.s.toks}from sh];exact q a.h a.s.toks i
 refine Z8 L (λa _=>ao (ah (λf=>vK f U J λ_=>J) a)) (λa _=>ao (ah (λf=>vK f J U λ_=>J) a)) λy z a g E=>?_;have V:=au (ah (λf=>vK f C C O) a);rw[<-V]at E;rw[g,show z=.bool U from E];exact e
end
def ad3(h:IntsAre a b):cD g F a (b.map .int):=by induction h with|nil=>exact Z|cons n t _ c=>exact⟨_,_,Z,⟨t,Z⟩,c⟩
def XC(h:IntsAre a b):a.length=b.length:=by induction h with|nil=>rfl|cons n t _ c=>exact ah pm c
def ad4:(286,yW)∈pA:=cV (Z)
theorem walk:WalkX Hd.q Hd.loose (λ_ _=>mf) (X.obsZ Hd.keys) (X.valZ Hd.K 1592 2510) Hd.jq.row.toRowW Hd.Et [] λf c=>dn f c:=by intro w c a c d G y e o f f f dV kV f f f f f g h h h L h i j k l;obtain⟨_,m,n,_⟩:=X.z_facts Hd.keys_eq y;have n:=Frag.In.keeps m L.keeps;have T:=G.T;wrow_args h i j k l;rename_i h _ _ _ _ _ _ _ sa p _ h _ _ _ b _ i _;have S:Start w a.heap c d:=⟨n,T.g,T.b,T.builtins,T.nolimit⟩;have r:=X.script_obj L h;(have s:e=adr qj 286:=by have c:=JU S (ai (RW w.params) ad4);have:=il f c;cases this;rfl);rw[s];refine sP ?_;have c:ij 41 callerA:=⟨by show 1+300+10+41<1000;decide,by show 4+100+3*41<9900;decide,Z⟩;(have d:=by show p.length<=lim;rw[XC b];exact ay (by lia) (show 63<=lim by decide));refine Sj 3 (aO Z) S c r d (ad3 b) λb b c=>?_;refine⟨.inl ⟨_,.bool U,[],Z,λ_=>Z,.bool U,?_,λ_=>⟨.nil,λ_ q=>nomatch q⟩⟩,⟨λb o e=>.inl (c b o e),λb o e=>⟨o,c b o e⟩⟩,Z,?_⟩;wrow_post;intro y b;have:a.gens=#[]:=g;rw[this]at b;simp at b
end
end Ev
theorem PySem.Challenge.cw_te0056_02_holds : PySem.Challenge.rw_te0056_02.Holds :=
 Hd.head Ev.walk
