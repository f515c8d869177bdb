import PyProof.Rows.All
import Wide.All
import OpenK.AllK
import Wide.FinOn
import KE.KIsNot
import PyProof.Rows.Range3
import PyProof.CompUse
import PyProof.Cells
import PyProof.LayNew
import Lean
import PySem.Challenge.RW_te0056_02
open Option renaming some.inj→au,isNone_iff_eq_none→vC,isSome_iff_exists→BM,some_ne_none→yG,some→O,none→C,rec→pm,isSome→sw,map_eq_some_iff→ab,not_isSome→k9,map→w'
open Nat renaming le_trans→ay,eq_of_beq_eq_true→aK,le_of_ble_eq_true→cw,lt_of_le_of_lt→fR,le_refl→aU,ble_eq_true_of_le→hH,le_of_eq→cZ,le_add_right→gb,succ_le_succ→eN,zero_le→eG,add_le_add_left→d9,add_right_comm→jL,lt_succ_self→nN,zero_add→hM,le_of_lt→jM,ne_of_lt→nO,add_le_add→g5,add_comm→hO,not_lt_zero→BN,le_add_left→nQ,lt_trans→qX,mul_le_mul_left→yK,add_assoc→fK,min_eq_left→yN,add_sub_cancel→Hq,le_succ→iI,le_of_succ_le_succ→vF,sub_le_sub_right→Mh,add_le_add_right→dh,lt_or_eq_of_le→zL,lt_of_lt_of_le→zM,le_succ_of_le→vI,succ_ne_self→zQ,min_le_right→zR,lt_of_not_le→EL,sub_le→EM,mul_succ→Mi,sub_le_of_le_add→aht,not_succ_le_zero→zV,not_lt→zY,mod_lt→eD,min_eq_right→E8,beq→ac,ble→bd,blt→jp,succ→pp,le_of_lt_succ→sK,rec→ut,lt_of_succ_lt_succ→IR,not_lt_of_le→Op,lt_succ_of_le→Wp,ne_of_gt→ed,le_zero→ez,exists_eq_add_of_le→hh,add_sub_cancel_left→hq,zero_mul→hX,ne_of_beq_eq_false→hY,sub_eq_zero_of_le→i0,sub_succ_lt_self→k_,casesOn→k!,sub_add_cancel→m6,succ_le_of_lt→n0,le_of_succ_le→n4,succ_ne_zero→pv,le_of_not_lt→p5,succ_pos→C1,succ_mul→C2,one_mul→I',mul_add→I_,beq_eq→R_
open _root_ renaming congrArg→ah,of_decide_eq_true→aO,decide_eq_true→cF,decide_eq_false→dQ,if_neg→eH,beq_iff_eq→gc,beq_self_eq_true→qU,if_pos→eP,beq_false_of_ne→qV,decide_eq_decide→BU,congrFun→qq,decide_eq_true_iff→EU,rfl→Z,Nat→W,Bool→I,List→Y,Int→D,Option→N,absurd→ch,String→ol,False→Ch,Array→XV,Unit→df,DecidableEq→gk,True→mf,congr→vy,ForInStep→C'
open Bool renaming eq_false_iff→d8,false_ne_true→yF,eq_iff_iff→yO,or_eq_true_iff→ET,false→J,true→U,not_eq_true'→im,xor→i!,or_eq_false_iff→i?,and_eq_true_iff→jh,and_false→q_,rec→û,not→ü
open List renaming length_append→aX,mem_singleton→eC,isEmpty_iff→cO,mem_append→gX,mem_map_of_mem→fq,mem_cons_of_mem→iH,mem_cons_self→gY,cons.inj→fw,map_cons→fS,cons_ne_nil→bN,length_map→jb,lookup_cons→kD,mem_map→eO,nodup_cons→mV,length_drop→uh,map_map→jx,length_tail→aiX,map_eq_nil_iff→vD,length_cons→vE,lookup_append→yH,zip_cons_cons→BQ,take_of_length_le→Hr,take_append_drop→BR,dropLast_eq_take→Hs,take_nil→sM,any_cons→sO,map_append→mc,append_toArray→zJ,drop_eq_getElem_cons→zO,nodup_append→zP,nodup_nil→zU,drop_nil→zX,size_toArray→EX,reverse_perm→EY,push_toArray→EZ,isEmpty_iff_length_eq_zero→Ml,take_length→E9,mem_reverse→Fb,map_reverse→Fc,length_take→Mm,drop_length→zZ,all_eq_true→Fd,append_assoc→am,rec→bm,not_mem_nil→cr,mem_cons→c?,mem_append_right→db,append_nil→eq,mem_append_left→h?,append_eq_nil_iff→t3,eq_nil_of_length_eq_zero→wE,mem_flatten→AC,casesOn→AT,map_inj_left→Ix,filter_cons→ar,map→b?,dropLast_append_of_ne_nil→eh,length→ey,forIn_cons→eL,find?_cons→eT,drop_drop→e8,extract_eq_drop_take→fD,getElem?_eq_getElem→f?,getLast?_cons_cons→ha,drop_eq_nil_of_le→hs,contains_iff_mem→h_,mem_of_mem_drop→i3,lookup→i',extract_toArray→i_,map_congr_left→k?,filterMap_cons→lx,zip_nil_right→l7,range→l_,getElem?_map→m_,flatten_cons→m?,mem_flatMap→n8,drop→n_,take_left'→p7,length_nil→p8,drop_left'→p_,replicate→q3,forIn_nil→q4,drop_left→q6,all_cons→r5,cons→R!
open PySem renaming wpAny_bind→bR,wpAny_pure→cP,wpAny_mono→jv,Heap.lt_size→pK,wpAny_holding→ui,plainObj_wpAny_Assign_Attribute→Hp,wpAny_execs_cons→yI,wpAny_standAt→uk,wpAny_storeName_local→BP,wpAny_execs_nil→vG,wpAny_Name→qY,wpAny_Call_Name_kw→yP,Heap.size_push→sP,wpAny_evalAll_nil→vH,wpAny_assign_Name→zI,W.looks_findIn→qo,W.plainGet_of→qr,wpAny_Assign_stores→EK,wpAny_load→qs,wpAny_truthy_bool→zS,wpAny_Assign_Name→zT,codeAny_call_def→EP,wpAny_call→sR,wpAny_loadName_local→EW,list_getitem_lookup→E7,Value→bv,Shared→ge,wpAny→he,Addr→ii,W.look_both→io,PyData.eqv→kt,Params→lm,Str→lw,mainGlobals→np,Operator→nw,Str.ofString→pi,CmpOp.casesOn→py,W.boot_heap→rc,importedModules→sn,FuncData→sB,W.findIn→ty,World→t1,Heap→ul,CmpOp→u8,Heap.SameBut→v1,treeTable→v2,Around→v6,Keyword→wn,builtinsNs→wp,Pos→ww,Operator.casesOn→wP,callEnvC→xz,Obj→xL,W.specialIn→zn,Program→zs,eval→Db,sysModules→Do,recursionLimit→Fa,starEach→Gc,DictEntry→M2,strKind→No,methodCallForm→Ok,PyData.keyHash→On,Challenge.pw_te0056_02→Re,mem_of_lookup→Sc,callEnv→Tm,W.emptyDict→TD,codeAny→Uf,storeName→UF,model→WF,W.Frag→WP,NameKind→W1,W.topFrame→az,W.handedIn→a4,W.boot_drawn→a5,F.slot_list_iadd→a6,methodCallPos→a7,attributeBase→a8,Stmt→a9,Const.casesOn→a_,Comprehension→a!,wpAt→b5,W.copiedNames→b6,Builtin.Range.rangeSize→b_,W.plainOver→ct,W.hasDictIn→c5,OsState→c6,Scope→c7,W.instObj→c8,wpAt_of_wpAny→c_,keywordEach→dg,call→dn,W.getL→d4,valueAt→d_,wpAny_setItem_pairs→d?,W.takerIn→ee,Value.ref.inj→ef,ExceptHandler→eg,typeLookup→ek,assignEach→el,Result→ep,Challenge.rw_te0056_02→et,wpAny_pyIter_list→eX,execs→e0,TablesWhole.holds→e4,Sem→e5,F.slot_dict_getitem→e6,F.slot_dict_delitem→e7,wpAny_items_cons→e_,getMethod→e!,cellsFrom→e?,backTo→fb,W.putL→fe,Value.ref→ff,F.slot_str_getitem→fg,F.slot_list_insert→fk,F.slot_list_extend→ft,wpAny_of_eq→fN,IsRangeIter→f',wpAny_items_nil→g_,W.get_value→g!,W.boot_toks→g?,F.slot_list_pop→hg,wpAny_seqItems→hF,wpAny_notIn_of→hI,sliceRange→hK,loadName→hN,call_meets→hR,binaryOp→hS,backToKw→hT,Builtin.List.listFitsIndex→hW,wpAny_comprehension_free→j_,swappedStores→j!,W.plainGet→j?,W.openSeen→ki,W.openGood→kn,W.namesBound→kq,Tok→kv,PyData.eqvAll→k5,Data.func.inj→k7,Calls.loadGlobal_builtin→k8,swapsWith→lN,Str.empty→l1,Calls.loadGlobal_global→l2,Builtin.Str.occurrences→l4,Arguments→l5,wpAny_allTrue_And_cons→ml,stored→mm,setAttr→mu,rawInt→mD,pyIter→mE,intKind→mI,bootBuiltins→m4,BindsTo→m5,wpAny_allTrue_Or_cons→nk,exec_Assign_Name_used→nq,W.staticsOk→nr,Heap.get?_update_self→nT,wpAny_in_of→n?,wpAny_AugAssign_Name→oa,subscripted→od,slicePicked→oo,seqIndex_of→ox,lookup_relabel_local→oI,keeperOf→o1,compEnvC→o2,callWith→o_,W.SharedT→o!,Model→o?,IsRange.new→pn,wpAny_loadName_cell→qd,wpAny_evalPart_none→qk,codeAny_forLoop_any→qm,TablesWhole.wModule→qy,KeyKind→qR,Builtin.Range.small→q0,wpAny_pyIter_range→rb,wpAny_isTrue_value→ri,wpAny_getItem_list→rk,wpAny_assign_Tuple→rl,wpAny_List→rn,typeIs_str→rp,closureFor→rq,Walks.list→ru,W.laidKept→rv,W.gensDone→rx,W.findObj_own→r0,Obj.mapSeq→r2,BoolOp→r3,wpAny_truthy_list→v',wpAny_truthy_dict→v_,wpAny_pyIter_dict→v!,getMethod_builtin→v?,foldedSetIterable→wo,allTrue→wy,Walks→wz,Value.noConfusion→w1,UnaryOp→w2,StrLaws.subAt_one→w3,PyData.canLayAll0→w4,Env→w5,Const→w7,wpAny_getItem_of→BB,wpAny_For→BS,stored_length_le→B2,specialOf→B_,lastMarks→B!,inplaceOp→B?,compareOp→CB,W.ks_loadName_global→CK,DictEntry.refKey→CT,Calls.wpAny_keep→C0,wpAt_bind→H7,typeLookup_type→H',noFill_list_add→H_,W.takesIn→H!,W.makesIn→H?,PyData.depthAll→IA,wpAny_loadPart→Q?,sizeLine→Rm,pick_run→Rq,evalEach→RE,cLine→RT,Walks.dictKeys→R1,W.namesMeet→R4,wpAny_UnaryOp→ô,comprehension→õ,W.looks_specialIn→ö,Value.casesOn→ø,NameKind.cell→ù
open Int renaming natCast_nonneg→eM,le_trans→gP,ofNat_le→jw,add_assoc→ej,add_nonneg→qW,le_add_of_nonneg_right→uj,toNat_of_nonneg→yL,add_le_add_left→yM,lt_of_lt_of_le→um,le_refl→pL,not_lt→qZ,natCast_add→fP,zero_add→iQ,ofNat_lt→qp,add_zero→aA,not_le→sQ,add_comm→nU,add_lt_add_left→ES,sub_add_cancel→qt,lt_add_of_pos_right→o0,ofNat→wv,add_sub_cancel→wS,lt_irrefl→FM,lt_of_le_of_lt→FS,emod→TE,add_right_comm→TW,le_add_of_nonneg_left→gg,add_lt_add_iff_left→hv,add_le_add_iff_left→hA,lt_trans→h!,add_sub_add_left→ly,add_le_add_right→lB,natCast_ne_zero→l!,sub_eq_add_neg→nf,lt_or_eq_of_le→nh,add_sub_assoc→n!,max_eq_right→p!,sub_le_self→q7,sub_nonneg→r6,ofNat.inj→w_,ne_of_lt→C3,ne_of_gt→C4,lt_asymm→C5,lt_succ→I!,casesOn→I?
open Prod renaming mk.inj→gE,ext→pu,fst→wf,snd→Fk,mk.injEq→UV
open Array renaming toList_append→zK,length_toList→zW,all_eq_true_iff_forall_mem→Mj,mk→b!,mem_toList_iff→ic
open Decidable renaming decide→a?
open False renaming elim→pr
open Pure renaming pure→H1
open PyProof renaming noPylong_small→fx,Rows.len_list→f_,Rows.markedEach_of_false→R',Rows.Subscript_→ú
open Eq renaming trans→l?,symm→J0
open Min renaming min→p6
open And renaming right→p?
open Exists renaming elim→r'
open PySem PySem.W PyProof.Rows
set_option Elab.async false
set_option maxRecDepth 1000000
set_option maxHeartbeats 0
set_option genInjectivity false
set_option genSizeOf false
set_option autoImplicit true
set_option genCtorIdx false
set_option compiler.extract_closed false
set_option linter.all false
local macro_rules (kind:=Lean.Parser.Command.declaration)|s=>do if s[0][4].getNumArgs==0&&(s[1].isOfKind ``Lean.Parser.Command.definition||s[1].isOfKind ``Lean.Parser.Command.abbrev) then return s.setArg 0 (s[0].setArg 4 (Lean.mkNullNode #[Lean.mkNode ``Lean.Parser.Command.noncomputable #[Lean.mkAtom "noncomputable"]])) else Lean.Macro.throwUnsupported
local macro_rules | `($a:term ∧ $b) => do { let mut l := #[a]; let mut r := b; while r.raw.isOfKind ``«term_∧_» do { l := l.push ⟨r.raw[0]⟩; r := ⟨r.raw[2]⟩ }; if l.size < 2 then Lean.Macro.throwUnsupported else return Lean.Syntax.mkApp (Lean.mkIdent (.mkSimple s!"An{l.size + 1}")) (l.push r) }
local macro_rules | `(∃ $x:binderIdent*, $t) => do { if x.size < 2 || x.any (!·.raw[0].isIdent) then Lean.Macro.throwUnsupported else let y : Array (Lean.TSyntax `ident) := x.map (⟨·.raw[0]⟩); `($(Lean.mkIdent (.mkSimple s!"Ex{x.size}")) fun $y* => $t) }
namespace Ev
def il{α:Sort u}{a b c:α}(h:a=b)(k:a=c):b=c:=h.symm.trans k
def aaz{α:Type u}{a b:α}{l:List α}:a∈b::a::l:=.tail _ (.head _)
def aaA{α:Type u}{a b c:α}{l:List α}:a∈c::b::a::l:=.tail _ aaz
def aaC{α:Type u}{a b c d:α}{l:List α}:a∈d::c::b::a::l:=.tail _ aaA
def aaD{α:Type u}{a b c d e:α}{l:List α}:a∈e::d::c::b::a::l:=.tail _ aaC
abbrev aaE{α:Sort u}:α->I:=λ_=>J
abbrev aaF{α:Sort u}:α->I:=λ_=>U
abbrev aaM{α:Sort u}{β:Type v}:α->N β:=λ_=>C
section
abbrev hJ:=@PySem.Heap.get?_push_of_some
abbrev gZ:=@PySem.Heap.get?_push_size
abbrev ju:=@PySem.Heap.get?_none_of_le
abbrev BO:=@List.getElem?_toArray
abbrev yJ:=@List.mem_of_getElem?
abbrev zN:=@List.getElem?_eq_some_iff
abbrev EO:=@Array.getElem?_toList
inductive Ex2{α:Sort u}{β:Sort v}(P:α->β->Prop):Prop|i (a:α) (b:β) (h:P a b)
inductive Ex3{α:Sort u}{β:Sort v}{γ:Sort w}(P:α->β->γ->Prop):Prop|i (a:α) (b:β) (c:γ) (h:P a b c)
inductive Ex4{α:Sort u}{β:Sort v}{γ:Sort w}{δ:Sort x}(P:α->β->γ->δ->Prop):Prop|i (a:α) (b:β) (c:γ) (d:δ) (h:P a b c d)
inductive Ex5{α:Sort u}{β:Sort v}{γ:Sort w}{δ:Sort x}{ε:Sort y}(P:α->β->γ->δ->ε->Prop):Prop|i (a:α) (b:β) (c:γ) (d:δ) (e:ε) (h:P a b c d e)
inductive Ex6{α:Sort u}{β:Sort v}{γ:Sort w}{δ:Sort x}{ε:Sort y}{ζ:Sort z}(P:α->β->γ->δ->ε->ζ->Prop):Prop|i (a:α) (b:β) (c:γ) (d:δ) (e:ε) (f:ζ) (h:P a b c d e f)
structure An3(a b c:Prop):Prop where i::(h1:a) (h2:b) (h3:c)
structure An4(a b c d:Prop):Prop where i::(h1:a) (h2:b) (h3:c) (h4:d)
structure An5(a b c d e:Prop):Prop where i::(h1:a) (h2:b) (h3:c) (h4:d) (h5:e)
structure An6(a b c d e f:Prop):Prop where i::(h1:a) (h2:b) (h3:c) (h4:d) (h5:e) (h6:f)
structure An7(a b c d e f g:Prop):Prop where i::(h1:a) (h2:b) (h3:c) (h4:d) (h5:e) (h6:f) (h7:g)
structure An9(a b c d e f g h i:Prop):Prop where i::(h1:a) (h2:b) (h3:c) (h4:d) (h5:e) (h6:f) (h7:g) (h8:h) (h9:i)
def gq{G:Prop}(H:∀P:Prop,(G->P)->P):G:=H _ id
def br{a:Type}(b:I)(x y:a):a:=û (motive:=λ_=>a) y x b
def gd{a:Type}(b:I)(x:N a):N a:=û (motive:=λ_=>N a) C x b
def oc{b a:Type}(o:N b)(f:b->a)(y:a):a:=pm (motive:=λ_=>a) y f o
def bn{b a:Type}(o:N b)(f:b->N a):N a:=pm (motive:=λ_=>N a) C f o
def ax{b c a:Type}(o:N (b×c))(f:b->c->N a):N a:=pm (motive:=λ_=>N a) C (λp=>Prod.rec (motive:=λ_=>N a) f p) o
def mp{b a:Type}(o:N b)(f:b->a):N a:=pm (motive:=λ_=>N a) C (λa=>O (f a)) o
def lc{b a:Type}(l:Y b)(y:a)(f:b->Y b->a):a:=bm (motive:=λ_=>a) y (λa r _=>f a r) l
section
variable{e g i:Type}{P:Prop}
def bW{b:I}(h:gd b x=O r)(k:b->x=O r->P):P:=by cases b with|true=>exact k Z h|false=>exact nomatch h
def bL{f:e->N g}(h:bn o f=O r)(k:∀a,o=O a->f a=O r->P):P:=by cases o with|some a=>exact k a Z h|none=>exact nomatch h
def aQ{f:e->g->N i}(h:ax o f=O r)(k:∀a b,o=O (a,b)->f a b=O r->P):P:=by cases o with|some p=>exact k p.1 p.2 Z h|none=>exact nomatch h
def iJ{f:e->g}(h:mp o f=O r)(k:∀a,o=O a->f a=r->P):P:=by cases o with|some a=>exact k a Z (au h)|none=>exact nomatch h
def jj{b:I}(h:br b x y=O r)(k:b->x=O r->P)(l:b=J->y=O r->P):P:=by cases b with|true=>exact k Z h|false=>exact l Z h
def md{f:e->N g}(h:oc o f y=O r)(k:∀a,o=O a->f a=O r->P)(l:o=C->y=O r->P):P:=by cases o with|some a=>exact k a Z h|none=>exact l Z h
def iy(h:O (a,b)=O (c,d))(k:a=c->b=d->P):P:=k (ah wf (au h)) (ah Fk (au h))
def ag{a b:I}(h:(a&&b))(k:a->b->P):P:=by cases a with|true=>exact k Z h|false=>exact nomatch h
def bO{a b:I}(h:(a&&b)):a/\b:=ag h λx y=>⟨x,y⟩
end
inductive Sy where
 |off (k:W) (n:D)
 |big (k:W) (n:D)
 |nn
 |le (m:D)
 |old (j:W)
abbrev ae:=Y W
inductive V where
 |none
 |bool (b:I)
 |int (i:D)
 |str (s:ae)
 |tup (vs:Y V)
 |lst (vs:Y V)
 |obj (c:W) (fs:Y (W×V))
 |cls (c:W)
 |fn (f:W)
 |bi (b:W)
 |cd (k:W)
 |av (m:W)
 |par
 |aG
 |sym (p:Sy)
 |buf (l:ae) (e:I)
 |Ht
 |Zj (l:ae)
abbrev aY:=Y (W×V)
abbrev af:=Y V
def dP{a:Type}(v:V)(d:a)(no:a:=d)(bo:I->a:=λ_=>d)(i:D->a:=λ_=>d)(s:ae->a:=λ_=>d)(tu ls:af->a:=λ_=>d)(ob:W->aY->a:=λ_ _=>d)(cl fn bi cd me:W->a:=λ_=>d)(pa ta:a:=d)(sy:Sy->a:=λ_=>d)(bu:ae->I->a:=λ_ _=>d)(un:a:=d)(ws:ae->a:=λ_=>d):a:=V.casesOn (motive_1:=λ_=>a) v no bo i s tu ls ob cl fn bi cd me pa ta sy bu un ws
abbrev fQ:=N I
def gJ(v:V):fQ:=dP v C (bo:=O)
def gf(v:V):N D:=dP v C (i:=O)
def natOf(i:D):N W:=I? (motive:=λ_=>N W) i O λ_=>C
def asNat(v:V):N W:=dP v C (i:=natOf)
def dW(v:V):N (ae):=dP v C (s:=O)
def uo(v:V):N (af):=dP v C (tu:=O)
def jc(v:V):N (af):=dP v C (ls:=O)
def vJ(v:V):N (af):=dP v C (tu:=O) (ls:=O)
def vK(v:V):N W:=dP v C (cl:=O)
def sS(v:V):N W:=dP v C (bi:=O)
def pe(v:V):N W:=dP v C (cd:=O)
def jy(v:V):I:=dP v J (pa:=U)
def dZ(v:V):I:=dP v J (ta:=U)
def iK(v:V):N Sy:=dP v C (sy:=O)
def mW(v:V):N (ae×I):=dP v C (bu:=λl e=>O (l,e))
def mX(v:V):N (ae):=dP v C (ws:=O)
inductive X where
 |nil
 |cons (x xs:X)
 |pf
 |yQ
 |Hu
 |int (n:W)
 |str (s:ae)
 |aR (x:W)
 |bU (e:X) (a:W)
 |nt (e:X)
 |neg (e:X)
 |and (es:X)
 |or (es:X)
 |ite (c a b:X)
 |cmp (l:X) (ops:Y u8) (rs:X)
 |bin (op:nw) (a b:X)
 |tup (es:X)
 |yR (es:X)
 |Ss
 |sub (e i:X)
 |cut (e lo hi:X)
 |bF (f:W) (args:X) (ks:ae) (kvs:X)
 |fy (o:X) (m:W) (args:X) (ks:ae) (kvs:X)
 |sup (m:W) (args:X)
 |comp (elt:X) (x:W) (it:X) (cs:ae)
 |bad
inductive S where
 |nil
 |cons (s ss:S)
 |expr (e:X)
 |ret (e:X)
 |brk
 |U_
 |set (xs:ae) (e:X)
 |setC (x:W) (elt:X) (y:W) (it:X) (cs:ae)
 |C! (xs:ae) (e:X)
 |Fe (o:X) (a:W) (e:X)
 |Zk (o i e:X)
 |del (o i:X)
 |aug (x:W) (op:nw) (e:X)
 |J7 (o:X) (a:W) (op:nw) (e:X)
 |ifs (c:X) (t e:S)
 |uH (c:X) (b:S)
 |yb (xs:ae) (it:X) (b:S)
 |Zl (e:X)
 |C? (b:S)
 |bad
inductive LV where
 |val (v:V)
 |own (vs:af)
abbrev eu:=Y (D×V)
inductive PA where
 |val (v:V)
 |lst (vs:af)
 |kX (kvs:eu)
 |vL (kvs:Y (ae×V))
 |Hv (vs:af)
abbrev nW:=Y (W×PA)
structure PG where
 par:nW
 aG:af
 bD:W
abbrev cz:=Y (W×LV)
structure St where
 loc:cz
 pg:PG
abbrev jN:=Y (W×N V)
structure XK where
 params:jN
 fields:Y (W×W)
 consts:aY
 mro:ae
abbrev dR:=N (V×PG)
abbrev mi:=N (V×St)
abbrev jP:=W->N V
structure cQ where
 gl:jP
 cls:W->N XK
 du:W->I
 bw:W->I
 cA:W->N (Y (ae×V))
 av:W->af->aY->PG->dR
 func:W->af->aY->PG->dR
 sup:W->af->PG->dR
 dT:W
 dD:W
 qu:W
 ew:W
 lH:W
 ro:I
 comp:X->W->X->ae->ae->St->mi:=λ_ _ _ _ _ _=>C
def aj{a:Type}(b:W)(l:Y (W×a)):N a:=bm (motive:=λ_=>N a) C (λp _ a=>br (ac p.1 b) (O p.2) a) l
def put{a:Type}(b:W)(v:a)(l:Y (W×a)):Y (W×a):=bm (motive:=λ_=>Y (W×a)) [(b,v)] (λp l a=>br (ac p.1 b) ((b,v)::l) (p::a)) l
def aq(l:ae)(x:W):I:=bm (motive:=λ_=>I) J (λy _ a=>br (ac y x) U a) l
def cW(x:ae):ae->I:=bm (motive:=λ_=>ae->I) (λy=>lc y U λ_ _=>J) (λa _ b y=>lc y J λc y=>br (ac a c) (b y) J) x
def vM(x:ae):ae->I:=bm (motive:=λ_=>ae->I) (λy=>lc y J λ_ _=>U) (λa _ c y=>lc y J λb y=>br (jp a b) U (br (ac a b) (c y) J)) x
abbrev uI:=Y (Y W)
def cat(l:af):N (uI):=bm (motive:=λ_=>N (uI)) (O []) (λv _ a=>bn (dW v) λs=>mp a (s::·)) l
def join(a:ae)(l:uI):ae:=bm (motive:=λ_=>ae) [] (λx l b=>lc l x λ_ _=>x++a++b) l
def uJ(c:W)(l:ae):I:=bm (motive:=λ_=>I) J (λd _ a=>br (ac d c) U a) l
def Mn{a:Type}(p:a->I)(l:Y a):I:=bm (motive:=λ_=>I) J (λa _ b=>br (p a) U b) l
def aH{a:Type}(p:a->I)(l:Y a):I:=bm (motive:=λ_=>I) U (λa _ b=>br (p a) b J) l
def eQ(v:V):fQ:=dP v C (no:=O J) (bo:=O) (i:=λi=>O (!a? (i=0))) (s:=λl=>O (!l.isEmpty)) (tu:=λl=>O (!l.isEmpty)) (ls:=λl=>O (!l.isEmpty)) (ob:=λ_ _=>O U) (me:=λ_=>O U)
def dat(n:W):V->I:=ut (motive:=λ_=>V->I) (λv=>dP v J U aaF aaF aaF) (λ_ a v=>dP v J U aaF aaF aaF (aH a) (aH a)) n
def qP(n:W):V->PyData:=ut (motive:=λ_=>V->PyData) (λv=>dP v .none .none .bool .int λl=>.str ⟨l.toArray⟩) (λ_ a v=>dP v .none .none .bool .int (λl=>.str ⟨l.toArray⟩) (λl=>.tuple (l.map a)) (λl=>.list (l.map a))) n
def L6(a b:V):fQ:=gd (dat 30 a) (gd (dat 30 b) (O (kt (qP 30 a) (qP 30 b))))
def Zm(a b:V):fQ:=oc (dW a) (λx=>oc (dW b) (λy=>O (cW x y)) (L6 a b)) (L6 a b)
def Ğ(s:ae)(a:af):fQ:=bm (motive:=λ_=>fQ) (O J) (λy _ b=>bn (dW y) λt=>mp b λb=>br (cW s t) U b) a
def inD(x:V)(a:af):fQ:=oc (bn (dW x) λs=>Ğ s a) O (gd (dat 30 x) (gd (aH (dat 29) a) (O (Mn (λy=>kt (qP 29 y) (qP 30 x)) a))))
def u5(a b:V):fQ:=dP b C (no:=dP a (O J) (no:=O U) (bi:=λ_=>C) (un:=C)) (bo:=λb=>dP a C (bo:=λc=>O (c==b)) (no:=O J) (i:=λ_=>O J) (s:=λ_=>O J) (tu:=λ_=>O J))
def uK(a b:V)(fi:D->D->I)(c:ae->ae->I):fQ:=dP a C (i:=λx=>mp (gf b) λy=>fi x y) (s:=λx=>mp (dW b) λy=>c x y)
def z1(a b:V):fQ:=oc (dW b) (λy=>bn (dW a) λx=>lc x C λc r=>lc r (O (uJ c y)) λ_ _=>C) (bn (uo b) (inD a))
def kE(c:u8)(a b:V):fQ:=py (motive:=λ_=>fQ) c (Zm a b) (mp (Zm a b) (!·)) (uK a b (λx y=>a? (x<y)) vM) (uK a b (λx y=>a? (x<=y)) λx y=>!vM y x) (uK a b (λx y=>a? (y<x)) λx y=>vM y x) (uK a b (λx y=>a? (y<=x)) λx y=>!vM x y) (u5 a b) (mp (u5 a b) (!·)) (z1 a b) (mp (z1 a b) (!·))
def qv{a:Type}(p:Sy)(d:a)(off big:W->D->a:=λ_ _=>d)(nn:a:=d)(le:D->a:=λ_=>d)(old:W->a:=λ_=>d):a:=Sy.casesOn (motive:=λ_=>a) p off big nn le old
def six(a:u8)(b c d e f g:fQ):fQ:=py (motive:=λ_=>fQ) a b c d e f g C C C C
def Mo(k:W):I:=br (ac k 2) U (ac k 5)
def Ż(c:u8)(p q:Sy):fQ:=qv p C (off:=λk a=>qv q C (off:=λd b=>br (ac k d) (six c (O (a? (a=b))) (O (!a? (a=b))) (O (a? (a<b))) (O (a? (a<=b))) (O (a? (b<a))) (O (a? (b<=a)))) (br (ac k 5) (gd (ac d 2) (br (a? (b<=a)) (six c (O J) (O U) (O J) C C C) (gd (a? (b<=a+1)) (six c C C (O J) C C C)))) (gd (ac k 2) (gd (ac d 5) (gd (a? (a<=b)) (six c (O J) (O U) (O U) C C C)))))) (big:=λd n=>gd (ac k d) (gd (a? (a<n)) (six c C C C C C (O J)))) (old:=λ_=>gd (Mo k) (gd (a? (0<=a)) (six c (O J) (O U) (O J) C C C)))) (old:=λi=>qv q C (old:=λj=>six c C C (O (jp i j)) C C C) (off:=λk a=>gd (Mo k) (gd (a? (0<=a)) (six c (O J) (O U) (O U) C C C)))) (big:=λk n=>qv q C (off:=λd b=>gd (ac k d) (gd (a? (b<n)) (six c (O J) (O U) (O J) C C C))))
def XM(a:u8)(p:Sy)(m:D):fQ:=qv p C (off:=λ_ n=>gd (a? (m<n)) (six a (O J) (O U) (O J) C (O U) C)) (le:=λc=>gd (a? (c<=m)) (six a C C C C (O J) C))
def XN(a:u8)(m:D)(p:Sy):fQ:=qv p C (off:=λ_ n=>gd (a? (m<n)) (six a (O J) (O U) (O U) C (O J) C))
def anyS:W:=2097152
def Zn(c:W):ae:=br (ac c 2097153) [10,133] (br (ac c 2097154) [45,107] (br (ac c 2097155) [32,10,58] (br (ac c 2097156) [32,10] (br (ac c 2097157) [97,98,100,39,34,42,38,91,124,62] []))))
def yc(c d:W):I:=br (bd anyS c) (br (ac c anyS) U (uJ d (Zn c))) (ac c d)
def Mp(p:ae):ae->I:=bm (motive:=λ_=>ae->I) (λs=>lc s J λ_ _=>U) (λc _ a s=>lc s U λd s=>br (yc c d) (a s) U) p
def X0(p s:ae):fQ:=lc p C λc r=>lc r (gd (!(Zn c).isEmpty) (br (aH (λd=>uJ d s) (Zn c)) (O U) (gd (aH (λd=>!uJ d s) (Zn c)) (O J)))) λ_ _=>C
def ź(a:u8)(p s:ae):fQ:=py (motive:=λ_=>fQ) a (gd (Mp p s) (O J)) (gd (Mp p s) (O U)) C C C C C C (X0 p s) (mp (X0 p s) (!·))
def BV(a:u8)(b c:V):fQ:=dP c C (sy:=λq=>dP b C (sy:=λp=>Ż a p q) (no:=six a (O J) (O U) C C C C) (i:=λm=>XN a m q)) (i:=λm=>bn (iK b) λp=>XM a p m) (s:=λs=>bn (mX b) λp=>ź a p s)
def ph(a:u8)(b c:V):fQ:=oc (BV a b c) O (kE a b c)
def rep(s:ae)(n:W):ae:=ut (motive:=λ_=>ae) [] (λ_ a=>s++a) n
def XO(a:nw)(b c d mo e:N V):N V:=wP (motive:=λ_=>N V) a b c d C C mo C C C C C C e
def ak{a:Type}(l:Y a):W:=bm (motive:=λ_=>W) 0 (λ_ _ a=>pp a) l
def J8(a b:V):N V:=dP a C (i:=λx=>mp (gf b) λy=>.int (x+y)) (s:=λx=>bn (dW b) λy=>gd (bd (ak x+ak y) 1000000) (O (.str (x++y)))) (ls:=λx=>bn (jc b) λy=>gd (bd (ak x+ak y) 1000000) (O (.lst (x++y))))
def Mq(a b:V):N V:=bn (gf a) λx=>mp (gf b) λy=>.int (x-y)
def gh{a:Type}(n:W)(z:a)(s:W->a):a:=ut (motive:=λ_=>a) z (λk _=>s k) n
def yS(c:nw)(a b:V):N V:=XO c (J8 a b) (Mq a b) (bn (dW a) λx=>bn (asNat b) λn=>gd (bd n 1000000) (gd (bd (ak x*n) 1000000) (O (.str (rep x n))))) (bn (gf a) λx=>bn (asNat b) λm=>gh m C λn=>O (.int (TE x (n+1:W)))) (bn (gf a) λx=>bn (asNat b) λm=>gh m C λn=>gd (bd n 1000000) (O (.int (Int.ediv x (n+1:W)))))
def J9(a:nw)(b c:V):N V:=bn (iK b) λp=>qv p C (off:=λk n=>dP c C (i:=λm=>XO a (O (.sym (.off k (n+m)))) (O (.sym (.off k (n-m)))) C C C) (sy:=λq=>qv q C (off:=λb m=>XO a (gd (ac k 2) (gd (ac b 6) (O (.sym (.off 5 (n+m)))))) (br (ac k b) (O (.int (n-m))) (gd (ac k 5) (gd (ac b 2) (O (.sym (.off 6 (n-m))))))) C C C) (nn:=XO a C (gd (ac k 0) (O (.sym (.le (900+n))))) C C C)))
def qw(a:nw)(b c:V):N V:=oc (J9 a b c) O (yS a b c)
def Ka(c:nw)(a b:V):N V:=oc (J9 c a b) O (XO c (dP a C (i:=λx=>mp (gf b) λy=>.int (x+y)) (s:=λx=>bn (dW b) λy=>gd (bd (ak x+ak y) 1000000) (O (.str (x++y))))) (Mq a b) C C C)
def jl{a:Type}(l:Y a)(n:W):N a:=bm (motive:=λ_=>W->N a) aaM (λa _ b n=>gh n (O a) b) l n
def Ff(o i:V):N V:=bn (asNat i) λn=>dP o C (s:=λs=>mp (jl s n) λc=>.str [c]) (tu:=λa=>jl a n) (ls:=λa=>jl a n)
def Mr(i:V):N W:=bn (iK i) λp=>qv p C (off:=λk n=>gd (ac k 4) (natOf n))
def iL(o i:V):N V:=oc (mW o) (λb=>bn (Mr i) λn=>bn (jl b.1 n) λc=>br (bd anyS c) (br (ac c anyS) C (O (.Zj [c]))) (O (.str [c]))) (Ff o i)
inductive Pl where
 |loc (x:W)
 |bU (a:W)
inductive Cn where
 |lst (vs:af)
 |kX (kvs:eu)
 |vL (kvs:Y (ae×V))
 |Hv (vs:af)
inductive Fl where
 |next
 |brk
 |ret (v:V)
def LP{a:Type}(p:Pl)(l b:W->a):a:=Pl.casesOn (motive:=λ_=>a) p l b
def Kb{a:Type}(l:LV)(v:V->a)(o:af->a):a:=LV.casesOn (motive:=λ_=>a) l v o
def x8{a:Type}(q:PA)(v:V->a)(b:af->a)(c:eu->a)(d:Y (ae×V)->a)(e:af->a):a:=PA.casesOn (motive:=λ_=>a) q v b c d e
def yd{a:Type}(c:Cn)(d:a)(ls:af->a:=λ_=>d)(di:eu->a:=λ_=>d)(sd:Y (ae×V)->a:=λ_=>d)(lp:af->a:=λ_=>d):a:=Cn.casesOn (motive:=λ_=>a) c ls di sd lp
def vN{a:Type}(f:Fl)(n b:a)(r:V->a):a:=Fl.casesOn (motive:=λ_=>a) f n b r
def LQ{a:Type}(x:X)(d:a)(nil:a:=d)(cons:X->X->a:=λ_ _=>d)(aR:W->a:=λ_=>d)(bU:X->W->a:=λ_ _=>d)(yR:X->a:=λ_=>d)(Ss:a:=d)(bF:W->X->ae->X->a:=λ_ _ _ _=>d)(int:W->a:=λ_=>d):a:=X.casesOn (motive:=λ_=>a) x nil cons d d d int (λ_=>d) aR bU (λ_=>d) (λ_=>d) (λ_=>d) (λ_=>d) (λ_ _ _=>d) (λ_ _ _=>d) (λ_ _ _=>d) (λ_=>d) yR Ss (λ_ _=>d) (λ_ _ _=>d) bF (λ_ _ _ _ _=>d) (λ_ _=>d) (λ_ _ _ _=>d) d
def cq(x:X):I:=LQ x J (nil:=U)
def uq(x:X):I:=LQ x J (yR:=λ_=>U)
def Hw(x:X):I:=LQ x J (Ss:=U)
def ur(x:X):X:=LQ x .bad (yR:=id)
def vO(x:X):I:=LQ x J (aR:=λx=>ac x 0)
def cG(x:X):N Pl:=LQ x C (aR:=λx=>O (.loc x)) (bU:=λo a=>gd (vO o) (O (.bU a)))
def yT(x:X):N X:=LQ x C (cons:=λa r=>gd (cq r) (O a))
def uu(x:X):N (W×X):=LQ x C (bF:=λf a b c=>lc b (gd (cq c) (mp (yT a) λa=>(f,a))) λ_ _=>C)
def call2(x:X):N (W×X):=LQ x C (bF:=λf a b c=>lc b (gd (cq c) (O (f,a))) λ_ _=>C)
def iR(a:ae)(s:St):I:=br (aq a 0) (oc (aj 0 s.loc) (λl=>Kb l jy λ_=>J) J) J
def Ms(G:cQ)(q:PA):N Cn:=x8 q (λv=>bn (pe v) λk=>mp (G.cA k) .vL) (λl=>O (.lst l)) (λl=>O (.kX l)) (λl=>O (.vL l)) λl=>O (.Hv l)
def iS(G:cQ)(a:ae)(s:St)(p:Pl):N Cn:=LP p (λx=>gd (aq a x) (bn (aj x s.loc) λl=>Kb l (λv=>gd (dZ v) (O (.lst s.pg.aG))) λb=>O (.lst b))) λb=>gd (iR a s) (oc (aj b s.pg.par) (Ms G) (mp (G.cA b) .vL))
def vP(c:Cn):PA:=Cn.casesOn (motive:=λ_=>PA) c .lst .kX .vL .Hv
def Hx(q:PA):I:=x8 q (λv=>(pe v).isSome) aaF aaF aaF λ_=>U
def BW(q:PA):I:=x8 q aaE aaF aaF aaF λ_=>U
def z4(s:St)(a:af):St:=⟨s.loc,⟨s.pg.par,a,s.pg.bD⟩⟩
def aE(s:St)(x:W)(l:LV):St:=⟨put x l s.loc,s.pg⟩
def Fg(s:St)(a:W)(q:PA):St:=⟨s.loc,⟨put a q s.pg.par,s.pg.aG,s.pg.bD⟩⟩
def hU(a:I)(s:St)(p:Pl)(c:Cn):N St:=br a C (LP p (λx=>yd c C (ls:=λa=>bn (aj x s.loc) λl=>Kb l (λv=>gd (dZ v) (O (z4 s a))) λ_=>O (aE s x (.own a)))) λa=>bn (aj a s.pg.par) λq=>gd (BW q) (O (Fg s a (vP c))))
def calm(s a:St):I:=ac s.pg.bD a.pg.bD
def oW(c:Cn):I:=yd c U (λl=>!l.isEmpty) (λl=>!l.isEmpty) (λl=>!l.isEmpty)
def vQ(c:Cn):N V:=yd c C (ls:=λl=>O (.int (ak l))) (lp:=λl=>O (.sym (.off 6 (ak l))))
def gA(G:cQ)(b:ae)(s:St)(a:N Pl):N (Pl×Cn):=bn a λp=>mp (iS G b s p) λc=>(p,c)
def z5(k:D)(l:eu):N V:=bm (motive:=λ_=>N V) C (λp _ a=>br (a? (p.1=k)) (O p.2) a) l
def Fh(k:ae)(l:Y (ae×V)):N V:=bm (motive:=λ_=>N V) C (λp _ a=>br (cW p.1 k) (O p.2) a) l
def dput(k:D)(v:V)(l:eu):eu:=bm (motive:=λ_=>eu) [(k,v)] (λp l a=>br (a? (p.1=k)) ((k,v)::l) (p::a)) l
def Mt(k:ae)(v:V)(l:Y (ae×V)):Y (ae×V):=bm (motive:=λ_=>Y (ae×V)) [(k,v)] (λp l a=>br (cW p.1 k) ((k,v)::l) (p::a)) l
def ye(k:D)(l:eu):eu:=bm (motive:=λ_=>eu) [] (λp l a=>br (a? (p.1=k)) l (p::a)) l
def qz(c:Cn)(i:V):N V:=yd c C (ls:=λa=>bn (asNat i) (jl a)) (di:=λa=>bn (gf i) λk=>z5 k a) (sd:=λa=>bn (dW i) λk=>Fh k a)
def vR(c:Cn)(i:V):fQ:=yd c C (di:=λa=>oc (gf i) (λk=>O (z5 k a).isSome) (gd a.isEmpty (mp (dW i) λ_=>J))) (sd:=λa=>mp (dW i) λk=>(Fh k a).isSome)
def yU(c:Cn)(i v:V):N Cn:=yd c C (di:=λa=>oc (gf i) (λk=>gd (bd (ak a) 900000) (O (.kX (dput k v a)))) (gd a.isEmpty (mp (dW i) λs=>.vL [(s,v)]))) (sd:=λa=>bn (dW i) λs=>gd (bd (ak a) 900000) (O (.vL (Mt s v a))))
def pO(n:W)(v:V)(a:af):af:=a.take n++v::a.drop n
def vS(c:Cn):I:=yd c J (ls:=λ_=>U) (lp:=λ_=>U)
def one{a b:Type}(l:Y a)(f:a->N b):N b:=lc l C λa r=>lc r (f a) λ_ _=>C
def two{a b:Type}(l:Y a)(f:a->a->N b):N b:=lc l C λa r=>one r (f a)
def cX(G:cQ)(c:Cn)(m:W)(b:af):N (V×Cn):=yd c C (ls:=λa=>br (ac m G.dT) (one b λv=>gd (bd (ak a) 900000) (O (.none,.lst (a++[v])))) (br (ac m G.dD) (one b λw=>bn (jc w) λc=>gd (bd (ak a+ak c) 900000) (O (.none,.lst (a++c)))) (br (ac m G.qu) (lc b (mp a.getLast? λv=>(v,.lst a.dropLast)) λc r=>lc r (bn (asNat c) λn=>gh n (lc a C λv r=>O (v,.lst r)) λ_=>C) λ_ _=>C) (gd (ac m G.ew) (two b λi v=>bn (asNat i) λn=>gd (bd n (ak a)) (gd (bd (ak a) 900000) (O (.none,.lst (pO n v a))))))))) (lp:=λa=>br (ac m G.dT) (one b λv=>gd (bd (ak a) 800000) (O (.none,.Hv (a++[v])))) (gd (ac m G.ew) (two b λi v=>bn (iK i) λp=>qv p C (off:=λk n=>gd (ac k 6) (bn (natOf n) λn=>gd (bd n (ak a)) (gd (bd (ak a) 800000) (O (.none,.Hv (pO n v a)))))))))
def pP(q:PA):N V:=x8 q O aaM aaM aaM λ_=>C
def jm(G:cQ)(v:V)(a:W)(s:St):N V:=dP v C (pa:=oc (aj a s.pg.par) pP (br (G.du a) (O (.av a)) (mp (G.cA a) λ_=>.cd a))) (ob:=λc b=>oc (aj a b) O (bn (G.cls c) λb=>aj a b.consts)) (cl:=λc=>bn (G.cls c) λb=>aj a b.consts)
def Hy(c:aY)(d:jN):af->N (aY):=bm (motive:=λ_=>af->N (aY)) (λa=>lc a (O []) λ_ _=>C) (λp _ b a=>lc a (bn (oc (aj p.1 c) O p.2) λv=>mp (b []) ((p.1,v)::·)) λv a=>mp (b a) ((p.1,v)::·)) d
def kwOk(a:jN)(b:aY):I:=bm (motive:=λ_=>I) U (λp r c=>oc (aj p.1 a) (λ_=>oc (aj p.1 r) aaE c) J) b
def pQ(b:jN)(c:af)(a:aY):N (aY):=gd (kwOk (b.drop c.length) a) (Hy a b c)
def fieldsOf(b:aY)(a:Y (W×W)):N (aY):=bm (motive:=λ_=>N (aY)) (O []) (λp _ c=>bn (aj p.2 b) λv=>mp c ((p.1,v)::·)) a
def make(G:cQ)(c:W)(b:af)(d:aY):N V:=bn (G.cls c) λa=>bn (pQ a.params b d) λb=>mp (fieldsOf b a.fields) (.obj c ·)
def dF(b n:W):W->af:=ut (motive:=λ_=>W->af) (λ_=>[]) (λ_ c a=>.int a::c (a+b)) n
def Fi(G:cQ)(b:W)(a:af):N V:=br (ac b 0) (one a λv=>dP v C (s:=λl=>O (.int (ak l))) (tu:=λl=>O (.int (ak l))) (ls:=λl=>O (.int (ak l))) (bu:=λl e=>br e (O (.sym (.off 4 (ak l)))) (O (.sym (.big 4 (ak l)))))) (br (ac b 8) (two a λv w=>bn (gf v) λx=>mp (gf w) λy=>.int (br (a? (x<y)) y x)) (gd (ac b 1) (two a λv k=>dP v C (s:=λ_=>bn (sS k) λz=>gd (ac z 7) (O (.bool U))) (ob:=λc _=>bn (vK k) λk=>mp (G.cls c) λa=>.bool (aq a.mro k)))))
def z6(b:ae):af->N (aY):=bm (motive:=λ_=>af->N (aY)) (λa=>lc a (O []) λ_ _=>C) (λk _ c a=>lc a C λv a=>mp (c a) ((k,v)::·)) b
def back(s:St)(r:dR):mi:=ax r λv a=>O (v,⟨s.loc,a⟩)
def jQ(G:cQ)(f:V)(b:af)(a:aY)(s:St):mi:=dP f C (cl:=λc=>br G.ro C (mp (make G c b a) λv=>(v,s))) (fn:=λf=>br G.ro C (back s (G.func f b a s.pg))) (me:=λm=>br G.ro C (back s (G.av m b a s.pg))) (bi:=λc=>lc a (mp (Fi G c b) λv=>(v,s)) λ_ _=>C)
def Zo(o:N V)(n:W):N W:=oc o asNat (O n)
def Mu(l:ae):I:=bm (motive:=λ_=>I) U (λc _ a=>br (bd anyS c) J a) l
def BX(l:ae):V:=br (Mu l) (.str l) (.Zj l)
def yV(o:V)(c d:N V):N V:=dP o C (s:=λs=>bn (Zo c 0) λa=>mp (Zo d (ak s)) λb=>.str ((s.take b).drop a)) (ls:=λs=>bn (Zo c 0) λa=>mp (Zo d (ak s)) λb=>.lst ((s.take b).drop a))
def Zp(l:ae)(e:I)(a b:N V):N V:=bn (bn a Mr) λa=>bn (bn b Mr) λb=>br e (O (BX ((l.take b).drop a))) (gd (bd b (ak l)) (O (BX ((l.take b).drop a))))
def BY(o:V)(a b:N V):N V:=oc (mW o) (λc=>Zp c.1 c.2 a b) (yV o a b)
def Kc(G:cQ)(a:ae)(x:W)(s:St):mi:=br (aq a x) (bn (aj x s.loc) λl=>Kb l (λv=>O (v,s)) λa=>O (.lst a,aE s x (.val (.lst a)))) (mp (G.gl x) λv=>(v,s))
def fin(t:I)(v:V)(s:St):mi:=br t (mp (eQ v) λb=>(.bool b,s)) (O (v,s))
abbrev fc:=I->St->mi
abbrev sT:=St->N (af×St)
section
variable(G:cQ)(lv:ae)
def sU(v:V):fc:=λt s=>fin t v s
def vT(t:I)(a:N Pl)(s:St)(k:mi):mi:=br t (oc (gA G lv s a) (λa=>O (.bool (oW a.2),s)) k) k
def BZ(x:W):fc:=λt s=>vT G lv t (O (.loc x)) s (ax (Kc G lv x s) λv s=>fin t v s)
def S2(a:N Pl)(o:fc)(b:W):fc:=λt s=>vT G lv t a s (ax (o J s) λv s=>bn (jm G v b s) λv=>fin t v s)
def L?(o:fc):fc:=λt s=>ax (o t s) λv s=>mp (eQ v) λb=>(.bool !b,s)
def S4(o:fc):fc:=λt s=>ax (o J s) λv s=>bn (gf v) λi=>fin t (.int (-i)) s
def S5(c a b:fc):fc:=λt s=>ax (c U s) λv s=>bn (gJ v) λx=>br x (a t s) (b t s)
def Mw(l:fc)(c:V->Y u8->St->N (I×St))(a:Y u8):fc:=λ_ s=>ax (l J s) λv s=>ax (c v a s) λb s=>O (.bool b,s)
def S6(c:nw)(a b:fc):fc:=λt s=>ax (a J s) λv s=>ax (b J s) λw s=>bn (qw c v w) λu=>fin t u s
def S7(a:sT):fc:=λt s=>ax (a s) λa s=>fin t (.tup a) s
def S8(a:sT):fc:=λt s=>ax (a s) λa s=>fin t (.lst a) s
def S9(a:N Pl)(o i:fc):fc:=λt s=>oc (gA G lv s a) (λb=>ax (i J s) λv a=>gd (calm s a) (bn (iS G lv a b.1) λc=>bn (qz c v) λw=>fin t w a)) (ax (o J s) λx s=>ax (i J s) λv s=>bn (iL x v) λw=>fin t w s)
variable(nil:I)(po:N Pl)
def vU(e:fc):St->N (N V×St):=λs=>br nil (O (C,s)) (ax (e J s) λv s=>O (O v,s))
def Ta(o:fc)(a b:St->N (N V×St)):fc:=λt s=>ax (o J s) λx s=>ax (a s) λa s=>ax (b s) λb s=>bn (BY x a b) λv=>fin t v s
def uL(f:W)(a:ae):I:=br (aq lv f) J (lc a (oc (bn (G.gl f) sS) (λb=>ac b 0) J) λ_ _=>J)
def vV(f:W)(a:ae)(po:N Pl)(b c:sT):fc:=λt s=>oc (gd (uL G lv f a) (bn (gA G lv s po) λd=>vQ d.2)) (λn=>fin t n s) (ax (Kc G lv f s) λd s=>ax (b s) λb s=>ax (c s) λc s=>bn (z6 a c) λa=>ax (jQ G d b a s) λv s=>fin t v s)
variable(m:W)
def Tb(b:sT)(t:I)(s:St)(a:Pl×Cn):mi:=gd (vS a.2) (ax (b s) λc b=>gd (calm s b) (bn (iS G lv b a.1) λd=>ax (cX G d m c) λv c=>bn (hU G.ro b a.1 c) λs=>fin t v s))
def Hz(q:N PA)(m:W)(c:I)(a:af)(b:aY)(t:I)(s:St):mi:=oc q (λq=>gd c (bn (pP q) λf=>ax (jQ G f a b s) λv s=>fin t v s)) (gd (G.du m) (ax (jQ G (.av m) a b s) λv s=>fin t v s))
def HA(a:ae)(c:af)(b:aY)(t:I)(s:St):mi:=gd (ac m G.lH) (lc b (one c λw=>bn (jc w) λl=>bn (cat l) λl=>gd (bd (ak (join a l)) 900000) (gd (bd (ak a) 1000) (fin t (.str (join a l)) s))) λ_ _=>C)
def z7(b:ae)(e:I)(o:fc)(a d:sT):fc:=λt s=>oc (gA G lv s po) (λc=>lc b (Tb G lv m a t s c) λ_ _=>C) (ax (o J s) λx c=>ax (a c) λa s=>ax (d s) λd s=>bn (z6 b d) λb=>br (jy x) (Hz G (aj m c.pg.par) m e a b t s) (bn (dW x) λc=>HA G m c a b t s))
def Fj(a:sT):fc:=λt s=>br G.ro C (ax (a s) λa s=>ax (G.sup m a s.pg) λv a=>fin t v ⟨s.loc,a⟩)
def uv(a:X)(y:W)(b:X)(c:ae):fc:=λt s=>br G.ro C (ax (G.comp a y b c lv s) λv s=>fin t v s)
def yf:sT:=λs=>O ([],s)
variable(x:fc)
def B1(a:sT):sT:=λs=>ax (x J s) λv s=>ax (a s) λa s=>O (v::a,s)
def yW(b:I->fc):I->fc:=λa t s=>br nil (x t s) (ax (x t s) λv s=>bn (eQ v) λc=>br (i! c a) (O (v,s)) (b a t s))
def Fm(a:u8)(o:fQ):fQ:=py (motive:=λ_=>fQ) a C C C C C C C C o (mp o (!·))
abbrev XQ:=V->Y u8->St->N (I×St)
def B3(d:XQ):XQ:=λv a s=>lc a C λc a=>oc (gA G lv s po) (λb=>lc a (gd nil (mp (Fm c (vR b.2 v)) λb=>(b,s))) λ_ _=>C) (ax (x J s) λw s=>bn (ph c v w) λb=>br nil (lc a (O (b,s)) λ_ _=>C) (lc a C λ_ _=>br b (d w a s) (O (J,s))))
structure E4 where
 e:fc
 l:sT
 b:I->fc
 c:XQ
def uM(e:fc):E4:=⟨e,λ_=>C,λ_ _ _=>C,λ_ _ _=>C⟩
def Ź:E4:=uM λ_ _=>C
def c!(x:X):E4:=X.rec (motive:=λ_=>E4) ⟨λ_ _=>C,yf,λ_ _ _=>C,λ_ _ _=>C⟩ (λx a i j=>⟨λ_ _=>C,B1 i.e j.l,yW (cq a) i.e j.b,B3 G lv (cq a) (cG x) i.e j.c⟩) (uM (sU .none)) (uM (sU (.bool U))) (uM (sU (.bool J))) (λn=>uM (sU (.int n))) (λl=>uM (sU (.str l))) (λx=>uM (BZ G lv x)) (λo a i=>uM (S2 G lv (cG (.bU o a)) i.e a)) (λ_ i=>uM (L? i.e)) (λ_ i=>uM (S4 i.e)) (λ_ i=>uM (i.b U)) (λ_ i=>uM (i.b J)) (λ_ _ _ i j k=>uM (S5 i.e j.e k.e)) (λ_ a _ i j=>uM (Mw i.e j.c a)) (λa _ _ i j=>uM (S6 a i.e j.e)) (λ_ i=>uM (S7 i.l)) (λ_ i=>uM (S8 i.l)) Ź (λo _ i j=>uM (S9 G lv (cG o) i.e j.e)) (λ_ a b i j k=>uM (Ta i.e (vU (cq a) j.e) (vU (cq b) k.e))) (λf a b _ i j=>uM (vV G lv f b (bn (yT a) cG) i.l j.l)) (λo m a b c i j k=>uM (z7 G lv (cG o) m b (Bool.and (cq a) (cq c)) i.e j.l k.l)) (λm _ i=>uM (Fj G m i.l)) (λa y b c _ _=>uM (uv G lv a y b c)) Ź x
end
def ev(G:cQ)(a:ae)(t:I)(x:X)(s:St):mi:=(c! G a x).e t s
def BF(G:cQ)(a:ae)(x:X)(s:St):N (af×St):=(c! G a x).l s
def oX(v:V)(a:ae):St->St:=bm (motive:=λ_=>St->St) (λs=>s) (λx _ b s=>b (aE s x (.val v))) a
def unpack(b:ae):af->St->N St:=bm (motive:=λ_=>af->St->N St) (λa s=>lc a (O s) λ_ _=>C) (λx _ c a s=>lc a C λv a=>c a (aE s x (.val v))) b
abbrev q5:=N (Fl×St)
abbrev gB:=St->q5
def q8(s:St)(a:W)(p:PA):W:=br (Hx p) (s.pg.bD+1) (br (oc (aj a s.pg.par) Hx J) (s.pg.bD+1) s.pg.bD)
def hV(b:I)(s:St)(a:W)(p:PA):q5:=br b C (gd (bd (ak s.pg.par) 900000) (O (.next,⟨s.loc,⟨put a p s.pg.par,s.pg.aG,q8 s a p⟩⟩)))
def keysOf(a:eu):af:=a.map λp=>.int p.1
section
variable(G:cQ)(lv:ae)
def nx(s:St):q5:=O (.next,s)
def frc{a:Type}(k:St->a)(s:St):a:=St.rec (motive:=λ_=>a) (λl g=>PG.rec (motive:=λ_=>a) (λp t n=>k ⟨l,⟨p,t,n⟩⟩) g) s
def bh(a b:gB):gB:=λs=>ax (a s) λf s=>vN f (frc b s) (O (.brk,s)) λv=>O (.ret v,s)
def vW(e:fc):gB:=λs=>ax (e J s) λ_ s=>nx s
def sW(a:I)(e:fc):gB:=λs=>br a (O (.ret .none,s)) (ax (e J s) λv s=>O (.ret v,s))
variable(xs:ae)
def Mx(e:fc):gB:=λs=>ax (e J s) λv s=>nx (oX v xs s)
def HB(l:sT):gB:=λs=>one xs λx=>ax (l s) λa s=>nx (aE s x (.own a))
variable(x:W)
def yX(a:X)(y:W)(b:X)(c:ae):gB:=λs=>br G.ro C (ax (G.comp a y b c lv s) λv s=>nx (aE s x (.val v)))
def Tc(e:fc):gB:=λs=>ax (e J s) λv s=>bn (uo v) λa=>bn (unpack xs a s) nx
def vX(a:W)(b c:I)(l:sT)(e:fc):gB:=λs=>gd (iR lv s) (gd (G.bw a) (br b (ax (l s) λb s=>hV G.ro s a (.lst b)) (br c (hV G.ro s a (.kX [])) (ax (e J s) λv s=>hV G.ro s a (.val v)))))
variable(po:N Pl)
def HC(i e:fc):gB:=λs=>bn po λp=>ax (e J s) λv s=>bn (iS G lv s p) λ_=>ax (i J s) λk a=>gd (calm s a) (bn (iS G lv a p) λc=>bn (yU c k v) λb=>bn (hU G.ro a p b) nx)
def nZ(c:Cn):N (eu):=yd c C (di:=O)
def Td(i:fc):gB:=λs=>ax (gA G lv s po) λp c=>bn (nZ c) λ_=>ax (i J s) λk a=>gd (calm s a) (bn (gf k) λk=>bn (bn (iS G lv a p) nZ) λb=>bn (z5 k b) λ_=>bn (hU G.ro a p (.kX (ye k b))) nx)
variable(g:nw)
def isAdd:I:=wP (motive:=λ_=>I) g U J J J J J J J J J J J J
def Te(e:fc):gB:=λs=>gd (aq lv x) (bn (aj x s.loc) λl=>Kb l (λv=>ax (e J s) λw s=>bn (Ka g v w) λu=>nx (aE s x (.val u))) λ_=>gd (isAdd g) (ax (e J s) λw a=>gd (calm s a) (bn (iS G lv a (.loc x)) λc=>ax (cX G c G.dD [w]) λ_ b=>bn (hU G.ro a (.loc x) b) nx)))
def B4(a:W)(g:nw)(e:fc):gB:=λs=>gd (iR lv s) (bn (bn (aj a s.pg.par) pP) λv=>ax (e J s) λw s=>bn (Ka g v w) λu=>hV G.ro s a (.val u))
def BH(c:fc)(a b:gB):gB:=λs=>ax (c U s) λv s=>bn (gJ v) λx=>br x (a s) (b s)
def turn(f:Fl)(s:St)(k:gB):q5:=vN f (k s) (nx s) λv=>O (.ret v,s)
def uH(c:fc)(b:gB)(n:W):gB:=ut (motive:=λ_=>gB) aaM (λ_ a s=>ax (c U s) λv s=>bn (gJ v) λx=>br x (ax (b s) λf s=>turn f s a) (nx s)) n
def forL(a:V->gB)(b:af):gB:=bm (motive:=λ_=>gB) nx (λv _ c s=>ax (a v s) λf s=>turn f s c) b
def vY(a:W->W->gB)(l:ae):W->gB:=bm (motive:=λ_=>W->gB) (λ_=>nx) (λc _ b i s=>ax (a i c s) λf s=>turn f s (b (i+1))) l
variable(cl:N (W×X))
def q9:N (W×X):=ax cl λf a=>br (aq lv f) C (mp (bn (G.gl f) sS) λb=>(b,a))
def B5:N X:=ax cl λf a=>br (aq lv f) C (bn (bn (G.gl f) sS) λb=>gd (ac b 3) (O a))
def source(d:N (W×X))(e:N X)(f:fc):St->N ((I×af)×St):=λs=>oc (gA G lv s po) (λb=>yd b.2 C (di:=λa=>O ((U,keysOf a),s)) (sd:=λ_=>LP b.1 aaM λc=>oc (aj c s.pg.par) aaM (mp (G.cA c) λa=>((J,a.map λp=>.str p.1),s)))) (oc d (λc=>br (ac c.1 3) (ax (ev G lv J c.2 s) λv s=>bn (asNat v) λn=>gd (bd n 1000000) (O ((J,dF 1 n 0),s))) (gd (ac c.1 5) (bn (bn (gA G lv s (cG c.2)) λb=>nZ b.2) λa=>O ((J,keysOf a),s)))) (oc e (λa=>ax (BF G lv a s) λa s=>two a λv w=>bn (asNat v) λn=>bn (asNat w) λm=>gd (bd m 1000000) (gd (bd n 1000000) (O ((J,dF 1 (m-n) n),s)))) (ax (f J s) λv s=>bn (vJ v) λa=>O ((J,a),s))))
def My(a:St->N ((I×af)×St))(q b:gB):gB:=λs=>ax (a s) λr s=>br r.1 (forL (λv s=>q (aE s x (.val v))) r.2 s) (forL (λv s=>b (aE s x (.val v))) r.2 s)
def rg(x y:W)(a:N (W×X))(b:gB):gB:=λs=>ax a λk a=>gd (ac k 4) (ax (ev G lv J a s) λv s=>bn (dW v) λl=>vY (λi c s=>b (aE (aE s x (.val (.int i))) y (.val (.str [c])))) l 0 s)
def yv(b:gB)(x y:W)(v:V):gB:=λs=>bn (uo v) λa=>bn (unpack [x,y] a s) b
def B6(x y:W)(e:fc)(b:gB):gB:=λs=>ax (e J s) λv s=>bn (jc v) λa=>forL (yv b x y) a s
def HD(e:fc):gB:=λs=>ax (e U s) λv s=>bn (gJ v) λb=>gd b (nx s)
end
abbrev D?(G:cQ):cQ:={G with ro:=U}
structure SW where
 f:gB
def s5(a:ae)(n:W)(x:S):cQ->SW:=S.rec (motive:=λ_=>cQ->SW) (λ_=>⟨nx⟩) (λ_ _ i j G=>⟨bh (i G).f (j G).f⟩) (λe G=>⟨vW (ev G a · e)⟩) (λe G=>⟨sW (cq e) (ev G a · e)⟩) (λ_=>⟨λs=>O (.brk,s)⟩) (λ_=>⟨nx⟩) (λc e G=>⟨br (uq e) (HB c (BF G a (ur e))) (Mx c (ev G a · e))⟩) (λx d y b f G=>⟨yX G a x d y b f⟩) (λc e G=>⟨Tc c (ev G a · e)⟩) (λo d e G=>⟨br (vO o) (vX G a d (uq e) (Hw e) (BF G a (ur e)) (ev G a · e)) λ_=>C⟩) (λo i e G=>⟨HC G a (cG o) (ev G a · i) (ev G a · e)⟩) (λo i G=>⟨Td G a (cG o) (ev G a · i)⟩) (λx f e G=>⟨Te G a x f (ev G a · e)⟩) (λo d f e G=>⟨br (vO o) (B4 G a d f (ev G a · e)) λ_=>C⟩) (λd _ _ i j G=>⟨BH (ev G a · d) (i G).f (j G).f⟩) (λd _ i G=>⟨uH (ev G a · d) (i G).f n⟩) (λc b _ i G=>⟨lc c aaM λx r=>lc r (My x (source G a (cG b) (q9 G a (uu b)) (B5 G a (call2 b)) (ev G a · b)) (i (D? G)).f (i G).f) λy r=>lc r (λs=>oc (q9 G a (uu b)) (λz=>rg G a x y (O z) (i G).f s) (B6 x y (ev G a · b) (i G).f s)) λ_ _ _=>C⟩) (λe G=>⟨HD (ev G a · e)⟩) (λ_ i=>i) (λ_=>⟨λ_=>C⟩) x
def s4(a:ae)(n:W)(x:S)(G:cQ):gB:=(s5 a n x G).f
def pt(G:cQ)(a:ae)(n:W)(x:S):gB:=s4 a n x G
structure Def where
 params:jN
 lv:ae
 gv:ae
 body:S
def yg(b:jP)(a:ae)(x:W):N V:=gd (aq a x) (b x)
def ku(f:Fl):V:=vN f .none .none id
def yh(G:cQ)(d:Def):cQ:={G with gl:=yg G.gl d.gv}
def run(G:cQ)(n:W)(d:Def)(a:af)(b:aY)(c:PG):dR:=bn (pQ d.params a b) λb=>ax (pt (yh G d) d.lv n d.body ⟨b.map λp=>(p.1,.val p.2),c⟩) λf s=>O (ku f,s.pg)
abbrev bM:=Y Expr
def oY{a:Type}(e:Expr)(d:a)(bo:r3->bM->ww->a:=λ_ _ _=>d)(bi:Expr->nw->Expr->ww->a:=λ_ _ _ _=>d)(un:w2->Expr->ww->a:=λ_ _ _=>d)(ie:Expr->Expr->Expr->ww->a:=λ_ _ _ _=>d)(di:Y (N Expr)->bM->ww->a:=λ_ _ _=>d)
 (se:a:=d)(lc:Expr->Y a!->c7->ww->a:=λ_ _ _ _=>d)(sc dc:a:=d)(cm:Expr->Y u8->bM->ww->a:=λ_ _ _ _=>d)(ca:Expr->bM->Y wn->ww->a:=λ_ _ _ _=>d)(co:w7->W->ww->a:=λ_ _ _=>d)
 (at':Expr->lw->ww->a:=λ_ _ _=>d)(su:Expr->Expr->ww->a:=λ_ _ _=>d)(sr:a:=d)(na:lw->ww->a:=λ_ _=>d)(li:bM->ww->a:=λ_ _=>d)(tu:bM->W->ww->a:=λ_ _ _=>d)(sl:N Expr->N Expr->N Expr->ww->a:=λ_ _ _ _=>d):a:=
 Expr.casesOn (motive_1:=λ_=>a) e bo (λ_ _ _=>d) bi un (λ_ _ _ _=>d) ie di (λ_ _ _=>se) lc (λ_ _ _ _=>sc) (λ_ _ _ _ _=>dc) (λ_ _ _ _=>d) (λ_ _=>d) (λ_ _=>d) (λ_ _=>d) cm ca (λ_ _ _ _=>d) (λ_ _=>d) co at' su (λ_ _=>sr) na li tu sl
abbrev b9:=Y a9
def ma{a:Type}(s:a9)(d:a)(re:N Expr->ww->a:=λ_ _=>d)(de:bM->ww->a:=λ_ _=>d)(asg:bM->Expr->ww->a:=λ_ _ _=>d)(aug:Expr->nw->Expr->ww->a:=λ_ _ _ _=>d)(fo:Expr->Expr->b9->b9->ww->a:=λ_ _ _ _ _=>d)
 (wh ifs:Expr->b9->b9->ww->a:=λ_ _ _ _=>d)(tr:b9->Y eg->b9->b9->ww->a:=λ_ _ _ _ _=>d)(asr:Expr->N Expr->ww->a:=λ_ _ _=>d)(ex:Expr->ww->a:=λ_ _=>d)(pa bk:ww->a:=λ_=>d)
 (fu:lw->l5->b9->c7->ww->a:=λ_ _ _ _ _=>d)(kl:b9->Y lw->ww->a:=λ_ _ _=>d):a:=
 Stmt.casesOn (motive_2:=λ_=>a) s (λn a b _ _ _ c _ _ p=>fu n a b c p) (λ_ _ _ _ _ _ _ _ _ _=>d) (λ_ _ _ b _ _ _ _ _ v p=>kl b v p) re de asg (λ_ _ _ _ _ _ _=>d) aug (λ_ _ _ _ _=>d) fo (λ_ _ _ _ _=>d) wh ifs (λ_ _ _=>d) (λ_ _ _=>d) (λ_ _ _=>d) (λ_ _ _=>d) tr (λ_ _ _ _ _=>d) asr (λ_ _=>d) (λ_ _ _ _=>d) (λ_ _=>d) (λ_ _=>d) ex pa bk λ_=>d
def Zq(e:Expr)(f:r3->bM->I):I:=oY e J (bo:=λa b _=>f a b)
def Ÿ(e:Expr)(f:Expr->nw->Expr->I):I:=oY e J (bi:=λa b c _=>f a b c)
def Zr(e:Expr)(f:w2->Expr->I):I:=oY e J (un:=λa b _=>f a b)
def ŷ(e:Expr)(f:Expr->Expr->Expr->I):I:=oY e J (ie:=λa b c _=>f a b c)
def Ŷ(e:Expr)(f:Y (N Expr)->bM->I):I:=oY e J (di:=λa b _=>f a b)
def Tf(e:Expr)(f:Expr->Y a!->c7->I):I:=oY e J (lc:=λa b c _=>f a b c)
def ŵ(e:Expr)(f:Expr->Y u8->bM->I):I:=oY e J (cm:=λa b c _=>f a b c)
def Ke(e:Expr)(f:Expr->bM->Y wn->ww->I):I:=oY e J (ca:=f)
def Fn(e:Expr)(f:w7->I):I:=oY e J (co:=λa _ _=>f a)
def isAt(e:Expr)(f:Expr->lw->ww->I):I:=oY e J (at':=f)
def Fo(e:Expr)(f:Expr->Expr->I):I:=oY e J (su:=λa b _=>f a b)
def nu(e:Expr)(f:lw->I):I:=oY e J (na:=λa _=>f a)
def Ŵ(e:Expr)(f:bM->I):I:=oY e J (li:=λa _=>f a)
def Mz(e:Expr)(f:bM->I):I:=oY e J (tu:=λa _ _=>f a)
def Zs(e:Expr)(f:N Expr->N Expr->N Expr->I):I:=oY e J (sl:=λa b c _=>f a b c)
def ao{P:Prop}(h:J):P:=ch h yF
def aV.{u0}{b:Sort u0}{P:(a:b)->Prop}:∀a,J->P a:=λ_=>ao
def iz.{u0,u1}{b:Sort u0}{d:(a:b)->Sort u1}{P:(a:b)->(c:d a)->Prop}:∀a c,J->P a c:=λ_ _=>ao
def pj.{u0,u1,u2}{c:Sort u0}{d:(a:c)->Sort u1}{f:(a:c)->(b:d a)->Sort u2}{P:(a:c)->(b:d a)->(e:f a b)->Prop}:∀a b e,J->P a b e:=λ_ _ _=>ao
def Su.{u0,u1,u2,u3}{c:Sort u0}{e:(a:c)->Sort u1}{f:(a:c)->(b:e a)->Sort u2}{h:(a:c)->(b:e a)->(d:f a b)->Sort u3}{P:(a:c)->(b:e a)->(d:f a b)->(g:h a b d)->Prop}:∀a b d g,J->P a b d g:=λ_ _ _ _=>ao
def F4.{u0,u1,u2,u3,u4}{d:Sort u0}{e:(a:d)->Sort u1}{g:(a:d)->(b:e a)->Sort u2}{h:(a:d)->(b:e a)->(c:g a b)->Sort u3}{j:(a:d)->(b:e a)->(c:g a b)->(f:h a b c)->Sort u4}{P:(a:d)->(b:e a)->(c:g a b)->(f:h a b c)->(i:j a b c f)->Prop}:∀a b c f i,J->P a b c f i:=λ_ _ _ _ _=>ao
section
variable{e:Expr}
def BoV(f:r3->bM->I)(e:Expr):=∃a b p,e=.BoolOp a b p/\f a b=U
local macro_rules | `(tactic| trivial) => `(tactic| first | exact ao | exact fun h => ⟨_, _, rfl, h⟩ | exact fun h => ⟨_, _, _, rfl, h⟩ | exact fun h => ⟨_, _, _, _, rfl, h⟩)
def XR{f:r3->bM->I}:Zq e f->BoV f e:=by cases e<;>trivial
def BiV(f:Expr->nw->Expr->I)(e:Expr):=∃a b c p,e=.BinOp a b c p/\f a b c=U
def aek{f:Expr->nw->Expr->I}:Ÿ e f->BiV f e:=by cases e<;>trivial
def UnV(f:w2->Expr->I)(e:Expr):=∃a b p,e=.UnaryOp a b p/\f a b=U
def XS{f:w2->Expr->I}:Zr e f->UnV f e:=by cases e<;>trivial
def IeV(f:Expr->Expr->Expr->I)(e:Expr):=∃a b c p,e=.IfExp a b c p/\f a b c=U
def ael{f:Expr->Expr->Expr->I}:ŷ e f->IeV f e:=by cases e<;>trivial
def DiV(f:Y (N Expr)->bM->I)(e:Expr):=∃a b p,e=.Dict a b p/\f a b=U
def aem{f:Y (N Expr)->bM->I}:Ŷ e f->DiV f e:=by cases e<;>trivial
def LcV(f:Expr->Y a!->c7->I)(e:Expr):=∃a b c p,e=.ListComp a b c p/\f a b c=U
def MA{f:Expr->Y a!->c7->I}:Tf e f->LcV f e:=by cases e<;>trivial
def CmV(f:Expr->Y u8->bM->I)(e:Expr):=∃a b c p,e=.Compare a b c p/\f a b c=U
def aen{f:Expr->Y u8->bM->I}:ŵ e f->CmV f e:=by cases e<;>trivial
def CaV(f:Expr->bM->Y wn->ww->I)(e:Expr):=∃a b c p,e=.Call a b c p/\f a b c p=U
def uw{f:Expr->bM->Y wn->ww->I}:Ke e f->CaV f e:=by cases e<;>trivial
def CoV(f:w7->I)(e:Expr):=∃a n p,e=.Constant a n p/\f a=U
def aeo{f:w7->I}:Fn e f->CoV f e:=by cases e<;>trivial
def AtV(f:Expr->lw->ww->I)(e:Expr):=∃a b p,e=.Attribute a b p/\f a b p=U
def yY{f:Expr->lw->ww->I}:isAt e f->AtV f e:=by cases e<;>trivial
def SuV(f:Expr->Expr->I)(e:Expr):=∃a b p,e=.Subscript a b p/\f a b=U
def HE{f:Expr->Expr->I}:Fo e f->SuV f e:=by cases e<;>trivial
def NaV(f:lw->I)(e:Expr):=∃a p,e=.Name a p/\f a=U
def kF{f:lw->I}:nu e f->NaV f e:=by cases e<;>trivial
def LiV(f:bM->I)(e:Expr):=∃a p,e=.List a p/\f a=U
def MB{f:bM->I}:Ŵ e f->LiV f e:=by cases e<;>trivial
def TuV(f:bM->I)(e:Expr):=∃a n p,e=.Tuple a n p/\f a=U
def MC{f:bM->I}:Mz e f->TuV f e:=by cases e<;>trivial
def SlV(f:N Expr->N Expr->N Expr->I)(e:Expr):=∃a b c p,e=.Slice a b c p/\f a b c=U
def aep{f:N Expr->N Expr->N Expr->I}:Zs e f->SlV f e:=by cases e<;>trivial
end
def MD(f:Expr)(a:bM)(b:Y wn):I:=br (nu f λ_=>U) (lc a (lc b J λ_ _=>U) λ_ _=>U) U
def dJ(e:Expr):I:=oY e U (ca:=λf a b _=>MD f a b)
def jC(e:Expr):I:=oY e U (sl:=λ_ _ _ _=>J)
def plainArg(e:Expr):I:=oY e U (sr:=J)
def d5(e:Expr):I:=oY e U (lc:=λ_ _ _ _=>J) (sc:=J) (dc:=J)
def B7(e:Expr):I:=oY e U (tu:=λ_ _ _=>J)
def n9(e:Expr):I:=oY e U (se:=J)
def cN(c:u8):W:=py (motive:=λ_=>W) c 0 1 2 3 4 5 6 7 8 9
def oN(o:nw):W:=wP (motive:=λ_=>W) o 0 1 2 3 4 5 6 7 8 9 10 11 12
def ME(a:Y u8):Y u8->I:=bm (motive:=λ_=>Y u8->I) (λb=>lc b U λ_ _=>J) (λx _ c b=>lc b J λy b=>ac (cN x) (cN y)&&c b) a
def EV(s:lw):I:=bd s.length 100000&&PyData.strOk s
def vZ(v:V)(c:w7):I:=a_ (motive:=λ_=>I) c (dP v J (no:=U)) (λb=>dP v J (bo:=λa=>b==a)) (λi=>dP v J (i:=λj=>a? (i=j))) aaE (λ_ _=>J) (λs=>dP v J (s:=λl=>a? (s.cps.toList=l)&&EV s)) aaE J
section
variable(u:W->lw)
def iD(x:W)(s:lw):I:=a? (s=u x)
def bV(b:ae):bM->I:=bm (motive:=λ_=>bM->I) (λa=>a.isEmpty) (λx _ c a=>lc a J λe a=>nu e (iD u x)&&c a) b
def oe(b:ae):Y wn->I:=bm (motive:=λ_=>Y wn->I) (λa=>a.isEmpty) (λx _ c a=>lc a J λe a=>oc e.arg (iD u x) J&&c a) b
variable(x:X)
def namesOf:ae:=X.rec (motive:=λ_=>ae) [] (λ_ _ i j=>i++j) [] [] [] (λ_=>[]) (λ_=>[]) (λx=>[x]) (λ_ _ i=>i) (λ_ i=>i) (λ_ i=>i) (λ_ i=>i) (λ_ i=>i) (λ_ _ _ i j k=>i++(j++k)) (λ_ _ _ i j=>i++j) (λ_ _ _ i j=>i++j) (λ_ i=>i) (λ_ i=>i) [] (λ_ _ i j=>i++j) (λ_ _ _ i j k=>i++(j++k)) (λf _ _ _ i j=>f::(i++j)) (λ_ _ _ _ _ i j k=>i++(j++k)) (λ_ _ _=>[]) (λ_ _ _ _ _ _=>[]) [] x
def D2(c:X)(y:W)(b:ae)(a:c7):I:=decide (a.kind=.function)&&(aH (λp=>!a? (p.2=.cell)&&(!a? (p.2=.local)||a? (a.names.lookup p.1=O .local))&&(!a? (p.2=.free)||Mn (λz=>a? (u z=p.1)) b)) a.names)&& decide (a.names.lookup (u y)=O .local)&&(aH (λz=>a? (a.names.lookup (u z)=O .free)) b)&&(aH (λz=>ac z y||aq b z||a? (a.names.lookup (u z)=O .globalImplicit)) (namesOf c))
structure I2 where
 e:Expr->I
 l:bM->I
def u6(e:Expr->I):I2:=⟨e,λ_=>J⟩
def LS(s:lw):I:=!a? (s=("__debug__":lw))
def z8(b d:Expr->I)(e:X)(y:W)(f:ae)(c:Expr)(a:Y a!)(h:c7):I:=lc a J λg r=>lc r (nu g.target (iD u y)&&b c&&d g.iter&&g.ifs.isEmpty&&a? (g.is_async=0)&&D2 u e y f h&&n9 g.iter) λ_ _=>J
def i2:I2:=X.rec (motive:=λ_=>I2) ⟨λ_=>J,λa=>a.isEmpty⟩ (λ_ _ i j=>⟨λ_=>J,λa=>lc a J λe a=>i.e e&&plainArg e&&j.l a⟩) (u6 λe=>Fn e (vZ .none)) (u6 λe=>Fn e (vZ (.bool U))) (u6 λe=>Fn e (vZ (.bool J))) (λn=>u6 λe=>Fn e (vZ (.int n))) (λl=>u6 λe=>Fn e (vZ (.str l))) (λx=>u6 λe=>nu e λs=>iD u x s&&LS s) (λ_ c i=>u6 λe=>isAt e λv n _=>iD u c n&&i.e v&&dJ v) (λ_ i=>u6 λe=>Zr e λa v=>a? (a=.Not)&&i.e v) (λ_ i=>u6 λe=>Zr e λa v=>a? (a=.USub)&&i.e v) (λ_ i=>u6 λe=>Zq e λa b=>a? (a=.And)&&i.l b) (λ_ i=>u6 λe=>Zq e λa b=>a? (a=.Or)&&i.l b) (λ_ _ _ i j k=>u6 λe=>ŷ e λc d f=>i.e c&&j.e d&&k.e f) (λ_ h _ i j=>u6 λe=>ŵ e λl f g=>i.e l&&ME h f&&j.l g&&!B! f g) (λa _ _ i j=>u6 λe=>Ÿ e λc f d=>ac (oN a) (oN f)&&i.e c&&j.e d) (λ_ i=>u6 λe=>Mz e λb=>i.l b&&bd b.length 1000) (λ_ i=>u6 λe=>Ŵ e λb=>i.l b&&bd b.length 1000) (u6 λe=>Ŷ e λc d=>c.isEmpty&&d.isEmpty) (λ_ _ i j=>u6 λe=>Fo e λo s=>i.e o&&j.e s&&jC s) (λ_ a b i j k=>u6 λe=>Fo e λo s=>Zs s λl h c=>i.e o&&oc l (λl=>!cq a&&j.e l) (cq a)&&oc h (λh=>!cq b&&k.e h) (cq b)&&c.isNone) (λf _ c _ i j=>u6 λe=>Ke e λg b a _=>nu g (λs=>iD u f s&&LS s)&&i.l b&&oe u c a&&j.l (a.map (·.value))) (λ_ m _ c _ i j k=>u6 λe=>Ke e λg b a p=>isAt g λv n d=>iD u m n&&i.e v&&j.l b&&oe u c a&&k.l (a.map (·.value))&&dJ v&&ac d.endLine p.line&&bd (b.length+a.length) 20) (λm _ i=>u6 λe=>Ke e λg b a p=>isAt g λv n d=>Ke v (λs c f _=>nu s (λs=>a? (s=("super":lw)))&&c.isEmpty&&f.isEmpty)&&iD u m n&&i.l b&&a.isEmpty&&ac d.endLine p.line&&bd b.length 20) (λa y _ b i j=>u6 λe=>Tf e (z8 u i.e j.e a y b)) (u6 λ_=>U) x
def eK(e:Expr):I:=(i2 u x).e e
def pz(a:bM):I:=(i2 u x).l a
def pT(a:bM)(f:Expr->I):I:=lc a J λt r=>f t&&r.isEmpty
structure IS where
 s:a9->I
 l:b9->I
def og(s:a9->I):IS:=⟨s,λ_=>J⟩
def XT(a:ae)(t:Expr):I:=lc a J λx r=>lc r (nu t (iD u x)) λ_ _=>Mz t (bV u a)
def ĝ(x:S):IS:=S.rec (motive:=λ_=>IS) ⟨λ_=>J,λa=>a.isEmpty⟩ (λ_ _ i j=>⟨λ_=>J,λa=>lc a J λs a=>i.s s&&j.l a⟩) (λe=>og λs=>ma s J (ex:=λv _=>eK u e v&&d5 v)) (λe=>og λs=>ma s J (re:=λv _=>oc v (λv=>!cq e&&eK u e v) (cq e))) (og λs=>ma s J (bk:=λ_=>U)) (og λs=>ma s J (pa:=λ_=>U)) (λc e=>og λs=>ma s J (asg:=λb v _=>bV u c b&&eK u e v&&!c.isEmpty&&d5 v)) (λx a y f d=>og λs=>ma s J (asg:=λb v _=>pT b (nu · (iD u x))&&Tf v (z8 u (eK u a) (eK u f) a y d))) (λc e=>og λs=>ma s J (asg:=λb v _=>pT b (Mz · (bV u c))&&eK u e v&&d5 v&&B7 v)) (λo g e=>og λs=>ma s J (asg:=λb v _=>pT b (isAt · λa n _=>iD u g n&&eK u o a)&&eK u e v&&d5 v)) (λo i e=>og λs=>ma s J (asg:=λb v _=>pT b (Fo · λa d=>eK u o a&&eK u i d&&jC d)&&eK u e v&&d5 v)) (λo i=>og λs=>ma s J (de:=λb _=>pT b (Fo · λa d=>eK u o a&&eK u i d&&jC d))) (λx b e=>og λs=>ma s J (aug:=λt d v _=>nu t (λs=>iD u x s&&LS s)&&ac (oN b) (oN d)&&eK u e v)) (λo g b e=>og λs=>ma s J (aug:=λt d v _=>isAt t (λa n _=>iD u g n&&eK u o a)&&ac (oN b) (oN d)&&eK u e v)) (λd _ _ i j=>og λs=>ma s J (ifs:=λg b h _=>eK u d g&&i.l b&&j.l h)) (λd _ i=>og λs=>ma s J (wh:=λg b a _=>eK u d g&&i.l b&&a.isEmpty)) (λc f _ i=>og λs=>ma s J (fo:=λt d b a _=>XT u c t&&eK u f d&&i.l b&&a.isEmpty&&n9 d)) (λe=>og λs=>ma s J (asr:=λv _ _=>eK u e v)) (λ_ i=>og λs=>ma s J (tr:=λb c a d _=>i.l b&&!c.isEmpty&&a.isEmpty&&d.isEmpty)) ⟨λ_=>U,λ_=>U⟩ x
def XU(x:S)(s:a9):I:=(ĝ u x).s s
def lI(x:S)(a:b9):I:=(ĝ u x).l a
end
def xq(l:Y X):X:=bm (motive:=λ_=>X) .nil (λa _ i=>.cons a i) l
def sq(l:Y S):S:=bm (motive:=λ_=>S) .nil (λa _ i=>.cons a i) l
def Sv:Y ol:=["self","name","index","line","column","buffer","pointer","start_mark","end_mark","encoding","value","plain","style","anchor","tag","implicit","flow_style","explicit","version","tags","ch","stream","stream_pointer","eof","raw_buffer","raw_decode","str","isinstance","check_printable","length","len","update","Mark","start","character","data","enumerate","_is_printable","token_number","required","mark","__init__","done","flow_level","tokens","fetch_stream_start","tokens_taken","indent","indents","allow_simple_key","possible_simple_keys","need_more_tokens","fetch_more_tokens","choices","id","pop","stale_possible_simple_keys","next_possible_simple_key","scan_to_next_token","unwind_indent","peek","fetch_stream_end","check_directive","check_document_start","fetch_document_start","check_document_end","fetch_document_end","fetch_flow_sequence_start","fetch_flow_mapping_start","fetch_flow_sequence_end","fetch_flow_mapping_end","fetch_flow_entry","check_block_entry","fetch_block_entry","check_key","check_value","fetch_value","fetch_alias","fetch_anchor","fetch_tag","fetch_literal","fetch_folded","fetch_single","fetch_double","check_plain","fetch_plain","min_token_number","level","key","list","remove_possible_simple_key","get_mark","SimpleKey","BlockEndToken","append","StreamStartToken","StreamEndToken","DocumentStartToken","fetch_document_indicator","DocumentEndToken","forward","TokenClass","FlowSequenceStartToken","fetch_flow_collection_start","FlowMappingStartToken","save_possible_simple_key","FlowSequenceEndToken","fetch_flow_collection_end","FlowMappingEndToken","FlowEntryToken","add_indent","BlockSequenceStartToken","BlockEntryToken","KeyToken","insert","BlockMappingStartToken","ValueToken","AliasToken","scan_anchor","AnchorToken","scan_tag","fetch_block_scalar","scan_block_scalar","fetch_flow_scalar","scan_flow_scalar","scan_plain","prefix","found","scan_line_break","indicator","handle","suffix","use_handle","scan_tag_uri","TagToken","folded","chunks","chomping","increment","scan_block_scalar_indicators","scan_block_scalar_ignored_line","min_indent","breaks","max_indent","scan_block_scalar_indentation","max","line_break","extend","leading_non_space","scan_block_scalar_breaks","join","ScalarToken","double","quote","scan_flow_scalar_non_spaces","scan_flow_scalar_spaces","ESCAPE_REPLACEMENTS","ESCAPE_CODES","scan_flow_scalar_breaks","whitespaces","spaces","scan_plain_spaces","current_event","yaml_version","tag_handles","states","marks","state","parse_stream_start","token","get_token","event","StreamStartEvent","parse_implicit_document_start","DirectiveToken","check_token","DEFAULT_TAGS","peek_token","DocumentStartEvent","parse_document_end","parse_block_node","parse_document_start","process_directives","parse_document_content","StreamEndEvent","DocumentEndEvent","block","parse_node","indentless_sequence","AliasEvent","tag_mark","SequenceStartEvent","parse_indentless_sequence_entry","ScalarEvent","parse_flow_sequence_first_entry","MappingStartEvent","parse_flow_mapping_first_key","parse_block_sequence_first_entry","parse_block_mapping_first_key","parse_block_sequence_entry","process_empty_scalar","SequenceEndEvent","parse_block_mapping_key","parse_block_mapping_value","parse_block_node_or_indentless_sequence","MappingEndEvent","first","parse_flow_sequence_entry","parse_flow_node","parse_flow_mapping_key","parse_flow_mapping_value","tape","n","_law_next","kind","depth","items","k","range","_law_tree","tree","_law_LEAVES","_","_law_PROPS","flow","due","item","_law_due","_law_flow","parts","head","beside","_law_block","_law_set","rows","parser","text","Parser","got","peek_event","get_event","_law_told","script","tail","_law_run","form","end","_law_ENDS","pad","rich","many","room","keys","number","draw","deep","_law_leaf","below","told","_law_flag","_law_mark","whole","_law_read","nodes","spot","last","begin","_law_moved","finish","IndexError","position","ReaderError","ord","ScannerError","int","code","chr","ParserError","major","minor","node","Token","Event","NodeEvent","CollectionStartEvent","CollectionEndEvent","law","fetch_directive","fetch_key","scan_tag_handle","scan_uri_escapes","copy","parse_flow_sequence_entry_mapping_key"]
def cdS(s:lw):W:=bm (motive:=λ_=>W) 0 (λc _ i=>c+1114113*i) s.cps.toList
def nmC:ae:=Sv.map λs=>bm (motive:=λ_=>W) 0 (λc _ i=>c.toNat+1114113*i) s.toByteArray.data.toList
def tI(s:lw):W:=bm (motive:=λ_=>W->W) id (λc _ a i=>br (ac c (cdS s)) i (a (i+1))) nmC 0
def tO(f:Expr->X)(o:N Expr):X:=oc o f .nil
def tK(c:w7):X:=a_ (motive:=λ_=>X) c .pf (λb=>br b .yQ .Hu) (λi=>.int i.toNat) (λ_=>.bad) (λ_ _=>.bad) (λs=>.str s.cps.toList) (λ_=>.bad) .bad
def tX(n:W):Expr->X:=ut (motive:=λ_=>Expr->X) (λ_=>.bad) (λ_ T e=>oY e .bad (bo:=λo l _=>BoolOp.casesOn (motive:=λ_=>X) o (.and (xq (l.map T))) (.or (xq (l.map T)))) (bi:=λa o b _=>.bin o (T a) (T b)) (un:=λo a _=>UnaryOp.casesOn (motive:=λ_=>X) o .bad (.nt (T a)) .bad (.neg (T a))) (ie:=λd a b _=>.ite (T d) (T a) (T b)) (di:=λ_ _ _=>.Ss) (cm:=λa o l _=>.cmp (T a) o (xq (l.map T))) (ca:=λf e c _=>oY f .bad (na:=λs _=>.bF (tI s) (xq (e.map T)) (c.map λk=>oc k.arg tI 0) (xq (c.map λk=>T k.value))) (at':=λv s _=>oY v (.fy (T v) (tI s) (xq (e.map T)) (c.map λk=>oc k.arg tI 0) (xq (c.map λk=>T k.value))) (ca:=λ_ _ _ _=>.sup (tI s) (xq (e.map T))))) (co:=λd _ _=>tK d) (at':=λv s _=>.bU (T v) (tI s)) (su:=λv i _=>oY i (.sub (T v) (T i)) (sl:=λa b _ _=>.cut (T v) (tO T a) (tO T b))) (na:=λs _=>.aR (tI s)) (li:=λl _=>.yR (xq (l.map T))) (tu:=λl _ _=>.tup (xq (l.map T)))) n
def tE:Expr->X:=tX 20
def Ă(e:Expr):ae:=oY e [] (na:=λs _=>[tI s]) (tu:=λl _ _=>l.map λe=>oY e 0 (na:=λs _=>tI s))
def tA(t e:Expr)(a:ae):S:=oY t .bad (na:=λ_ _=>.set a (tE e)) (tu:=λ_ _ _=>.C! (Ă t) (tE e)) (at':=λv s _=>.Fe (tE v) (tI s) (tE e)) (su:=λv i _=>.Zk (tE v) (tE i) (tE e))
def ahu(n:W):a9->S:=ut (motive:=λ_=>a9->S) (λ_=>.bad) (λ_ T s=>ma s .bad (re:=λv _=>.ret (tO tE v)) (de:=λl _=>lc l .bad λt _=>oY t .bad (su:=λv i _=>.del (tE v) (tE i))) (asg:=λa v _=>lc a .bad λt _=>tA t v (a.map λt=>oY t 0 (na:=λs _=>tI s))) (aug:=λt o v _=>oY t .bad (na:=λs _=>.aug (tI s) o (tE v)) (at':=λw s _=>.J7 (tE w) (tI s) o (tE v))) (fo:=λt i b _ _=>.yb (Ă t) (tE i) (sq (b.map T))) (wh:=λc b _ _=>.uH (tE c) (sq (b.map T))) (ifs:=λc a b _=>.ifs (tE c) (sq (a.map T)) (sq (b.map T))) (tr:=λb _ _ _ _=>.C? (sq (b.map T))) (asr:=λe _ _=>.Zl (tE e)) (ex:=λe _=>.expr (tE e)) (pa:=λ_=>.U_) (bk:=λ_=>.brk)) n
def U'(i:W):b9:=oc ((Re).main.body[i]?) (λs=>ma s [] (kl:=λb _ _=>b)) []
def tD(e:Expr):V:=oY e .none (co:=λc _ _=>a_ (motive:=λ_=>V) c .none .bool .int (λ_=>.none) (λ_ _=>.none) (λs=>.str s.cps.toList) (λ_=>.none) .none)
def tN(a:c7)(k:W1):ae:=(a.names.filterMap λp=>br (a? (p.2=k)) (O (tI p.1)) C).filter λi=>jp i 293
def dOf(i:W):Def:=oc ((U' 52++(U' 49++U' 45)).find? λs=>ma s J (fu:=λn _ _ _ _=>ac (tI n) i)) (λs=>ma s ⟨[],[],[],.nil⟩ (fu:=λ_ a b c _=>⟨(a.args.zip (q3 (a.args.length-a.defaults.length) C++a.defaults.map (O∘tD))).map λp=>(tI p.1.arg,p.2),tN c .local,tN c .globalImplicit,sq (b.map (ahu 20))⟩)) ⟨[],[],[],.nil⟩
def gn(a b c:ae)(d:S):Def:=⟨a.map (·,C),a++b,c,d⟩
def v0:X:=.aR 0
def v4:X:=.aR 4
def v20:X:=.aR 20
def Tg:X:=.aR 33
def Zt:X:=.aR 40
def gK:X:=.aR 171
def uN:X:=.aR 211
def Fp:X:=.aR 212
def sX:X:=.aR 236
def qA:X:=.aR 245
def B8:X:=.aR 246
def Fq:X:=.aR 258
def B9:X:=.aR 261
def bj:W->X:=.aR
def iT(n:W):X:=.fy v0 n .nil [] .nil
def ahv(n:W)(l:Y X):X:=.fy v0 n (xq l) [] .nil
def Zu(x:X)(n:W)(l:Y X):X:=.fy x n (xq l) [] .nil
def g0(n:W):X:=.bF n .nil [] .nil
def g1(n:W)(l:Y X):X:=.bF n (xq l) [] .nil
def r_(n:W):S:=.expr (iT n)
def R?(n:W)(l:Y X):S:=.expr (ahv n l)
def C_(x:X)(n:W)(l:Y X):S:=.expr (Zu x n l)
def ni(n:W):X:=.bU v0 n
def Tl(c:X)(l:Y S):S:=.ifs c (sq l) .nil
def MF(c:X)(l m:Y S):S:=.ifs c (sq l) (sq m)
def iE(n:W)(x:X):S:=.Fe v0 n x
def T0(n:W)(x:X):S:=.set [n] x
def t2Q(n:W)(x:X):S:=.J7 v0 n .Add x
def Ps(x y:X):X:=.bin .Add x y
def j0:W->X:=.int
def dK(n:W):X:=.str [n]
def y0(l:Y X):X:=.and (xq l)
def y1(l:Y X):X:=.or (xq l)
def y2(l:Y X):X:=.tup (xq l)
def y3(l:Y X):X:=.yR (xq l)
def w0(c:X)(l:Y S):S:=.uH c (sq l)
def fj(x y:X):X:=.cmp x [.Eq] (xq [y])
def cI(x y:X):X:=.cmp x [.In] (xq [y])
def ų(x y:X):X:=.cmp x [.NotEq] (xq [y])
def cS(x y:X):X:=.cmp x [.Is] (xq [y])
def ahw(x y:X):X:=.cmp x [.IsNot] (xq [y])
def cH(x y:X):X:=.cmp x [.Gt] (xq [y])
def cL(x y:X):X:=.cmp x [.Lt] (xq [y])
def mj:S:=sq [.expr (.sup 41 (xq [(bj 21)])),iE 42 .Hu,iE 43 (j0 0),iE 44 (.yR .nil),r_ 45,iE 46 (j0 0),iE 47 (.neg (j0 1)),iE 48 (.yR .nil),iE 49 .yQ,iE 50 .Ss]
def pA:S:=sq [w0 (iT 51) [r_ 52],Tl (ni 44) [.ifs (.nt (bj 53)) .bad .nil,Tl (cI (.bU (.sub (ni 44) (j0 0)) 54) (bj 53)) [.ret .yQ]],.ret .Hu]
def cK:S:=sq [r_ 58,r_ 56,R? 59 [ni 4],T0 20 (iT 60),Tl (fj v20 (dK 0)) [.ret (iT 61)],.ifs (y0 [fj v20 (dK 37),iT 62]) .bad .nil,Tl (y0 [fj v20 (dK 45),iT 63]) [.ret (iT 64)],Tl (y0 [fj v20 (dK 46),iT 65]) [.ret (iT 66)],Tl (fj v20 (dK 91)) [.ret (iT 67)],.ifs (fj v20 (dK 123)) .bad .nil,Tl (fj v20 (dK 93)) [.ret (iT 69)],.ifs (fj v20 (dK 125)) .bad .nil,.ifs (fj v20 (dK 44)) .bad .nil,Tl (y0 [fj v20 (dK 45),iT 72]) [.ret (iT 73)],.ifs (y0 [fj v20 (dK 63),iT 74]) .bad .nil,Tl (y0 [fj v20 (dK 58),iT 75]) [.ret (iT 76)],Tl (fj v20 (dK 42)) [.ret (iT 77)],Tl (fj v20 (dK 38)) [.ret (iT 78)],Tl (fj v20 (dK 33)) [.ret (iT 79)],Tl (y0 [fj v20 (dK 124),.nt (ni 43)]) [.ret (iT 80)],Tl (y0 [fj v20 (dK 62),.nt (ni 43)]) [.ret (iT 81)],Tl (fj v20 (dK 39)) [.ret (iT 82)],Tl (fj v20 (dK 34)) [.ret (iT 83)],Tl (iT 84) [.ret (iT 85)],.bad]
def oh:S:=sq [.expr (.sup 41 (xq [(bj 21)])),iE 162 .pf,iE 163 .pf,iE 164 .Ss,iE 165 (.yR .nil),iE 166 (.yR .nil),iE 167 (ni 168)]
def gj:S:=sq [T0 212 (g1 213 [uN]),T0 245 (.bin .Mod Fp (j0 10)),T0 246 (.sub (g0 247) (.bin .Mod (.bin .FloorDiv Fp (j0 10)) (j0 4))),T0 248 (.bin .Mult (dK 32) (Ps (Ps v4 (j0 1)) (.bin .Mod (.bin .FloorDiv Fp (j0 5)) (j0 2)))),Tl (fj qA (j0 1)) [.ret (Ps (.str [98,32,99]) B8)],Tl (fj qA (j0 2)) [.ret (Ps (Ps (Ps (.str [100,10]) (bj 248)) (dK 101)) B8)],Tl (fj qA (j0 3)) [.ret (Ps (.str [39,102,10,103,39]) B8)],Tl (fj qA (j0 4)) [.ret (Ps (.str [34,104,92,10,32,105,34]) B8)],Tl (fj qA (j0 5)) [.ret (Ps (.str [42,120]) B8)],Tl (fj qA (j0 6)) [.ret (Ps (.str [38,120,32,33,116,32,106]) B8)],Tl (y0 [fj qA (j0 7),(bj 249)]) [.ret (Ps (.str [91,107,93]) B8)],Tl (fj qA (j0 8)) [.ret (Ps (Ps (Ps (.str [124,10]) (bj 248)) (.str [108,10])) (.bin .Mult (dK 10) (.bin .Mod (.bin .FloorDiv Fp (j0 7)) (j0 2))))],Tl (fj qA (j0 9)) [.ret (Ps (Ps (Ps (Ps (.str [62,45,10]) (bj 248)) (.str [109,10])) (bj 248)) (.str [110,10]))],.ret (Ps (dK 97) B8)]
def rh:S:=sq [T0 212 (g1 213 [uN]),T0 250 (.ite (cH (bj 251) (j0 1)) (Ps (j0 1) (.bin .Mod (.bin .FloorDiv Fp (j0 2)) (j0 2))) (j0 1)),Tl (cS (bj 252) .pf) [T0 252 (fj (.bin .Mod Fp (j0 2)) (j0 1))],T0 236 (.str []),.yb [253] (g1 218 [(bj 250)]) (sq [T0 236 (Ps (Ps sX (.ite (cH (bj 253) (j0 0)) (.bin .Mult (dK 32) v4) (.str []))) (.ite (bj 252) (.str [107,58]) (dK 45))),T0 254 (g1 213 [uN]),T0 245 (.bin .Mod (bj 254) (j0 5)),Tl (y0 [.nt (bj 255),cI qA (y2 [j0 2,j0 3])]) [T0 245 (.bin .Sub qA (j0 2))],MF (fj qA (j0 0)) [T0 236 (Ps (Ps sX (dK 32)) (g1 256 [uN,v4,fj (bj 253) (j0 0)]))] [MF (fj qA (j0 1)) [T0 236 (Ps (Ps (Ps sX (dK 10)) (.bin .Mult (dK 32) (Ps (Ps v4 (j0 1)) (.bin .Mod (.bin .FloorDiv (bj 254) (j0 5)) (j0 2))))) (g1 256 [uN,v4,fj (bj 253) (j0 0)]))] [MF (y0 [fj qA (j0 2),.nt (bj 252)]) [T0 236 (Ps (Ps sX (dK 32)) (g1 219 [uN,Ps v4 (j0 2),.Hu,.bin .Sub (Ps (bj 251) (j0 1)) (bj 250),.pf]))] [MF (cL qA (j0 4)) [T0 236 (Ps sX (.ite (fj (.bin .Mod (.bin .FloorDiv (bj 254) (j0 5)) (j0 2)) (j0 1)) (.str [32,38,122,10]) (dK 10))),MF (y0 [(bj 252),fj (.bin .Mod (.bin .FloorDiv (bj 254) (j0 10)) (j0 2)) (j0 1)]) [T0 236 (Ps (Ps sX (.bin .Mult (dK 32) v4)) (g1 219 [uN,v4,.Hu,.bin .Sub (Ps (bj 251) (j0 1)) (bj 250),.Hu]))] [T0 257 (Ps (Ps v4 (j0 1)) (.bin .Mod (.bin .FloorDiv (bj 254) (j0 20)) (j0 2))),T0 236 (Ps (Ps sX (.bin .Mult (dK 32) (bj 257))) (g1 219 [uN,(bj 257),.Hu,.bin .Sub (Ps (bj 251) (j0 1)) (bj 250),.pf]))]] [T0 236 (Ps sX (dK 10))]]]]]),.ret sX]
def Ca:S:=sq [T0 235 (g1 237 [sX]),T0 238 (.yR .nil),T0 171 (.fy (bj 235) 240 .nil [] .nil),w0 (ahw gK .pf) [C_ (bj 238) 94 [y2 [g1 241 [gK],y3 [g1 260 [.bU gK 7],g1 260 [.bU gK 8]]]],T0 171 (.fy (bj 235) 240 .nil [] .nil)],.ret (bj 238)]
def Sw:S:=sq [.setC 211 (.bin .Mod Fp (j0 27720)) 212 (.cut (bj 242) .nil (j0 12)) [],T0 230 (g1 213 [uN]),T0 4 (.bin .Mod (bj 230) (j0 3)),T0 236 (Ps (.sub (y3 [.str [],.str [45,45,45,10],.str [35,32,114,10],.str [45,45,45,32,35,32,114,10]]) (.bin .Mod (.bin .FloorDiv (bj 230) (j0 3)) (j0 4))) (.bin .Mult (dK 32) v4)),T0 236 (Ps (Ps sX (g1 219 [uN,v4,.yQ,j0 2,.pf])) (.sub (y3 [.str [],.str [46,46,46,10],.str [35,32,114,10]]) (.bin .Mod (.bin .FloorDiv (bj 230) (j0 7)) (j0 3)))),T0 261 (g1 262 [sX]),T0 263 (.yR .nil),.yb [264] (g1 218 [g1 30 [B9]]) (sq [.C! [258,166] (.sub B9 (bj 264)),Tl (y1 [cI (.sub Fq (j0 0)) (y2 [.str [97,108,105,97,115],.str [109,97,112]]),y0 [fj (.sub Fq (j0 0)) (.str [114,111,119]),ų (.sub Fq (j0 4)) (dK 63)],y0 [fj (.sub Fq (j0 0)) (.str [118,97,108,117,101]),ų (.sub (bj 166) (j0 0)) (.sub (bj 166) (j0 1))]]) [C_ (bj 263) 94 [(bj 264)]]]),Tl (cH (g1 30 [(bj 263)]) (j0 1)) [T0 263 (.cut (bj 263) (j0 1) .nil)],T0 206 (.sub (bj 263) (.bin .Mod (.bin .FloorDiv (bj 230) (j0 12)) (g1 30 [(bj 263)]))),T0 265 (bj 206),T0 255 (j0 0),.yb [264] (g1 218 [(bj 206),g1 30 [B9]]) (sq [T0 214 (.sub (.sub (.sub B9 (bj 264)) (j0 0)) (j0 0)),Tl (cI (bj 214) (y2 [.str [114,111,119],.str [109,97,112]])) [T0 255 (Ps (bj 255) (j0 1))],Tl (cI (bj 214) (y2 [.str [114,111,119,32,101,110,100],.str [109,97,112,32,101,110,100]])) [T0 255 (.bin .Sub (bj 255) (j0 1))],Tl (fj (bj 255) (j0 0)) [T0 265 (bj 264),.brk]]),T0 33 (.sub (.sub (.sub B9 (bj 206)) (j0 1)) (j0 0)),T0 266 (g1 267 [Tg,Tg]),T0 268 (g1 267 [.sub (.sub (.sub B9 (bj 265)) (j0 1)) (j0 1),Tg]),T0 225 (y3 [y2 [y2 [.str [115,116,114,101,97,109]],y3 [y2 [j0 0,j0 0,j0 0],y2 [j0 0,j0 0,j0 0]]],y2 [y2 [.str [100,111,99,117,109,101,110,116],.str [110,111],.pf,.pf],y3 [(bj 266),(bj 266)]]]),.yb [258,166] (.cut B9 (bj 206) (Ps (bj 265) (j0 1))) (sq [C_ (bj 225) 94 [y2 [Fq,.comp (g1 267 [Zt,Tg]) 40 (bj 166) [33]]]]),C_ (bj 225) 94 [y2 [y2 [.str [100,111,99,117,109,101,110,116,32,101,110,100],.str [110,111]],y3 [(bj 268),(bj 268)]]],C_ (bj 225) 94 [y2 [y2 [.str [115,116,114,101,97,109,32,101,110,100]],y3 [(bj 268),(bj 268)]]],.ret (fj (g1 262 [Ps (.bin .Mult (dK 32) (.sub Tg (j0 2))) (.cut sX (.sub Tg (j0 0)) (.sub (.sub (.sub (.sub B9 (bj 265)) (j0 1)) (j0 1)) (j0 0)))]) (bj 225))]
def jR:=gn [20] [] [] (sq [.ret (y1 [cI v20 (.str [9,10,13,133]),.cmp (dK 32) [.LtE,.LtE] (xq [v20,dK 126]),.cmp (dK 160) [.LtE,.LtE] (xq [v20,dK 55295]),.cmp (dK 57344) [.LtE,.LtE] (xq [v20,dK 65533]),.cmp (dK 65536) [.LtE,.LtE] (xq [v20,dK 1114111])])])
def kY:=gn [0,21] [] [27,26] (sq [iE 1 .pf,iE 21 .pf,iE 22 (j0 0),iE 23 .yQ,iE 5 (.str []),iE 6 (j0 0),iE 24 .pf,iE 25 .pf,iE 9 .pf,iE 2 (j0 0),iE 3 (j0 0),iE 4 (j0 0),Tl (g1 27 [(bj 21),(bj 26)]) [iE 1 (.str [60,117,110,105,99,111,100,101,32,115,116,114,105,110,103,62]),R? 28 [(bj 21)],iE 5 (Ps (bj 21) (dK 0))]])
def kZ:=gn [0,35] [33,34,270] [36,37,271,272,30] (sq [.yb [33,34] (g1 36 [(bj 35)]) (sq [.ifs (.nt (g1 37 [(bj 34)])) .bad .nil])])
def jS:=gn [0,21] [] [] mj
def nv:Def:=⟨[(0,C),(53,O (.tup []))],[0,53],[],pA⟩
def oi:=gn [0] [] [] (sq [w0 (iT 51) [r_ 52],.ifs (ni 44) (sq [.ret (.sub (ni 44) (j0 0))]) .bad])
def pC:=gn [0] [] [] (sq [.uH (iT 51) .bad,Tl (ni 44) [t2Q 46 (j0 1),.ret (Zu (ni 44) 55 [j0 0])]])
def bH:=gn [0] [20] [273] cK
def pU:=gn [0,21] [] [] oh
def v3:=gn [] [] [] (sq [.ret (y3 [dK 10,.str [13,10],.str [32,35,32,114,10],dK 133])])
def v5:=gn [211] [] [] (sq [.ret (.ite uN (Zu uN 55 [j0 0]) (j0 0))])
def mq:=gn [211,4,249] [212,245,246,248] [213,247] gj
def mr:=gn [211,4,255,251,252] [212,250,236,253,254,245,257] [213,218,256,219] rh
def v7:=gn [258] [] [] (sq [Tl (cS Fq .yQ) [.ret (.str [121,101,115])],Tl (cS Fq .Hu) [.ret (.str [110,111])],.ret (dK 63)])
def v8:=gn [40] [] [] (sq [.ret (y2 [.bU Zt 2,.bU Zt 3,.bU Zt 4])])
def v9:=gn [171] [] [27,193,189,191,195,201,205,178,185,172,184,259] (sq [Tl (g1 27 [gK,(bj 193)]) [.ret (y2 [.str [118,97,108,117,101],.bU gK 13,.bU gK 14,g1 259 [.sub (.bU gK 15) (j0 0)],g1 259 [.sub (.bU gK 15) (j0 1)],.bU gK 10,.bU gK 12])],Tl (g1 27 [gK,(bj 189)]) [.ret (y2 [.str [97,108,105,97,115],.bU gK 13])],Tl (g1 27 [gK,(bj 191)]) [.ret (y2 [.str [114,111,119],.bU gK 13,.bU gK 14,g1 259 [.bU gK 15],g1 259 [.bU gK 16]])],Tl (g1 27 [gK,(bj 195)]) [.ret (y2 [.str [109,97,112],.bU gK 13,.bU gK 14,g1 259 [.bU gK 15],g1 259 [.bU gK 16]])],Tl (g1 27 [gK,(bj 201)]) [.ret (y2 [.str [114,111,119,32,101,110,100]])],Tl (g1 27 [gK,(bj 205)]) [.ret (y2 [.str [109,97,112,32,101,110,100]])],Tl (g1 27 [gK,(bj 178)]) [.ret (y2 [.str [100,111,99,117,109,101,110,116],g1 259 [.bU gK 17],.bU gK 18,.bU gK 19])],Tl (g1 27 [gK,(bj 185)]) [.ret (y2 [.str [100,111,99,117,109,101,110,116,32,101,110,100],g1 259 [.bU gK 17]])],Tl (g1 27 [gK,(bj 172)]) [.ret (y2 [.str [115,116,114,101,97,109]])],Tl (g1 27 [gK,(bj 184)]) [.ret (y2 [.str [115,116,114,101,97,109,32,101,110,100]])],.bad])
def iU:=gn [236] [235,238,171] [237,241,260] Ca
def ux:=gn [40,33] [] [] (sq [.ret (y2 [Ps (.bin .Sub (.sub Zt (j0 0)) (.sub Tg (j0 0))) (.sub Tg (j0 2)),.bin .Sub (.sub Zt (j0 1)) (.sub Tg (j0 1)),.sub Zt (j0 2)])])
def yZ:=gn [242] [211,230,4,236,261,263,264,206,265,255,266,268,225,214,258,166] [213,262,218,267,30,219] Sw
def yi:Y (W×XK):=[(32,⟨[(1,C),(2,C),(3,C),(4,C),(5,C),(6,C)],[(1,1),(2,2),(3,3),(4,4),(5,5),(6,6)],[],[32]⟩),(281,⟨[(7,C),(8,C)],[(7,7),(8,8)],[],[281]⟩),(174,⟨[(1,C),(10,C),(7,C),(8,C)],[(1,1),(10,10),(7,7),(8,8)],[(54,(.str [60,100,105,114,101,99,116,105,118,101,62]))],[174,281]⟩),(97,⟨[(7,C),(8,C)],[(7,7),(8,8)],[(54,(.str [60,100,111,99,117,109,101,110,116,32,115,116,97,114,116,62]))],[97,281]⟩),(99,⟨[(7,C),(8,C)],[(7,7),(8,8)],[(54,(.str [60,100,111,99,117,109,101,110,116,32,101,110,100,62]))],[99,281]⟩),(95,⟨[(7,O .none),(8,O .none),(9,O .none)],[(7,7),(8,8),(9,9)],[(54,(.str [60,115,116,114,101,97,109,32,115,116,97,114,116,62]))],[95,281]⟩),(96,⟨[(7,C),(8,C)],[(7,7),(8,8)],[(54,(.str [60,115,116,114,101,97,109,32,101,110,100,62]))],[96,281]⟩),(111,⟨[(7,C),(8,C)],[(7,7),(8,8)],[(54,(.str [60,98,108,111,99,107,32,115,101,113,117,101,110,99,101,32,115,116,97,114,116,62]))],[111,281]⟩),(115,⟨[(7,C),(8,C)],[(7,7),(8,8)],[(54,(.str [60,98,108,111,99,107,32,109,97,112,112,105,110,103,32,115,116,97,114,116,62]))],[115,281]⟩),(93,⟨[(7,C),(8,C)],[(7,7),(8,8)],[(54,(.str [60,98,108,111,99,107,32,101,110,100,62]))],[93,281]⟩),(102,⟨[(7,C),(8,C)],[(7,7),(8,8)],[(54,(.str [91]))],[102,281]⟩),(104,⟨[(7,C),(8,C)],[(7,7),(8,8)],[(54,(.str [123]))],[104,281]⟩),(106,⟨[(7,C),(8,C)],[(7,7),(8,8)],[(54,(.str [93]))],[106,281]⟩),(108,⟨[(7,C),(8,C)],[(7,7),(8,8)],[(54,(.str [125]))],[108,281]⟩),(113,⟨[(7,C),(8,C)],[(7,7),(8,8)],[(54,(.str [63]))],[113,281]⟩),(116,⟨[(7,C),(8,C)],[(7,7),(8,8)],[(54,(.str [58]))],[116,281]⟩),(112,⟨[(7,C),(8,C)],[(7,7),(8,8)],[(54,(.str [45]))],[112,281]⟩),(109,⟨[(7,C),(8,C)],[(7,7),(8,8)],[(54,(.str [44]))],[109,281]⟩),(117,⟨[(10,C),(7,C),(8,C)],[(10,10),(7,7),(8,8)],[(54,(.str [60,97,108,105,97,115,62]))],[117,281]⟩),(119,⟨[(10,C),(7,C),(8,C)],[(10,10),(7,7),(8,8)],[(54,(.str [60,97,110,99,104,111,114,62]))],[119,281]⟩),(134,⟨[(10,C),(7,C),(8,C)],[(10,10),(7,7),(8,8)],[(54,(.str [60,116,97,103,62]))],[134,281]⟩),(151,⟨[(10,C),(11,C),(7,C),(8,C),(12,O .none)],[(10,10),(11,11),(7,7),(8,8),(12,12)],[(54,(.str [60,115,99,97,108,97,114,62]))],[151,281]⟩),(282,⟨[(7,O .none),(8,O .none)],[(7,7),(8,8)],[],[282]⟩),(283,⟨[(13,C),(7,O .none),(8,O .none)],[(13,13),(7,7),(8,8)],[],[283,282]⟩),(284,⟨[(13,C),(14,C),(15,C),(7,O .none),(8,O .none),(16,O .none)],[(13,13),(14,14),(15,15),(7,7),(8,8),(16,16)],[],[284,283,282]⟩),(285,⟨[(7,O .none),(8,O .none)],[(7,7),(8,8)],[],[285,282]⟩),(172,⟨[(7,O .none),(8,O .none),(9,O .none)],[(7,7),(8,8),(9,9)],[],[172,282]⟩),(184,⟨[(7,O .none),(8,O .none)],[(7,7),(8,8)],[],[184,282]⟩),(178,⟨[(7,O .none),(8,O .none),(17,O .none),(18,O .none),(19,O .none)],[(7,7),(8,8),(17,17),(18,18),(19,19)],[],[178,282]⟩),(185,⟨[(7,O .none),(8,O .none),(17,O .none)],[(7,7),(8,8),(17,17)],[],[185,282]⟩),(189,⟨[(13,C),(7,O .none),(8,O .none)],[(13,13),(7,7),(8,8)],[],[189,283,282]⟩),(193,⟨[(13,C),(14,C),(15,C),(10,C),(7,O .none),(8,O .none),(12,O .none)],[(13,13),(14,14),(15,15),(10,10),(7,7),(8,8),(12,12)],[],[193,283,282]⟩),(191,⟨[(13,C),(14,C),(15,C),(7,O .none),(8,O .none),(16,O .none)],[(13,13),(14,14),(15,15),(7,7),(8,8),(16,16)],[],[191,284,283,282]⟩),(201,⟨[(7,O .none),(8,O .none)],[(7,7),(8,8)],[],[201,285,282]⟩),(195,⟨[(13,C),(14,C),(15,C),(7,O .none),(8,O .none),(16,O .none)],[(13,13),(14,14),(15,15),(7,7),(8,8),(16,16)],[],[195,284,283,282]⟩),(205,⟨[(7,O .none),(8,O .none)],[(7,7),(8,8)],[],[205,285,282]⟩),(92,⟨[(38,C),(39,C),(2,C),(3,C),(4,C),(40,C)],[(38,38),(39,39),(2,2),(3,3),(4,4),(40,40)],[],[92]⟩)]
abbrev oj:=Y (W×Def)
def uy:oj:=[(52,bH),(175,nv),(177,oi),(170,pC),(28,kZ)]++[60,100,126,91,31,128,56,57,51,240,168,173,181,179,183,182,180,208,204,187,197,199,192,198,202,203,194,207,200,105,90,59,110,45,61,64,66,98,67,103,69,107,73,76,77,78,79,80,81,121,82,83,123,85,63,65,72,75,84,58,118,120,122,139,140,144,149,124,154,155,158,125,161,133].map λi=>(i,dOf i)
def pD:oj:=[(37,jR),(247,v3),(213,v5),(256,mq),(219,mr),(259,v7),(260,v8),(241,v9),(262,iU),(267,ux),(286,yZ)]
def Fs:W:=1
def z9:W:=2
def Ft:W:=3
def wa:W:=4
def eA:W:=5
def lJ:W:=6
def wb:W:=9
def Cb:W:=21
def lK:W:=22
def XW:W:=23
def rj:W:=24
def rt:W:=25
def aer:W:=26
def Aa:W:=27
def rA:W:=28
def aes:W:=30
def MG:W:=32
def Cc:W:=36
def MH:W:=42
def rB:W:=43
def aN:W:=44
def aI:W:=46
def Cd:W:=47
def eR:W:=48
def jT:W:=49
def hZ:W:=50
def bt:W:=51
def bG:W:=52
def Ų:W:=54
def MI:W:=55
def Zv:W:=89
def jd:W:=94
def qB:W:=95
def wc:W:=114
def aeu:W:=145
def wd:W:=147
def Fu:W:=150
def ny:W:=156
def we:W:=157
def uO:W:=162
def wg:W:=163
def yj:W:=164
def MJ:W:=165
def Th:W:=166
def Ti:W:=167
def om:W:=170
def k6:W:=175
def wi:W:=176
def mw:W:=177
def Tj:W:=218
def bP:W:=240
def gm:W:=241
def fA:W:=260
def IN(i:W):lw:=match Sv[i]? with|some s=>pi s|none=>⟨#[0,i]⟩
structure fC where
 prog:zs
 w:t1
 cU:W->ii
 fnAt:W->ii
 HF:W->bv
 uP:W->ii
 nm:W->lw
 jz:W->I
 isFn:W->I
 Zw:W->I
 bw:W->I
 y4:W->I
 dj:I
 par:ii
 dG:ii
 uQ:ii
 rC:I
 aG:ii
abbrev bl:=ii->xL->Prop
abbrev bl.le(F F':bl):Prop:=∀a o,F a o->F' a o
def bl.add(F:bl)(a:ii)(o:xL):bl:=λb p=>F b p∨(b=a/\p=o)
def bl.mx(F:bl)(a:ii)(o:xL):F.le (F.add a o):=λ_ _ e=>.inl e
def bl.ib(F:bl)(a:ii)(o:xL):F.add a o a o:=.inr ⟨Z,Z⟩
abbrev aP:=Y bv
def jU(a:aP)(n:W):xL:={cls:=.type "tuple",data:=.seq a.toArray n}
def eE(a:aP)(n:W):xL:={cls:=.type "list",data:=.seq a.toArray n}
def lb(a d:ii):xL:={cls:=.ref a,dict:=O d,data:=.plain}
abbrev gS:=Y M2
def fE(a:gS)(n:W):xL:={cls:=.type "dict",data:=.dict a.toArray n}
def MK(f x:ii):xL:={cls:=.type "method",data:=.fields #[.ref f,.ref x]}
def lim:W:=1000000
def jV(a:aP):=a.length<=lim
def ig(s:lw):=s.length<=lim/\PyData.strOk s=U
section
variable(g:fC)(F:bl)
def ML(w:bv):=w=.none
def MM(b:I)(w:bv):=w=.bool b
def rint(i:D)(w:bv):=∃t,w=.int i t
def Fv(l:ae)(w:bv):=∃s t,w=.str s t/\s.cps.toList=l/\ig s
variable(r:aP->Prop)(w:bv)
def Fw:=∃b a n,w=.ref b/\F b (jU a n)/\jV a/\r a
def Ac:=∃b a n,w=.ref b/\F b (eE a n)/\jV a/\r a
def MN(c:W)(r:gS->Prop)(w:bv):=∃b d a n,w=.ref b/\g.jz c/\F b (lb (g.cU c) d)/\F d (fE a n)/\a.length<=lim/\r a
def Zx(c:W)(w:bv):=w=.ref (g.cU c)/\g.jz c=U
def T7(f:W)(w:bv):=w=.ref (g.fnAt f)/\g.isFn f=U
def T_(b:W)(w:bv):=w=g.HF b
def T'(k:W)(w:bv):=w=.ref (g.uP k)/\g.Zw k=U
def Ce(m:W)(w:bv):=∃a,w=.ref a/\g.isFn m/\g.dj/\F a (MK (g.fnAt m) g.par)
def rpar:=w=.ref g.par/\g.dj=U
def MO:=w=.ref g.aG/\g.rC=U
def LU(_:bv):=Ch
def Zy(a:aP):=a=[]
def y5(r:bv->Prop)(b:aP->Prop)(a:aP):=∃w l,a=w::l/\r w/\b l
def MP(a:gS):=a=[]
def sY(r:M2->Prop)(b:gS->Prop)(a:gS):=∃e l,a=e::l/\r e/\b l
def Tn(a:W)(r:bv->Prop)(e:M2):=g.y4 a=U/\(∃t,e.key=.str (g.nm a) t)/\r e.val
def Rd(v:V):=V.rec (motive_1:=λ_=>bv->Prop) (motive_2:=λ_=>aP->Prop) (motive_3:=λ_=>gS->Prop) (motive_4:=λ_=>M2->Prop) ML MM rint Fv (λ_=>Fw F) (λ_=>Ac F) (λc _=>MN g F c) (Zx g) (T7 g) (T_ g) (T' g) (Ce g F) (rpar g) (MO g) (λ_=>LU) (λ_ _=>LU) LU (λ_=>LU) Zy (λ_ _=>y5) MP (λ_ _=>sY) (λa _=>Tn g a) v w
def cD(b:aP)(a:af):=V.rec_1 (motive_1:=λ_=>bv->Prop) (motive_2:=λ_=>aP->Prop) (motive_3:=λ_=>gS->Prop) (motive_4:=λ_=>M2->Prop) ML MM rint Fv (λ_=>Fw F) (λ_=>Ac F) (λc _=>MN g F c) (Zx g) (T7 g) (T_ g) (T' g) (Ce g F) (rpar g) (MO g) (λ_=>LU) (λ_ _=>LU) LU (λ_=>LU) Zy (λ_ _=>y5) MP (λ_ _=>sY) (λc _=>Tn g c) a b
def Ad(b:gS)(a:aY):=V.rec_2 (motive_1:=λ_=>bv->Prop) (motive_2:=λ_=>aP->Prop) (motive_3:=λ_=>gS->Prop) (motive_4:=λ_=>M2->Prop) ML MM rint Fv (λ_=>Fw F) (λ_=>Ac F) (λc _=>MN g F c) (Zx g) (T7 g) (T_ g) (T' g) (Ce g F) (rpar g) (MO g) (λ_=>LU) (λ_ _=>LU) LU (λ_=>LU) Zy (λ_ _=>y5) MP (λ_ _=>sY) (λc _=>Tn g c) a b
end
section
variable{g:fC}{F o:bl}
variable(s:F.le o)
def Kf{r b:aP->Prop}(i:∀a,r a->b a)(w:bv)(h:Fw F r w):Fw o b w:=by obtain⟨b,a,n,e,h,l,r⟩:=h;exact⟨b,a,n,e,s _ _ h,l,i _ r⟩
def Kg{r b:aP->Prop}(i:∀a,r a->b a)(w:bv)(h:Ac F r w):Ac o b w:=by obtain⟨b,a,n,e,h,l,r⟩:=h;exact⟨b,a,n,e,s _ _ h,l,i _ r⟩
def Kh{r b:gS->Prop}(i:∀a,r a->b a)(w:bv)(h:MN g F c r w):MN g o c b w:=by obtain⟨a,d,b,n,e,c,h,k,l,r⟩:=h;exact⟨a,d,b,n,e,c,s _ _ h,s _ _ k,l,i _ r⟩
def Fx(m:W)(w:bv)(h:Ce g F m w):Ce g o m w:=by obtain⟨a,e,f,p,h⟩:=h;exact⟨a,e,f,p,s _ _ h⟩
def my{r b:bv->Prop}{k c:aP->Prop}(i:∀w,r w->b w)(j:∀a,k a->c a)(a:aP)(h:y5 r k a):y5 b c a:=by obtain⟨w,l,e,h,q⟩:=h;exact⟨w,l,e,i _ h,j _ q⟩
def Cf{r b:M2->Prop}{k c:gS->Prop}(i:∀w,r w->b w)(j:∀a,k a->c a)(a:gS)(h:sY r k a):sY b c a:=by obtain⟨w,l,e,h,q⟩:=h;exact⟨w,l,e,i _ h,j _ q⟩
def HG(v:V):∀w,Rd g F w v->Rd g o w v:=V.rec (λ_=>id) (λ_ _=>id) (λ_ _=>id) (λ_ _=>id) (λ_ a=>Kf s a) (λ_ a=>Kg s a) (λ_ _ a=>Kh s a) (λ_ _=>id) (λ_ _=>id) (λ_ _=>id) (λ_ _=>id) (λm=>Fx s m) (λ_=>id) (λ_=>id) (λ_ _=>id) (λ_ _ _=>id) (λ_=>id) (λ_ _=>id) (λ_=>id) (λ_ _ i j=>my i j) (λ_=>id) (λ_ _ i j=>Cf i j) (λ_ _ i _ h=>⟨h.1,h.2,i _ h.3⟩) v
def Rd.bS(r:Rd g F w v):Rd g o w v:=HG s v w r
def cD.un{v:V}(r:cD g F b (v::a)):y5 (Rd g F · v) (cD g F · a) b:=r
def cD.bS(h:cD g F b a):cD g o b a:=by induction a generalizing b with|nil=>exact h|cons v a c=>exact my (HG s v) (λ_=>c) b h
end
inductive Ow where
 |frame
 |loc (x:W)
 |par
 |dict
 |bU (a:W)
 |aG
 |ck
structure Pt where
 s:ge
 F:bl
 ow:ii->N Ow
abbrev Pt.h(p:Pt):ul:=p.s.heap
section
variable(g:fC)
variable(p:Pt)(t:ii)
def wj(b:af):=∃a n,p.h.get? t=O (eE a n)/\jV a/\cD g p.F a b
def yk(b:eu):=∃a:Y (D×bv),p.h.DictOf (mI g.prog g.w) t a/\a.length<=lim/\(a.map (·.1)=b.map (·.1)/\cD g p.F (a.map (·.2)) (b.map (·.2)))
abbrev je:=Y (lw×bv)
def Cg(b:Y (ae×V)):=∃a:je,p.h.DictOf (No g.prog g.w) t a/\a.length<=lim/\(∀d∈a,ig d.1)/\(a.map (·.1.cps.toList)=b.map (·.1)/\cD g p.F (a.map (·.2)) (b.map (·.2)))
def g7(c:Cn):=yd c Ch (wj g p t) (yk g p t) (Cg g p t)
def qC(a:W)(w:bv)(c:Cn):=∃t,w=.ref t/\p.ow t=O (.bU a)/\g7 g p t c
def yl(a:W)(w:bv)(q:PA):=x8 q (Rd g p.F w) (λl=>qC g p a w (.lst l)) (λl=>qC g p a w (.kX l)) (λl=>qC g p a w (.vL l)) λl=>qC g p a w (.Hv l)
def wk(b:gS)(a:W)(q:N PA):=oc q (λq=>g.bw a=U/\∃w,d4 (g.nm a) b=O (O w)/\yl g p a w q) (d4 (g.nm a) b=O C)
def iM(a:gS):=∀e∈a,∃a t,e.key=.str (g.nm a) t
structure pV(p:Pt)(l:nW)(es:gS)(n:W):Prop where
 at_:p.h.get? g.dG=O (fE es n)
 len:es.length=l.length
 lim:es.length<=lim
 key:iM g es
 bU:∀a,wk g p es a (aj a l)
structure Own(p:Pt):Prop where
 fz:∀a o,p.F a o->p.h.get? a=O o/\p.ow a=C
 sJ:∀a k,p.ow a=O k->∃o,p.h.get? a=O o
 inj:∀a b k,p.ow a=O k->p.ow b=O k->k≠.ck->a=b
structure qQ(p:Pt)(pg:PG):Prop where
 own:Own p
 par:g.dj->p.ow g.par=O .par/\p.ow g.dG=O .dict/\p.h.get? g.par=O (lb g.uQ g.dG)/\∃es n,pV g p pg.par es n
 aG:g.rC->p.ow g.aG=O .aG/\wj g p g.aG pg.aG
end
structure Cx where
 A:v6
 env:w5
 K:WP
 g:fC
 G:cQ
 B:bl
 L:ii
 lv:ae
abbrev M'(c:Cx):o?:=WF c.g.prog c.g.w
section
variable(c:Cx)
abbrev eU:=N bv
def Zz(p:Pt)(m:lw->eU)(x:W)(l:N LV):=oc l (λl=>Kb l (λv=>∃w,m (c.g.nm x)=O w/\Rd c.g p.F w v) λa=>∃t,m (c.g.nm x)=O (.ref t)/\p.ow t=O (.loc x)/\wj c.g p t a) mf
structure bC(p:Pt)(σ:St):Prop where
 pg:qQ c.g p σ.pg
 kx:p.ow c.L=O .frame
 loc:∃m,p.h.Ns c.L m/\∀x,Zz c p m x (aj x σ.loc)
 base:c.B.le p.F
end
def kN(q:N PA):N (N W):=oc q (λq=>x8 q (λv=>mp (pe v) O) (λ_=>O C) (λ_=>O C) (λ_=>O C) λ_=>O C) C
def Calm(p:Pt)(c:PG)(d:Pt)(b:PG):=(∀a,kN (aj a b.par)=kN (aj a c.par))/\∀a t,p.ow t=O (.bU a)->d.ow t=O (.bU a)
structure Ext(kp:N Ow->I)(p:Pt)(pg:PG)(p':Pt)(pg':PG):Prop where
 le:p.F.le p'.F
 sh:p'.s={p.s with heap:=p'.s.heap,toks:=p'.s.toks}
 keep:∀a o,p.h.get? a=O o->kp (p.ow a)->p'.h.get? a=O o
 ex:∀a o,p.h.get? a=O o->∃o',p'.h.get? a=O o'
 to:∀a o,p.h.get? a=O o->p'.ow a=p.ow a∨p'.ow a=C
 ck:∀a,p.ow a=O .ck↔p'.ow a=O .ck
 kx:∀a,p.ow a=O .frame↔p'.ow a=O .frame
 bD:pg.bD<=pg'.bD
 calm:pg'.bD=pg.bD->Calm p pg p' pg'
def EE(a:I)(k:N Ow):I:=oc k (λk=>Ow.casesOn (motive:=λ_=>I) k U (λ_=>a) a a (λ_=>a) a U) U
def lg(a:I)(k:N Ow):I:=oc k (λk=>Ow.casesOn (motive:=λ_=>I) k J aaE a a (λ_=>a) a U) U
def Ci{a:I}(h:lg a k):EE a k:=by induction k with|none=>rfl|some k=>refine@Ow.casesOn (λk=>lg a (O k)=U->EE a (O k)=U) k ?_ ?_ ?_ ?_ ?_ ?_ ?_ h<;>first|exact ao|exact λ_=>ao|exact id|exact λ_=>id
section
variable{g:N Ow->I}{p m j:Pt}{pg f h:PG}
def Ext.refl:Ext g p pg p pg:=⟨λ_ _=>id,Z,λ_ _ e _=>e,λ_ o e=>⟨o,e⟩,λ_ _ _=>.inl Z,λ_=>.rfl,λ_=>.rfl,aU _,λ_=>⟨λ_=>Z,λ_ _=>id⟩⟩
def Ext.trans(b:g C)(x:Ext g p pg m f)(y:Ext g m f j h):Ext g p pg j h where
 le:=λa o e=>y.le a o (x.le a o e)
 sh:=by rw[y.sh,x.sh]
 keep:=λa o e k=>y.keep a o (x.keep a o e k) ((x.to a o e).elim (λq=>q.symm▸k) λq=>q.symm▸b)
 ex:=λa o e=>r' (x.ex a o e) λb=>y.ex a b
 to:=λa o e=>r' (x.ex a o e) λb c=>(y.to a b c).elim (λq=>(x.to a o e).elim (λr=>.inl (q.trans r)) λr=>.inr (q.trans r)) .inr
 ck:=λa=>(x.ck a).trans (y.ck a)
 kx:=λa=>(x.kx a).trans (y.kx a)
 bD:=ay x.bD y.bD
 calm:=λe=>
  have b:=Nat.le_antisymm (e▸y.bD) x.bD;have a:=x.calm b;have c:=y.calm (e.trans b.symm)
  ⟨λi=>(c.1 i).trans (a.1 i),λi t o=>c.2 i t (a.2 i t o)⟩
def Ext.weak{a:N Ow->I}(x:Ext g p pg m f)(w:∀k,a k->g k):Ext a p pg m f:=⟨x.le,x.sh,λa o e k=>x.keep a o e (w _ k),x.ex,x.to,x.ck,x.kx,x.bD,x.calm⟩
def Ext.grow{t:W}(k:∀a o,p.h.get? a=O o->b.get? a=O o)(d:p.F.le c):Ext g p pg ⟨{p.s with heap:=b,toks:=t},c,p.ow⟩ pg:=⟨d,Z,λa o e _=>k a o e,λa o e=>⟨o,k a o e⟩,λ_ _ _=>.inl Z,λ_=>.rfl,λ_=>.rfl,aU _,λ_=>⟨λ_=>Z,λ_ _=>id⟩⟩
end
section
variable{g:fC}{p j:Pt}{pg:PG}{t:ii}
def wj.to(x:wj g p t a)(k:∀o,p.h.get? t=O o->j.h.get? t=O o)(b:p.F.le j.F):wj g j t a:=by obtain⟨a,n,h,l,r⟩:=x;exact⟨a,n,k _ h,l,r.bS b⟩
def Ae{K:Type}[gk K]{d:zs}{w:t1}{b:qR d w K}{h a:ul}{c:Y (K×bv)}(x:h.DictOf b t c)(k:∀o,h.get? t=O o->a.get? t=O o):a.DictOf b t c:=by obtain⟨o,a,b,c,r⟩:=x;exact⟨o,a,b,k o c,r⟩
def yk.to(x:yk g p t a)(k:∀o,p.h.get? t=O o->j.h.get? t=O o)(b:p.F.le j.F):yk g j t a:=by obtain⟨a,h,l,e,r⟩:=x;exact⟨a,Ae h k,l,e,r.bS b⟩
def Cg.to(x:Cg g p t a)(k:∀o,p.h.get? t=O o->j.h.get? t=O o)(b:p.F.le j.F):Cg g j t a:=by obtain⟨a,h,l,z,e,r⟩:=x;exact⟨a,Ae h k,l,z,e,r.bS b⟩
def g7.to(k:∀o,p.h.get? t=O o->j.h.get? t=O o)(a:p.F.le j.F):g7 g p t c->g7 g j t c:=Cn.casesOn c (λ_ x=>wj.to x k a) (λ_ x=>yk.to x k a) (λ_ x=>Cg.to x k a) λ_=>id
def qC.to(k:∀t o,p.ow t=O (.bU a)->p.h.get? t=O o->j.h.get? t=O o)(ko:∀t,p.ow t=O (.bU a)->j.ow t=O (.bU a))(b:p.F.le j.F)(x:qC g p a w c):qC g j a w c:=by obtain⟨t,e,o,h⟩:=x;exact⟨t,e,ko t o,h.to (λ_=>k t _ o) b⟩
def yl.to{q:PA}(k:∀t o,p.ow t=O (.bU a)->p.h.get? t=O o->j.h.get? t=O o)(ko:∀t,p.ow t=O (.bU a)->j.ow t=O (.bU a))(b:p.F.le j.F):yl g p a w q->yl g j a w q:=PA.casesOn q (λ_ x=>Rd.bS b x) (λ_=>qC.to k ko b) (λ_=>qC.to k ko b) (λ_=>qC.to k ko b) λ_=>qC.to k ko b
def wk.to{q:N PA}(k:∀t o,p.ow t=O (.bU a)->p.h.get? t=O o->j.h.get? t=O o)(ko:∀t,p.ow t=O (.bU a)->j.ow t=O (.bU a))(c:p.F.le j.F):wk g p b a q->wk g j b a q:=pm id (λq x=>by obtain⟨i,w,h,y⟩:=x;exact⟨i,w,h,y.to k ko c⟩) q
def shared(k:Ow):I:=Ow.casesOn (motive:=λ_=>I) k J aaE U U aaF U J
def pV.to{l:nW}(x:pV g p l b n)(c:p.ow g.dG=O .dict)(k:∀a w o,p.ow a=O w->shared w->p.h.get? a=O o->j.h.get? a=O o)(ko:∀a w,p.ow a=O w->shared w->j.ow a=O w)(d:p.F.le j.F):pV g j l b n:=⟨k _ _ _ c Z x.at_,x.len,x.lim,x.key,λa=>(x.bU a).to (λ_ _ e=>k _ _ _ e Z) (λ_ e=>ko _ _ e Z) d⟩
def qQ.to(x:qQ g p pg)(b:Own j)(k:∀a w o,p.ow a=O w->shared w->p.h.get? a=O o->j.h.get? a=O o)(ko:∀a w,p.ow a=O w->shared w->j.ow a=O w)(c:p.F.le j.F):qQ g j pg:=by refine⟨b,λd=>?_,λe=>?_⟩;obtain⟨a,b,f,h,n,i⟩:=x.par d;exact⟨ko _ _ a Z,ko _ _ b Z,k _ _ _ a Z f,h,n,i.to b k ko c⟩;obtain⟨a,b⟩:=x.aG e;exact⟨ko _ _ a Z,b.to (λ_=>k _ _ _ a Z) c⟩
end
def aa{b:Type}{a:b}{P:Prop}(h:C=O a):P:=ch h (yG a).symm
def bX.{u0}{c:Type}{b:Sort u0}{d:(a:b)->c}{P:(a:b)->Prop}:∀a,C=O (d a)->P a:=λ_=>aa
def gL.{u0,u1}{e:Type}{c:Sort u0}{d:(a:c)->Sort u1}{f:(a:c)->(b:d a)->e}{P:(a:c)->(b:d a)->Prop}:∀a b,C=O (f a b)->P a b:=λ_ _=>aa
def kH.{u0,u1,u2}{g:Type}{c:Sort u0}{e:(a:c)->Sort u1}{f:(a:c)->(b:e a)->Sort u2}{h:(a:c)->(b:e a)->(d:f a b)->g}{P:(a:c)->(b:e a)->(d:f a b)->Prop}:∀a b d,C=O (h a b d)->P a b d:=λ_ _ _=>aa
def Fy.{u0,u1,u2,u3}{i:Type}{d:Sort u0}{e:(a:d)->Sort u1}{g:(a:d)->(b:e a)->Sort u2}{h:(a:d)->(b:e a)->(c:g a b)->Sort u3}{j:(a:d)->(b:e a)->(c:g a b)->(f:h a b c)->i}{P:(a:d)->(b:e a)->(c:g a b)->(f:h a b c)->Prop}:∀a b c f,C=O (j a b c f)->P a b c f:=λ_ _ _ _=>aa
def To.{u0,u1,u2,u3,u4}{k:Type}{e:Sort u0}{f:(a:e)->Sort u1}{g:(a:e)->(b:f a)->Sort u2}{i:(a:e)->(b:f a)->(c:g a b)->Sort u3}{j:(a:e)->(b:f a)->(c:g a b)->(d:i a b c)->Sort u4}{l:(a:e)->(b:f a)->(c:g a b)->(d:i a b c)->(h:j a b c d)->k}{P:(a:e)->(b:f a)->(c:g a b)->(d:i a b c)->(h:j a b c d)->Prop}:∀a b c d h,C=O (l a b c d h)->P a b c d h:=λ_ _ _ _ _=>aa
def cf(a:W):ac a a:=Nat.beq_refl a
def jW(h:a≠b):ac a b=J:=d8.mpr λe=>h (aK e)
section
variable{d:Type}
def dM{b:I}(h:b):br b x y=x:=h▸Z
def dw{b:I}(h:b=J):br b x y=y:=h▸Z
variable{a b:W}{v w:d}{l:Y (W×d)}
def fF(h:ac b a):aj a ((b,v)::l)=O v:=dM h
def dH(h:ac b a=J):aj a ((b,v)::l)=aj a l:=dw h
def FA(h:ac b a):put a w ((b,v)::l)=(a,w)::l:=dM h
def Af(h:ac b a=J):put a w ((b,v)::l)=(b,v)::put a w l:=dw h
def dk:aj a (put a w l)=O w:=by induction l with|nil=>exact fF (cf a)|cons p l c=>by_cases h:ac p.1 a=U;exact(ah _ (FA h)).trans (fF (cf a));exact(ah _ (Af (d8.mpr h))).trans ((dH (d8.mpr h)).trans c)
def bZ(n:b≠a):aj b (put a w l)=aj b l:=by induction l with|nil=>exact dH (jW n.symm)|cons p l c=>by_cases h:ac p.1 a=U;have e:=aK h;exact(ah _ (FA h)).trans ((dH (jW n.symm)).trans (dH (jW λq=>n (il q e))).symm);refine(ah _ (Af (d8.mpr h))).trans ?_;by_cases k:ac p.1 b=U;exact(fF k).trans (fF k).symm;exact(dH (d8.mpr k)).trans (c.trans (dH (d8.mpr k)).symm)
end
abbrev ZA:=ii->N Ow
open Classical in
def mY(k:Ow)(a:ZA):ZA:=λb=>if a b=O k then C else a b
open Classical in
def bQ(t:ii)(k:N Ow)(b:ZA):ZA:=λa=>if a=t then k else b a
section
variable{b:ZA}{k j:Ow}{t a:ii}{q:N Ow}
def dS:bQ t q b t=q:=eP Z
def bp(h:a≠t):bQ t q b a=b a:=eH h
def MQ(h:b a=O k):mY k b a=C:=eP h
def wm(h:b a≠O k):mY k b a=b a:=eH h
def MR(h:b a=O j)(n:j≠k):mY k b a=O j:=(wm λe=>n (au (il h e))).trans h
def lL(h:mY k b a=O j):b a=O j/\j≠k:=by by_cases e:b a=O k;exact aa (il (MQ e) h);exact⟨il (wm e) h,λq=>e ((il (wm e) h).trans (ah O q))⟩
def Tp:mY k b a=b a∨mY k b a=C:=by by_cases e:b a=O k;exact .inr (MQ e);exact .inl (wm e)
def y6(h:b a=C):mY k b a=C:=(wm λe=>aa (il h e)).trans h
def aJ(h:bQ t q b a=O j):(a=t/\q=O j)∨(a≠t/\b a=O j):=by by_cases e:a=t;exact .inl ⟨e,il (dS) (e▸h)⟩;exact .inr ⟨e,il (bp e) h⟩
end
abbrev Pt.up(p:Pt)(h:ul)(n:W)(F:bl)(ow:ZA):Pt:=⟨{p.s with heap:=h,toks:=n},F,ow⟩
section
variable{p:Pt}{h:ul}{n:W}{F:bl}{t:ii}{k:Ow}
variable(x:Own p)
def Own.free(e:p.h.get? a=C):p.ow a=C:=by by_cases q:p.ow a=C;exact q;obtain⟨k,b⟩:=Option.ne_none_iff_exists'.mp q;obtain⟨o,c⟩:=x.sJ a k b;exact aa (il e c)
def Own.new(e:p.h.objs.size<=a):p.ow a=C:=x.free (ju e)
def Own.ű(e:p.h.get? a=C){o:xL}(f:p.F a o):Ch:=aa (il e (x.fz a o f).1)
def Own.grow(k:∀a o,p.h.get? a=O o->h.get? a=O o)(f:∀a o,F a o->p.F a o∨(h.get? a=O o/\p.ow a=C)):Own (p.up h n F p.ow):=⟨λa o e=>(f a o e).elim (λe=>⟨k _ _ (x.fz a o e).1,(x.fz a o e).2⟩) id,λa j e=>by obtain⟨o,b⟩:=x.sJ a j e;exact⟨o,k _ _ b⟩,x.inj⟩
def Own.turn(c:v1 t p.h h)(d:p.ow t=O k){b:xL}(f:h.get? t=O b):Own (p.up h n p.F p.ow):=by refine⟨λa o e=>⟨(c.2 a λq=>aa ((x.fz a o e).2.symm.trans (q▸d))).trans (x.fz a o e).1,(x.fz a o e).2⟩,λa j e=>?_,x.inj⟩;by_cases q:a=t;exact⟨b,q▸f⟩;obtain⟨o,b⟩:=x.sJ a j e;exact⟨o,(c.2 a q).trans b⟩
def Own.drop(j:Ow):Own {p with ow:=mY j p.ow}:=⟨λa o e=>⟨(x.fz a o e).1,y6 (x.fz a o e).2⟩,λa k e=>x.sJ a k (lL e).1,λa b k e f=>x.inj a b k (lL e).1 (lL f).1⟩
def Own.give(e:p.h.get? t=O o)(d:∀o,¬p.F t o)(un:∀a,p.ow a≠O k):Own {p with ow:=bQ t (O k) p.ow}:=by refine⟨λa o e=>?_,λa j f=>?_,λa b j f c n=>?_⟩;have:a≠t:=λq=>d o (q▸e);exact⟨(x.fz a o e).1,(bp this).trans (x.fz a o e).2⟩;exact(aJ f).elim (λq=>⟨o,q.1▸e⟩) λq=>x.sJ a j q.2;exact(aJ f).elim (λq=>(aJ c).elim (λr=>q.1.trans r.1.symm) λr=>ch (r.2.trans q.2.symm) (un b)) λq=>(aJ c).elim (λr=>ch (q.2.trans r.2.symm) (un a)) λr=>x.inj a b j q.2 r.2 n
def Own.freeze(e:p.h.get? t=O o):Own {p with F:=p.F.add t o,ow:=bQ t C p.ow}:=by refine⟨λa b f=>?_,λa j f=>?_,λa c j f d n=>?_⟩;by_cases q:a=t;refine⟨f.elim (λf=>(x.fz a b f).1) λr=>?_,q▸dS⟩;rw[r.1,r.2];exact e;exact f.elim (λf=>⟨(x.fz a b f).1,(bp q).trans (x.fz a b f).2⟩) λr=>ch r.1 q;exact(aJ f).elim (λq=>aa q.2) λq=>x.sJ a j q.2;exact(aJ f).elim (λq=>aa q.2) λq=>(aJ d).elim (λr=>aa r.2) λr=>x.inj a c j q.2 r.2 n
end
structure kJ(T:Ow->Prop)(p p':Pt):Prop where
 own:Own p'
 le:p.F.le p'.F
 sh:p'.s={p.s with heap:=p'.s.heap,toks:=p'.s.toks}
 k:∀a o,p.h.get? a=O o->(∀w,p.ow a=O w->¬T w)->p'.h.get? a=O o
 ko:∀a w,p.ow a=O w->¬T w->p'.ow a=O w
 ex:∀a o,p.h.get? a=O o->∃o',p'.h.get? a=O o'
 to:∀a o,p.h.get? a=O o->p'.ow a=p.ow a∨p'.ow a=C
 ck:∀a,p.ow a=O .ck↔p'.ow a=O .ck
 kx:∀a,p.ow a=O .frame↔p'.ow a=O .frame
section
variable{T:Ow->Prop}{p A:Pt}{pg y:PG}{B:N Ow->I}
def kJ.ext(x:kJ T p A)(w:∀w,B (O w)->¬T w)(a:pg.bD<=y.bD)(calm:y.bD=pg.bD->Calm p pg A y):Ext B p pg A y:=⟨x.le,x.sh,λb o e k=>x.k b o e λj h=>w j (h▸k),x.ex,x.to,x.ck,x.kx,a,calm⟩
def kJ.k'(x:kJ T p A){a:ii}{w:Ow}{o:xL}(h:p.ow a=O w)(n:¬T w)(e:p.h.get? a=O o):A.h.get? a=O o:=x.k a o e λ_ a=>(au (il h a))▸n
variable(x:Own p)
def kJ.grow{h:ul}(k:∀a o,p.h.get? a=O o->h.get? a=O o)(b:p.F.le F)(f:∀a o,F a o->p.F a o∨(h.get? a=O o/\p.ow a=C)):kJ (λ_=>Ch) p (p.up h n F p.ow):=⟨x.grow k f,b,Z,λa o e _=>k a o e,λ_ _ e _=>e,λa o e=>⟨o,k a o e⟩,λ_ _ _=>.inl Z,λ_=>.rfl,λ_=>.rfl⟩
def kJ.turn{h:ul}{t:ii}{k:Ow}(b:v1 t p.h h)(c:p.ow t=O k)(e:h.get? t=O o):kJ (λw=>w=k) p (p.up h n p.F p.ow):=⟨x.turn b c e,λ_ _=>id,Z,λa o e n=>(b.2 a λq=>n k (q▸c) Z).trans e,λ_ _ e _=>e,λa c d=>by by_cases q:a=t;exact⟨o,q▸e⟩;exact⟨c,(b.2 a q).trans d⟩,λ_ _ _=>.inl Z,λ_=>.rfl,λ_=>.rfl⟩
def kJ.freeze{t:ii}{k:Ow}(c:p.ow t=O k)(e:p.h.get? t=O o)(d:k≠.ck)(f:k≠.frame):kJ (λw=>w=k) p {p with F:=p.F.add t o,ow:=bQ t C p.ow}:=by have b:∀{a w},p.ow a=O w->w≠k->a≠t:=λe n q=>n (au (il e (q▸c)));have bk:∀{a w},bQ t C p.ow a=O w->p.ow a=O w:=λh=>(aJ h).elim (λq=>aa q.2) p?;exact⟨x.freeze e,p.F.mx t o,Z,λ_ _ e _=>e,λa w e n=>(bp (b e n)).trans e,λ_ o e=>⟨o,e⟩,λa _ _=>by by_cases q:a=t;exact .inr (q▸dS);exact .inl (bp q),λa=>⟨λe=>(bp (b e d.symm)).trans e,bk⟩,λa=>⟨λe=>(bp (b e f.symm)).trans e,bk⟩⟩
def kJ.bind{h:ul}{t:ii}{k:Ow}{q:N Ow}(g:∀a o,p.h.get? a=O o->b.get? a=O o)(c:v1 d b h)(u:p.ow d=O j)(e:h.get? d=O o)(f:p.h.get? t=C)(s:∀i,q=O i->i=k/\∃o,b.get? t=O o)
 (l:k≠.ck)(m:k≠.frame):kJ (λw=>w=j∨w=k) p (p.up h n p.F (bQ t q (mY k p.ow))):=by
 have i:∀a o,b.get? a=O o->∃b,h.get? a=O b:=λa b r=>by
  by_cases q:a=d
  ·exact⟨o,q▸e⟩
  ·exact⟨b,(c.2 a q).trans r⟩
 have r:∀{a:ii}{w},p.ow a=O w->a≠t:=λe q=>by obtain⟨o,b⟩:=x.sJ _ _ e;exact aa (il f (q▸b))
 have d:∀{a w},p.ow a=O w->w≠k->bQ t q _ a=O w:=λe n=>(bp (r e)).trans (MR e n);have bk:∀{a w},bQ t q (mY k p.ow) a=O w->(a=t/\w=k)∨_:=λh=>(aJ h).elim (λr=>.inl ⟨r.1,(s _ r.2).1⟩) λr=>.inr (lL r.2);have v:∀{a w},w≠k->bQ t q _ a=O w->p.ow a=O w:=λn h=>(bk h).elim (λr=>ch r.2 n) And.left;refine⟨⟨λa o e=>?_,λa w e=>?_,λa k w e h n=>?_⟩,λ_ _=>id,Z,λa o e n=>?_,λa w e n=>d e λz=>n (.inr z),λa o e=>i a o (g a o e),λa o e=>?_,λa=>⟨λe=>d e l.symm,v l.symm⟩,λa=>⟨λe=>d e m.symm,v m.symm⟩⟩
 ·have z:=x.fz a o e
  exact⟨(c.2 a λq=>aa (il z.2 (q▸u))).trans (g a o z.1),(bp λq=>aa (il f (q▸z.1))).trans (y6 z.2)⟩
 ·refine(aJ e).elim (λr=>?_) λr=>?_
  ·obtain⟨_,o,b⟩:=s _ r.2
   exact r.1▸i t o b
  ·obtain⟨o,b⟩:=x.sJ a w (lL r.2).1
   exact i a o (g a o b)
 ·exact(bk e).elim (λr=>(bk h).elim (λb=>r.1.trans b.1.symm) λb=>ch r.2 b.2) λr=>(bk h).elim (λb=>ch b.2 r.2) λb=>x.inj a k w r.1 b.1 n
 ·exact(c.2 a λq=>n j (q▸u) (.inl Z)).trans (g a o e)
 ·have z:a≠t:=λq=>aa (il f (q▸e))
  exact(Tp).elim (λr=>.inl ((bp z).trans r)) λr=>.inr ((bp z).trans r)
end
section
variable{T:Ow->Prop}{g:fC}{c:Cx}{p i:Pt}{pg j:PG}{u:St}
variable(x:kJ T p i)
def kJ.Ĉ(y:qQ g p pg)(n:∀w,shared w->¬T w):qQ g i pg:=y.to x.own (λ_ w _ h s=>x.k' h (n w s)) (λa w h s=>x.ko a w h (n w s)) x.le
def Zz.to{m b:lw->eU}{l:N LV}(d:b (c.g.nm a)=m (c.g.nm a))(n:¬T (.loc a)):Zz c p m a l->Zz c i b a l:=pm id (λl=>LV.casesOn l (λv h=>by obtain⟨w,e,r⟩:=h;exact⟨w,d.trans e,r.bS x.le⟩) λa h=>by obtain⟨t,e,o,r⟩:=h;exact⟨t,d.trans e,x.ko _ _ o n,r.to (λ_=>x.k' o n) x.le⟩) l
variable(r:bC c p u)
def kJ.rel(y:qQ c.g i j)(n:∀w,T w->shared w):bC c i ⟨u.loc,j⟩:=by obtain⟨m,b,d⟩:=r.loc;have a:¬T .frame:=λh=>yF (n _ h);exact⟨y,x.ko _ _ r.kx a,⟨m,b.at λ_=>x.k' r.kx a,λa=>(d a).to x Z λh=>yF (n _ h)⟩,λa o e=>x.le a o (r.base a o e)⟩
def kJ.MS{m:lw->eU}(n:∀w,shared w->¬T w)(d:i.h.Ns c.L m)(e:∀a,Zz c i m a (aj a b)):bC c i ⟨b,u.pg⟩:=⟨x.Ĉ r.pg n,(x.kx _).mp r.kx,⟨m,d,e⟩,λa o e=>x.le a o (r.base a o e)⟩
def bC.grow{h:ul}(k:∀a o,p.h.get? a=O o->h.get? a=O o)(b:p.F.le F)(f:∀a o,F a o->p.F a o∨(h.get? a=O o/\p.ow a=C)):bC c (p.up h n F p.ow) u:=let s:=kJ.grow r.pg.own k b f;s.rel r (s.Ĉ r.pg λ_ _=>id) λ_=>pr
def bC.toks(n:W):bC c (p.up p.h n p.F p.ow) u:=r.grow (λ_ _=>id) (λ_ _=>id) λ_ _=>.inl
end
local macro_rules | `(tactic| trivial) => `(tactic| first | exact aa | exact fun _ => aa | exact fun _ _ => aa | exact ao | exact fun _ => ao | exact fun _ _ => ao | exact id | exact fun _ => id)
structure KF(K:WP)(g:fC)(G:cQ)(B:bl):Prop where
 inj:∀x y,g.nm x=g.nm y->x=y
 bool:∀c,g.jz c->ty K (.ref (g.cU c)) "__bool__"=O none
 len:∀c,g.jz c->ty K (.ref (g.cU c)) "__len__"=O none
 handed:∀b,a4 (g.HF b)=U
 Ki:∀c n,g.jz c->j? K (g.cU c) n=U
 FC:∀c,g.jz c->c5 K (g.cU c)=U
 Tq:∀c a,g.jz c->g.y4 a->ty K (.ref (g.cU c)) (g.nm a)=O none
 Ag:∀c,g.jz c->readsIn K (g.cU c) (.type "type")=U
 const:∀c C a v,G.cls c=O C->aj a C.consts=O v->∃w,ty K (.ref (g.cU c)) (g.nm a)=O (O w)/\zn K w "__get__"=O none/\a4 w/\b6.contains (g.nm a)=J/\
  Rd g B w v/\findCls K (.ref (g.cU c)) (.type "type") (g.nm a)=O (.val w)
 Cj:∀n,g.dj->j? K g.uQ n=U
 Cm:g.dj->c5 K g.uQ=U
 Co:∀a,g.dj->g.bw a->ty K (.ref g.uQ) (g.nm a)=O none
 K2:g.dj->ty K (.ref g.uQ) "__setattr__"=O (O (.builtin "object.__setattr__"))/\ct K g.uQ=U
 HH:∀a,g.dj->g.bw a->ee K g.uQ (g.nm a)=O none
 Cp:∀m,g.dj->G.du m->g.isFn m/\ty K (.ref g.uQ) (g.nm m)=O (O (.ref (g.fnAt m)))/\isFn K (.ref (g.fnAt m))/\
  zn K (.ref (g.fnAt m)) "__get__"=O (O (.builtin "function.__get__"))/\H! K (.ref (g.fnAt m))=O J/\b6.contains (g.nm m)=J
 Tr:∀c,g.jz c->∃o cd,K.lookup (g.cU c)=O o/\o.data=.cls cd/\zn K (.ref (g.cU c)) "__call__"=O (O (.builtin "type.__call__"))
 FD:∀f,g.isFn f->∃o fd,B (g.fnAt f) o/\o.data=.func fd
 N_:∀b,(∃id,g.HF b=.builtin id)∨∃n,g.HF b=.type n
 G4:g.HF 0=.builtin "len"
 O5:g.HF 1=.builtin "isinstance"
 ZC:g.HF 3=.type "range"
 O4:g.HF 4=.type "enumerate"
 O1:g.HF 5=.type "list"
 N?:g.HF 7=.type "str"
 N!:g.HF 8=.builtin "max"
 dT:g.nm G.dT="append"
 dD:g.nm G.dD="extend"
 qu:g.nm G.qu="pop"
 ew:g.nm G.ew="insert"
 lH:g.nm G.lH="join"
 E5:∀c k C,g.jz c->g.jz k->G.cls c=O C->(aq C.mro k->isIn K (.ref (g.cU c)) (g.cU k)=U)/\(aq C.mro k=J->kin_not K (g.cU c) (g.cU k)=U)
 Ts:∀c,g.jz c->ty K (.ref (g.cU c)) "__class__"=O (O (.builtin "object.__class__"))/\mroIn K (g.cU c) (.type "object")=O U
 E3:zn K (.builtin "object.__class__") "__get__"=O (O (.builtin "getset_descriptor.__get__"))/\H! K (.builtin "object.__class__")=O U
 Tt:∃o,B Do o
 Cq:∀k kvs,G.cA k=O kvs->(g.uP k==Do)=J
 MT:∀k kvs,G.cA k=O kvs->∃o,B (g.uP k) o/\∀p:Pt,B.le p.F->p.h.get? (g.uP k)=O o->Cg g p (g.uP k) kvs
 K':∀a kvs,g.dj->G.cA a=O kvs->g.Zw a/\ty K (.ref g.uQ) (g.nm a)=O (O (.ref (g.uP a)))/\zn K (.ref (g.uP a)) "__get__"=O none/\b6.contains (g.nm a)=J
abbrev aT:=bv->ge->Prop
structure Cx.OK(c:Cx):Prop where
 kf:KF c.K c.g c.G c.B
 jD:∀a o,c.K.lookup a=O o->c.B a o
 locals:c.env.locals=c.L
 kind:c.env.scope.kind=.function
 loc:∀x,aq c.lv x->c.env.kindOf (c.g.nm x)=O .local
 glob:∀x v,aq c.lv x=J->c.G.gl x=O v->∃y,Rd c.g c.B y v/\∀(s:ge)(Q:aT)(E:aT),(∀a o,c.B a o->s.heap.get? a=O o)->Q y s->he (WF c.g.prog c.g.w) c.A (hN c.env (c.g.nm x)) Q E s
 units:c.A.units+100<RT
 handled:c.A.handled=C
 bw:∀a,c.G.bw a->c.g.bw a=U
 depth:c.A.depth+10<Fa
abbrev dq(F:bl)(h:ul):Prop:=∀a o,F a o->h.get? a=O o
def bC.st{p:Pt}(r:bC c p a):dq p.F p.h:=λa o e=>(r.pg.own.fz a o e).1
def bC.Tu{p:Pt}(r:bC c p a):dq c.B p.h:=λa o e=>r.st a o (r.base a o e)
def Cx.OK.In(b:c.OK){p:Pt}{a:St}(r:bC c p a):c.K.In p.h:=λa o e=>r.Tu a o (b.jD a o e)
def Vc{M:V->Prop}(v:V)(no:M .none:=by trivial)(bo:∀b,M (.bool b):=by trivial)(i:∀i,M (.int i):=by trivial)(s:∀s,M (.str s):=by trivial)(tu:∀l,M (.tup l):=by trivial)(ls:∀l,M (.lst l):=by trivial)(ob:∀c f,M (.obj c f):=by trivial)(cl:∀n,M (.cls n):=by trivial)(fn:∀n,M (.fn n):=by trivial)(bi:∀n,M (.bi n):=by trivial)(cd:∀n,M (.cd n):=by trivial)(me:∀n,M (.av n):=by trivial)(pa:M .par:=by trivial)(ta:M .aG:=by trivial)(sy:∀p,M (.sym p):=by trivial)(bu:∀l e,M (.buf l e):=by trivial)(un:M .Ht:=by trivial)(ws:∀l,M (.Zj l):=by trivial):M v:=V.casesOn (motive_1:=M) v no bo i s tu ls ob cl fn bi cd me pa ta sy bu un ws
section
variable{v:V}
def wu{i:D}:gf v=O i->v=.int i:=Vc (M:=λv=>gf v=O i->v=.int i) v (i:=λ_ h=>ah V.int (au h))
def gp{i:ae}:dW v=O i->v=.str i:=Vc (M:=λv=>dW v=O i->v=.str i) v (s:=λ_ h=>ah V.str (au h))
def Kj{i:I}:gJ v=O i->v=.bool i:=Vc (M:=λv=>gJ v=O i->v=.bool i) v (bo:=λ_ h=>ah V.bool (au h))
def oq{i:af}:uo v=O i->v=.tup i:=Vc (M:=λv=>uo v=O i->v=.tup i) v (tu:=λ_ h=>ah V.tup (au h))
def rD{i:af}:jc v=O i->v=.lst i:=Vc (M:=λv=>jc v=O i->v=.lst i) v (ls:=λ_ h=>ah V.lst (au h))
def Cr{i:W}:vK v=O i->v=.cls i:=Vc (M:=λv=>vK v=O i->v=.cls i) v (cl:=λ_ h=>ah V.cls (au h))
def oZ{i:W}:sS v=O i->v=.bi i:=Vc (M:=λv=>sS v=O i->v=.bi i) v (bi:=λ_ h=>ah V.bi (au h))
def Tv{i:W}:pe v=O i->v=.cd i:=Vc (M:=λv=>pe v=O i->v=.cd i) v (cd:=λ_ h=>ah V.cd (au h))
def rE:jy v->v=.par:=Vc (M:=λv=>jy v=U->v=.par) v (pa:=λ_=>Z)
def sZ:dZ v->v=.aG:=Vc (M:=λv=>dZ v=U->v=.aG) v (ta:=λ_=>Z)
def wx{i:D}{n:W}:natOf i=O n->i=(n:D):=I? (motive:=λi=>natOf i=O n->i=(n:D)) i (λ_ h=>ah wv (au h)) λ_=>aa
def rF:asNat v=O n->v=.int n:=Vc (M:=λv=>asNat v=O n->v=.int n) v (i:=λ_ h=>ah V.int (wx h))
variable{g:fC}{F:bl}{x:bv}
def Rd.as(e:v=a)(r:Rd g F x v):Rd g F x a:=e▸r
def HI{i:D}(e:gf v=O i)(r:Rd g F x v):rint i x:=Rd.as (wu e) r
def Sz(e:asNat v=O n)(r:Rd g F x v):rint n x:=Rd.as (rF e) r
def HJ{l:ae}(e:dW v=O l)(r:Rd g F x v):Fv l x:=Rd.as (gp e) r
def KX{l:af}(e:jc v=O l)(r:Rd g F x v):Ac F (cD g F · l) x:=Rd.as (rD e) r
def Rd.i{i:D}{t:kv}:Rd g F (.int i t) (.int i):=⟨t,Z⟩
def Rd.s{s:lw}{t:kv}(h:ig s):Rd g F (.str s t) (.str s.cps.toList):=⟨s,t,Z,Z,h⟩
end
def cD.length(r:cD g F a b):a.length=b.length:=by induction b generalizing a with|nil=>exact ah ey (show a=[]from r)|cons v b c=>obtain⟨w,l,e,_,k⟩:=r.un;exact(ah ey e).trans (ah pp (c k))
def cD.append(e:cD g F a b)(f:cD g F c d):cD g F (a++c) (b++d):=by induction b generalizing a with|nil=>exact(show a=[]from e)▸f|cons v i h=>obtain⟨w,l,a,b,k⟩:=e.un;exact a▸⟨w,l++c,Z,b,h k⟩
def lM{a b:Type}{l:Y a}{m:Y b}(h:l.length=m.length):l.isEmpty=m.isEmpty:=by rw[yO,Ml,Ml,h]
def jn{n:W}(h:n<=lim):(n:D)<2^63:=qp.mpr (fR h (aO Z))
def o3(z:jV a):(a.toArray.size:D)<2^63:=jn (ay (cZ EX) z)
def len_list(x:lw):x.cps.toList.length=x.length:=zW
def s6(a:aP):a.toArray.isEmpty=a.isEmpty:=List.isEmpty_toArray _
def aB{a:Type}(l:Y a):ak l=l.length:=by induction l with|nil=>rfl|cons c l b=>exact ah pp b
def A_(c:Cx)(p:Pt)(x:bv)(b:I):=∀(Q:I->ge->Prop)(E:aT),(∀t,Q b {p.s with toks:=t})->he (M' c) c.A (truthy x) Q E p.s
section
variable{c:Cx}{p:Pt}{u:St}{x:bv}{v:V}
def wA(b:Looks (M' c) p.h (B_ (.ref a) "__bool__") C)(d:Looks (M' c) p.h (B_ (.ref a) "__len__") C):A_ c p (.ref a) U:=λQ E q=>by exact bR (bR (b.here (cP (bR (d.here (cP (q p.s.toks)))))))
def uz{M:o?}{h:ul}(e:h.get? a=O o)(c:o.cls=.type "method")(d:ek (.type "method") b=H1 C):Looks M h (B_ (.ref a) b) C:=by refine Looks.andThen ((Looks.ld e).andThen .now) ?_;rw[c,d];exact .now
def MU:ek (.type "method") "__bool__"=H1 C:=by rw[H'];kernel_rfl
def Tw:ek (.type "method") "__len__"=H1 C:=by rw[H'];kernel_rfl
def ZD(s:lw):((s.length:D)!=0)=!s.cps.toList.isEmpty:=by rw[<-len_list];cases s.cps.toList<;>rfl
def FE{h:ul}(f:dq F h){b d a:ii}{e:gS}{n:W}(g:F b (lb a d))(i:F d (fE e n)):InstAt h b (lb a d) a (O (fE e n)):=⟨f _ _ g,Z,Z,f _ _ i⟩
def uA{b d:I}(e:O d=O b)(h:A_ c p x d):A_ c p x b:=au e▸h
def wB(a:c.OK)(r:bC c p u){b:I}:eQ v=O b->Rd c.g p.F x v->A_ c p x b:=Vc (M:=λv=>eQ v=O b->Rd c.g p.F x v->A_ c p x b) v (no:=λe(h)=>h▸uA e λ_ _ q=>truthy_none (q p.s.toks)) (bo:=λd e(h)=>h▸uA e λ_ _ q=>zS (q p.s.toks)) (i:=λd e(h)=>by obtain⟨t,h⟩:=h;exact h▸uA e λ_ _ q=>truthy_int (q p.s.toks)) (s:=λd e(h)=>by obtain⟨s,t,h,b,k⟩:=h;refine h▸uA e λ_ _ q=>P.truthy_str (sQ.mpr (jn k.1)) ?_;rw[ZD,b];exact q _) (tu:=λl e(h:Fw p.F (cD c.g p.F · l) x)=>by obtain⟨g,j,n,h,f,z,i⟩:=h;refine h▸uA e λ_ _ q=>ktl_truthy (r.st _ _ f) (sQ.mpr (o3 z)) ?_;rw[s6,lM i.length];exact q _) (ls:=λl e(h:Ac p.F (cD c.g p.F · l) x)=>by obtain⟨g,j,n,h,f,z,i⟩:=h;refine h▸uA e λ_ _ q=>v' ⟨_,r.st _ _ f,Z,_,Z⟩ (o3 z) ?_;rw[s6,lM i.length];exact q _) (ob:=λk l e(h)=>by obtain⟨g,d,d,n,h,f,i,b,_⟩:=h;have d:=(FE r.st i b).type (M:=M' c);exact h▸uA e (wA (d.andThen (qo (a.In r) (a.kf.bool _ f))) (d.andThen (qo (a.In r) (a.kf.len _ f))))) (me:=λm e(h)=>by obtain⟨g,h,_,_,f⟩:=h;exact h▸uA e (wA (uz (r.st _ _ f) Z MU) (uz (r.st _ _ f) Z Tw)))
end
def Cs(c:Cx)(s:ge)(a:u8)(x y:bv)(b:I):=∀(Q:aT)(E:aT),Q (.bool b) s->he (M' c) c.A (CB a x y) Q E s
section
variable{c:Cx}{s:ge}{x y:bv}{v w:V}{g:fC}{F:bl}{b d:I}
def Ct(h:Cs c s a x y b)(e:b=d):Cs c s a x y d:=e▸h
def XX(x:bv)(b:I):=(x==.none)=b
def Tx:u5 v .none=O b->Rd g F x v->XX x b:=Vc (M:=λv=>u5 v .none=O b->Rd g F x v->XX x b) v (no:=λe(h)=>h▸au e) (bo:=λd e(h)=>h▸au e) (i:=λd e(h)=>by obtain⟨t,h⟩:=h;exact h▸au e) (s:=λd e(h)=>by obtain⟨s,t,h,_⟩:=h;exact h▸au e) (tu:=λl e(h)=>by obtain⟨a,ws,n,h,_⟩:=h;exact h▸au e) (ls:=λl e(h)=>by obtain⟨a,ws,n,h,_⟩:=h;exact h▸au e) (ob:=λk l e(h)=>by obtain⟨a,d,f,n,h,_⟩:=h;exact h▸au e) (cl:=λn e(h)=>h.1▸au e) (fn:=λn e(h)=>h.1▸au e) (cd:=λn e(h)=>h.1▸au e) (me:=λm e(h)=>by obtain⟨a,h,_⟩:=h;exact h▸au e) (pa:=λe(h)=>h.1▸au e) (ta:=λe(h)=>h.1▸au e) (sy:=λ_ _=>pr) (bu:=λ_ _ _=>pr) (ws:=λ_ _=>pr)
def XY(x:bv)(d b:I):=plainIs x (.bool d)=U/\(x==.bool d)=b
def bool_no:u5 v (.bool d)=O b->Rd g F x v->XY x d b:=Vc (M:=λv=>u5 v _=O b->Rd g F x v->XY x d b) v (no:=λe(h)=>h▸⟨Z,au e⟩) (bo:=λk e(h)=>h▸⟨Z,.trans (by cases d<;>cases k<;>rfl) (au e)⟩) (i:=λd e(h)=>by obtain⟨t,h⟩:=h;exact h▸⟨Z,au e⟩) (s:=λd e(h)=>by obtain⟨s,t,h,_⟩:=h;exact h▸⟨Z,au e⟩) (tu:=λl e(h)=>by obtain⟨a,a,n,h,_⟩:=h;exact h▸⟨Z,au e⟩)
def HK(a:Rd g F x v):u5 v w=O b->Rd g F y w->Cs c s .Is x y b/\Cs c s .IsNot x y !b:=by refine Vc (M:=λw=>u5 v w=O b->Rd g F y w->Cs c s .Is x y b/\Cs c s .IsNot x y !b) w (no:=λe(h:y=.none)=>?_) (bo:=λd e(h:y=.bool d)=>?_);have n:(x==.none)=b:=Tx e a;exact h▸⟨λ_ _ q=>is_none (n.symm▸q),λ_ _ q=>isNot_none (n.symm▸q)⟩;have n:=bool_no e a;exact h▸⟨λ_ _ q=>wpAny_is_plain n.1 (n.2.symm▸q),λ_ _ q=>wpAny_isNot_plain n.1 (n.2.symm▸q)⟩
end
def FF(h:ul)(n:W)(x:bv)(v:V):=(∃a,Reads h x (qP n v) a)/\(qP n v).canLay0=U/\(qP n v).depth<=n
def ahx(h:ul)(n:W)(b:aP)(a:af):=(∃c,ReadsAll h b (a.map (qP n)) c)/\w4 (a.map (qP n))/\IA (a.map (qP n))<=n
section
variable{g:fC}{F:bl}{h:ul}{x y:bv}{v w:V}
def y7(f:∀{x v},dat n v->Rd g F x v->FF h n x v){a:af}{b:aP}(e:aH (dat n) a=U)(r:cD g F b a):ahx h n b a:=by induction a generalizing b with|nil=>exact(r)▸⟨⟨_,.nil⟩,Z,eG _⟩|cons v a i=>obtain⟨w,l,q,r,j⟩:=r.un;have c:=e;cases d:dat n v with|false=>exact ao (il (dw d) c)|true=> obtain⟨⟨_,a⟩,b,e⟩:=f d r;obtain⟨⟨_,f⟩,k,m⟩:=i (il (dM d) c) j;exact q▸⟨⟨_,.cons a f⟩,by rw[fS,w4,b,k];rfl,by rw[fS];exact Nat.max_le.mpr ⟨e,m⟩⟩
def y8{l:ae}(e:qP n (.str l)=.str ⟨l.toArray⟩)(r:Fv l x):FF h n x (.str l):=by obtain⟨s,t,a,b,k⟩:=r;have:(⟨l.toArray⟩)=s:=b▸Z;unfold FF;rw[e,this];exact a▸⟨⟨_,Reads.str s t⟩,k.2,eG _⟩
def u7(j:dq F h)(n:W):∀{x v},dat n v->Rd g F x v->FF h n x v:=by induction n with|zero=>exact λ{x v}=>Vc (M:=λv=>dat 0 v=U->Rd g F x v->FF h 0 x v) v (no:=λ_(e)=>e▸⟨⟨_,.none⟩,Z,eG _⟩) (bo:=λb _(e)=>e▸⟨⟨_,.bool b⟩,Z,eG _⟩) (i:=λi _(e)=>by obtain⟨t,e⟩:=e;exact e▸⟨⟨_,.int i t⟩,Z,eG _⟩) (s:=λl _=>y8 Z)|succ n k=>exact λ{x v}=>Vc (M:=λv=>dat _ v=U->Rd g F x v->FF h _ x v) v (no:=λ_(e)=>e▸⟨⟨_,.none⟩,Z,eG _⟩) (bo:=λb _(e)=>e▸⟨⟨_,.bool b⟩,Z,eG _⟩) (i:=λi _(e)=>by obtain⟨t,e⟩:=e;exact e▸⟨⟨_,.int i t⟩,Z,eG _⟩) (s:=λl _=>y8 Z) (tu:=λl d(e)=>by obtain⟨m,n,o,e,f,z,r⟩:=e;obtain⟨⟨_,a⟩,b,c⟩:=y7 k d r;exact e▸⟨⟨_,Reads.tuple (j _ _ f) Z Z a⟩,b,eN c⟩) (ls:=λl d(e)=>by obtain⟨m,n,o,e,f,z,r⟩:=e;obtain⟨⟨_,a⟩,b,c⟩:=y7 k d r;exact e▸⟨⟨_,Reads.list (j _ _ f) Z Z a⟩,b,eN c⟩)
def rG(r:FF h 30 x v):SeqAt.shaped (qP 30 v):=by unfold SeqAt.shaped;rw[r.2];exact cF (ay r.3 (aO Z))
def gU(x:ae):∀y:ae,cW x y=U↔x=y:=by induction x with|nil=>exact λy=>AT y ⟨λ_=>Z,λ_=>Z⟩ λ_ _=>⟨ao,λh=>ch h.symm (bN _ _)⟩|cons a x b=>refine λy=>AT y ⟨ao,λh=>ch h (bN _ _)⟩ λd y=>⟨λh=>?_,λh=>?_⟩;have c:=h;by_cases q:ac a d=U;rw[aK q,(b y).mp (il (dM q) c)];exact ao (il (dw (d8.mpr q)) c);have:=fw h;exact(dM (this.1▸cf a)).trans ((b y).mpr this.2)
def str_beq(x y:ae):((⟨x.toArray⟩:lw)==(⟨y.toArray⟩:lw))=cW x y:=by rw[yO,gU,gc];exact⟨λh=>ah (λs:lw=>s.cps.toList) h,λh=>h▸Z⟩
def FG{b:I}(e:L6 v w=O b):dat 30 v/\dat 30 w/\kt (qP 30 v) (qP 30 w)=b:=bW e λd e=>bW e λa e=>⟨d,a,au e⟩
def ZE{b:I}(e:Zm v w=O b):dat 30 v/\dat 30 w/\kt (qP 30 v) (qP 30 w)=b:=md e (λl h e=>md e (λk a e=>by rw[gp h,gp a];exact⟨Z,Z,(str_beq l k).trans (au e)⟩) λ_=>FG) λ_=>FG
def FH{s:ae}{b:I}(e:Ğ s a=O b):aH (dat 29) a=U/\(a.map (qP 29)).any (λy=>kt y (.str ⟨s.toArray⟩))=b:=by induction a generalizing b with|nil=>exact⟨Z,au e⟩|cons y a c=>refine bL (e) λt a e=>iJ e λd b e=>?_;obtain⟨d,i2⟩:=c b;rw[gp a,fS,sO,i2];refine⟨d,e▸?_⟩;have:kt (qP 29 (.str t)) (.str ⟨s.toArray⟩)=cW t s:=str_beq t s;rw[this];by_cases q:s=t;rw[(gU s t).mpr q,(gU t s).mpr q.symm];rfl;rw[d8.mpr λh=>q ((gU s t).mp h),d8.mpr λh=>q ((gU t s).mp h).symm];rfl
def XZ(a b:I):br a U b=(a||b):=by cases a<;>rfl
def any_eq:Mn (λy=>kt (qP 29 y) d) a=(a.map (qP 29)).any λy=>kt y d:=by induction a with|nil=>rfl|cons y a b=> rw[fS,sO,<-b];exact XZ _ _
def ZF{b:I}(e:inD v a=O b):dat 30 v/\aH (dat 29) a=U/\(a.map (qP 29)).any (λy=>kt y (qP 30 v))=b:=md e (λd h e=>bL h λs a h=>by rw[gp a];exact⟨Z,(FH h).1,(FH h).2.trans (au e)⟩) λ_ e=>bW e λd e=>bW e λa e=>⟨d,a,il any_eq (au e)⟩
end
section
variable{c:Cx}{p:Pt}{i:St}{x y:bv}{v w:V}{b:I}
variable(j:c.OK)
def þ:c.A.units+64<RT:=fR (d9 (aO Z) _) j.units
variable(r:bC c p i)(k:Rd c.g p.F x v)
def Ű(f:Rd c.g p.F y w)(e:Zm v w=O b):Cs c p.s .Eq x y b/\Cs c p.s .NotEq x y !b:=by obtain⟨d,g,e⟩:=ZE e;have a:=u7 r.st 30 d k;have d:=u7 r.st 30 g f;obtain⟨_,f⟩:=a.1;obtain⟨_,g⟩:=d.1;exact⟨λ_ _ q=>eq_dataH f g (rG a) (rG d) (þ j) (e.symm▸q),λ_ _ q=>ne_dataH f g (rG a) (rG d) (þ j) (e.symm▸q)⟩
def ahy(g:Rd c.g p.F y (.tup a))(e:inD v a=O b):Cs c p.s .In x y b/\Cs c p.s .NotIn x y !b:=by obtain⟨f,h,e⟩:=ZF e;have d:=u7 r.st 30 f k;have f:=u7 r.st 30 (v:=.tup a) h g;obtain⟨_,g⟩:=d.1;obtain⟨_,h⟩:=f.1;have u:c.A.units+1+p6 (IA (a.map (qP 29))) (qP 30 v).depth<RT:=fR (d9 (ay (zR _ _) d.3) _) (fR (ay (cZ (fK _ 1 30)) (d9 (aO Z) _)) j.units);exact⟨λ_ _ q=>SeqAt.in_tuple_reads h g f.2 d.2 u (e.symm▸q),λ_ _ q=>SeqAt.notIn_tuple_reads h g f.2 d.2 u (e.symm▸q)⟩
end
section
variable{c d:Type}{P:Prop}{l:Y c}{r:d}
def y?{f:c->Y c->N d}:lc l y f=O r->(l=[]->y=O r->P)->(∀a t,l=a::t->f a t=O r->P)->P:=AT l (λh k _=>k Z h) λa t h _ k=>k a t Z h
def lh(h:lc l y (λ_ _=>C)=O r)(k:l=[]->y=O r->P):P:=y? h k λ_ _ _=>aa
def mZ{f:c->Y c->N d}(h:lc l C f=O r)(k:∀a t,l=a::t->f a t=O r->P):P:=y? h bX k
def ym{f:c->N d}(h:one l f=O r)(k:∀a,l=[a]->f a=O r->P):P:=mZ h λa _ e h=>lh h λq=>k a (q▸e)
def Tz{f:c->c->N d}(h:two l f=O r)(k:∀a b,l=[a,b]->f a b=O r->P):P:=mZ h λa _ e h=>ym h λb q=>k a b (q▸e)
end
def MV(x:ae):∀y:ae,vM x y=a? (x<y):=by induction x with|nil=>exact λy=>AT y Z λb y=>(cF (List.nil_lt_cons b y)).symm|cons a x c=>refine λy=>AT y (dQ (List.not_lt_nil _)).symm λb y=>?_;show br _ U (br _ (vM x y) J)=_;rw[yO,EU,List.cons_lt_cons_iff];by_cases q:jp a b=U;rw[dM q];exact⟨λ_=>.inl (cw q),λ_=>Z⟩;rw[dw (d8.mpr q)];have n:=λh=>q (hH h);by_cases z:ac a b=U;rw[dM z,c y,EU];exact⟨λh=>.inr ⟨aK z,h⟩,λh=>h.elim (λh=>ch h n) p?⟩;rw[dw (d8.mpr z)];exact⟨ao,λh=>h.elim (λh=>ch h n) λh=>ch (h.1▸cf a) z⟩
def TA(c:W)(l:ae):uJ c l=U↔c∈l:=by induction l with|nil=>exact⟨ao,λh=>ch h cr⟩|cons d l a=> have e:uJ c (d::l)=(ac d c||uJ c l):=XZ _ _;rw[e,Bool.or_eq_true,c?,a];exact⟨λh=>h.imp (λh=>(aK h).symm) id,λh=>h.imp (λ(h:c=d)=>h▸cf c) id⟩
def found_one(x:lw)(c:W):(!(l4 x ⟨#[c]⟩ 0 x.length 1).isEmpty)=uJ c x.cps.toList:=by rw[yO,StrLaws.found_iff,TA];refine⟨λh=>h.elim λi h=>yJ ((w3 x c i).mp h),λh=>?_⟩;obtain⟨i,a⟩:=List.mem_iff_getElem?.mp h;exact⟨i,(w3 x c i).mpr a⟩
def FI{y:lw}{l:ae}(h:y.cps.toList=l):y=⟨l.toArray⟩:=h▸Z
section
variable{c:Cx}{p:Pt}{s:ge}{A:St}{x y:bv}{v w:V}{g:fC}{F:bl}{b:I}
def HL{fi:D->D->I}{d:ae->ae->I}(m:∀i j t u,Cs c s a (.int i t) (.int j u) (fi i j))(n:∀x y t u,Cs c s a (.str x t) (.str y u) (d x.cps.toList y.cps.toList))(f:Rd g F y w):uK v w fi d=O b->Rd g F x v->Cs c s a x y b:=Vc (M:=λv=>uK v w fi d=O b->Rd g F x v->Cs c s a x y b) v (i:=λi e(h)=>iJ e λj a e=>by obtain⟨t,h⟩:=h;obtain⟨u,k⟩:=HI a f;exact h▸k▸Ct (m i j t u) e) (s:=λl e(h)=>iJ e λm a e=>by obtain⟨d,t,h,j,_⟩:=h;obtain⟨m,u,k,o,_⟩:=HJ a f;exact h▸k▸Ct (n d m t u) (j.symm▸o.symm▸e))
def X3(i:c.OK)(r:bC c p A)(a:Rd c.g p.F x v)(d:Rd c.g p.F y w)(e:z1 v w=O b):Cs c p.s .In x y b/\Cs c p.s .NotIn x y !b:=md e (λl h e=>bL e λk f e=>ym e λj q e=>by(obtain⟨s,t,k,m,_⟩:=HJ f a;obtain⟨z,u,n,o,_⟩:=HJ h d;have f:(!(l4 z s 0 z.length 1).isEmpty)=b:=by rw[FI (m.trans q),<-au e,<-o];exact found_one z j);exact k▸n▸⟨λ_ _ q=>PyProof.Rows.in_str (f.symm▸q),λ_ _ q=>PyProof.Rows.notIn_str (f.symm▸q)⟩) λ_ e=>bL e λf h e=>ahy i r a (Rd.as (oq h) d) e
def HM(d:Rd g F x v):BV a v w=O b->Rd g F y w->Ch:=Vc (M:=λw=>BV a v w=O b->Rd g F y w->Ch) w (sy:=λ_ _=>id) (i:=λi e _=>bL e λq h _=>no_sym h d) (s:=λi e _=>bL e λq h _=>no_wst h d)
where
 no_sym {q:Sy} (h:iK v=O q) (ra:Rd g F x v):Ch:=(Vc (M:=λv=>iK v=O q->Rd g F x v->Ch) v (sy:=λ_ _=>id):iK v=O q->Rd g F x v->Ch) h ra
 no_wst {q:ae} (h:mX v=O q) (ra:Rd g F x v):Ch:=(Vc (M:=λv=>mX v=O q->Rd g F x v->Ch) v (ws:=λ_ _=>id):mX v=O q->Rd g F x v->Ch) h ra
def HN(a d:ae):a? (a<d)=vM a d:=(MV a d).symm
def aex(i:c.OK)(r:bC c p A){f:u8}(d:Rd c.g p.F x v)(a:Rd c.g p.F y w)(e:ph f v w=O b):Cs c p.s f x y b:=by refine md e (λ_ h _=>(HM d h a).elim) λ_=>?_;refine py f (λe=>(Ű i r d a e).1) (λe=>iJ e λf h q=>Ct (Ű i r d a h).2 q) ?_ ?_ ?_ ?_ (λe=>(HK d e a).1) (λe=>iJ e λf h q=>Ct (HK d h a).2 q) (λe=>(X3 i r d a e).1) (λe=>iJ e λf h q=>Ct (X3 i r d a h).2 q);exact λe=>HL (λ_ _ _ _ _ _=>lt_int) (λh f _ _ _ _ q=>P.lt_str (HN _ _▸q)) a e d;exact λe=>HL (λ_ _ _ _ _ _=>le_int) (λh f _ _ _ _ q=>P.le_str (HN _ _▸q)) a e d;exact λe=>HL (λ_ _ _ _ _ _=>gt_int) (λh f _ _ _ _ q=>P.gt_str (HN _ _▸q)) a e d;exact λe=>HL (λ_ _ _ _ _ _=>ge_int) (λh f _ _ _ _ q=>P.ge_str (HN _ _▸q)) a e d
end
structure Nx(c:Cx)(p:Pt)(pg:PG)(p':Pt)(σ':St):Prop where
 ext:Ext (EE c.G.ro) p pg p' σ'.pg
 rel:bC c p' σ'
def KW(c:Cx)(p:Pt)(b:PG)(d:St)(v:V)(Q:aT):=∀a x,Nx c p b a d->Rd c.g a.F x v->Q x a.s
def pE(c:Cx)(m:e5 bv)(p:Pt)(a:PG)(b:St)(v:V):=∀(Q:aT)(E:aT),KW c p a b v Q->he (M' c) c.A m Q E p.s
section
variable{c:Cx}{p p1 p2:Pt}{d σ1 σ2:St}{pg:PG}{x:bv}{v w:V}
variable(r:bC c p d)
def Nx.refl:Nx c p d.pg p d:=⟨.refl,r⟩
def Nx.trans(a:Nx c p pg p1 σ1)(b:Nx c p1 σ1.pg p2 σ2):Nx c p pg p2 σ2:=⟨a.ext.trans Z b.ext,b.rel⟩
def Nx.grow{h:ul}(n:W){F:bl}(k:∀a o,p.h.get? a=O o->h.get? a=O o)(b:p.F.le F)(f:∀a o,F a o->p.F a o∨(h.get? a=O o/\p.ow a=C)):Nx c p d.pg (p.up h n F p.ow) d:=⟨.grow k b,r.grow k b f⟩
def Nx.toks(n:W):Nx c p d.pg (p.up p.h n p.F p.ow) d:=.grow r n (λ_ _=>id) (λ_ _=>id) λ_ _=>.inl
def Nx.push(o:xL)(n:W):Nx c p d.pg (p.up (p.h.push o) n p.F p.ow) d:=.grow r n (λ_ _=>hJ o) (λ_ _=>id) λ_ _=>.inl
def Nx.alloc(o:xL)(n:W)(e:o.isFreed=J):Nx c p d.pg (p.up (p.h.push o) n (p.F.add p.h.objs.size o) p.ow) d:=.grow r n (λ_ _=>hJ o) (p.F.mx _ _) λa b(h)=>h.imp id λ(q:a=p.h.objs.size/\b=o)=>⟨by rw[q.1,q.2];exact gZ _ e,q.1▸r.pg.own.new (aU _)⟩
def KW.tok(q:KW c p d.pg d v Q)(r:bC c p d)(h:Rd c.g p.F x v)(n:W):Q x {p.s with toks:=n}:=q _ x (Nx.toks r n) h
def KW.lst{l:af}(q:KW c p d.pg d (.lst l) Q)(r:bC c p d){a:aP}(z:jV a)(h:cD c.g p.F a l)(n k:W):Q (.ref p.h.objs.size) {p.s with heap:=p.h.push (eE a k),toks:=n}:=q _ _ (Nx.alloc r _ n Z) ⟨_,a,k,Z,p.F.ib _ _,z,h.bS (p.F.mx _ _)⟩
def KW.tup{l:af}(q:KW c p d.pg d (.tup l) Q)(r:bC c p d){a:aP}(z:jV a)(h:cD c.g p.F a l)(n k:W):Q (.ref p.h.objs.size) {p.s with heap:=p.h.push (jU a k),toks:=n}:=q _ _ (Nx.alloc r _ n Z) ⟨_,a,k,Z,p.F.ib _ _,z,h.bS (p.F.mx _ _)⟩
def jX(h:pE c m p pg d v)(e:v=w):pE c m p pg d w:=e▸h
end
def Kk(a:ig x)(b:ig y)(h:x.length+y.length<=lim):ig (x++y):=⟨ay (cZ Array.size_append) h,(Array.all_append).trans (jh.mpr ⟨a.2,b.2⟩)⟩
def app_list(x y:lw):(x++y).cps.toList=x.cps.toList++y.cps.toList:=zK
def bI:lim<=Rm:=by decide
def MW(c:XV W)(n:W):∀a:XV W,((q3 n c).foldl (·++·) a).toList=a.toList++rep c.toList n:=by induction n with|zero=>exact λa=>(eq _).symm|succ n b=>exact λa=>(b _).trans (by rw[zK,am];rfl)
def TB(n:W):rep [] n=[]:=by induction n with|zero=>rfl|succ n a=>exact a
def mul_eq(x:lw)(n:W):(Txt.mul x n).cps.toList=rep x.cps.toList n:=by unfold Txt.mul;by_cases h:(n:D)<1;rw[Nat.lt_one_iff.mp (qp.mp h)];rfl;rw[eH h];by_cases k:((n:D)==1||x.length==0)=U;rw[eP k];refine(ET.mp k).elim (λk=>?_) λk=>?_;rw[Int.ofNat_inj.mp (gc.mp k)];exact(eq _).symm;rw[wE ((len_list x).trans (gc.mp k)),TB];rw[eH k];exact MW x.cps n #[]
def TC(l:ae)(n:W):(rep l n).length=l.length*n:=by induction n with|zero=>rfl|succ n a=>exact(aX (bs:=rep l n)).trans (by rw[a,Mi,hO])
def TF{l:ae}:c∈rep l n->c∈l:=by induction n with|zero=>exact λh=>ch h cr|succ n a=>exact λh=>(gX.mp h).elim id a
def wD{s:lw}(h:s.cps.toList.length<=lim)(k:∀c∈s.cps.toList,c<0x110000):ig s:=⟨(len_list s)▸h,Mj.mpr λc a=>cF (k c (ic.mpr a))⟩
def o4{s:lw}(h:ig s)(c:W)(a:c∈s.cps.toList):c<0x110000:=aO (Mj.mp h.2 c (ic.mp a))
def ZG{n:W}(b:n<=lim)(a:x.length*n<=lim):MulOk x (n:D):=⟨i?.mpr ⟨dQ (qZ.mpr (gP (aO Z) (eM n))),dQ (sQ.mpr (jn b))⟩,λh _=>qZ.mpr ((Int.le_ediv_iff_mul_le (qZ.mp h)).mpr (Int.natCast_mul _ _▸Int.le_sub_one_of_lt (jn a))),λ_ _=>dQ (zY.mpr (ay a bI))⟩
section
variable{c:Cx}{p:Pt}{B:St}{x y:bv}{u v w:V}{g:fC}{F:bl}
def kL(h:bd n 1000000):n<=lim:=cw h
def X5{m:bv->bv->e5 bv}(j:∀(a b:lw)(t u:kv)(Q:aT)(E:aT),a.length+b.length<=Rm->(∀e k,Q (.str (a++b) e) {p.s with toks:=k})->he (M' c) c.A (m (.str a t) (.str b u)) Q E p.s)(r:bC c p B){l k:ae}(h:Fv l x)(i:Fv k y)(d:bd (ak l+ak k) 1000000):pE c (m x y) p B.pg B (.str (l++k)):=λQ E q=>by obtain⟨a,t,m,f,o⟩:=h;obtain⟨b,e,k,h,n⟩:=i;have d:=kL d;rw[<-f,<-h,aB,aB]at d;rw[m,k];refine j a b t e Q E (ay d bI) λa a=>q.tok r ?_ a;rw[<-f,<-h,<-app_list];exact Rd.s (Kk o n d)
def aey(r:bC c p B)(b:Rd c.g p.F y w):J8 v w=O u->Rd c.g p.F x v->pE c (hS .Add x y) p B.pg B u:=Vc (M:=λv=>J8 v w=O u->Rd c.g p.F x v->pE c _ p B.pg B u) v (i:=λi e(h)=>iJ e λj a e=>by obtain⟨t,h⟩:=h;obtain⟨d,k⟩:=HI a b;exact h▸k▸e▸λQ E q=>add_int (q.tok r Rd.i _)) (s:=λl e(h)=>bL e λk d e=>bW e λa e=>jX (X5 (λ_ _ _ _ _ _ z q=>PyProof.Rows.add_str q z) r h (HJ d b) a) (au e)) (ls:=λl e(h:Ac p.F (cD c.g p.F · l) x)=>bL e λk d e=>bW e λa e=>jX (λQ E q=>by obtain⟨m,n,o,h,f1,f,f⟩:=h;obtain⟨s,t,z,k,A,j,j⟩:=KX d b;have a:=kL a;rw[aB,aB,<-f.length,<-j.length]at a;have g1:=r.st _ _ f1;have b:=r.st _ _ A;rw[h,k];refine concat_meets ⟨_,g1,Z⟩ ⟨_,b,Z⟩ H_ seq_list_add PySem.F.slot_list_add PySem.F.entry_list_add (PySem.F.args_list_add_2 _ _) (list_addW m s n.toArray t.toArray o z C C #[] #[] (ay a bI)) ⟨g1,b,?_⟩;rw[zJ];exact q.lst r (ay (cZ aX) a) (f.append j) _ _) (au e))
def MX(a:D)(k:W):Int.fmod a (wv (k+1))=TE a (wv (k+1)):=Int.fmod_eq_emod_of_nonneg _ (eM _)
def MY(a:D)(k:W):Int.fdiv a (wv (k+1))=Int.ediv a (wv (k+1)):=Int.fdiv_eq_ediv_of_nonneg _ (eM _)
def HO(b:Rd g F x v)(e:J9 a v w=O z){P:Prop}:P:=bL e λ_ h _=>(HM.no_sym h b).elim
def ů{a:Type}{f:W->N a}{z:a}{P:Prop}(h:gh n C f=O z)(k:∀m,n=m+1->f m=O z->P):P:=by induction n with|zero=>exact aa h|succ n _=>exact k n Z h
def X6{m:bv->bv->e5 bv}(h:∀(a b:D)(t u:kv)(Q:aT)(E:aT),Q (.int (a-b) p.s.toks) {p.s with toks:=p.s.toks+1}->he (M' c) c.A (m (.int a t) (.int b u)) Q E p.s)(r:bC c p B)(d:Rd c.g p.F x v)(f:Rd c.g p.F y w)(e:Mq v w=O u):pE c (m x y) p B.pg B u:=bL e λi a e=>iJ e λj b e=>by obtain⟨t,i⟩:=HI a d;obtain⟨a,k⟩:=HI b f;exact i▸k▸e▸λQ E q=>h _ _ _ _ _ _ (q.tok r Rd.i _)
def aeA(r:bC c p B)(f:Rd c.g p.F x v)(h:Rd c.g p.F y w)(e:yS .Mult v w=O u):pE c (hS .Mult x y) p B.pg B u:=bL e λl i e=>bL e λn j e=>bW e λb e=>bW e λa e=>jX (λQ E q=>by obtain⟨d,t,m,d,o⟩:=HJ i f;obtain⟨f,k⟩:=Sz j h;have b:=kL b;have a:=kL a;rw[aB,<-d]at a;rw[m,k];refine SB.mul (ZG b a) λf k=>q.tok r ?_ k;rw[<-d,<-mul_eq];refine Rd.s (wD ?_ ?_);rw[mul_eq,TC];exact a;rw[mul_eq];exact λc a=>o4 o c (TF a)) (au e)
def aeB(r:bC c p B)(a:Rd c.g p.F x v)(b:Rd c.g p.F y w)(e:yS .Mod v w=O u):pE c (hS .Mod x y) p B.pg B u:=bL e λi d e=>bL e λn f e=>ů e λm h e=>jX (λQ E q=>by refine gq λP j=>?_;obtain⟨t,k⟩:=HI d a;obtain⟨a,a⟩:=Sz f b;refine j ?_;rw[k,a,h];refine mod_int' (l!.mpr (pv m)) ?_;exact(MX i m).symm▸q.tok r Rd.i _) (au e)
def aeC(r:bC c p B)(a:Rd c.g p.F x v)(b:Rd c.g p.F y w)(e:yS .FloorDiv v w=O u):pE c (hS .FloorDiv x y) p B.pg B u:=bL e λi d e=>bL e λn f e=>ů e λm h e=>bW e λj e=>jX (λQ E q=>by obtain⟨t,k⟩:=HI d a;obtain⟨a,a⟩:=Sz f b;rw[k,a,h];refine floordiv_int (l!.mpr (pv m)) ?_ (.inl (fx (fR (eN (kL j)) (aO Z))));exact(MY i m).symm▸q.tok r Rd.i _) (au e)
def aeD(r:bC c p B){d:nw}(a:Rd c.g p.F x v)(b:Rd c.g p.F y w)(e:qw d v w=O u):pE c (hS d x y) p B.pg B u:=md e (λ_ h _=>HO a h) λ_=>wP d (λe=>aey r b e a) (λe=>X6 (λ_ _ _ _ _ _=>sub_int) r a b e) (aeA r a b) aa aa (aeB r a b) aa aa aa aa aa aa (aeC r a b)
def ZH(r:bC c p B)(a:Rd c.g p.F y w):dP v C (i:=λx=>mp (gf w) λy=>.int (x+y)) (s:=λx=>bn (dW w) λy=>gd (bd (ak x+ak y) 1000000) (O (.str (x++y))))=O u->Rd c.g p.F x v->pE c (B? .Add x y) p B.pg B u:=Vc (M:=λv=>dP v C (i:=λx=>mp _ λy=>V.int (x+y)) (s:=λx=>bn _ λy=>gd (bd (ak x+ak y) 1000000) (O (.str (x++y))))=O u->Rd c.g p.F x v->pE c _ p B.pg B u) v (i:=λi e(h)=>iJ e λj b e=>by obtain⟨t,h⟩:=h;obtain⟨d,k⟩:=HI b a;exact h▸k▸e▸λQ E q=>iadd_int (q.tok r Rd.i _)) (s:=λl e(h)=>bL e λk b e=>bW e λd e=>jX (X5 (λ_ _ _ _ _ _ z q=>iadd_str q z) r h (HJ b a) d) (au e))
def X7(r:bC c p B){a:nw}(b:Rd c.g p.F x v)(d:Rd c.g p.F y w)(e:Ka a v w=O u):pE c (B? a x y) p B.pg B u:=md e (λ_ h _=>HO b h) λ_=>wP a (λe=>ZH r d e b) (λe=>X6 (λ_ _ _ _ _ _=>isub_int) r b d e) aa aa aa aa aa aa aa aa aa aa aa
end
def ot{a:Type}(l:Y a):∀n,jl l n=l[n]?:=by induction l with|nil=>exact λn=>Z|cons c l b=>exact λn=>k! n Z b
def cD.get(r:cD g F b a){n:W}{v:V}(e:a[n]?=O v):∃w,b[n]?=O w/\Rd g F w v:=by induction a generalizing b n with|nil=>exact aa e|cons f a c=>obtain⟨w,l,q,r,d⟩:=r.un;rw[q];induction n with|zero=>exact⟨w,Z,au e▸r⟩|succ n _=>exact c d e
def cD.take(r:cD g F a b)(n:W):cD g F (a.take n) (b.take n):=by induction b generalizing a n with|nil=>rw[show a=[]from r,sM,sM];exact Z|cons e b c=>obtain⟨w,l,q,r,d⟩:=r.un;rw[q];induction n with|zero=>exact Z|succ n _=>exact⟨w,_,Z,r,c d n⟩
def cD.drop(r:cD g F a b)(n:W):cD g F (a.drop n) (b.drop n):=by induction b generalizing a n with|nil=>rw[show a=[]from r,zX,zX];exact Z|cons e b d=>obtain⟨w,l,q,r,c⟩:=r.un;rw[q];induction n with|zero=>exact⟨w,l,Z,r,c⟩|succ n _=>exact d c n
def MZ(c:Cx)(x y:bv)(p:Pt)(a:St)(v:V):=(∃T b,p.s.TypeIs x T/\ek (.type T) "__getitem__"=H1 (O (.builtin b)))/\pE c (getItem x y) p a.pg a v
def s7(h:ig x)(l:y.cps.toList.length<=x.cps.toList.length)(m:∀z∈y.cps.toList,z∈x.cps.toList):ig y:=wD (ay l (ay (cZ (len_list x)) h.1)) λz a=>o4 h z (m z a)
def ZI{n:W}(h:n<=lim):(a? ((n:D)< -2^63)||a? ((n:D)≥2^63))=J:=i?.mpr ⟨dQ (qZ.mpr (gP (aO Z) (eM n))),dQ (sQ.mpr (jn h))⟩
def wG{a:Type}{l:Y a}{b:a}(h:l[n]?=O b):n<l.length:=(zN.mp h).1
section
variable{c:Cx}{p:Pt}{A:St}{x y:bv}{u v w:V}
def M0(r:bC c p A)(b:Rd c.g p.F y w)(e:iL v w=O u)(d:Rd c.g p.F x v):MZ c x y p A u:=md e (λa h _=>(no_buf h d).elim) λ_ e=>bL e λn a e=>by obtain⟨t,f⟩:=Sz a b;rw[f];refine(Vc (M:=λv=>dP v C (s:=λs=>mp (jl s n) λc=>V.str [c]) (tu:=λb=>jl b n) (ls:=λb=>jl b n)=O u->Rd c.g p.F x v->MZ c x _ p A u) v (s:=λl e(h)=>iJ e λb b e=>?_) (tu:=λl e(h)=>?_) (ls:=λl e(h)=>?_)) e d;obtain⟨s,d,h,d,o⟩:=h;rw[ot]at b;have a:=len_list s▸d▸wG b;rw[h,<-e];refine⟨⟨"str",_,rp _ _ _,fg.lookup⟩,λQ E q=>getItem_str (ZI (jM (zM a o.1))) ?_ (q.tok r (Rd.s (s7 o (n0 (fR (eG n) ((len_list s).symm▸a))) λz f=>?_)) _)⟩;rw[ox (eM n) (qp.mpr a),Option.bind_some,<-EO,d];exact b;exact(eC.mp f)▸d.symm▸yJ b;obtain⟨j,k,m,h,f,z,g⟩:=h;obtain⟨o,b,i⟩:=cD.get g (il (ot _ _) e);have a:=wG b;have d:=r.st _ _ f;rw[h];exact⟨⟨"tuple",_,⟨_,d,Z⟩,slot_tuple_getitem.lookup⟩,λQ E q=>PyProof.Rows.getItem_tuple ⟨_,d,Z,_,Z⟩ (gP (aO Z) (eM n)) (jn (jM (zM a z))) (ox (eM n) (qp.mpr a)) (BO.trans b) (q _ _ (.refl r) i)⟩;obtain⟨j,k,m,h,f,z,g⟩:=h;obtain⟨o,b,i⟩:=cD.get g (il (ot _ _) e);have a:=wG b;have d:=r.st _ _ f;rw[h];exact⟨⟨"list",_,⟨_,d,Z⟩,E7⟩,λQ E q=>rk ⟨_,d,Z,_,Z⟩ (eM n) (jn (jM (zM a z))) (BO.trans b) (q _ _ (.refl r) i)⟩
where
 no_buf {b:ae×I} (h:mW v=O b) (ra:Rd c.g p.F x v):Ch:=(Vc (M:=λv=>mW v=O b->Rd c.g p.F x v->Ch) v (bu:=λ_ _ _=>id):mW v=O b->Rd c.g p.F x v->Ch) h ra
end
def Bd(l:N (D×kv))(d n:W):=(l=C/\n=d)∨∃t,l=O ((n:D),t)
def pW(n:W)(v:N D)(d:D):D:=oc v (λi=>max 0 (p6 (if i<0 then i+(n:D)else i) (n:D))) d
def M1(a n:W):max (0:D) (p6 (a:D) (n:D))=((p6 a n:W):D):=by by_cases h:a<=n;rw[yN h,Int.min_eq_left (jw.mpr h),p! (eM _)];have h:=jM (EL h);rw[E8 h,Int.min_eq_right (jw.mpr h),p! (eM _)]
def HP{l:N (D×kv)}(h:Bd l d a)(b:d<=n):pW n (l.map (·.1)) d=((p6 a n:W):D):=by refine h.elim (λh=>?_) λh=>?_;rw[h.1,h.2,yN b];rfl;obtain⟨t,h⟩:=h;rw[h];show max 0 _=_;rw[eH (qZ.mpr (eM a)),M1]
def M3(a b:N D)(n:W):Builtin.Str.strSliceIndices a b 1 n=hK (pW n a 0) (pW n b n) 1:=by cases a<;>cases b<;>rfl
def M4(a b:N D)(n:W):sliceBounds a b C n=(pW n a 0,pW n b n,1):=by cases a<;>cases b<;>rfl
def run_eq{l:N (D×kv)}(c:Bd l 0 a)(d:Bd u n b):hK (pW n (l.map (·.1)) 0) (pW n (u.map (·.1)) n) 1=(l_ (p6 b n-p6 a n)).map (p6 a n+·):=by have z:pW n _ 0=_:=HP c (eG n);rw[HP d (aU n),z,sliceRange_one]
def HQ{c:Type}(l:Y c)(a b:W):(l.drop (p6 a l.length)).take (p6 b l.length-p6 a l.length)=(l.take b).drop a:=by rw[List.drop_take];by_cases h:a<=l.length;rw[yN h];by_cases k:b<=l.length;rw[yN k];have k:=jM (EL k);rw[E8 k,<-uh,E9,Hr (uh▸Mh k a)];have h:=jM (EL h);rw[E8 h,hs (aU _),hs h,sM,sM]
def TG{a:Type}{l:Y a}{z:a}(h:z∈(l.take b).drop c):z∈l:=List.mem_of_mem_take (i3 h)
def Ah{a:Type}(l:Y a)(c b:W):((l.take b).drop c).length<=l.length:=by rw[uh,Mm];exact ay (EM _ _) (zR _ _)
def whole{a:Type}{l:Y a}(e:l.length=n)(h:p6 b n-m=n)(c:m<=n):(l.drop m).take (p6 b n-m)=l:=by(have z:=by have:n<=n-m:=ay (cZ h.symm) (Mh (zR b n) m);exact ez.mp (Nat.le_of_add_le_add_left (ay (Nat.add_le_of_le_sub c this) (cZ (Nat.add_zero n).symm))));rw[h,z,List.drop_zero,<-e,E9]
def wH(g:fC)(F:bl)(w:bv)(o:N V):=oc o (Rd g F w) (w=.none)
def part_of:wH g F w o->Zo o d=O n->∃l,w=partValue l/\Bd l d n:=Option.casesOn o (λh e=>⟨C,h,.inl ⟨Z,(au e).symm⟩⟩) λv h e=>by obtain⟨t,h⟩:=Sz e h;exact⟨O (n,t),h,.inr ⟨t,Z⟩⟩
def M5(l:N (D×kv)):IsPart (partValue l) (l.map (·.1)):=by induction l with|none=>exact .none|some p=>exact .int _ _
abbrev Cu(a b:bv):xL:={cls:=.type "slice",data:=.fields #[a,b,.none]}
section
variable{c:Cx}{p:Pt}{L:St}{x y z:bv}{u v:V}{P R:N V}{d:ii}
def aeE(r:bC c p L)(B:wH c.g p.F y P)(E:wH c.g p.F z R)(F:p.h.get? d=O (Cu y z))(e:BY v P R=O u)(f:Rd c.g p.F x v):MZ c x (.ref d) p L u:=md e (λb h _=>(M0.no_buf h f).elim) λ_ e=>by refine(Vc (M:=λv=>yV v P R=O u->Rd c.g p.F x v->MZ c x (.ref d) p L u) v (s:=λl e(h)=>bL e λa k e=>iJ e λb m e=>?_) (ls:=λl e(h)=>bL e λa k e=>iJ e λb m e=>?_)) e f;obtain⟨s,t,h,f,o⟩:=h;obtain⟨g,n,t⟩:=part_of B k;obtain⟨i,w,j⟩:=part_of E m;rw[h,<-e,<-f];rw[aB,<-f]at j;have A:oo s g i C=(l_ (p6 b s.length-p6 a s.length)).map (p6 a s.length+·):=(M3 _ _ _).trans (run_eq t j);(have G:(oo s g i C).filterMap (s.cps[·]?)=(s.cps.toList.take b).drop a:=by rw[A,Rq];exact HQ _ _ _);refine⟨⟨"str",_,rp _ _ _,fg.lookup⟩,λQ H q=>wpAny_getItem_str_slice (st:=C) ⟨_,F,Z,by rw[n,w];rfl⟩ Z ?_⟩;unfold sliceMade;by_cases f:(((w' (λx:D×kv=>x.1) C).getD 1==1)&&(oo s g i C).length==s.length)=U;rw[eP f];have f:=gc.mp f;(have K:(s.cps.toList.take b).drop a=s.cps.toList:=by rw[<-G,A,Rq];rw[A,jb,List.length_range]at f;exact whole (len_list s) f (zR _ _));exact q.tok r (K.symm▸Rd.s o) p.s.toks;rw[eH f,G];refine⟨ay (Ah ..) (ay (cZ (len_list s)) (ay o.1 bI)),q.tok r (Rd.s (s7 o (Ah ..) λ_=>TG)) _⟩;obtain⟨f,f,A,h,G,o,A⟩:=h;obtain⟨g,n,t⟩:=part_of B k;obtain⟨i,w,j⟩:=part_of E m;rw[aB,<-cD.length A]at j;rw[h,<-e];have st:=r.st _ _ G;refine⟨⟨"list",_,⟨_,st,Z⟩,E7⟩,λQ H q=>wpAny_getItem_list_slice ⟨_,st,Z,_,Z⟩ ⟨_,F,Z,Z⟩ (n▸M5 g) (w▸M5 i) .none (λh=>aa h) ?_ (ay o bI)⟩;unfold slicePick;rw[M4];have:hK _ _ 1=_:=run_eq t j;show Q _ {p.s with heap:=p.h.push {cls:=.type "list",data:=.seq (List.filterMap (λx=>f.toArray[x]?) (hK (pW f.length _ 0) (pW f.length _ f.length) 1)).toArray 0} };rw[this,Rq];rw[HQ];exact q.lst r (ay (Ah ..) o) (cD.drop (cD.take A b) a) p.s.toks 0
end
def KB(c:Cx)(p:Pt)(d:PG)(e:St)(v:V)(Q:I->ge->Prop):=∀a b,v=.bool b->Nx c p d a e->Q b a.s
def A!(c:Cx)(m:e5 I)(p:Pt)(a:PG)(b:St)(v:V):=∀(Q:I->ge->Prop)(E:aT),KB c p a b v Q->he (M' c) c.A m Q E p.s
def P1(c:Cx)(t:I)(e:Expr)(p:Pt)(a:PG)(b:St)(v:V):=br t (A! c (isTrue e c.env (Db e c.env)) p a b v) (pE c (Db e c.env) p a b v)
def SE(c:Cx)(f:fc)(e:Expr):=∀t p a v b,f t a=O (v,b)->bC c p a->P1 c t e p a.pg b v
def HT(c:Cx)(f:St->N (N V×St))(e:N Expr):=∀p a v d,f a=O (v,d)->bC c p a->∀(Q:aT)(E:aT),(∀b x,Nx c p a.pg b d->wH c.g b.F x v->Q x b.s)->he (M' c) c.A (evalPart e c.env) Q E p.s
def KL(c:Cx)(p:Pt)(d:PG)(e:St)(f:af)(Q:aP->ge->Prop):=∀a b,Nx c p d a e->cD c.g a.F b f->Q b a.s
def LiW(c:Cx)(m:e5 (aP))(p:Pt)(a:PG)(b:St)(d:af):=∀(Q:aP->ge->Prop)(E:aT),KL c p a b d Q->he (M' c) c.A m Q E p.s
def star(c:Cx)(b:bM)(a:ww):e5 (aP):=spliced (fb a (Gc b c.env))
def ahz(c:Cx)(a:bM)(b:ww):e5 (aP):=evalAll (a.map λe=>do let v<-Db e c.env;standAt b;H1 v)
def SL(c:Cx)(f:sT)(e:bM):=(∀a b d,f a=O (b,d)->b.length=e.length)/\∀p a b d,f a=O (b,d)->bC c p a->∀f,LiW c (star c e f) p a.pg d b/\LiW c (ahz c e f) p a.pg d b
def FJ(c:Cx)(e:Expr):=isTrue e c.env (Db e c.env)=(do let v<-Db e c.env;standAt e.pos;holding [v] (truthy v))
section
variable{c:Cx}{p p1 p2:Pt}{L σ1 σ2 A:St}{pg:PG}{u v w:V}{Q:aT}{t:I}{e ea eb ec:Expr}{f a b d:fc}{B:ww}
def KW.next(q:KW c p pg A v Q)(n:Nx c p pg p1 σ1):KW c p1 σ1.pg A v Q:=λg x h=>q g x (n.trans h)
def KB.next{Q:I->ge->Prop}(q:KB c p pg A v Q)(n:Nx c p pg p1 σ1):KB c p1 σ1.pg A v Q:=λg b h i=>q g b h (n.trans i)
def pE.next(h:pE c m p1 σ1.pg A v)(n:Nx c p pg p1 σ1)(q:KW c p pg A v Q)(E:aT):he (M' c) c.A m Q E p1.s:=h Q E (q.next n)
def A!.next{m:e5 I}{Q:I->ge->Prop}(h:A! c m p1 σ1.pg A v)(n:Nx c p pg p1 σ1)(q:KB c p pg A v Q)(E:aT):he (M' c) c.A m Q E p1.s:=h Q E (q.next n)
def SE.val(h:SE c f e)(g:f J L=O (v,A))(r:bC c p L):pE c (Db e c.env) p L.pg A v:=h J p L v A g r
def SE.yQ(h:SE c f e)(g:f U L=O (v,A))(r:bC c p L):A! c (isTrue e c.env (Db e c.env)) p L.pg A v:=h U p L v A g r
def mode(g:c.OK)(i:FJ c e)(h:fin t w σ1=O (v,A))(k:pE c (Db e c.env) p pg σ1 w):P1 c t e p pg A v:=by induction t with|false=>exact iy h λq j=>q▸j▸k|true=> refine iJ h λb j h=>?_;have l:σ1=A:=ah Fk h;exact λQ E q=>ri (k _ E λk x n r=>wB g n.rel j r _ _ λt=>q _ b (ah wf h).symm (l▸n.trans (Nx.toks n.rel t))) i
def Ai{x y:I}(h:v=.bool x)(e:eQ v=O y):x=y:=by rw[h]at e;exact au e
def ZJ(g:c.OK)(h:FJ c e)(i:∀(p:Pt)(Q:aT)E,(∀t x,Rd c.g p.F x w->Q x {p.s with toks:=t})->he (M' c) c.A (Db e c.env) Q E p.s):SE c (sU w) e:=λ_ p _ _ _ e r=>mode g h e λQ E q=>i p Q E λt _ g=>q.tok r g t
def aeF(k:c.OK)(h:SE c a ea):SE c (L? a) (.UnaryOp .Not ea B):=λt p L v A e r=>aQ e λg σ1 i e=>iJ e λb j e=>iy (ah O e) λq g=>q▸g▸by induction t with|false=>exact λQ E q=>ô (h.val i r _ _ λp1 x g l=>not_value (wB k g.rel j l _ _ λt=>q _ _ (g.trans (Nx.toks g.rel t)) Z))|true=>exact λQ E q=>wpAny_isTrue_Not (h.yQ i r _ _ λp1 x h g=>q p1 _ (ah (λx=>V.bool !x) (Ai h j).symm) g)
def ZK(g:c.OK)(h:SE c a ea):SE c (S4 a) (.UnaryOp .USub ea B):=λt p L v A e r=>aQ e λi σ1 i e=>bL e λj j e=>mode g Z e λQ E q=>ô (h.val i r _ _ λp1 x g h=>by obtain⟨k,i⟩:=HI j h;exact i▸neg_int ((q.next g).tok g.rel Rd.i _))
def rH{g:Type}{x:I}{f:I->N g}{r:g}(i:v=.bool x)(h:bn (gJ v) f=O r):f x=O r:=by rw[i]at h;exact h
def Kl{Q:I->ge->Prop}{s:ge}(h:he (M' c) c.A (isTrue ea c.env (Db ea c.env)) (λb g=>if b=U then he (M' c) c.A (isTrue eb c.env (Db eb c.env)) Q E g else he (M' c) c.A (isTrue ec c.env (Db ec c.env)) Q E g) E s):he (M' c) c.A (isTrue (.IfExp ea eb ec B) c.env (Db (.IfExp ea eb ec B) c.env)) Q E s:=by exact bR (jv h (λb _ q=>by cases b<;>exact q) λ_ _ x=>x)
def y9{x:I}{P g:Prop}(h:x->P)(k:x=J->g):if x=U then P else g:=by induction x with|true=>exact h Z|false=>exact k Z
def ZL(g:SE c a ea)(j:SE c b eb)(k:SE c d ec):SE c (S5 a b d) (.IfExp ea eb ec B):=λt p L v A e r=>aQ e λh σ1 h e=>by
 have H:=g.yQ h r
 induction t with
 |false=>exact λQ E q=>wpAny_IfExp (H _ _ λp1 x i g=>y9 (λh=>(j.val (il (dM h) (rH i e)) g.rel).next g q E) λh=>(k.val (il (dw h) (rH i e)) g.rel).next g q E)
 |true=>exact λQ E q=>Kl (H _ _ λp1 x i g=>y9 (λh=>(j.yQ (il (dM h) (rH i e)) g.rel).next g q E) λh=>(k.yQ (il (dw h) (rH i e)) g.rel).next g q E)
def ZM(h:c.OK){g:nw}(i:SE c a ea)(j:SE c b eb):SE c (S6 g a b) (.BinOp ea g eb B):=λt p L v A e r=>aQ e λg σ1 g e=>aQ e λk σ2 k e=>bL e λu l e=>mode h Z e λQ E q=>wpAny_BinOp (i.val g r _ _ λp1 x h i=>j.val k h.rel _ _ λp2 y g j=>(aeD g.rel (i.bS g.ext.le) j l).next (h.trans g) q E)
def Aj:SL c yf []:=⟨λL g A e=>iy e λq _=>q▸Z,λp L g A e r B=>iy e λq g=>q▸g▸⟨λQ E q=>g_ (q p [] (.refl r) Z),λQ E q=>vH (q p [] (.refl r) Z)⟩⟩
def mz{e:Expr}{h:bM}:plainArg e->Gc (e::h) g=(J,Db e g)::Gc h g:=by apply@Expr.casesOn (λe=>plainArg e=U->Gc (e::h) g=(J,Db e g)::Gc h g) e<;>intros<;>first|rfl|exact ao ‹_›
def TH{h:bM}(k:SE c a ea)(n:plainArg ea)(j:SL c g h):SL c (B1 a g) (ea::h):=⟨λL g A e=>aQ e λh σ1 _ e=>aQ e λm σ2 i e=>iy e λq _=>q▸ah pp (j.1 _ _ _ i),λp L g A e r B=>aQ e λh σ1 l e=>aQ e λm σ2 i e=>iy e λq g=>q▸g▸ have H:=λQ q p1 x g h p2 o m s=>q p2 _ (g.trans m) ⟨x,o,Z,h.bS m.ext.le,s⟩;⟨λQ E q=>e_ (k.val l r _ _ λp1 x g h=>(j.2 p1 σ1 _ _ i g.rel B).1 _ _ (H Q q p1 x g h)) (mz n),λQ E q=>wpAny_evalAll_cons (bR (k.val l r _ _ λp1 x g h=>bR (uk (cP ((j.2 p1 σ1 _ _ i g.rel B).2 _ _ (H Q q p1 x g h))))))⟩⟩
def KL.next{Q:aP->ge->Prop}(q:KL c p pg A g Q)(n:Nx c p pg p1 σ1):KL c p1 σ1.pg A g Q:=λg x h=>q g x (n.trans h)
def u9{h:bM}{i:aP}(j:g.length=h.length)(r:cD c.g F i g)(z:bd h.length 1000):jV i:=ay (cZ (r.length.trans j)) (ay (cw z) (aO Z))
def ZN(j:c.OK){h:sT}{g:bM}{k:W}(i:SL c h g)(z:bd g.length 1000):SE c (S7 h) (.Tuple g k B):=λt p L v A e r=>aQ e λg σ1 g e=>mode j Z e λQ E q=>wpAny_Tuple ((i.2 p L _ _ g r B).1 _ _ λp1 h h j=>
 have l:=u9 (i.1 _ _ _ g) j z
 ⟨ay l bI,(q.next h).tup h.rel l j _ _⟩)
def ZO(j:c.OK){h:sT}{g:bM}(i:SL c h g)(z:bd g.length 1000):SE c (S8 h) (.List g B):=λt p L v A e r=>aQ e λg σ1 g e=>mode j Z e λQ E q=>rn ((i.2 p L _ _ g r B).1 _ _ λp1 h h j=>
 have l:=u9 (i.1 _ _ _ g) j z
 ⟨ay l bI,(q.next h).lst h.rel l j _ _⟩)
def TJ{f:fc}:HT c (vU U f) C:=λp L v A e r Q E q=>iy e λh g=>qk (q p .none (g▸.refl r) (h▸Z))
def TK(h:SE c f ea):HT c (vU J f) (O ea):=λp L v A(e:ax _ (λv s=>O (O v,s))=O _)r Q E q=>aQ e λg σ1 g e=>iy e λi j=>wpAny_evalPart_some (h.val g r _ _ λp1 x g h=>q p1 x (j▸g) (i▸h))
def ZP{iv:bv}{l u:N Expr}{p:ww}:od (.Slice l u C p) J o iv=operate [iv,o] (getItem o iv):=Z
def wH.bS(s:F.le g):wH c.g F x o->wH c.g g x o:=pm id (λ_ r=>Rd.bS s r) o
def ZQ(j:c.OK){g h:St->N (N V×St)}{l u:N Expr}{i:ww}(k:SE c a ea)(m:HT c g l)(n:HT c h u):SE c (Ta a g h) (.Subscript ea (.Slice l u C i) B):=λt p L v A e r=>aQ e λg σ1 g e=>aQ e λh σ2 i e=>aQ e λh h o e=>bL e λh s e=>mode j Z e λQ E q=>ú (k.val g r _ _ λp1 x h k=>wpAny_Slice (m _ _ _ _ i h.rel _ _ λp2 y g m=>n _ _ _ _ o g.rel _ _ λi z n3 n=>qk (by have j:=Nx.push n3.rel (Cu y z) i.s.toks;obtain⟨⟨T,o,o,r⟩,G⟩:=aeE j.rel (m.bS n3.ext.le) n (gZ i.h Z) s (k.bS (g.trans n3).ext.le);exact tail_any o r (G.next (h.trans (g.trans (n3.trans j))) q E) ZP)))
def Cv(a:I):r3:=br a .And .Or
def X8(c:Cx)(f:I->fc)(g:bM):=∀a p L v A,bC c p L->(f a J L=O (v,A)->∀B,pE c (boolOp B (Cv a) (RE g c.env)) p L.pg A v)/\(f a U L=O (v,A)->A! c (wy (Cv a) g c.env) p L.pg A v)
def Ak{x:I}{Q:I->ge->Prop}{s:ge}(h:he (M' c) c.A (isTrue ea c.env (Db ea c.env)) Q E s):he (M' c) c.A (wy (Cv x) [ea] c.env) Q E s:=by induction x with|true=>exact ml (jv h (λb g q=>by cases b<;>first|exact q|exact wpAny_allTrue_And_nil q) λ_ _ x=>x)|false=>exact nk (jv h (λb g q=>by cases b<;>first|exact q|exact wpAny_allTrue_Or_nil q) λ_ _ x=>x)
def Cw{x:I}{m n:e5 bv}{h:Y (e5 bv)}{s:ge}
 (k:he (M' c) c.A m (λv i=>he (M' c) c.A (truthy v) (λt g=>br (i! t x) (Q v g) (he (M' c) c.A (boolOp B (Cv x) (n::h)) Q E g)) E i) E s):
  he (M' c) c.A (boolOp B (Cv x) (m::n::h)) Q E s:=by
 cases x<;>exact bR (jv k (λv i h=>bR (uk (bR (ui (jv h (λt g j=>by cases t<;>first|exact cP j|exact j) λ_ _ x=>x))))) λ_ _ x=>x)
def Al{x:I}{h:bM}{Q:I->ge->Prop}{s:ge}(i:he (M' c) c.A (isTrue ea c.env (Db ea c.env)) (λb g=>br (i! b x) (Q b g) (he (M' c) c.A (wy (Cv x) h c.env) Q E g)) E s):he (M' c) c.A (wy (Cv x) (ea::h) c.env) Q E s:=by induction x with|true=>exact ml (jv i (λb _ q=>by cases b<;>exact q) λ_ _ x=>x)|false=>exact nk (jv i (λb _ q=>by cases b<;>exact q) λ_ _ x=>x)
def X9{b:I}{P g:Prop}(h:b->P)(k:b=J->g):br b P g:=by induction b with|true=>exact h Z|false=>exact k Z
def TM{g:I->fc}(h:SE c a ea):X8 c (yW U a g) [ea]:=λ_ p L v A r=>⟨λe B=>h.val e r,λe Q E q=>Ak (h.yQ e r Q E q)⟩
def M6(h:c.OK){j:I->fc}{g:bM}(n:SE c a ea)(o:X8 c j (eb::g)):X8 c (yW J a j) (ea::eb::g):=λx p L v A r=>⟨λ(e:ax _ (λv s=>bn _ λb=>br _ (O (v,s)) _)=O _)B=>aQ e λz σ1 k e=>bL e λb i e=>λQ E q=>Cw (n.val k r _ _ λp1 w g y=>wB h g.rel i y _ _ λt=>X9
   (λh=>iy (il (dM h) e) λl m=>q _ w (m▸g.trans (Nx.toks g.rel t)) (l▸y)) λh=>have y:=Nx.toks g.rel t;((o x _ _ _ _ y.rel).1 (il (dw h) e) B).next (g.trans y) q E),
  λ(e:ax _ (λv s=>bn (eQ v) λb=>br (i! b x) (O (v,s)) (j x U s))=O _)=>aQ e λz σ1 k e=>bL e λb i e=>λQ E q=>Al (n.yQ k r _ _ λp1 w j g=>(Ai j i).symm▸X9 (λh=>iy (il (dM h) e) λl m=>q p1 _ (l▸(Ai j i)▸j) (m▸g)) λh=>((o x _ _ _ _ g.rel).2 (il (dw h) e)).next g q E)⟩
def HR{x:I}{g:I->fc}{h:bM}(i:X8 c g h):SE c (g x) (.BoolOp (Cv x) h B):=λt p L v A e r=>by induction t with|false=>exact λQ E q=>by rw[arm_eval_BoolOp];exact(i x p L v A r).1 e B Q E q|true=>exact λQ E q=>wpAny_isTrue_BoolOp ((i x p L v A r).2 e Q E q)
end
def FK(x:lw)(t:kv):(Value.str x t).isStr x=U:=cF Z
def M7{t:kv}(h:x≠y):(Value.str x t).isStr y=J:=dQ h
def HS{g:fC}(c:∀x y,g.nm x=g.nm y->x=y){v:bv}{a b:W}{t:kv}(e:v=.str (g.nm a) t):v.isStr (g.nm b)=ac a b:=by rw[e];by_cases q:a=b;rw[q,FK,cf];rw[M7 λz=>q (c _ _ z),jW q]
def gD{g:fC}(d:∀x y,g.nm x=g.nm y->x=y){e:M2}{es:gS}{a b:W}{t:kv}(c:e.key=.str (g.nm a) t):d4 (g.nm b) (e::es)=br (ac a b) (O (O e.val)) (d4 (g.nm b) es):=by unfold d4;rw[eT,HS d c,sO,show e.refKey=J by unfold CT;rw[c]];cases ac a b<;>rfl
def aeG(g:fC)(F:bl)(b:gS)(a:W)(o:N V):=oc o (λv=>∃w,d4 (g.nm a) b=O (O w)/\g.y4 a/\Rd g F w v) (d4 (g.nm a) b=O C)
def Ad.get(c:∀x y,g.nm x=g.nm y->x=y){F:bl}{a:aY}(b:W):∀{es:gS},Ad g F es a->aeG g F es b (aj b a):=by induction a with|nil=>exact λr=>(r)▸Z|cons p a d=>refine λ{es}(r)=>?_;obtain⟨e,l,q,⟨a,⟨t,f⟩,g⟩,h⟩:=r;have G:=gD c (es:=l) (b:=b) f;rw[q];by_cases z:ac p.1 b=U;rw[dM z]at G;rw[fF z];exact⟨e.val,G,aK z▸a,g⟩;have z:=d8.mpr z;rw[dw z]at G;have H:=d h;unfold aeG at H ⊢;rw[dH z,G];exact H
def HU(k:Ow):N W:=Ow.casesOn (motive:=λ_=>N W) k C O C C aaM C C
def Yb(k:Ow):N W:=Ow.casesOn (motive:=λ_=>N W) k C aaM C C O C C
def TN(h:Ow.bU a=Ow.loc x):Ch:=aa (ah HU h)
def Am(h:Ow.loc a=Ow.loc x):a=x:=au (ah HU h)
def HV(h:Ow.bU a=Ow.bU x):a=x:=au (ah Yb h)
def FL(h:shared w)(e:w=.loc x):Ch:=ao (e▸h:shared (.loc x)=U)
section
variable{c:Cx}{p:Pt}{B:St}{x:bv}{v u:V}{a:W}{q:PA}
variable(F:c.OK)
def wI:Rd c.g p.F x v->a4 x:=Vc (M:=λv=>Rd c.g p.F x v->a4 x=U) v (no:=λh=>h▸Z) (bo:=λ_(h)=>h▸Z) (i:=λi(h)=>by obtain⟨_,h⟩:=h;exact h▸Z) (s:=λi(h)=>by obtain⟨_,_,h,_⟩:=h;exact h▸Z) (tu:=λl(h)=>by obtain⟨_,_,_,h,_⟩:=h;exact h▸Z) (ls:=λl(h)=>by obtain⟨_,_,_,h,_⟩:=h;exact h▸Z) (ob:=λk l(h)=>by obtain⟨_,_,_,_,h,_⟩:=h;exact h▸Z) (cl:=λn(h)=>h.1▸Z) (fn:=λn(h)=>h.1▸Z) (bi:=λn(h)=>(h)▸F.kf.handed n) (cd:=λn(h)=>h.1▸Z) (me:=λm(h)=>by obtain⟨_,h,_⟩:=h;exact h▸Z) (pa:=λh=>h.1▸Z) (ta:=λh=>h.1▸Z) (sy:=λ_=>pr) (bu:=λ_ _=>pr) (un:=pr) (ws:=λ_=>pr)
def FN:yl c.g p a x q->a4 x:=
 have b:∀{d},qC c.g p a x d->a4 x:=λh=>by obtain⟨t,h,_⟩:=h;exact h▸Z
 PA.casesOn q (λ_=>wI F) (λ_=>b) (λ_=>b) (λ_=>b) λ_=>b
def aeH(c:Cx)(p:Pt)(B:St)(b:gS)(n:Nat):=pV c.g p B.pg.par b n/\W.InstAt p.h c.g.par (lb c.g.uQ c.g.dG) c.g.uQ (O (fE b n))
variable(r:bC c p B)(H:c.g.dj)
def qD:∃b n,aeH c p B b n:=by obtain⟨_,_,h,b,n,d⟩:=r.pg.par H;exact⟨b,n,d,h,Z,Z,d.at_⟩
def TO(c:Cx)(p:Pt)(a:W)(w:bv):=∀(Q:aT)(E:aT),Q w {p.s with toks:=p.s.toks+1}->he (M' c) c.A (getAttr (.ref c.g.par) (c.g.nm a) U) Q E p.s
def An(e:aj a B.pg.par=O q):∃w,yl c.g p a w q/\TO c p a w:=by obtain⟨b,n,d,b⟩:=qD r H;have G:=d.bU a;rw[e]at G;obtain⟨d,w,e,h⟩:=G;exact⟨w,h,λQ E q=>g! (F.In r) b (qr (F.kf.Cj (c.g.nm a) H)).1 (r0 (F.kf.Cm H) (F.kf.Co a H d) Z e) (FN F h) q⟩
def FO(r:bC c p B){b:gS}{n:W}(d:aeH c p B b n)(e:aj a B.pg.par=C):lookIn (c.g.nm a) (fE b n)=O C:=by have G:=d.1.bU a;rw[e]at G;exact G
def M8(e:aj a B.pg.par=C){b:Y (ae×V)}(h:c.G.cA a=O b):c.g.Zw a/\TO c p a (.ref (c.g.uP a)):=by obtain⟨d,n,d⟩:=qD r H;obtain⟨f,g,i,j⟩:=F.kf.K' a b H h;exact⟨f,λQ E q=>g! (F.In r) d.2 (qr (F.kf.Cj (c.g.nm a) H)).1 (findObj_cls (F.kf.Cm H) g i Z j (FO r d e)) Z q⟩
def wJ:pP q=O u->q=.val u:=PA.casesOn q (λ_ h=>ah PA.val (au h)) bX bX bX λ_=>aa
def aeI:jm c.G v a B=O u->Rd c.g p.F x v->pE c (getAttr x (c.g.nm a) U) p B.pg B u:=by have X:=F.In r;refine Vc (M:=λv=>jm c.G v a B=O u->Rd c.g p.F x v->pE c _ p B.pg B u) v (pa:=λe(h)=>h.1▸md e (λq d e=>?_) λd e=>jj e (λn e=>?_) λ_ e=>iJ e λb o e=>jX (λQ E q=>?_) e) (ob:=λk b e(h)=>?_) (cl:=λk e(h)=>bL e λm g i=>?_);obtain⟨j,b,s,t,h,b,f,w,_,y⟩:=h;have l:=FE r.st f w;have G:=Ad.get F.kf.inj a y;rw[h];refine md e (λw f e=>?_) λy e=>bL e λm g i=>?_;rw[f]at G;obtain⟨m,z,A,m⟩:=G;exact jX (λQ E q=>g! X l (qr (F.kf.Ki k (c.g.nm a) b)).1 (r0 (F.kf.FC k b) (F.kf.Tq k a b A) Z z) (wI F m) (q.tok r m _)) (au e);rw[y]at G;obtain⟨w,f1,m,f3,f4,f5,_⟩:=F.kf.const _ _ _ _ g i;exact λQ E q=>g! X l (qr (F.kf.Ki k (c.g.nm a) b)).1 (findObj_cls (F.kf.FC k b) f1 m f3 f4 G) f3 (q.tok r (f5.bS r.base) _);obtain⟨w,f1,m,f3,f4,f5,f6⟩:=F.kf.const _ _ _ _ g i;exact h.1▸λQ E q=>cls_value X (F.kf.Ag k h.2) f6 f3 (q.tok r (f5.bS r.base) _);obtain⟨w,f,G⟩:=An F r h.2 d;rw[wJ e]at f;exact λQ E q=>G Q E (q.tok r f _);obtain⟨s,t,j⟩:=qD r h.2;obtain⟨m1,m2,m3,f,g,i⟩:=F.kf.Cp a h.2 n;have b:=qr (F.kf.Cj (c.g.nm a) h.2);refine jX (λQ E q=>?_) (au e);exact get_bind X j.2 b.1 (findObj_fn (F.kf.Cm h.2) m2 f g i (FO r j d)) b.2 (sR (fn_get X (gc.mp m3) (handed_on Z (q _ _ (Nx.alloc r _ _ Z) ⟨_,Z,m1,h.2,p.F.ib _ _⟩))));have G:=M8 F r h.2 d o;exact G.2 Q E (q.tok r ⟨Z,G.1⟩ _)
end
section
variable{c:Cx}{p p':Pt}{σ σ':St}{x:W}{v u:V}{a:W}{t t':ii}{h:ul}{L:ii}{m m':lw->eU}
def Ao(a:h.Ns L m)(b:h.Ns L m'):m=m':=by(refine gq λP d=>?_;obtain⟨o,e,f,g,i,_,j⟩:=a;obtain⟨k,k,l,n,o,_,q⟩:=b;refine d ?_;have b:=au (il g n);have:Data.dict e f=Data.dict k l:=il i (b▸o);injection this with this);funext x;rw[<-j,<-q,this]
def Nx.freeze(r:bC c p σ){b:af}(e:aj x σ.loc=O (.own b)):∃p' w,p'.s=p.s/\Nx c p σ.pg p' (aE σ x (.val (.lst b)))/\(∃m,p.h.Ns c.L m/\m (c.g.nm x)=O w)/\Rd c.g p'.F w (.lst b):=by refine gq λP i=>?_;obtain⟨m,d,f⟩:=r.loc;have H:=f x;rw[e]at H;obtain⟨t,g,j,k,n,l,z,o⟩:=H;refine i ?_;have S:=kJ.freeze r.pg.own j l (λh=>aa (ah HU h).symm) (λh=>aa (ah HU h).symm);have R:Rd c.g _ _ (.lst b):=⟨t,k,n,Z,p.F.ib _ _,z,o.bS (p.F.mx _ _)⟩;refine⟨{p with F:=p.F.add t _,ow:=bQ t C p.ow},.ref t,Z,⟨⟨S.le,S.sh,λ_ _ e _=>e,S.ex,S.to,S.ck,S.kx,aU _,λ_=>⟨λ_=>Z,λb t' o=>S.ko t' _ o TN⟩⟩,S.MS r (λw h e=>FL h e) d λb=>?_⟩,⟨m,d,g⟩,R⟩;by_cases q:b=x;rw[q,show aj x _=_ from dk];exact⟨_,g,R⟩;rw[show aj b _=_ from bZ q];exact(f b).to S Z λh=>q (Am h)
def s8(c:Cx)(x:W):=(c.g.nm x==("__debug__":lw))=J
def jY(b:c.OK)(d:aq c.lv x){w:bv}(e:p.h.Ns c.L m)(f:m (c.g.nm x)=O w){Q:aT}{E:aT}(q:Q w p.s):he (M' c) c.A (hN c.env (c.g.nm x)) Q E p.s:=EW b.kind (b.loc x d) (b.locals▸e) f q
def Yc(g:c.OK)(r:bC c p σ)(e:Kc c.G c.lv x σ=O (v,σ')):pE c (hN c.env (c.g.nm x)) p σ.pg σ' v:=by refine jj e (λf e=>bL e λl b=>?_) λf e=>iJ e λu n e=>?_;refine LV.casesOn l (λd b e=>?_) (λd b e=>?_) b;obtain⟨m,i,H⟩:=r.loc;have H:=H x;rw[b]at H;obtain⟨w,j,k⟩:=H;exact iy e λq d=>q▸d▸λQ E q=>jY g f i j (q p w (.refl r) k);obtain⟨p',w,o,s,⟨m,i,j⟩,k⟩:=Nx.freeze r b;exact iy e λq d=>q▸d▸λQ E q=>jY g f i j (o▸q p' w s k);obtain⟨y,b,k⟩:=g.glob x u f n;exact iy (ah O e) λq d=>q▸d▸λQ E q=>k p.s Q E (λa o h=>r.Tu a o h) (q p y (.refl r) (b.bS r.base))
def pX(c:Cx)(p:Pt)(x:W)(t:ii):=∃m,p.h.Ns c.L m/\m (c.g.nm x)=O (.ref t)
def pY(c:Cx)(p:Pt)(a:W)(t:ii)(k:N (N W)):=oc k (λk=>oc k (λk=>t=c.g.uP k) (p.ow t=O (.bU a))) (t=c.g.uP a)
def wK(c:Cx)(p:Pt)(σ:St)(b:Pl)(t:ii):=LP b (λx=>pX c p x t) λa=>pY c p a t (kN (aj a σ.pg.par))
def wK.det(r:bC c p σ){b:Pl}:wK c p σ b t->wK c p σ b t'->t=t':=Pl.casesOn b (λx h k=>by obtain⟨m,d,e⟩:=h;obtain⟨m',f,b⟩:=k;rw[Ao f d]at b;exact ef (au (il e b))) λa=>pm (motive:=λk=>pY c p a t k->pY c p a t' k->t=t') (λh k=>h.trans k.symm) (pm (λh k=>r.pg.own.inj _ _ _ h k λq=>aa (ah Yb q).symm) λk h k=>h.trans k.symm) _
def wK.step(n:Nx c p σ.pg p' σ')(r:bC c p σ)(k:calm σ σ'):wK c p σ b t->wK c p' σ' b t:=Pl.casesOn b (λx h=>by obtain⟨m,d,e⟩:=h;exact⟨m,d.at λ_ b=>n.ext.keep _ _ b (r.kx▸Z),e⟩) λa h=>by have b:=n.ext.calm (aK k).symm;show pY c p' a t _;rw[b.1 a];exact pm (motive:=λk=>pY c p a t k->pY c p' a t k) id (pm (b.2 a t) λ_=>id) _ h
def Bv(c:Cx)(b:Pl)(e:Expr):=LP b (λx=>s8 c x/\∃b,e=.Name (c.g.nm x) b) λa=>s8 c 0/\∃d b,e=.Attribute (.Name (c.g.nm 0) d) (c.g.nm a) b
def AdW(c:Cx)(m:e5 bv)(p:Pt)(t:ii):=∀(Q:aT)(E:aT),(∀k,Q (.ref t) {p.s with toks:=k})->he (M' c) c.A m Q E p.s
structure ZR(c:Cx)(p:Pt)(σ:St)(pl:Pl)(e:Expr)(cn:Cn)(t:ii):Prop where
 is:wK c p σ pl t
 at_:g7 c.g p t cn
 ns:(t==Do)=J
 ev:AdW c (Db e c.env) p t
def M9(b:c.OK)(r:bC c p σ){k:Ow}(h:p.ow t=O k):(t==Do)=J:=qV λq=>by obtain⟨o,d⟩:=b.kf.Tt;exact aa ((r.pg.own.fz _ _ (r.base _ _ d)).2.symm.trans (q▸h))
def zb(e:iR b σ):aq b 0/\aj 0 σ.loc=O (.val .par):=by cases h:aq b 0 with|false=>exact ao (il (dw h) e)|true=>have e:=il (dM h) e;refine⟨Z,?_⟩;cases k:aj 0 σ.loc with|none=>rw[k]at e;exact ao e|some l=> rw[k]at e;exact LV.casesOn l (λv h=>(rE h)▸Z) aV e
def Ap(r:bC c p σ)(e:iR c.lv σ):c.g.dj/\aq c.lv 0/\pX c p 0 c.g.par:=by refine gq λP d=>?_;have h:=zb e;obtain⟨m,e,H⟩:=r.loc;have H:=H 0;rw[h.2]at H;obtain⟨w,f,b⟩:=H;refine d ?_;exact⟨b.2,h.1,m,e,b.1▸f⟩
def Yd(d:c.OK)(r:bC c p σ){k:W}{b:Y (ae×V)}(e:c.G.cA k=O b):g7 c.g p (c.g.uP k) (.vL b):=by obtain⟨o,f,h⟩:=d.kf.MT k b e;exact h p r.base (r.Tu _ _ f)
def ZS(e:c.OK){b d:ww}(g:s8 c 0)(f:aq c.lv 0)(h:pX c p 0 c.g.par)(G:TO c p a (.ref t)):AdW c (Db (.Attribute (.Name (c.g.nm 0) b) (c.g.nm a) d) c.env) p t:=λQ E q=>by obtain⟨m,i,j⟩:=h;exact Attribute_name (qY (jY e f i j (G Q E (q _))) g)
def HW{q:PA}:Ms c.G q=O d->(∃k b,q=.val (.cd k)/\c.G.cA k=O b/\d=.vL b)∨((∀w,yl c.g p a w q->qC c.g p a w d)/\kN (O q)=O C):=PA.casesOn q (λv e=>bL e λk d e=>iJ e λb f e=>.inl ⟨k,b,ah PA.val (Tv d),f,e.symm⟩) (λ_ e=>.inr ⟨λ_ h=>au e▸h,Z⟩) (λ_ e=>.inr ⟨λ_ h=>au e▸h,Z⟩) (λ_ e=>.inr ⟨λ_ h=>au e▸h,Z⟩) λ_ e=>.inr ⟨λ_ h=>au e▸h,Z⟩
def mA(f:c.OK)(r:bC c p σ){pl:Pl}{e:Expr}{cn:Cn}:Bv c pl e->iS c.G c.lv σ pl=O cn->∃t,ZR c p σ pl e cn t:=by refine Pl.casesOn pl (λx o e=>?_) λa o e=>?_;obtain⟨s,M,w⟩:=o;refine bW e λP e=>bL e λl y e=>?_;obtain⟨m,j,H⟩:=r.loc;have H:=H x;rw[y]at H;have i:∀{t k},m _=O _->p.ow t=O k->g7 c.g p t cn->∃t,ZR c p σ (.loc x) _ cn t:=λ{t k}b d g=>⟨t,⟨m,j,b⟩,g,M9 f r d,λQ Q q=>w▸qY (jY f P j b (q p.s.toks)) s⟩;refine LV.casesOn l (λv H e=>bW e λP e=>?_) (λj H e=>?_) H e;obtain⟨E,b,j⟩:=H;have j:=Rd.as (sZ P) j;have T:=r.pg.aG j.2;exact i (j.1▸b) T.1 (au e▸T.2);obtain⟨t,b,j,d⟩:=H;exact i b j (au e▸d);obtain⟨s,j,M,w⟩:=o;refine bW e λj e=>?_;obtain⟨F,y,o⟩:=Ap r j;have i:∀{t},pY c p a t _->g7 c.g p t cn->_=J->TO c p a _->∃t,ZR c p σ (.bU a) _ cn t:=λ{t}b d g G=>⟨t,b,d,g,w▸ZS f s y o G⟩;refine md e (λq z e=>?_) λK e=>iJ e λA B e=>?_;obtain⟨E,n,G⟩:=An f r F z;refine(HW (p:=p) (a:=a) e).elim (λh=>?_) λh=>?_;obtain⟨k,A,b,d,g⟩:=h;have n:=(b▸n);exact i (z▸b▸Z) (g▸Yd f r d) (f.kf.Cq k A d) (n.1▸G);obtain⟨t,b,d,g⟩:=h.1 E n;exact i (z▸h.2▸d) g (M9 f r d) (b▸G);exact i (K▸Z) (e▸Yd f r B) (f.kf.Cq a A B) (M8 f r F K B).2
end
section
variable{g:fC}{F:bl}{K j:Type}[gk K]{f:K->j}{i:Y (K×bv)}{kvs:Y (j×V)}
def rI(g:fC)(F:bl)(f:K->j)(i:Y (K×bv))(kvs:Y (j×V)):=i.map (λd=>f d.1)=kvs.map (·.1)/\cD g F (i.map (·.2)) (kvs.map (·.2))
def rI.cons{d:K×bv}{p:j×V}(h:f d.1=p.1)(r:Rd g F d.2 p.2)(t:rI g F f i kvs):rI g F f (d::i) (p::kvs):=⟨vy (ah R! h) t.1,_,_,Z,r,t.2⟩
def rI.ZT(h:rI g F f i []):i=[]:=vD.mp h.1
def rI.un{p:j×V}(h:rI g F f i (p::kvs)):∃d l,i=d::l/\f d.1=p.1/\Rd g F d.2 p.2/\rI g F f l kvs:=by induction i with|nil=>exact ch h.1.symm (bN _ _)|cons d l _=> have e:=fw h.1;obtain⟨w,m,q,r,a⟩:=h.2.un;have q:=fw q;exact⟨d,l,Z,e.1,(show d.2=w from q.1)▸r,e.2,q.2▸a⟩
def rI.len(h:rI g F f i kvs):i.length=kvs.length:=il (jb _) ((ah ey h.1).trans (jb _))
def rI.emp(h:rI g F f i kvs):i.isEmpty=kvs.isEmpty:=lM h.len
def ZU(q:j->I)(l:Y (j×V)):N V:=bm (motive:=λ_=>N V) C (λp _ a=>br (q p.1) (O p.2) a) l
def Km(g:fC)(F:bl)(o:eU)(v:N V):=oc v (λv=>∃w,o=O w/\Rd g F w v) (o=C)
def Ko{d:K×bv}(e:d.1=k):d_ (d::i) k=O d.2:=by unfold d_;rw[eT,cF e];rfl
def Kq{d:K×bv}(e:d.1≠k):d_ (d::i) k=d_ i k:=by unfold d_;rw[eT,dQ e]
def rI.get{q:j->I}(a:∀x,q (f x)=a? (x=k))(h:rI g F f i kvs):Km g F (d_ i k) (ZU q kvs):=by induction kvs generalizing i with|nil=>rw[h.ZT];exact Z|cons p l b=>obtain⟨d,m,e,c,r,t⟩:=h.un;have z:ZU q (p::l)=br (a? (d.1=k)) (O p.2) (ZU q l):=ah (br · _ _) (il (ah q c) (a d.1));rw[e,z];by_cases n:d.1=k;rw[dM (cF n),Ko n];exact⟨_,Z,r⟩;rw[dw (dQ n),Kq n];exact b t
end
section
variable{g:fC}{F:bl}{n:Y (D×bv)}{kvs:eu}{k:D}
abbrev LW(g:fC)(F:bl):Y (D×bv)->eu->Prop:=rI g F (id:D->D)
def TP{a:Type}(q:a->I)(k:a)(v:V)(l:Y (a×V)):Y (a×V):=bm (motive:=λ_=>Y (a×V)) [(k,v)] (λp l a=>br (q p.1) ((k,v)::l) (p::a)) l
def rI.put{K c:Type}[gk K]{f:K->c}{n:Y (K×bv)}{kvs:Y (c×V)}{q:c->I}{k:K}(e:∀x,q (f x)=a? (x=k)){w:bv}{v:V}(r:Rd g F w v)(h:rI g F f n kvs)(b:(n.map (·.1)).Nodup):rI g F f (mm n k w) (TP q (f k) v kvs):=by induction kvs generalizing n with|nil=>rw[h.ZT];exact rI.cons Z r ⟨Z,Z⟩|cons p l a=>obtain⟨d,m,i,c,j,t⟩:=h.un;rw[i]at b ⊢;have b:=mV.mp b;have z:TP q (f k) v (p::l)=br (a? (d.1=k)) ((f k,v)::l) (p::TP q (f k) v l):=ah (br · ((f k,v)::l) (p::TP q (f k) v l)) (il (ah q c) (e d.1));rw[z];unfold mm;rw[sO];by_cases q:d.1=k;rw[cF q,fS,eP q,map_store_of_not_mem m k w (q▸b.1)];exact rI.cons (ah f q) r t;rw[dQ q,Bool.false_or,fS,eH q];have a:=rI.cons c j (a t b.2);unfold mm at a;by_cases b:(m.any λc=>a? (c.1=k))=U;rw[eP b]at a ⊢;exact a;rw[eH b]at a ⊢;exact a
def LW.put(r:Rd g F w v)(h:LW g F n kvs)(a:(n.map (·.1)).Nodup):LW g F (mm n k w) (dput k v kvs):=rI.put (q:=λi=>a? (i=k)) (λ_=>Z) r h a
def LW.del(h:LW g F n kvs)(a:(n.map (·.1)).Nodup):LW g F (without n k) (ye k kvs):=by induction kvs generalizing n with|nil=>rw[h.ZT];exact⟨Z,Z⟩|cons p l e=>obtain⟨d,m,c,b,f,t⟩:=h.un;rw[c]at a ⊢;have a:=mV.mp a;have z:ye k (p::l)=br (a? (d.1=k)) l (p::ye k l):=ah (λi:D=>br (a? (i=k)) l (p::ye k l)) (b.symm);rw[z];unfold without;rw[ar];by_cases q:d.1=k;rw[dM (cF q),eH λh=>(aO h) q];have c:=without_of_not_mem m k (q▸a.1);unfold without at c;exact c.symm▸t;rw[dw (dQ q),eP (cF q)];exact rI.cons b f (e t a.2)
end
section
variable{prog:zs}{w:t1}{i:D}{s:lw}{t:kv}
def int_is:(mI prog w).is i (.int i t)=U:=cF Z
def str_is:(No prog w).is s (.str s t)=U:=cF Z
def Ye(k x:lw):cW x.cps.toList k.cps.toList=a? (x=k):=by rw[yO,gU,EU];exact⟨λh=>(FI h).trans (FI Z).symm,λh=>h▸Z⟩
def Aq(k:D)(c:LW g F a b):Km g F (d_ a k) (z5 k b):=rI.get (q:=λi=>a? (i=k)) (λ_=>Z) c
abbrev PZ(g:fC)(F:bl):je->Y (ae×V)->Prop:=rI g F λs:lw=>s.cps.toList
def HX(k:lw)(c:PZ g F a b):Km g F (d_ a k) (Fh k.cps.toList b):=rI.get (q:=λl=>cW l k.cps.toList) (Ye k) c
def wL{K:Type}[gk K]{b:qR prog w K}{h:ul}{c:ii}{a:Y (K×bv)}(x:h.DictOf b c a):(a.map (·.1)).Nodup:=by obtain⟨_,_,_,_,_,_,_,_,n⟩:=x;exact n
end
section
variable{c:Cx}{p:Pt}{L:St}{t:ii}{cn H:Cn}{x y:bv}{i v u:V}{b:I}
def Na(d:(t==Do)=J):g7 c.g p t cn->A_ c p (.ref t) (oW cn):=Cn.casesOn cn (λa a Q E q=>by obtain⟨e,n,h,z,r⟩:=a;refine v' ⟨_,h,Z,_,Z⟩ (o3 z) ?_;rw[s6,lM r.length];exact q _) (λe a Q E q=>by obtain⟨f,h,z,r⟩:=a;exact v_ d h (jn z) (rI.emp (f:=id) r▸q _)) (λe a Q E q=>by obtain⟨f,h,z,_,r⟩:=a;exact v_ d h (jn z) (rI.emp (f:=λs:lw=>s.cps.toList) r▸q _)) λ_=>pr
def FP(h:Km c.g p.F o (O u)):∃w,o=O w/\Rd c.g p.F w u:=h
def Nb{v:N V}:Km c.g p.F o v->o.isSome=v.isSome:=pm (λh=>(h)▸Z) (λv h=>by obtain⟨w,h,_⟩:=h;exact h▸Z) v
def TQ(r:bC c p L)(m:Rd c.g p.F y i):qz cn i=O u->g7 c.g p t cn->MZ c (.ref t) y p L u:=Cn.casesOn cn (λa e d=>bL e λn a e=>by obtain⟨f,k,h,z,f⟩:=d;obtain⟨o,g⟩:=Sz a m;obtain⟨s,a,j⟩:=cD.get f (il (ot _ _) e);rw[g];exact⟨⟨"list",_,⟨_,h,Z⟩,E7⟩,λQ E q=>rk ⟨_,h,Z,_,Z⟩ (eM n) (jn (jM (zM (wG a) z))) (BO.trans a) (q _ _ (.refl r) j)⟩) (λw e d=>bL e λk n e=>by obtain⟨A,h,z,f⟩:=d;obtain⟨o,g⟩:=HI n m;obtain⟨s,a,j⟩:=FP (e▸Aq k f);rw[g];exact⟨⟨"dict",_,h.typeIs,e6.lookup⟩,λQ E q=>BB int_is h.mapOf a (q.tok r j _)⟩) (λw e d=>bL e λl n e=>by obtain⟨A,h,z,_,f⟩:=d;obtain⟨k,o,g,d,_⟩:=HJ n m;rw[<-d]at e;obtain⟨s,a,j⟩:=FP (e▸HX k f);rw[g];exact⟨⟨"dict",_,h.typeIs,e6.lookup⟩,λQ E q=>BB str_is h.mapOf a (q.tok r j _)⟩) λ_=>aa
def ò(c:Cx)(p:Pt)(a:u8)(x y:bv)(b:I):=∀(Q:aT)(E:aT),(∀k,Q (.bool b) {p.s with toks:=k})->he (M' c) c.A (CB a x y) Q E p.s
def s9(d:g7 c.g p t (.kX a))(e:a.isEmpty):p.h.DictOf (No c.g.prog c.g.w) t []:=by refine gq λP a=>?_;obtain⟨f,h,_,f,_⟩:=d;have d:=vD.mp (f.trans (ah (b? (·.1)) (cO.mp e)));rw[d]at h;obtain⟨o,d,e,f,g,j,_,k,_⟩:=h;refine a ?_;(have a:=by have z:=k.length;exact Array.eq_empty_of_size_eq_zero (il zW z));exact⟨o,d,e,f,g,j,λx d=>by rw[a]at d;exact ch d (Array.not_mem_empty x),by rw[a];exact .nil,zU⟩
def ZV(a:(t==Do)=J)(j:Rd c.g p.F y i):vR cn i=O b->g7 c.g p t cn->ò c p .In y (.ref t) b/\ò c p .NotIn y (.ref t) !b:=
 Cn.casesOn cn bX (λr e d=>md e (λk f e=>by
   obtain⟨s,h,z,m⟩:=d;obtain⟨n,g⟩:=HI f j;have G:=(Nb (Aq k m)).trans (au e);rw[g,<-G];exact⟨λQ E q=>n? int_is a h.mapOf (q _),λQ E q=>hI int_is a h.mapOf (q _)⟩) λ_ e=>bW e λo e=>iJ e λl f e=>by
   obtain⟨k,n,g,_,_⟩:=HJ f j;rw[g,<-e];exact⟨λQ E q=>n? str_is a (s9 d o).mapOf (q _),λQ E q=>hI str_is a (s9 d o).mapOf (q _)⟩)
  (λr e d=>iJ e λl f e=>by obtain⟨s,h,z,_,m⟩:=d;obtain⟨k,n,g,d,_⟩:=HJ f j;rw[<-d]at e;have G:=(Nb (HX k m)).trans e;rw[g,<-G];exact⟨λQ E q=>n? str_is a h.mapOf (q _),λQ E q=>hI str_is a h.mapOf (q _)⟩) λ_=>aa
def O_{a:Type}(c:Cx)(m:e5 a)(p:Pt)(t:ii)(H:Cn)(K:a->Prop):=∀(Q:a->ge->Prop)(E:aT),(∀a k x,v1 t p.h a->g7 c.g (p.up a k p.F p.ow) t H->K x->Q x {p.s with heap:=a,toks:=k})->he (M' c) c.A m Q E p.s
def Nc(h:bd n 900000):n+1<=lim:=ay (eN (cw h)) (aO Z)
def Kr(j:ig k)(h:∀d∈e,ig d.1):∀d∈mm e k x,ig d.1:=λd a=>by unfold mm at a;by_cases q:(e.any λe=>a? (e.1=k))=U;rw[eP q]at a;obtain⟨f,g,e⟩:=eO.mp a;by_cases z:f.1=k;rw[eP z]at e;exact e▸h f g;rw[eH z]at e;exact e▸h f g;rw[eH q]at a;exact(gX.mp a).elim (h d) λz=>(eC.mp z)▸j
def ZW(s:Rd c.g p.F y i)(w:Rd c.g p.F x v):yU cn i v=O H->g7 c.g p t cn->O_ c (setItem (.ref t) y x) p t H λ_=>mf:=
 Cn.casesOn cn bX (λz e r=>md e (λk d e=>bW e λf e=>by
   obtain⟨h,j,A,a⟩:=r;obtain⟨E,m⟩:=HI d s;have a:LW c.g p.F h z:=a;rw[aB,<-a.len]at f;rw[m,<-au e];exact λQ F q=>d? int_is j (λn g o=>q n _ _ o ⟨_,g,ay (B2 h k x) (Nc f),LW.put w a (wL j)⟩ trivial) (ay A bI)) λ_ e=>bW e λG e=>iJ e λl d e=>by
   obtain⟨k,E,m,f,B⟩:=HJ d s;rw[m,<-e,<-f];exact λQ F q=>d? str_is (s9 r G) (λn g o=>q n _ _ o ⟨_,g,(show 1<=lim by decide),λG g=>(eC.mp (g))▸B,Z,_,_,Z,w,Z⟩ trivial) (aO Z))
  (λz e r=>bL e λl d e=>bW e λf e=>by obtain⟨h,j,A,G,a⟩:=r;obtain⟨k,E,m,d,B⟩:=HJ d s;have a:PZ c.g p.F h z:=a;rw[aB,<-a.len]at f;rw[m,<-au e,<-d];exact λQ F q=>d? str_is j (λn g o=>q n _ _ o ⟨_,g,ay (B2 h k x) (Nc f),Kr B G,rI.put (q:=λl=>cW l k.cps.toList) (Ye k) w a (wL j)⟩ trivial) (ay A bI)) λ_=>aa
def ZX(f:z5 k a=O v)(e:yk c.g p t a):O_ c (delItem (.ref t) (.int k d)) p t (.kX (ye k a)) λ_=>mf:=λQ E q=>by obtain⟨d,h,z,a⟩:=e;obtain⟨e,e,_⟩:=FP (f▸Aq k a);exact wpAny_delItem_slot h.typeIs (aO Z) e7 (call_meetsIn e7 h.typeIs PySem.F.entry_dict_delitem (PySem.F.args_dict_delitem_2 _ _) (meets_dict_delitem_pairs (mI c.g.prog c.g.w) t int_is) ⟨d,h,ay z bI,e▸Z,λd e f=>q d _ _ f ⟨_,e,ay (List.length_filter_le _ _) z,LW.del a (wL h)⟩ trivial⟩)
end
def FQ(f:XV bv->XV bv)(b a:aP)(n:W)(e:f b.toArray=a.toArray):∃c,r2 f (eE b n)=eE a c:=by refine⟨if a.toArray.size==b.toArray.size then n else n+1,?_⟩;show({cls:=.type "list",data:=.seq _ _}:xL)=_;rw[e];rfl
def mC{h:ul}{t:ii}{f:XV bv->XV bv}(d:h.get? t=O (eE a n))(e:f a.toArray=b.toArray):v1 t h (h.update t (r2 f))/\∃c,(h.update t (r2 f)).get? t=O (eE b c):=by obtain⟨c,q⟩:=FQ f a b n e;exact⟨.update ..,c,by rw[nT _ d (by rw[q];rfl),q]⟩
def cD.dropLast(r:cD g F a b):cD g F a.dropLast b.dropLast:=by rw[Hs,Hs,r.length];exact cD.take r _
def cD.one(r:cD g F a [v]):∃w,a=[w]/\Rd g F w v:=by obtain⟨w,l,e,r,n⟩:=r.un;exact⟨w,e.trans (ah _ n),r⟩
def Cy{e:I}(h:n<=Rm):¬(!e&&Builtin.List.listTooLong n)=U:=λa=>ch (aO (ag a λ_ k=>k:a? _=U)) (zY.mpr h)
def lid(G:cQ)(m:W):N ol:=br (ac m G.dT) (O "list.append") (br (ac m G.dD) (O "list.extend") (br (ac m G.qu) (O "list.pop") (gd (ac m G.ew) (O "list.insert"))))
section
variable{c:Cx}{p:Pt}{F:St}{t:ii}{cn B:Cn}{v:V}{vs as:af}{xs ws:aP}{n m:W}{A:ol}
def wM(c:Cx)(p:Pt)(t:ii)(xs:aP)(n:W)(vs:af):=p.h.get? t=O (eE xs n)/\jV xs/\cD c.g p.F xs vs
def Yg(c:Cx)(p:Pt)(t:ii)(A:ol)(ws:aP)(B:Cn)(v:V):=O_ c (dn (.builtin A) (.ref t::ws)) p t B (Rd c.g p.F · v)
def Ks(b:wM c p t xs n vs)(d:cD c.g p.F ws [v])(a:bd (ak vs) 900000):Yg c p t "list.append" ws (.lst (vs++[v])) .none:=λQ E q=>by obtain⟨e,z,r⟩:=b;obtain⟨y,b,f⟩:=cD.one d;rw[aB,<-r.length]at a;rw[b];refine append_at e (λd e b=>q d _ _ e ⟨xs++[y],n+1,?_,?_,r.append ⟨y,[],Z,f,Z⟩⟩ Z) (ay z bI);rw[EZ]at b;exact b;exact ay (cZ aX) (Nc a)
def aeJ{vs:af}(r:cD c.g p.F xs vs){b:aP}(e:cD c.g p.F b a)(d:bd (ak vs+ak a) 900000):xs.length+b.length<=lim:=by rw[aB,aB,<-r.length,<-e.length]at d;exact ay (cw d) (aO Z)
def Kt(h:dq p.F p.h)(b:wM c p t xs n vs)(d:cD c.g p.F ws [v]){a:af}(f:jc v=O a)(g:bd (ak vs+ak a) 900000):Yg c p t "list.extend" ws (.lst (vs++a)) .none:=λQ E q=>by obtain⟨a,z,r⟩:=b;obtain⟨y,i,b⟩:=cD.one d;obtain⟨j,d,k,l,o,e,e⟩:=KX f b;have b:=aeJ r e g;rw[i,l];refine hR ft ⟨_,a,Z⟩ PySem.F.entry_list_extend (PySem.F.args_list_extend_2 _ _) (AutoSeq1.list_extend_list_list_0 t xs.toArray n j d.toArray k (Cy (ay b bI)) (ay z bI) (vI (ay b bI))) ⟨a,h _ _ o,?_⟩;obtain⟨f,g,g⟩:=mC (f:=λx=>x++d.toArray) a (zJ _ _);exact q _ _ _ f ⟨_,_,g,ay (cZ aX) b,r.append e⟩ Z
def ZY(b:wM c p t xs n vs)(d:cD c.g p.F ws [])(a:vs.getLast?=O v):Yg c p t "list.pop" ws (.lst vs.dropLast) v:=λQ E q=>by obtain⟨e,z,r⟩:=b;rw[List.getLast?_eq_getElem?,<-r.length]at a;obtain⟨y,b,f⟩:=r.get a;rw[show ws=[]from d];refine Copied.pop_at e (BO.trans b) (λb d a=>q b _ _ d ⟨xs.dropLast,n+1,?_,?_,r.dropLast⟩ f) (ay z bI);rw[List.pop_toArray]at a;exact a;exact ay (cZ List.length_dropLast) (ay (EM _ _) z)
def TR(b:wM c p t xs n (v::vs))(d:cD c.g p.F ws [.int (0:W)]):Yg c p t "list.pop" ws (.lst vs) v:=λQ E q=>by refine gq λP e=>?_;obtain⟨a,z,r⟩:=b;obtain⟨y,b,k,f⟩:=cD.one d;obtain⟨y0,d,g,h,i⟩:=r.un;refine e ?_;rw[b,f];rw[g]at a z;refine hR hg ⟨_,a,Z⟩ PySem.F.entry_list_pop (PySem.F.args_list_pop_2 _ _) (PySem.MeetsSeq.list_pop_at t (y0::d).toArray n (0) k 0 y0 (aO Z) (ox (pL _) (qp.mpr (C1 _))) Z (ay z bI)) ⟨a,?_⟩;obtain⟨b,d,d⟩:=mC (f:=λxs=>xs.eraseIdxIfInBounds 0) a (List.eraseIdxIfInBounds_toArray _ _);exact q _ _ _ b ⟨_,_,d,n4 z,i⟩ h
def Nd{n:W}(h:n<=lim):¬(!hW (n:D))=U:=by have:hW (n):=jh.mpr ⟨cF (gP (aO Z) (eM n)),cF (jn h)⟩;rw[this];exact yF
def TS(xs:aP)(y:bv)(k:W)(h:k<=xs.length):((λxs:XV bv=>have k:=if(k:D)<0 then((k:D)+(xs.size:D)).toNat else p6 (k:D).toNat xs.size;(xs.extract 0 k).push y++xs.extract k) xs.toArray)=(xs.take k++y::xs.drop k).toArray:=by have a:p6 (k:D).toNat xs.toArray.size=k:=yN h;show((xs.toArray.extract 0 _).push y++xs.toArray.extract _)=_;rw[eH (qZ.mpr (eM k)),a,i_,i_,EZ,zJ,fD,fD,am];have b:List.take (xs.toArray.size-k) _=n_ k xs:=Hr (cZ uh);rw[b];rfl
def Ku(g:wM c p t xs n vs){k:W}(b:cD c.g p.F ws [.int k,v])(a:bd k (ak vs))(e:bd (ak vs) 900000):Yg c p t "list.insert" ws (.lst (pO k v vs)) .none:=λQ E q=>by(refine gq λP h=>?_;obtain⟨d,z,r⟩:=g;obtain⟨y,l,g,⟨i,j⟩,b⟩:=b.un;obtain⟨y2,o,s⟩:=cD.one b;refine h ?_;rw[aB,<-r.length]at a e;have a:=cw a;rw[g,j,o];have f:=Nd (ay a z);have b:=TS xs y2 k a;generalize (k:D)=X at f b ⊢;refine hR fk ⟨_,d,Z⟩ PySem.F.entry_list_insert (PySem.F.args_list_insert_3 _ _ _) (AutoSeq1.list_insert_list_int_val_1 t xs.toArray n X i y2 f (ay z bI)) ⟨d,?_⟩;obtain⟨a,g,g⟩:=mC (f:=λxs:XV bv=>have k:=if X<0 then(X+(xs.size)).toNat else p6 X.toNat xs.size;(xs.extract 0 k).push y2++xs.extract k) d b;refine q _ _ _ a ⟨_,_,g,?_,(cD.take r k).append ⟨y2,_,Z,s,cD.drop r k⟩⟩ Z;have a:(xs.take k++y2::xs.drop k).length=xs.length+1:=by rw[aX,vE,<-fK,<-aX,BR]);exact ay (cZ a) (Nc e)
def TU(x:bC c p F)(b:cD c.g p.F ws as):cX c.G cn m as=O (v,B)->g7 c.g p t cn->∃A,lid c.G m=O A/\Yg c p t A ws B v:=by refine Cn.casesOn cn (λvs e d=>?_) bX bX λ_ _=>pr;obtain⟨xs,n,j,z,u⟩:=d;have d:wM c p t xs n vs:=⟨j,z,u⟩;have fin:∀{A u w},lid c.G m=O A->O (w,u)=O (v,B)->Yg c p t A ws u w->∃A,lid c.G m=O A/\Yg c p t A ws B v:=λi e j=>iy e λq u=>⟨_,i,q▸u▸j⟩;refine jj e (λf e=>ym e λk a e=>bW e λg e=>fin (dM f) e (Ks d (a▸b) g)) λf e=>?_;refine jj e (λh e=>ym e λk a e=>bL e λj j e=>bW e λg e=>fin ((dw f).trans (dM h)) e (Kt x.st d (a▸b) j g)) λh e=>?_;refine jj e (λo e=>?_) λo e=>?_;(have i:lid c.G m=O "list.pop":=(dw f).trans ((dw h).trans (dM o));refine y? e (λa e=>iJ e λy j e=>fin i (ah O e) (ZY d (a▸b) j)) λk t a e=>y? e (λj e=>bL e λr s e=>?_) λ_ _ _=>aa;have b:=(rF s▸j▸a▸b);induction r with|succ r _=>exact aa e|zero=>exact y? (e) bX λy l g e=>fin i e (TR (g▸d) b));exact bW e λg e=>Tz e λk i a e=>bL e λr s e=>bW e λi e=>bW e λj e=>fin ((dw f).trans ((dw h).trans ((dw o).trans (g▸Z)))) e (Ku d (rF s▸a▸b) i j)
def TV(b:c.OK)(a:lid c.G m=O A){o:xL}(i:p.h.get? t=O o)(j:o.cls=.type "list")(k:o.dict=C){g:e5 I}{Q:bv×aP->ge->Prop}{E:aT}{s:ge}(h:s.heap=p.h)(q:Q (.builtin A,[.ref t]) s):he (M' c) c.A (e! (.ref t) (c.g.nm m) g) Q E s:=by(have d:∀{n:W}{e f:ol},Slot "list" e f->typeOf _=H1 _->c.g.nm n=(e)->ac m n->O f=O A->he (M' c) c.A (e! (.ref t) (c.g.nm m) g) Q E s:=λ{n e f}f g en l e=>by rw[aK l,en];rw[au e]at f g;exact v? ⟨o,h▸i,j⟩ PySem.F.plainAttrs_list f g (λf e=>⟨o,by rw[<-ef e,h];exact i,k⟩) q);refine jj a (d PySem.F.slot_list_append PySem.F.type_list_append b.kf.dT) λ_ a=>jj a (d ft PySem.F.type_list_extend b.kf.dD) λ_ a=>jj a (d hg PySem.F.type_list_pop b.kf.qu) λ_ a=>bW a (d fk PySem.F.type_list_insert b.kf.ew)
end
section
variable{c:Cx}{g:fC}{p p':Pt}{σ L:St}{pg:PG}{t:ii}{cn cn':Cn}{T:Ow->Prop}{Q:nW}{R:af}{gen' k:W}{h':ul}{pl:Pl}{q:PA}{a x:W}
def kJ.aeK(X:kJ T p p')(y:qQ g p pg)(e:¬T .par)(f:¬T .dict)(j:Q.length=pg.par.length)(l:∀b n,pV g p pg.par b n->∀d,wk g p' b d (aj d Q))(m:g.rC->p'.ow g.aG=O .aG/\wj g p' g.aG R):qQ g p' ⟨Q,R,gen'⟩:=⟨X.own,λo=>by obtain⟨h,i,r,b,n,d⟩:=y.par o;exact⟨X.ko _ _ h e,X.ko _ _ i f,X.k' h e r,b,n,X.k' i f d.at_,d.len.trans j.symm,d.lim,d.key,l b n d⟩,m⟩
def kJ.bU(X:kJ T p p'){d:gS}{b:W}{q:N PA}(n:¬T (.bU b))(h:wk g p d b q):wk g p' d b q:=h.to (λ_ _ o=>X.k' o n) (λ_ o=>X.ko _ _ o n) X.le
def kJ.aG(X:kJ T p p')(y:qQ g p pg)(n:¬T .aG)(b:g.rC):p'.ow g.aG=O .aG/\wj g p' g.aG pg.aG:=have h:=y.aG b;⟨X.ko _ _ h.1 n,h.2.to (λ_=>X.k' h.1 n) X.le⟩
def HY(k:Ow):W:=Ow.casesOn (motive:=λ_=>W) k 0 (λ_=>1) 2 3 (λ_=>4) 5 6
def bx{k:Ow}(h:ac (HY j) (HY k)=J)(e:j=k):Ch:=ao (il h (e▸cf _))
def g7.ex:g7 g p t cn->∃o,p.h.get? t=O o:=Cn.casesOn cn (λ_ h=>by obtain⟨_,_,h,_⟩:=h;exact⟨_,h⟩) (λ_ h=>by obtain⟨_,h,_⟩:=h;obtain⟨o,_,_,h,_⟩:=h;exact⟨o,h⟩) (λ_ h=>by obtain⟨_,h,_⟩:=h;obtain⟨o,_,_,h,_⟩:=h;exact⟨o,h⟩) λ_=>pr
def kM{b:Type}{l:Y (W×b)}{v w:b}(e:aj a l=O v):(put a w l).length=l.length:=by induction l with|nil=>exact aa e|cons p l d=>by_cases h:ac p.1 a=U;rw[FA h];rfl;have h:=d8.mpr h;rw[Af h];exact ah pp (d (il (dH h) e))
def ZZ:BW q->kN (O q)=O C/\∀b,wk g p b a (O q)->g.bw a/\∃t,d4 (g.nm a) b=O (O (.ref t))/\p.ow t=O (.bU a):=
 have d:∀{b:gS}{cn:Cn},(g.bw a/\∃w,d4 (g.nm a) b=O (O w)/\qC g p a w cn)->g.bw a/\∃t,d4 (g.nm a) b=O (O (.ref t))/\p.ow t=O (.bU a):=λh=>by obtain⟨i,w,h,t,e,o,_⟩:=h;exact⟨i,t,e▸h,o⟩
 PA.casesOn q aV (λ_ _=>⟨Z,λ_=>d⟩) (λ_ _=>⟨Z,λ_=>d⟩) (λ_ _=>⟨Z,λ_=>d⟩) λ_ _=>⟨Z,λ_=>d⟩
def TX:kN (O (vP cn))=O C:=Cn.casesOn cn (λ_=>Z) (λ_=>Z) (λ_=>Z) λ_=>Z
def HZ:qC g p a w cn->yl g p a w (vP cn):=Cn.casesOn cn (λ_=>id) (λ_=>id) (λ_=>id) λ_=>id
def Z0{vs:af}{P:Prop}{f:af->N St}:yd cn C (ls:=f)=O L->(∀vs,cn=.lst vs->f vs=O L->P)->P:=Cn.casesOn cn (λvs e k=>k vs Z e) bX bX λ_=>aa
def aeL{b:I}(h:br b C y=O L):b=J/\y=O L:=jj h bX λh e=>⟨h,e⟩
def Nf{b:I}(h:b=J){k:Ow}(n:EE J (O k)=J)(w:Ow)(e:EE b (O w))(q:w=k):Ch:=ao (il n (q▸h▸e))
def vc(r:bC c p σ)(d:wK c p σ pl t)(v:v1 t p.h h')(j:g7 c.g (p.up h' k p.F p.ow) t cn')(e:hU c.G.ro σ pl cn'=O L):Nx c p σ.pg (p.up h' k p.F p.ow) L:=by obtain⟨y,e⟩:=aeL e;obtain⟨o,A⟩:=j.ex;refine Pl.casesOn pl (λx d e=>?_) (λa d e=>?_) d e;obtain⟨m,u,m⟩:=d;obtain⟨b,E,H⟩:=r.loc;refine Z0 (vs:=[]) e λvs f e=>bL e λl b e=>?_;have h:=H x;rw[b,Ao E u]at h;rw[f]at j;refine LV.casesOn l (λb h e=>bW e λf e=>?_) (λb h e=>?_) h e;obtain⟨w,n,b⟩:=h;have b:=Rd.as (sZ f) b;have q:=ef (au (il (b.1▸n) m));have T:=r.pg.aG b.2;have S:kJ (λw=>w=.aG) p (p.up h' k p.F p.ow):=kJ.turn r.pg.own v (q▸T.1) A;rw[<-au e];exact⟨S.ext (Nf y Z) (aU _) λ_=>⟨λ_=>Z,λa s o=>o⟩,S.rel r (S.aeK r.pg (bx Z) (bx Z) Z (λF G f b=>S.bU (bx Z) (f.bU b)) λ_=>⟨T.1,q▸j⟩) λw B=>B▸Z⟩;obtain⟨s,n,i,_⟩:=h;have q:=ef (au (il n m));have S:kJ (λw=>w=.loc x) p (p.up h' k p.F p.ow):=kJ.turn r.pg.own v (q▸i) A;rw[<-au e];refine⟨S.ext (Nf y Z) (aU _) λ_=>⟨λ_=>Z,λa s o=>o⟩,S.MS r (λw h e=>FL h e) (u.at λ_=>S.k' r.kx (bx Z)) λb=>?_⟩;by_cases z:b=x;rw[z,show aj x (put x (.own vs) σ.loc)=_ from dk];exact⟨t,m,q▸i,j⟩;rw[show aj b (put x (.own vs) σ.loc)=_ from bZ z];exact(Ao E u▸H b).to S Z λh=>z (Am h);refine bL e λq u e=>bW e λH e=>?_;have E:=@ZZ c.g p q a H;(have i:=by have d:pY c p a t (kN (aj a σ.pg.par)):=d;rw[u,E.1]at d;exact d);have S:kJ (λw=>w=.bU a) p (p.up h' k p.F p.ow):=kJ.turn r.pg.own v i A;rw[<-au e];refine⟨S.ext (Nf y Z) (aU _) λ_=>⟨λb=>?_,λa s o=>o⟩,S.rel r (S.aeK r.pg (bx Z) (bx Z) (kM u) (λF G f b=>?_) (S.aG r.pg (bx Z))) λw B=>B▸Z⟩;show kN (aj b (put a (vP cn') σ.pg.par))=_;by_cases z:b=a;rw[z,dk,u,E.1,TX];rw[bZ z];by_cases z:b=a;rw[z,dk];have f:=f.bU a;rw[u]at f;obtain⟨d,s,m,n⟩:=E.2 F f;have y:=r.pg.own.inj _ _ _ n i (bx Z);exact⟨d,.ref t,y▸m,HZ ⟨t,Z,i,j⟩⟩;rw[bZ z];exact S.bU (λh=>z (HV h)) (f.bU b)
end
def SA(c:Cx)(b:N Pl)(e:Expr):=∀a,b=O a->Bv c a e
section
variable{c:Cx}{p p1 p2:Pt}{σ σ1 σ2 L:St}{pg:PG}{u v w:V}{t:I}{e ea eb:Expr}{f o i:fc}{pos:ww}{po:N Pl}{a x:W}{pc:Pl×Cn}
def tb(j:c.OK)(r:bC c p σ)(b:SA c po e)(h:gA c.G c.lv σ po=O pc):Bv c pc.1 e/\∃t,ZR c p σ pc.1 e pc.2 t:=bL h λd g h=>iJ h λk k h=>h▸⟨b d g,mA j r (b d g) k⟩
def g7.tok{t:ii}(k:W)(h:g7 c.g p t b):g7 c.g (p.up p.h k p.F p.ow) t b:=h.to (λ_=>id) λ_ _=>id
def Ng(b:c.OK)(g:FJ c e)(d:SA c po e)(r:bC c p σ){k:mi}(h:vT c.G c.lv t po σ k=O (v,L))(K:k=O (v,L)->P1 c t e p σ.pg L v):P1 c t e p σ.pg L v:=by induction t with|false=>exact K h|true=>exact md h (λpc h e=>iy e λq j=>q▸j▸λQ E q=>by obtain⟨_,t,P⟩:=tb b r d h;exact ri (P.ev _ _ λk=>Na P.ns (P.at_.tok k) _ _ λj=>q _ _ Z (Nx.toks r j)) g) λ_=>K
def Z5(b:c.OK)(d:s8 c x):SE c (BZ c.G c.lv x) (.Name (c.g.nm x) pos):=λt p σ v L e r=>Ng b Z (po:=O (.loc x)) (λg h=>(au h)▸(⟨d,pos,Z⟩)) r e λe=>aQ e λg σ1 g e=>mode b Z e λQ E q=>qY (Yc b r g Q E q) d
def wN:dJ e->a8 e b d m=m:=by
 refine@Expr.casesOn (λe=>dJ e=U->a8 e b d m=m) e ?_ ?_ ?_ ?_ ?_ ?_ ?_ ?_ ?_ ?_ ?_ ?_ ?_ ?_ ?_ ?_ (λf g h p=>?_) ?_ ?_ ?_ ?_ ?_ ?_ ?_ ?_ ?_ ?_
 case refine_17=>
  refine@Expr.casesOn (λf=>dJ (.Call f g h p)=U->a8 (.Call f g h p) b d m=m) f ?_ ?_ ?_ ?_ ?_ ?_ ?_ ?_ ?_ ?_ ?_ ?_ ?_ ?_ ?_ ?_ ?_ ?_ ?_ ?_ ?_ ?_ ?_ ?_ ?_ ?_ ?_
  case refine_24=>
   intro s q j
   induction g with
   |cons _ _ _=>rfl
   |nil=>induction h with
    |cons _ _ _=>rfl
    |nil=>exact ao j
  all_goals (intros;rfl)
 all_goals (intros;rfl)
def uR{s:ge}(g:dJ ea)(h:he (M' c) c.A (Db ea c.env) (λo d=>he (M' c) c.A (getAttr o b U) Q E d) E s):he (M' c) c.A (Db (.Attribute ea b pos) c.env) Q E s:=Attribute_any_ h (by rw[arm_eval_Attribute,wN g])
def Z6(b:c.OK)(d:SA c po (.Attribute ea (c.g.nm a) pos))(g:dJ ea)(h:SE c o ea):SE c (S2 c.G c.lv po o a) (.Attribute ea (c.g.nm a) pos):=λt p σ v L e r=>Ng b Z d r e λe=>aQ e λd σ1 d e=>bL e λu j e=>mode b Z e λQ E q=>uR g (h.val d r _ _ λp1 x d g=>(aeI b d.rel j g).next d q E)
def zd{o iv:bv}:jC e->od e J o iv=operate [o,iv] (getItem o iv):=by apply@Expr.casesOn (λe=>jC e=U->od e J o iv=operate [o,iv] _) e<;>intros<;>first|rfl|exact ao ‹_›
def ZR.again(h:c.OK)(r:bC c p σ){b:Pl}{g d:Cn}{t:ii}(P:ZR c p σ b e g t)(j:Bv c b e)(n:Nx c p σ.pg p1 σ1)(l:calm σ σ1)(k:iS c.G c.lv σ1 b=O d):ZR c p1 σ1 b e d t:=by obtain⟨b,b⟩:=mA h n.rel j k;exact(wK.det n.rel (P.is.step n r l) b.is)▸b
def Z7(d:c.OK)(b:SA c po ea)(z:SE c o ea)(n:SE c i eb)(s:jC eb):SE c (S9 c.G c.lv po o i) (.Subscript ea eb pos):=λt p σ v L e r=>
 md e (λpc k e=>aQ e λA σ1 g e=>bW e λB e=>bL e λh h e=>bL e λw j e=>mode d Z e λQ E q=>by
  obtain⟨F,t,P⟩:=tb d r b k
  exact ú (P.ev _ _ λl=>n.val g (r.toks l) _ _ λp2 H b k=>by have y:=(Nx.toks r l).trans b;obtain⟨⟨T,K,l,m⟩,G⟩:=TQ b.rel k j (P.again d r F y B h).at_;exact tail_any l m (G.next y q E) (zd s)))
 λ_ e=>aQ e λA σ1 g e=>aQ e λy σ2 h e=>bL e λw j e=>mode d Z e λQ E q=>ú (z.val g r _ _ λp1 x d g=>n.val h d.rel _ _ λp2 H b k=>by obtain⟨⟨T,K,l,m⟩,G⟩:=M0 b.rel k j (g.bS b.ext.le);exact tail_any l m (G.next (d.trans b) q E) (zd s))
def ó(c:Cx)(g:u8)(ea:Expr)(w:bv)(p:Pt)(pg:PG)(L:St)(d:I)(R:Pt->bv->Prop):=∀(Q:bv->bv->ge->Prop)(E:aT),(∀b y,Nx c p pg b L->R b y->Q (.bool d) y b.s)->he (M' c) c.A (Db ea c.env) (λy b=>he (M' c) c.A (CB g w y) (λz d=>Q z y d) E b) E p.s
def Q0(c:Cx)(w:bv)(b:Y u8)(d:bM)(p:Pt)(pg:PG)(L:St)(g:I):=∀pos,pE c (compareChain pos w b (RE d c.env)) p pg L (.bool g)/\A! c (testChain pos w b (RE d c.env)) p pg L (.bool g)
def H0(c:Cx)(f:XQ)(g:bM):=∀v b p σ d L w,f v b σ=O (d,L)->bC c p σ->Rd c.g p.F w v->Q0 c w b g p σ.pg L d
def H8{b:I}{w:bv}{R:Pt->bv->Prop}(h:ó c d ea w p pg L b R):Q0 c w [d] [ea] p pg L b:=λ_=> ⟨λQ E q=>chain_last (h (λz _ s=>Q z s) E λd y n _=>q d _ n Z),λQ E q=>test_last (h (λz _ s=>he _ c.A _ Q E s) E λd y n _=>zS (q d b Z n))⟩
def TY{g j:u8}{l:bM}{d b:I}{w:bv}{R:Pt->bv->Prop}(m:ó c g ea w p pg σ1 d R)(H:d->∀p1 y,Nx c p pg p1 σ1->R p1 y->Q0 c y (j::k) (eb::l) p1 σ1.pg L b)(h:d=J->J=b/\σ1=L):Q0 c w (g::j::k) (ea::eb::l) p pg L b:=λpos=>
 ⟨λQ E q=>chain_link (m (λz y s=>he _ c.A _ (λt g=>if t=U then he _ c.A _ Q E g else Q z g) E s) E λp1 y d j=>zS (y9 (λb=>(H b p1 y d j pos).1.next d q E) λb=>q p1 _ ((h b).2▸d) ((h b).1▸b▸Z))),
 λQ E q=>test_link (m (λz y s=>he _ c.A _ (λt g=>if t=U then he _ c.A _ Q E g else Q J g) E s) E λp1 y d j=>zS (y9 (λb=>(H b p1 y d j pos).2.next d q E) λb=>q p1 _ (ah V.bool (h b).1.symm) ((h b).2▸d)))⟩
def aeM(j:c.OK){b:u8}{d:I}{w:bv}(h:SE c f ea)(g:f J σ=O (u,σ1))(r:bC c p σ)(k:Rd c.g p.F w v)(e:ph b v u=O d):ó c b ea w p σ.pg σ1 d λb y=>Rd c.g b.F y u:=λQ E q=>h.val g r _ _ λp1 y b d=>aex j b.rel (k.bS b.ext.le) d e _ _ (q p1 y b d)
def TZ{ob:fQ}{g:I}{P:u8->I->Prop}(h:∀d,ob=O d->P .In d/\P .NotIn !d):Fm b ob=O g->P b g:=py b aa aa aa aa aa aa aa aa (λe=>(h g e).1) λe=>iJ e λd b q=>q▸(h d b).2
def Nh(m:c.OK){g:XQ}{d:I}{b:bM}(z:SA c po ea)(A:SE c f ea)(n:d->b=[])(k:d=J->∃eb l,b=eb::l/\H0 c g b):H0 c (B3 c.G c.lv d po f g) (ea::b):=λv b p σ B L w e r s=>mZ e λy b b e=>b▸md e (λpc k e=>lh e λd e=>d▸bW e λg e=>iJ e λj b e=>iy (ah O e) λq h=>q▸h▸n g▸by obtain⟨_,t,P⟩:=tb m r z k;exact H8 (R:=λ_ _=>mf) λQ E q=>P.ev _ _ λz=>TZ (P:=λy j=>ò c (p.up p.h z p.F p.ow) y w _ j) (λj b=>ZV P.ns s b (P.at_.tok z)) b _ _ λy=>q _ _ (Nx.toks r y) trivial) λ_ e=>aQ e λu σ1 y e=>bL e λj j e=>by have H:=aeM m A y r s j;refine jj e (λg e=>lh e λd e=>iy e λq h=>q▸h▸d▸n g▸H8 H) λg e=>mZ e λj j d e=>?_;obtain⟨eb,l,m,j⟩:=k g;rw[m]at j ⊢;rw[d]at e ⊢;exact TY H (λb p1 y d g=>j u _ p1 σ1 B L y (il (dM b) e) d.rel g) λb=>iy (il (dw b) e) λq h=>⟨q,h⟩
def Z8(j:SE c f ea)(k:H0 c g d)(h:B! b d=J):SE c (Mw f g b) (.Compare ea b d pos):=λt p σ v L e r=>by
 refine aQ e λu σ1 l e=>aQ e λb σ2 m e=>iy e λq b=>q▸b▸?_
 induction t with
 |false=> refine λQ E q=>?_;rw[arm_eval_Compare,R' _ _ _ h];exact bR (j.val l r _ _ λp1 w b d=>(k _ _ _ _ _ _ _ m b.rel d pos).1.next b q E)
 |true=> refine λQ E q=>?_;rw[arm_isTrue_Compare,R' _ _ _ h];exact bR (j.val l r _ _ λp1 w b d=>(k _ _ _ _ _ _ _ m b.rel d pos).2.next b q E)
end
def gM(k:N Ow):I:=oc k (λk=>Ow.casesOn (motive:=λ_=>I) k U aaF J J aaE J J) J
open Classical in
def vw(p:Pt):Pt:={p with ow:=λa=>if gM (p.ow a)=U then O .ck else p.ow a}
open Classical in
def bk(p b:Pt):Pt:={b with ow:=λa=>if gM (p.ow a)=U then p.ow a else b.ow a}
def pF(p:Pt):=∀a,gM (p.ow a)=J
section
variable{g:fC}{c:Cx}{p u:Pt}{pg z:PG}{A:St}{a:ii}{k w:Ow}
def T3(h:gM (p.ow a)):(vw p).ow a=O .ck:=eP h
def uS(h:gM (p.ow a)=J):(vw p).ow a=p.ow a:=eH (d8.mp h)
def FR(h:gM (p.ow a)):(bk p u).ow a=p.ow a:=eP h
def Ar(h:gM (p.ow a)=J):(bk p u).ow a=u.ow a:=eH (d8.mp h)
def m7(k:N Ow):gM k=U∨gM k=J:=by cases gM k with|true=>exact .inl Z|false=>exact .inr Z
def wO(h:p.ow a=O k)(n:gM (O k)=J):gM (p.ow a)=J:=h▸n
def ou(h:O .ck=O k):k=.ck:=(au h).symm
def rJ(h:shared w):gM (O w)=J/\w≠.ck:=Ow.casesOn w ao aV (λ_=>⟨Z,bx Z⟩) (λ_=>⟨Z,bx Z⟩) (λ_ _=>⟨Z,bx Z⟩) (λ_=>⟨Z,bx Z⟩) ao h
def Ni:pF (vw p):=λa=>(m7 _).elim (λh=>(T3 h).symm▸Z) λh=>(uS h).symm▸h
def H9(h:(vw p).ow a=O k):k=.ck∨(gM (p.ow a)=J/\p.ow a=O k):=(m7 _).elim (λq=>.inl (ou (il (T3 q) h))) λq=>.inr ⟨q,il (uS q) h⟩
def T4(h:p.ow a=C):(vw p).ow a=C:=(uS (h▸Z)).trans h
def Nj(x:Own p):Own (vw p):=⟨λa o f=>⟨(x.fz a o f).1,T4 (x.fz a o f).2⟩,λa k h=>(m7 _).elim (λq=>by cases e:p.ow a with|none=>rw[e]at q;exact ao q|some j=>exact x.sJ a j e) λq=>x.sJ a k (il (uS q) h),λa b k h d n=>(H9 h).elim (λq=>ch q n) λq=>(H9 d).elim (λq=>ch q n) λd=>x.inj a b k q.2 d.2 n⟩
def aeN(x:qQ g p pg):qQ g (vw p) pg:=x.to (Nj x.own) (λ_ _ _ _ _=>id) (λa w h s=>(uS (wO h (rJ s).1)).trans h) λ_ _=>id
abbrev uT(p:Pt)(pg:PG)(u:Pt)(z:PG):Prop:=Ext (lg J) p pg u z
variable(x:uT (vw p) pg u z)
def Yh(h:gM (p.ow a)):u.ow a=O .ck:=(x.ck a).mp (T3 h)
def aeO(h:u.ow a=O w)(s:w≠.ck):gM (p.ow a)=J:=(m7 _).elim (λq=>ch (ou (il (Yh x q) h)) s) id
def Z9(o:Own p)(b:Own u)(l:pF u):Own (bk p u):=have d:∀{a k},(bk p u).ow a=O k->(p.ow a=O k/\gM (O k)=U)∨(u.ow a=O k/\gM _=J):=λ{a k}h=>(m7 _).elim (λq=>.inl (il (FR q) h|>λe=>⟨e,e▸q⟩)) λq=>.inr (il (Ar q) h|>λe=>⟨e,e▸l a⟩);⟨λa o h=>⟨(b.fz a o h).1,(m7 _).elim (λq=>ch (il (Yh x q) (b.fz a o h).2) (yG _)) λq=>(Ar q).trans (b.fz a o h).2⟩,λa k h=>(d h).elim (λq=>by obtain⟨y,e⟩:=o.sJ a k q.1;exact x.ex a y e) λq=>b.sJ a k q.1,λa e k h f n=>(d h).elim (λq=>(d f).elim (λr=>o.inj a e k q.1 r.1 n) λr=>ao (il r.2 q.2)) λq=>(d f).elim (λr=>ao (il q.2 r.2)) λr=>b.inj a e k q.1 r.1 n⟩
def As(h:gM (p.ow a)){o:xL}(e:p.h.get? a=O o):u.h.get? a=O o:=x.keep a o e ((T3 h).symm▸Z)
def aeP(o:Own p)(y:qQ g u z)(l:pF u):qQ g (bk p u) z:=y.to (Z9 x o y.own l) (λ_ _ _ _ _=>id) (λa w h s=>(Ar (aeO x h (rJ s).2)).trans h) λ_ _=>id
def aeQ(h:p.ow a=O k)(i:gM (O k)):gM (p.ow a):=h▸i
def Nl(l:pF u):Ext (EE J) p pg (bk p u) z where
 le:=x.le
 sh:=x.sh
 keep:=λa o e k=>(m7 _).elim (λq=>As x q e) λq=>x.keep a o e ((uS q).symm▸(by
  cases h:p.ow a with
  |none=>rfl
  |some j=> rw[h]at k q;exact Ow.casesOn j (λ_ h=>ao h.symm) aV ao ao aV ao (λ_ _=>Z) k q))
 ex:=x.ex
 to:=λa o e=>(m7 _).elim (λq=>.inl (FR q)) λq=>(x.to a o e).imp (λh=>(Ar q).trans (h.trans (uS q))) λh=>(Ar q).trans h
 ck:=λa=>(m7 _).elim (λq=>⟨λh=>ao (show gM (O .ck)from h▸q),λh=>ao (show gM (O .ck)from(il (FR q) h)▸q)⟩) λq=>⟨λh=>(Ar q).trans ((x.ck a).mp ((uS q).trans h)),λh=>il (uS q) ((x.ck a).mpr (il (Ar q) h))⟩
 kx:=λa=>(m7 _).elim (λq=>⟨(FR q).trans,il (FR q)⟩) λq=>⟨λh=>ao (il q (h▸Z)),λh=>ao (il (l a) ((il (Ar q) h)▸Z))⟩
 bD:=x.bD
 calm:=λe=>⟨(x.calm e).1,λa t h=>have q:=wO h Z;(Ar q).trans ((x.calm e).2 a t ((uS q).trans h))⟩
def Nm(x:uT (vw p) A.pg u z)(r:bC c p A)(y:qQ c.g u z)(l:pF u):bC c (bk p u) ⟨A.loc,z⟩:=by obtain⟨m,d,e⟩:=r.loc;have b:=aeQ r.kx Z;refine⟨aeP x r.pg.own y l,(FR b).trans r.kx,⟨m,d.at λ_=>As x b,λa=>?_⟩,λa o h=>x.le a o (r.base a o h)⟩;refine pm id (λl=>LV.casesOn l (λv h=>?_) λb h=>?_) (aj a A.loc) (e a);obtain⟨w,e,b⟩:=h;exact⟨w,e,b.bS x.le⟩;obtain⟨t,e,o,h⟩:=h;have q:=aeQ o Z;exact⟨t,e,(FR q).trans o,h.to (λ_=>As x q) x.le⟩
end
def oy(g:fC)(F:bl)(a:je)(b:aY):=a.map (·.1)=b.map (λk=>g.nm k.1)/\cD g F (a.map (·.2)) (b.map (·.2))
def oy.of:∀{c:aP}{b:af}{d:aY},cD g F c b->z6 a b=O d->oy g F ((a.map g.nm).zip c) d:=by induction a with|nil=>exact λr e=>lh e λh e=>au e▸⟨Z,Z⟩|cons k a f=> refine λ{c b d}r e=>mZ (e) λv b h e=>iJ e λa a e=>?_;rw[h]at r;obtain⟨w,l,q,r,b⟩:=r.un;rw[q,<-e];have H:=f b a;exact⟨ah _ H.1,w,_,Z,r,H.2⟩
def fT(g:fC)(B:bl)(A:v6)(h:bv)(i:aP)(run:af->aY->PG->dR):=∀a d b v c,run a d b=O (v,c)->∀(p:Pt)e f,pF p->qQ g p b->B.le p.F->cD g p.F e a->oy g p.F f d->∀R:ep->ge->Prop,(∀a x,pF a->uT p b a c->qQ g a c->Rd g a.F x v->R (.ok (.ret x)) a.s)->Uf (WF g.prog g.w) A (.call h ⟨i++e,f⟩) R p.s
section
variable{c:Cx}{p:Pt}{g:St}{f:bv}{pre ws:aP}{run:af->aY->PG->dR}{as:af}{ks:aY}{v:V}{d:PG}{kws:je}
variable(h:c.G.ro=J)(r:bC c p g)(H:fT c.g c.B c.A f pre run)(e:run as ks g.pg=O (v,d))(i:cD c.g p.F ws as)(j:oy c.g p.F kws ks)
def call_K(R:ep->ge->Prop)(q:∀a x,Nx c p g.pg a ⟨g.loc,d⟩->Rd c.g a.F x v->R (.ok (.ret x)) a.s):Uf (M' c) c.A (.call f ⟨pre++ws,kws⟩) R p.s:=H as ks g.pg v d e _ ws kws Ni (aeN r.pg) r.base i j _ λa x l X y b=>q (bk p a) x ⟨h▸Nl X l,Nm X r y l⟩ b
def FT:pE c (dn f (pre++ws) kws) p g.pg ⟨g.loc,d⟩ v:=λQ E q=>sR (call_K h r H e i j _ q)
end
structure Sx(c:Cx)(p:Pt)(pg:PG)(p':Pt)(σ':St):Prop where
 ext:Ext (lg c.G.ro) p pg p' σ'.pg
 rel:bC c p' σ'
def Nn(g:fC)(F:bl)(a:Flow)(b:Fl):=vN b (a=.next) (a=.brk) λv=>∃w,a=.ret w/\Rd g F w v
abbrev yn:=Flow->ge->Prop
def KS(c:Cx)(p:Pt)(d:PG)(e:St)(f:Fl)(Q:yn):=∀a b,Sx c p d a e->Nn c.g a.F b f->Q b a.s
def O?(c:Cx)(m:e5 Flow)(p:Pt)(a:PG)(b:St)(d:Fl):=∀(Q:yn)(E:aT),KS c p a b d Q->he (M' c) c.A m Q E p.s
def SS(c:Cx)(f:gB)(e:a9):=∀p a b d,f a=O (b,d)->bC c p a->O? c (exec e c.env) p a.pg d b
structure Cx.Calls(c:Cx):Prop where
 av:∀m,c.g.dj->c.g.isFn m->fT c.g c.B c.A (.ref (c.g.fnAt m)) [.ref c.g.par] (c.G.av m)
 func:∀f,c.g.isFn f->fT c.g c.B c.A (.ref (c.g.fnAt f)) [] (c.G.func f)
 Yi:∀k,c.g.jz k->fT c.g c.B c.A (.ref (c.g.cU k)) [] λas ks pg=>mp (make c.G k as ks) (·,pg)
 sup:∀m xs e,eK c.g.nm (.sup m xs) e->SE c (Fj c.G m (c! c.G c.lv xs).l) e
 comp:∀elt y it cs e,eK c.g.nm (.comp elt y it cs) e->SE c (uv c.G c.lv elt y it cs) e
 setC:∀x elt y it cs e,aq c.lv x->XU c.g.nm (.setC x elt y it cs) e->SS c (yX c.G c.lv x elt y it cs) e
section
variable{M:o?}{A:v6}{E:aT}{s:ge}
def Au{i:bv}{b:Y (I×e5 bv)}{Q:Args->ge->Prop}(j:b.any (·.1)=J)(c:a.all (·.1.isSome))
 (h:he M A (spliced b) (λd g=>he M A (evalAll (a.map (·.2))) (λe f=>Q ⟨d,(a.filterMap (·.1)).zip e⟩ f) E g) E s):he M A (evalArgs i U b a) Q E s:=by
 induction b with
 |nil=>exact evalArgs_kw_nil c λa p b=>h a p b a p b
 |cons k m=>induction k with
  |mk l x=>induction l with
   |true=>exact ao j.symm
   |false=>exact evalArgs_kw c h
def Np{a:Y (N lw×e5 bv)}(h:a.all (·.1.isSome)):a.any (·.1.isNone)=J:=by induction a with|nil=>rfl|cons k l b=> rw[r5]at h;rw[sO];exact ag h λa c=>by rw[b c,<-k9,a];rfl
def ij{h:aP}{e:Y (I×e5 bv)}(m:e.any (·.1)=J)(n:d.all (·.1.isSome))
 (p:he M A (spliced e) (λi j=>he M A (evalAll (d.map (·.2))) (λl a=>(∃k,∀(g:Keeper->ge->Prop),g k a->he M A (o1 f) g E a)/\he M A (dn f (h++i) ((d.filterMap (·.1)).zip l)) Q E a) E j) E s):
  he M A (o_ o f h e d) Q E s:=by
 refine bR (ui (Au m n (jv p (λi j f=>jv f (λl a f=>bR (uk ?_)) λ_ _ x=>x) λ_ _ x=>x)));obtain⟨⟨k,g⟩,b⟩:=f;have c:∀{t:e5 bv},he M A t Q E a->he M A (t>>=λr=>holding [r] point>>=λ_=>H1 r) Q E a:=λf=>bR (jv f (λr a a=>bR (ui (wpAny_point (cP a)))) λ_ _ x=>x);have a:(e.any (·.1)||d.any (·.1.isNone))=J:=by rw[m,Np n];rfl
 refine bR (g _ ?_);rw[a];cases k<;>dsimp only
 ·split
  ·exact c b
  ·exact c (C0 b)
 ·split
  ·exact c b
  ·exact c (C0 b)
 ·exact c b
 ·exact c (wpAny_operate' b)
end
def wQ(c:Cx)(x:bv)(p:Pt):=∃k,∀(E:aT)(a:Keeper->ge->Prop),a k p.s->he (M' c) c.A (o1 x) a E p.s
section
variable{c:Cx}{p:Pt}{G H:St}{x:bv}{f v:V}{as:af}{ks:aY}{ws:aP}{kws:je}
variable(L:c.OK)(r:bC c p G)
def Ia(h:c.g.isFn n):wQ c (.ref (c.g.fnAt n)) p:=by obtain⟨o,a,a,b⟩:=L.kf.FD n h;refine⟨.frame,λE d q=>?_⟩;refine bR (qs (r.Tu _ _ a) ?_);rw[b];exact cP q
def Nq(h:c.g.jz n):wQ c (.ref (c.g.cU n)) p:=by obtain⟨o,a,a,b,d⟩:=L.kf.Tr n h;refine⟨.machine,λE e q=>?_⟩;refine bR (qs (L.In r _ _ a) ?_);rw[b];exact bR ((ö (L.In r) d).here (cP q))
def Ib(n:W):wQ c (c.g.HF n) p:=by refine⟨.machine,λE a q=>?_⟩;exact(L.kf.N_ n).elim (λh=>by obtain⟨a,e⟩:=h;rw[e];exact cP q) λh=>by obtain⟨n,e⟩:=h;rw[e];exact cP q
def T5(h:c.g.isFn n)(b:p.F a (MK (c.g.fnAt n) c.g.par)):wQ c (.ref a) p:=by obtain⟨o,a,a,d⟩:=L.kf.FD n h;refine⟨.boundFrame,λE e q=>?_⟩;refine bR (qs (r.st _ _ b) ?_);refine bR (qs (r.Tu _ _ a) ?_);rw[d];exact cP q
def aeR:dP f C (s:=λl=>O (.int (ak l))) (tu:=λl=>O (.int (ak l))) (ls:=λl=>O (.int (ak l))) (bu:=λl e=>br e (O (.sym (.off 4 (ak l)))) (O (.sym (.big 4 (ak l)))))=O v->Rd c.g p.F x f->pE c (dn (.builtin "len") [x]) p G.pg G v:=Vc (M:=λf=>dP f C (s:=λl=>O (.int (ak l))) (tu:=λl=>O (.int (ak l))) (ls:=λl=>O (.int (ak l))) (bu:=λl e=>br e (O (.sym (.off 4 (ak l)))) (O (.sym (.big 4 (ak l)))))=O v->Rd c.g p.F x f->pE c _ p G.pg G v) f (s:=λl e(h)=>jX (λQ E q=>by obtain⟨s,t,h,a,z⟩:=h;rw[h];refine PyProof.Rows.len_str (sQ.mpr (jn z.1)) (q.tok r ?_ _);rw[aB,<-a];exact Rd.i) (au e)) (tu:=λl e(h:Fw p.F (cD c.g p.F · l) x)=>jX (λQ E q=>by obtain⟨b,ws,n,h,f,z,a⟩:=h;rw[h];refine PyProof.Rows.len_tuple ⟨_,r.st _ _ f,Z,_,Z⟩ (o3 z) (q.tok r ?_ _);rw[aB,<-a.length];exact Rd.i) (au e)) (ls:=λl e(h:Ac p.F (cD c.g p.F · l) x)=>jX (λQ E q=>by obtain⟨b,ws,n,h,f,z,a⟩:=h;rw[h];refine f_ ⟨_,r.st _ _ f,Z,_,Z⟩ (o3 z) (q.tok r ?_ _);rw[aB,<-a.length];exact Rd.i) (au e)) (bu:=λ_ _ _=>pr)
def aeS(a:Rd c.g p.F y k):dP f C (s:=λ_=>bn (sS k) λz=>gd (ac z 7) (O (.bool U))) (ob:=λn _=>bn (vK k) λk=>mp (c.G.cls n) λb=>.bool (aq b.mro k))=O v->Rd c.g p.F x f->pE c (dn (.builtin "isinstance") [x,y]) p G.pg G v:=Vc (M:=λf=>dP f C (s:=λ_=>bn _ λz=>gd (ac z 7) _) (ob:=λn _=>bn _ λk=>mp (c.G.cls n) λb=>V.bool (aq b.mro k))=O v->Rd c.g p.F x f->pE c _ p G.pg G v) f (s:=λl e(h)=>bL e λz g e=>bW e λm e=>jX (λQ E q=>by obtain⟨s,t,h,_⟩:=h;have a:=Rd.as (oZ g) a;rw[h,a,aK m,L.kf.N?];exact IsiPair.str_str (q _ _ (.refl r) Z)) (au e)) (ob:=λn m e(h)=>bL e λz g e=>iJ e λb i e=>jX (λQ E q=>by obtain⟨m,m,m,k,h,d,k,m,_⟩:=h;have a:=Rd.as (Cr g) a;have j:=FE r.st k m;rw[h,a.1];cases g:aq b.mro z with|true=>exact isi_call (L.In r) (λM=>j.type) ((L.kf.E5 _ _ _ d a.2 i).1 g) (λh=>w1 h) (q _ _ (.refl r) (g▸Z))|false=> have K:=L.kf.Ts _ d;exact kin_callC (L.In r) j ((L.kf.E5 _ _ _ d a.2 i).2 g) (L.kf.Ki _ _ d) (L.kf.FC _ d) K.1 L.kf.E3.1 L.kf.E3.2 K.2 (q.tok r (g▸Z) _)) e)
def Nr{r:dR}{P:Prop}(h:back G r=O (v,H))(k:∀a,r=O (v,a)->H=⟨G.loc,a⟩->P):P:=aQ h λu a e h=>iy h λq b=>k a (q▸e) b.symm
def FU{a:Type}{b:I}{y:N a}{r:a}{P:Prop}(h:br b C y=O r)(k:b=J->y=O r->P):P:=jj h bX k
def oy.none(h:oy c.g p.F kws []):kws=[]:=vD.mp h.1
def Ic(cl:c.Calls)(r:bC c p G)(a:cD c.g p.F ws as)(j:oy c.g p.F kws ks):jQ c.G f as ks G=O (v,H)->Rd c.g p.F x f->wQ c x p/\pE c (dn x ws kws) p G.pg H v:=by refine Vc (M:=λf=>jQ c.G f as ks G=O _->Rd c.g p.F x f->wQ c x p/\pE c _ p G.pg H v) f (cl:=λn e(h)=>FU e λb e=>h.1▸⟨Nq L r h.2,iJ e λu d e=>iy (ah O e) λq g=>q▸g▸FT b r (cl.Yi n h.2) (d▸Z) a j⟩) (fn:=λn e(h)=>FU e λb e=>h.1▸⟨Ia L r h.2,Nr e λw e q=>q▸FT b r (cl.func n h.2) e a j⟩) (bi:=λn e(h)=>h▸⟨Ib L n,lh e λk e=>iJ e λu d e=>iy (ah O e) λq g=>q▸g▸?_⟩) (me:=λn e(h)=>FU e λb e=>?_);have g:=k▸j;rw[g.none];refine jj d (λo e=>ym e λm d e=>?_) λ_ e=>jj e (λu e=>Tz e λm g d e=>bL e λz A e=>iJ e λn B e=>?_) λ_ e=>bW e λE e=>Tz e λm g d e=>?_;obtain⟨y,g,i⟩:=cD.one (d▸a);rw[g,aK o,L.kf.G4];exact aeR r e i;obtain⟨y,l,g,i,o⟩:=(d▸a).un;obtain⟨y2,s,t⟩:=cD.one o;obtain⟨F,F⟩:=HI A i;obtain⟨A,A⟩:=HI B t;rw[g,s,aK u,L.kf.N!,F,A,<-e];refine λQ A u=>max_two_ints L.handled λB B k=>u _ _ (Nx.grow r B k (λ_ _=>id) λ_ _=>.inl) ?_;by_cases q:n>z;rw[eP q,dM (cF q)];exact Rd.i;rw[eH q,dw (dQ q)];exact Rd.i;obtain⟨y,l,g,i,o⟩:=(d▸a).un;obtain⟨y2,s,t⟩:=cD.one o;rw[g,s,aK E,L.kf.O5];exact aeS L r t e i;obtain⟨m,h,d,i,g⟩:=h;exact h▸⟨T5 L r d g,Nr e λw e q=>q▸λQ A u=>sR (method_call (r.st _ _ g) (call_K b r (cl.av n i d) e a j _ u))⟩
end
abbrev za(c:Cx)(kws:Y wn)(pos:ww):Y (N lw×e5 bv):=hT pos (dg kws c.env)
abbrev x1(c:Cx)(es:bM)(pos:ww):Y (I×e5 bv):=fb pos (Gc es c.env)
def H5(c:Cx)(d:ae)(a:Y wn):=∀b,(za c a b).all (·.1.isSome)=U/\(za c a b).filterMap (·.1)=d.map c.g.nm/\(za c a b).map (·.2)=(a.map (·.value)).map λe=>(do let v<-Db e c.env;standAt b;H1 v:e5 bv)
def wR:∀{a:Y wn},oe c.g.nm b a->H5 c b a:=by
 induction b with
 |nil=>exact λ{a}h d=>(cO.mp h)▸⟨Z,Z,Z⟩
 |cons k b e=>
  intro a h d
  induction a with
  |nil=>exact ao h
  |cons w i=>cases w with
   |mk f v p=>induction f with
    |none=>exact ao h
    |some g=> refine ag h λa b=>?_;obtain⟨f,h,i⟩:=e b d;rw[show g=c.g.nm k from aO a];exact⟨f,ah _ h,ah _ i⟩
def oz(c:Cx)(a:bM):=∀b,(x1 c a b).any (·.1)=J/\(x1 c a b).all (!·.1)=U
def wU:oz c []:=λ_=>⟨Z,Z⟩
def uB{e:Expr}(h:plainArg e)(t:oz c b):oz c (e::b):=λa=>by have q:x1 c _ a=fb a (_::Gc b c.env):=ah _ (mz h);rw[q];exact⟨(t a).1,(t a).2⟩
section
variable{c:Cx}{p p1:Pt}{T σ1 σ2 σ':St}{v u:V}{xs kxs:sT}{es:bM}{ks:ae}{kws:Y wn}{R:ww}{f:bv}{first:aP}{vs kvs:af}{kw:aY}{x:W}{t:I}{o:fc}{po:N Pl}
def qE(g:oz c es)(e:H5 c ks kws)(sa:SL c xs es)(i:SL c kxs (kws.map (·.value)))(h:xs T=O (vs,σ1))(j:kxs σ1=O (kvs,σ2))(l:z6 ks kvs=O kw)(r:bC c p T){Q:aT}{E:aT}
 (k:∀a b d,Nx c p T.pg a σ2->cD c.g a.F b vs->oy c.g a.F d kw->wQ c f a/\he (M' c) c.A (dn f (first++b) d) Q E a.s):he (M' c) c.A (o_ R f first (x1 c es R) (za c kws R)) Q E p.s:=by
 obtain⟨a,d,m⟩:=e R;refine ij (g R).1 a ?_;rw[d,m];refine(sa.2 p T _ _ h r R).1 _ _ λp1 b a e=>(i.2 p1 σ1 _ _ j a.rel R).2 _ _ λg d d h=>?_;obtain⟨⟨i,j⟩,H⟩:=k g b _ (a.trans d) (e.bS d.ext.le) (oy.of h l);exact⟨⟨i,j E⟩,H⟩
def aaa(r:bC c p T){a:Cn}{t:ii}:vQ a=O u->g7 c.g p t a->pE c (dn (.builtin "len") [.ref t]) p T.pg T u:=Cn.casesOn a (λvs e a=>jX (λQ E q=>by obtain⟨b,n,h,z,b⟩:=a;refine f_ ⟨_,h,Z,_,Z⟩ (o3 z) (q.tok r ?_ _);rw[aB,<-b.length];exact Rd.i) (au e)) bX bX λ_ _=>pr
def T6(h:uL c.G c.lv x ks):aq c.lv x=J/\ks=[]/\c.G.gl x=O (.bi 0):=by cases a:aq c.lv x with|true=>exact ao (il (dM a) h)|false=>have h:=il (dw a) h;induction ks with|cons _ _ _=>exact ao h|nil=>refine⟨Z,Z,?_⟩;cases a:c.G.gl x with|none=>rw[a]at h;exact ao h|some w=>rw[a]at h;cases a:sS w with|none=>exact ao (il (ah (λo=>oc o (λb=>ac b 0) J) (a)) h)|some b=>rw[oZ a,aK (il (ah (λo=>oc o (λb=>ac b 0) J) (a)) h)]
def Nt(a:c.OK)(w:c.Calls){d:ww}(i:s8 c x)(m:∀h,po=O h->∃b,es=[b]/\Bv c h b/\plainArg b)(j:oz c es)(l:H5 c ks kws)(n:ks=[]->kws=[])(sa:SL c xs es)(s:SL c kxs (kws.map (·.value))):SE c (vV c.G c.lv x ks po xs kxs) (.Call (.Name (c.g.nm x) d) es kws R):=λt p T v σ' e r=>by
 refine gq λP k=>md e (λy d e=>bW d λz d=>bL d λg g d=>k (mode a Z e λQ E q=>?_)) λ_ e=>aQ e λA σ1 b e=>aQ e λvs σ2 A e=>aQ e λkvs B B e=>bL e λkw F e=>aQ e λu G G e=>k (mode a Z e λQ E q=>yP (qY (Yc a r b _ _ λp1 H e K=>?_) i))
 ·obtain⟨L,k,M⟩:=T6 z
  obtain⟨H,z,H⟩:=a.glob x _ L M;have L:=(z).trans a.kf.G4;refine yP (qY (H p.s _ E (λz o H=>r.Tu z o H) ?_) i);refine bL g λh i g=>iJ g λz H g=>?_;obtain⟨b,b,M,Q⟩:=m h i;obtain⟨t0,P⟩:=mA a r M H;obtain⟨h,i,m⟩:=l R;refine ij (j R).1 h ?_;rw[i,n k,k,b,L];refine e_ (P.ev _ _ λk=>g_ (vH ⟨⟨.machine,λb b=>cP b⟩,?_⟩)) (mz Q);exact(aaa (r.toks k) (show vQ z=O y by rw[<-g]at d;exact d) (P.at_.tok k)).next (Nx.toks r k) q E
 ·refine qE j l sa s A B F e.rel λb b b b g h=>?_
  have d:=Ic a w b.rel g h G (K.bS b.ext.le);exact⟨d.1,d.2.next (e.trans b) q E⟩
end
def T8:∀{c:aP}{l:uI},cD g F c b->cat b=O l->∃a:Y lw,StrsAre c a/\a.map (·.cps.toList)=l/\∀y∈a,ig y:=by induction b with|nil=>exact λr e=>(r)▸⟨[],.nil,au e,λ_ h=>ch h cr⟩|cons v b d=> refine λr e=>bL e λs b e=>iJ e λc c e=>?_;obtain⟨w,l,q,r,f⟩:=r.un;obtain⟨x,t,h,g,z⟩:=HJ b r;obtain⟨a,b,i,j⟩:=d f c;rw[q,h];exact⟨x::a,.cons _ _ b,by rw[fS,i,g];exact e,λy a=>(c?.mp a).elim (λe=>e▸z) (j y)⟩
def join_cons(a x y:ae)(r:uI):join a (x::y::r)=x++a++join a (y::r):=Z
def Nu(a:ae)(l:uI):(l.map (·.length)).sum+l.length*a.length<=(join a l).length+a.length:=by induction l with|nil=>rw[p8,hX];exact eG _|cons x r b=>rw[fS,List.sum_cons,vE,C2];induction r with|nil=>exact cZ (by rw[p8,hX,hM];rfl)|cons y r _=> rw[join_cons,aX,aX,hO _ a.length,Nat.add_add_add_comm];exact ay (d9 b _) (cZ (fK _ _ _).symm)
def Nv{l:uI}:z∈join a l->z∈a∨∃x∈l,z∈x:=by induction l with|nil=>exact λh=>ch h cr|cons x r b=>induction r with|nil=>exact λh=>.inr ⟨x,gY,h⟩|cons y r _=>exact λh=>(gX.mp h).elim (λh=>(gX.mp h).elim (λh=>.inr ⟨x,gY,h⟩) .inl) λh=>(b h).imp id λh=>by obtain⟨w,a,h⟩:=h;exact⟨w,iH _ a,h⟩
def Kv(g:XV W)(r:Y lw):∀a:XV W,(r.foldl (λb p=>b++g++p.cps) a).toList=a.toList++(r.map λp=>g.toList++p.cps.toList).flatten:=by induction r with|nil=>exact λa=>(eq _).symm|cons p r c=>exact λa=>(c _).trans (by rw[zK,zK,fS,m?,am,am,am])
def Kw(a:ae)(r:uI):∀x:ae,join a (x::r)=x++(r.map (a++·)).flatten:=by induction r with|nil=>exact λx=>(eq _).symm|cons y r b=>exact λx=>by rw[join_cons,b y,fS,m?,am,am]
def Nw(b:lw)(a:Y lw):(Txt.join b a).cps.toList=join b.cps.toList (a.map (·.cps.toList)):=by induction a with|nil=>rfl|cons x r _=>exact(Kv _ r x.cps).trans (by rw[fS,Kw,jx];rfl)
section
variable{c:Cx}{p p1:Pt}{σ σ1 σ2 σ':St}{v u w:V}{xs kxs:sT}{es:bM}{ks:ae}{kws:Y wn}{pos ap:ww}{f:bv}{first:aP}{vs kvs:af}{kw:aY}{m:W}{t:I}{ea:Expr}{o:fc}{po:N Pl}{q:N PA}
def ik{s:ge}(i:dJ ea)(k:oz c es)(l:H5 c ks kws)(n:bd (es.length+kws.length) 20)(r:ac ap.endLine pos.line)
 (j:he (M' c) c.A (Db ea c.env) (λd e=>∀h,he (M' c) c.A (e! d b h) (λa g=>he (M' c) c.A (o_ pos a.1 a.2 (x1 c es pos) (za c kws pos)) Q E g) E e) E s):
  he (M' c) c.A (Db (.Call (.Attribute ea b ap) es kws pos) c.env) Q E s:=by
 rw[arm_eval_Call,wN i];refine bR (jv j (λd e b=>bR (uk ?_)) λ_ _ x=>x)
 have d:Ok (es.length+kws.length) (x1 c es pos) (za c kws pos):=by unfold Ok;rw[(k pos).2,(l pos).1,Bool.true_and];exact cF (fR (g5 (cw n) (show _<=1 by split<;>decide)) (aO Z))
 have e:a7 U ea c.env ap pos=H1 pos:=by unfold a7;rw[aK r];simp
 unfold methodCall;rw[d];exact bR (ui (jv (b _) (λa g a=>bR (fN e a)) λ_ _ x=>x))
def aab{t:ii}{P:Prop}:vS a->g7 c.g p t a->(∀vs,a=.lst vs->P)->P:=Cn.casesOn a (λvs _ _ k=>k vs Z) aV aV λ_ _=>pr
def MeG(c:Cx)(p:Pt)(x:bv)(m:W)(K:bv->aP->W->Prop):=∀(a:e5 I)(Q:bv×aP->ge->Prop)(E:aT),(∀y l k,K y l k->Q (y,l) {p.s with toks:=k})->he (M' c) c.A (e! x (c.g.nm m) a) Q E p.s
def FV(a:c.OK)(r:bC c p σ)(b:c.g.dj)(e:aj m σ.pg.par=O (.val w)):MeG c p (.ref c.g.par) m λy l _=>l=[]/\Rd c.g p.F y w:=λd Q E q=>by obtain⟨es,n,g,d⟩:=qD r b;have X:=a.In r;have G:=g.bU m;rw[e]at G;obtain⟨i,y,j,g⟩:=G;have e:=qr (a.kf.Cj (c.g.nm m) b);have h:=a.kf.Co m b i;refine bR (bR (d.type.here ((qo X e.1).here ?_)));dsimp only;refine bR (bR (d.type.here ((qo X e.2).here ?_)));refine bR (bR (d.type.here ((qo X h).here ?_)));exact bR (g! X d e.1 (r0 (a.kf.Cm b) h Z j) (wI a g) (cP (q y [] _ ⟨Z,g⟩)))
def FW(b:c.OK)(r:bC c p σ)(a:c.g.dj)(g:aj m σ.pg.par=C)(e:c.G.du m):c.g.isFn m/\MeG c p (.ref c.g.par) m λy l _=>y=.ref (c.g.fnAt m)/\l=[.ref c.g.par]:=by obtain⟨es,n,d⟩:=qD r a;obtain⟨m1,m2,m3,_⟩:=b.kf.Cp m a e;have e:=qr (b.kf.Cj (c.g.nm m) a);have G:d4 _ es=O C:=FO r d g;exact⟨m1,λa Q E q=>method_fn (b.In r) d.2 e.1 e.2 m2 (gc.mp m3) (show(d4 _ es).map _=_ by rw[G];rfl) (q _ _ p.s.toks ⟨Z,Z⟩)⟩
def aac(r:bC c p σ){a:ae}{s:lw}{i:kv}(e:s.cps.toList=a)(A:ig s){h:aP}{g:af}{l:uI}(j:cD c.g p.F h [w])(k:jc w=O g)(n:cat g=O l)(d:bd (ak (join a l)) 900000)(b:bd (ak a) 1000):
  pE c (dn (.builtin "str.join") ([.str s i]++h)) p σ.pg σ (.str (join a l)):=λQ E q=>by
 refine gq λP i=>?_;obtain⟨y,g,x⟩:=cD.one j;obtain⟨h,j,h,h,f,z,B⟩:=KX k x;obtain⟨ys,y1,y2,y3⟩:=T8 B n;refine i ?_;have T:=Nw s ys;rw[y2,e]at T;rw[aB]at d b;have d:=cw d;have b:=cw b;rw[g,h];refine join_list (items:=j.toArray) (ys:=ys) ⟨_,r.st _ _ f,Z,_,Z⟩ y1 ?_ λi k=>q.tok r ?_ k
 ·have i:=Nu a l
  have a:ys.map ((λx:ae=>x.length)∘λx:lw=>x.cps.toList)=ys.map (·.length):=k? λy _=>len_list y;rw[<-y2,jx,jb,y2,<-e,len_list,a]at i;rw[<-e,len_list]at b;exact ay i (ay (g5 (e.symm▸d) b) (aO Z))
 ·rw[<-T]
  refine Rd.s (wD (T.symm▸ay d (aO Z)) λz a=>?_);rw[T]at a;refine(Nv a).elim (λh=>o4 A z (e.symm▸h)) λh=>?_;obtain⟨x,a,h⟩:=h;rw[<-y2]at a;obtain⟨y,g,e⟩:=eO.mp a;exact o4 (y3 y g) z (e▸h)
def Aw{a:Type}{b:I}{x:a}{o:N a}(h:∃y,o=O y):∃y,br b (O x) o=O y:=by induction b with|true=>exact⟨x,Z⟩|false=>exact h
def aeT:cX G a m b=O r->∃b,lid G m=O b:=have z:=λh=>Aw (Aw (Aw (h▸⟨_,Z⟩)));Cn.casesOn a (λvs e=>jj e (λh _=>⟨_,dM h⟩) λa e=>jj e (λh _=>⟨_,(dw a).trans (dM h)⟩) λb e=>jj e (λh _=>⟨_,(dw a).trans ((dw b).trans (dM h))⟩) λa e=>bW e λh _=>z h) bX bX λvs e=>jj e (λh _=>⟨_,dM h⟩) λ_ e=>bW e λh _=>z h
def Ny(d:c.OK)(cl:c.Calls){a:I}(g:SA c po ea)(G:dJ ea)(M:SE c o ea)(h:oz c es)(i:H5 c ks kws)(F:ks=[]->kws=[])(sa:SL c xs es)(R:SL c kxs (kws.map (·.value)))(H:bd (es.length+kws.length) 20)(K:ac ap.endLine pos.line):
  SE c (z7 c.G c.lv po m ks a o xs kxs) (.Call (.Attribute ea (c.g.nm m) ap) es kws pos):=λt p σ v σ' e r=>by
 refine gq λP a=>md e (λb k e=>lh e λb e=>bW e λA e=>aQ e λvs σ1 s e=>bW e λL e=>bL e λj x e=>aQ e λu j n e=>bL e λσ2 y e=>a (mode d Z e λQ E q=>?_))
  λ_ e=>aQ e λj σ1 s e=>aQ e λvs σ2 x e=>aQ e λkvs j n e=>bL e λkw y e=>jj e (λhpar e=>md e (λj S e=>bW e λj e=>bL e λf hf e=>aQ e λu z j e=>a (mode d Z e λQ E q=>?_)) λS e=>bW e λT e=>aQ e λu z j e=>a (mode d Z e λQ E q=>?_))
   λ_ e=>bL e λz hsep e=>bW e λhj e=>lh e λhkw e=>ym e λw hw e=>bL e λz h5 e=>bL e λl h6 e=>bW e λh7 e=>bW e λh8 e=>a (mode d Z e λQ E q=>?_)
 ·obtain⟨hE,t0,P⟩:=tb d r g k
  refine ik G h i H K (P.ev _ _ λk z=>aab A P.at_ λa g=>?_);have A:=Nx.toks r k;obtain⟨B,k0,V,_⟩:=(g▸P.at_:g7 c.g p t0 (.lst a));obtain⟨a,B⟩:=aeT n;refine TV (p:=p) d B V Z Z Z ?_;obtain⟨a,g,V⟩:=i pos;refine ij (h pos).1 a ?_;rw[g,V,F b,b];refine(sa.2 _ σ _ _ s A.rel pos).1 _ _ λp1 V a b=>vH ⟨⟨.machine,λQ' X=>cP X⟩,?_⟩;have g:=A.trans a;have A:=P.again d r hE g L x;obtain⟨F,F,L⟩:=TU a.rel b n A.at_;rw[au (il B F)];exact L Q E λB B B F L P=>q _ B (g.trans (vc g.rel A.is F L y)) P
 ·refine ik G h i H K (M.val s r _ _ λp1 L a b z=>?_)
  have b:rpar c.g L:=Rd.as (rE hpar) b;rw[b.1];refine FV d a.rel b.2 (S.trans (ah O (wJ hf))) z _ _ λb' l k A=>?_;rw[A.1];refine qE h i sa R x n y (a.rel.toks k) λP V Q g B F=>?_;have a':=Ic d cl g.rel B F j (A.2.bS g.ext.le);exact⟨a'.1,a'.2.next (a.trans ((Nx.toks a.rel k).trans g)) q E⟩
 ·refine ik G h i H K (M.val s r _ _ λp1 L a b z=>?_)
  have b:rpar c.g L:=Rd.as (rE hpar) b;obtain⟨m1,c'⟩:=FW d a.rel b.2 S T;rw[b.1];refine c' z _ _ λb' l k A=>?_;rw[A.1,A.2];refine qE (first:=[.ref c.g.par]) h i sa R x n y (a.rel.toks k) λP V Q g B F=>FU j λA j=>Nr j λS j S=>?_;exact⟨Ia d g.rel m1,(FT A g.rel (cl.av m b.2 m1) j B F).next (a.trans ((Nx.toks a.rel k).trans g)) (S▸q) E⟩
 ·refine ik G h i H K (M.val s r _ _ λp1 L a b z=>?_)
  obtain⟨s,j,k,r,z⟩:=HJ hsep b;have T:c.g.nm m="join":=aK hj▸d.kf.lH;rw[k,T];refine v? (rp _ _ _) PySem.F.plainAttrs_str PySem.F.slot_str_join PySem.F.type_str_join (λb e=>w1 e) ?_;refine qE (first:=[.str s j]) h i sa R x n y a.rel λP V Q g B F=>⟨⟨.machine,λE Q' X=>cP X⟩,?_⟩;have b:oy c.g P.F Q []:=hkw▸F;rw[b.none];exact(aac g.rel r z (hw▸B) h5 h6 h7 h8).next (a.trans g) q E
end
def T9{a b:I}(h:(a==b)):a=b:=eq_of_beq h
def aeU(n:W):nw:=[Operator.Add,.Sub,.Mult,.MatMult,.Div,.Mod,.Pow,.LShift,.RShift,.BitOr,.BitXor,.BitAnd,.FloorDiv].getD n .Add
def Ie(a:nw):aeU (oN a)=a:=wP a Z Z Z Z Z Z Z Z Z Z Z Z Z
def FX(h:ac (oN a) (oN b)):a=b:=il (Ie a) ((ah aeU (aK h)).trans (Ie b))
def Ž(n:W):u8:=[CmpOp.Eq,.NotEq,.Lt,.LtE,.Gt,.GtE,.Is,.IsNot,.In,.NotIn].getD n .Eq
def Ig(a:u8):Ž (cN a)=a:=py a Z Z Z Z Z Z Z Z Z Z
def aad(h:ac (cN a) (cN b)):a=b:=il (Ig a) ((ah Ž (aK h)).trans (Ig b))
def Cz:∀{b:Y u8},ME a b->a=b:=by induction a with|nil=>exact λ{b}=>AT b (λ_=>Z) λ_ _=>ao|cons x a c=>exact λ{b}=>AT b ao λy b h=>ag h λh k=>vy (ah R! (aad h)) (c k)
def Nz{s:lw}(h:EV s):ig s:=ag h λa b=>⟨ay (cw a) (aO Z),b⟩
section
variable{c:Cx}{x xs lo:X}{e ea:Expr}{es:bM}{w:V}{pos:ww}{k:W}{f:fc}{nil:I}
def NA(c:Cx)(e:Expr)(w:V):=∀(p:Pt)(Q:aT)E,(∀t x,Rd c.g p.F x w->Q x {p.s with toks:=t})->he (M' c) c.A (Db e c.env) Q E p.s
def aeW:vZ w d->NA c (.Constant d k pos) w:=a_ d (Vc (M:=λw=>dP w J (no:=U)=U->NA c _ w) w (no:=λ_ p Q E q=>wpAny_Constant_none (q p.s.toks _ Z))) (λb=>Vc (M:=λw=>dP w J (bo:=λa=>b==a)=U->NA c _ w) w (bo:=λa h p Q E q=>wpAny_Constant_bool (q p.s.toks _ (T9 h▸Z)))) (λi=>Vc (M:=λw=>dP w J (i:=λj=>a? (i=j))=U->NA c _ w) w (i:=λj h p Q E q=>wpAny_Constant_int (q _ _ (aO h▸Rd.i)))) aV iz (λs=>Vc (M:=λw=>dP w J (s:=λl=>a? (s.cps.toList=l)&&EV s)=U->NA c _ w) w (s:=λl h p Q E q=>ag h λh z=>wpAny_Constant_str (q _ _ (aO h▸Rd.s (Nz z))))) aV ao
def wV(a:c.OK)(h:Fn e (vZ w)):SE c (sU w) e:=by obtain⟨d,n,p,b,h⟩:=aeo h;rw[b];exact ZJ a Z (aeW h)
def g6{s:lw}(h:iD c.g.nm y s):s=c.g.nm y:=aO h
def ze{s:lw}(h:LS s)(q:s=c.g.nm y):s8 c y:=qV λz=>by have:a? (s=("__debug__":lw)):=cF (q.trans z);unfold LS at h;rw[this]at h;exact yF h
def Ua(i:c.OK){g:I->fc}(h:SE c f ea)(b:nil->es=[])(d:nil=J->∃a l,es=a::l/\X8 c g es):X8 c (yW nil f g) (ea::es):=by induction nil with|true=>exact b Z▸TM h|false=> obtain⟨a,l,q,H⟩:=d Z;rw[q]at H ⊢;exact M6 i h H
def NB{a:Expr->I}{l:N Expr}(H:∀e,a e->SE c f e):oc l (λl=>!nil&&a l) nil=U->HT c (vU nil f) l:=by
 induction l with
 |none=>exact λh=>(show nil from h)▸TJ
 |some e=>induction nil with
  |true=>exact ao
  |false=>exact λh=>TK (H e h)
structure ï(c:Cx)(x:X)(es:bM):Prop where
 l:SL c (c! c.G c.lv x).l es
 pl:oz c es
 nil:cq x->es=[]
 bc:cq x=J->∃eb l,es=eb::l/\X8 c (c! c.G c.lv x).b es/\H0 c (c! c.G c.lv x).c es
def Good(c:Cx)(x:X):=(∀e,eK c.g.nm x e->SE c (c! c.G c.lv x).e e)/\∀es,pz c.g.nm x es->ï c x es
def Ax:vO x->x=.aR 0:=X.casesOn x ao iz ao ao ao aV aV (λy h=>ah X.aR (aK h)) iz aV aV aV aV pj pj pj aV aV ao iz pj Su F4 iz Su ao
def Ih(h:eK c.g.nm (.aR y) e):s8 c y/\∃p,e=.Name (c.g.nm y) p:=by obtain⟨s,p,b,h⟩:=kF (f:=λs=>iD c.g.nm y s&&LS s) h;exact ag h λa d=>⟨ze d (g6 a),p,b.trans (ah (Expr.Name · p) (g6 a))⟩
def Yj(h:eK c.g.nm (.bU o a) e):∃v p,e=.Attribute v (c.g.nm a) p/\eK c.g.nm o v/\dJ v:=by obtain⟨v,n,p,b,h⟩:=yY (f:=λv n _=>iD c.g.nm a n&&eK c.g.nm o v&&dJ v) h;exact ag h λh d=>ag h λa h=>⟨v,p,b.trans (ah (Expr.Attribute v · p) (g6 a)),h,d⟩
def rK(h:eK c.g.nm x e):SA c (cG x) e:=λa b=>X.casesOn (motive:=λx=>eK c.g.nm x e=U->cG x=O a->Bv c a e) x bX kH bX bX bX gL gL (λy h q=>(au q:.loc y=a)▸Ih h) (λo d h q=>bW q λg q=>(au q:.bU d=a)▸by obtain⟨v,p,a,d,_⟩:=Yj h;obtain⟨i,j,l⟩:=Ih (Ax g▸d);exact⟨i,j,p,l▸a⟩) gL gL gL gL Fy Fy Fy gL gL bX kH Fy To (λ_ _ _ _ _ _=>aa) kH To bX h b
def nil_of:cq x->x=.nil:=X.casesOn x (λ_=>Z) iz ao ao ao aV aV aV iz aV aV aV aV pj pj pj aV aV ao iz pj Su F4 iz Su ao
def ND:yT x=O a->x=.cons a .nil:=X.casesOn x aa (λb t q=>bW q λa q=>vy (ah X.cons (au q)) (nil_of a)) aa aa aa bX bX bX gL bX bX bX bX kH kH kH bX bX aa gL kH Fy To gL Fy aa
def NF{P:Prop}(h:pz c.g.nm (.cons x xs) es)(k:∀e l,es=e::l->eK c.g.nm x e->plainArg e->pz c.g.nm xs l->P):P:=by induction es with|nil=>exact ao h|cons e l _=>exact ag (show(eK c.g.nm x e&&plainArg e&&pz c.g.nm xs l)from h) λh a=>ag h λb d=>k e l Z b d a
def aae(h:pz c.g.nm x es)(q:yT x=O a):∃b,es=[b]/\eK c.g.nm a b/\plainArg b:=NF (show pz c.g.nm (.cons a .nil) es from ND q▸h) λe l a b d g=>⟨e,a.trans (ah (e::·) (cO.mp g)),b,d⟩
def E2(h:oe c.g.nm a b)(q:a=[]):b=[]:=by rw[q]at h;exact cO.mp h
def bz(g:c.OK)(G:c.Calls)(x:X):Good c x:=by induction x with|nil=>exact⟨λe h=>ao h,λes h=>(cO.mp h:es=[])▸⟨Aj,wU,λ_=>Z,λh=>ao h.symm⟩⟩|cons x xs i j=>refine⟨λe h=>ao h,λes h=>NF h λe l d b a m=>d▸?_⟩;have d:=i.1 e b;have T:=j.2 l m;refine⟨TH d a T.l,uB a T.pl,λh=>ao h,λ_=>⟨e,l,Z,Ua g d T.nil λq=>?_,Nh g (rK b) d T.nil λq=>?_⟩⟩;obtain⟨d,l,h,r,_⟩:=T.bc q;exact⟨d,l,h,r⟩;obtain⟨d,l,h,_,r⟩:=T.bc q;exact⟨d,l,h,r⟩|pf=>exact⟨λe h=>wV g h,λes h=>ao h⟩|yQ=>exact⟨λe h=>wV g h,λes h=>ao h⟩|Hu=>exact⟨λe h=>wV g h,λes h=>ao h⟩|int z=>exact⟨λe h=>wV g h,λes h=>ao h⟩|str l=>exact⟨λe h=>wV g h,λes h=>ao h⟩|aR y=> refine⟨λe h=>?_,λes h=>ao h⟩;obtain⟨n,p,d⟩:=Ih h;exact d▸(Z5 g n:)|bU t r i=> refine⟨λe h=>?_,λes h=>ao h⟩;have E:=rK h;obtain⟨v,p,d,n,s⟩:=Yj h;exact d▸(Z6 g (d▸E) s (i.1 v n):)|nt y i=> refine⟨λe h=>?_,λes h=>ao h⟩;obtain⟨o,v,p,d,h⟩:=XS (f:=λo v=>a? (o=.Not)&&eK c.g.nm y v) h;exact ag h λb a=>d▸aO b▸(aeF g (i.1 v a):)|neg y i=> refine⟨λe h=>?_,λes h=>ao h⟩;obtain⟨o,v,p,d,h⟩:=XS (f:=λo v=>a? (o=.USub)&&eK c.g.nm y v) h;exact ag h λb a=>d▸aO b▸(ZK g (i.1 v a):)|and es i=> refine⟨λe h=>?_,λes h=>ao h⟩;obtain⟨o,n,p,d,h⟩:=XR (f:=λo n=>a? (o=.And)&&pz c.g.nm es n) h;exact ag h λb a=>d▸aO b▸(HR (x:=U) (sb_of (i.2 n a)):)|or es i=> refine⟨λe h=>?_,λes h=>ao h⟩;obtain⟨o,n,p,d,h⟩:=XR (f:=λo n=>a? (o=.Or)&&pz c.g.nm es n) h;exact ag h λb a=>d▸aO b▸(HR (x:=J) (sb_of (i.2 n a)):)|ite r F u i j k=> refine⟨λe h=>?_,λes h=>ao h⟩;obtain⟨s,M,P,p,d,h⟩:=ael (f:=λx y Q=>eK c.g.nm r x&&eK c.g.nm F y&&eK c.g.nm u Q) h;exact ag h λh m=>ag h λb a=>d▸(ZL (i.1 s b) (j.1 M a) (k.1 P m):)|cmp l R S i j=> refine⟨λe h=>?_,λes h=>ao h⟩;obtain⟨P,u,Q,p,d,h⟩:=aen (f:=λx u y=>eK c.g.nm l x&&ME R u&&pz c.g.nm S y&&!B! u y) h;exact ag h λh u=>ag h λh m=>ag h λb a=>d▸Cz a▸(Z8 (i.1 P b) (sc_of (j.2 Q m)) (Cz a▸im _▸u):)|bin o r F i j=> refine⟨λe h=>?_,λes h=>ao h⟩;obtain⟨s,P,M,p,d,h⟩:=aek (f:=λx P y=>ac (oN o) (oN P)&&eK c.g.nm r x&&eK c.g.nm F y) h;exact ag h λh m=>ag h λb a=>d▸FX b▸(ZM g (i.1 s a) (j.1 M m):)|tup es i=> refine⟨λe h=>?_,λes h=>ao h⟩;obtain⟨n,z,p,d,h⟩:=MC (f:=λn=>pz c.g.nm es n&&bd n.length 1000) h;exact ag h λb a=>d▸(ZN g (i.2 n b).l a:)|yR es i=> refine⟨λe h=>?_,λes h=>ao h⟩;obtain⟨n,p,d,h⟩:=MB (f:=λn=>pz c.g.nm es n&&bd n.length 1000) h;exact ag h λb a=>d▸(ZO g (i.2 n b).l a:)|Ss=>exact⟨λe h P p Q v R e=>aa e,λes h=>ao h⟩|sub t y i j=> refine⟨λe h=>?_,λes h=>ao h⟩;obtain⟨n,s,p,d,h⟩:=HE (f:=λx s=>eK c.g.nm t x&&eK c.g.nm y s&&jC s) h;exact ag h λh m=>ag h λb a=>d▸(Z7 g (rK b) (i.1 n b) (j.1 s a) m:)|cut t lo A i j k=> refine⟨λe h=>?_,λes h=>ao h⟩;obtain⟨n,s,p,d,h⟩:=HE (f:=λx s=>Zs s (λl h o=>eK c.g.nm t x&&oc l (λl=>!cq lo&&eK c.g.nm lo l) (cq lo)&&oc h (λh=>!cq A&&eK c.g.nm A h) (cq A)&&o.isNone)) h;obtain⟨l,M,o,M,S,h⟩:=aep (f:=λl h o=>eK c.g.nm t n&&oc l (λl=>!cq lo&&eK c.g.nm lo l) (cq lo)&&oc h (λh=>!cq A&&eK c.g.nm A h) (cq A)&&o.isNone) h;exact ag h λh u=>ag h λh m=>ag h λb a=>d▸S▸vC.mp u▸(ZQ g (i.1 n b) (NB j.1 a) (NB k.1 m):)|bF f B H K i j=>refine⟨λe h=>?_,λes h=>ao h⟩;obtain⟨o,es,n,p,d,h⟩:=uw (f:=λo A n _=>nu o (λs=>iD c.g.nm f s&&LS s)&&pz c.g.nm B A&&oe c.g.nm H n&&pz c.g.nm K (n.map λk:wn=>k.value)) h;refine ag h λh u=>ag h λh m=>ag h λb a=>?_;obtain⟨s,M,s,b⟩:=kF b;refine ag b λr F=>?_;rw[d,s,g6 r];exact Nt g G (ze F (g6 r)) (λS E=>bL E λy T E=>by obtain⟨V,r,F,M⟩:=aae a T;exact⟨V,r,rK F S E,M⟩) (i.2 es a).pl (wR m) (E2 m) (i.2 es a).l (j.2 _ u).l|fy t L B H K i j k=> refine⟨λe h=>?_,λes h=>ao h⟩;obtain⟨o,es,n,p,d,h⟩:=uw (f:=λo A n p=>isAt o (λv z o=>iD c.g.nm L z&&eK c.g.nm t v&&pz c.g.nm B A&&oe c.g.nm H n&&pz c.g.nm K (n.map λk:wn=>k.value)&&dJ v&&ac o.endLine p.line&&bd (A.length+n.length) 20)) h;obtain⟨v,z,o,s,h⟩:=yY (f:=λv z o=>iD c.g.nm L z&&eK c.g.nm t v&&pz c.g.nm B es&&oe c.g.nm H n&&pz c.g.nm K (n.map λk:wn=>k.value)&&dJ v&&ac o.endLine p.line&&bd (es.length+n.length) 20) h;refine ag h λh n=>ag h λh M=>ag h λh F=>ag h λh r=>ag h λh u=>ag h λh m=>ag h λb a=>?_;rw[d,s,g6 b];exact(Ny g G (rK a) F (i.1 v a) (j.2 es m).pl (wR u) (E2 u) (j.2 es m).l (k.2 _ r).l n M:)|sup L B i=>exact⟨λe h=>G.sup L B e h,λes h=>ao h⟩|comp elt y it cs i j=>exact⟨λe h=>G.comp elt y it cs e h,λes h=>ao h⟩|bad=>exact⟨λe h P p Q v R e=>aa e,λes h=>ao h⟩
where
 sb_of {x:X} {es:bM} (h:ï c x es):X8 c (c! c.G c.lv x).b es:=by
  cases q:cq x with
  |true=>exact nil_of q▸λa p σ v σ' r=>⟨λe=>aa e,λe=>aa e⟩
  |false=>obtain⟨_,_,_,a,_⟩:=h.bc q;exact a
 sc_of {x:X} {es:bM} (h:ï c x es):H0 c (c! c.G c.lv x).c es:=by
  cases q:cq x with
  |true=>exact nil_of q▸λv ops p σ b σ' w e=>aa e
  |false=>obtain⟨_,_,_,_,a⟩:=h.bc q;exact a
end
def gN(a b:ae):I:=aH (aq a) b
def uU(b:ae)(x:S):I:=S.rec (motive:=λ_=>I) U (λ_ _ i j=>i&&j) aaF aaF U U (λa _=>gN b a) (λx _ _ _ _=>aq b x) (λa _=>gN b a) (λ_ _ _=>U) (λ_ _ _=>U) (λ_ _=>U) (λ_ _ _=>U) (λ_ _ _ _=>U) (λ_ _ _ i j=>i&&j) (λ_ _ i=>i) (λa _ _ i=>gN b a&&i) aaF (λ_ i=>i) U x
def LX(c:Cx)(f:gB)(e:b9):=∀p a b d,f a=O (b,d)->bC c p a->O? c (e0 e c.env) p a.pg d b
def Ay{a:I}(b:lg a (O j)=J)(c:lg a (O k)=J)(w:Ow)(e:lg a (O w))(q:w=j∨w=k):Ch:=q.elim (λq=>ao (il b (q▸e))) λq=>ao (il c (q▸e))
section
variable{c:Cx}{p p1 p2:Pt}{L σ1 σ2 G:St}{pg:PG}{v w:V}{fl:Fl}{e ea:Expr}{es:b9}{a b:gB}{f:fc}{R:ww}{x:W}{s:a9}{T:Flow}
def Sx.of(n:Nx c p pg p1 σ1):Sx c p pg p1 σ1:=⟨n.ext.weak λ_=>Ci,n.rel⟩
def Sx.trans(m:Sx c p pg p1 σ1)(n:Sx c p1 σ1.pg p2 σ2):Sx c p pg p2 σ2:=⟨m.ext.trans Z n.ext,n.rel⟩
def KS.next(q:KS c p pg G fl Q)(n:Sx c p pg p1 σ1):KS c p1 σ1.pg G fl Q:=λd T g r=>q d T (n.trans g) r
def O?.next(h:O? c m p1 σ1.pg G fl)(n:Sx c p pg p1 σ1)(q:KS c p pg G fl Q)(E:aT):he (M' c) c.A m Q E p1.s:=h Q E (q.next n)
def te{f:Fl}{P:Prop}(h:Nn g F T f)(d:f=.next->T=.next->P)(i:f=.brk->T=.brk->P)(j:∀v w,f=.ret v->T=.ret w->Rd g F w v->P):P:=
 (Fl.casesOn (motive:=λf=>Nn g F T f->(f=.next->T=.next->P)->(f=.brk->T=.brk->P)->(∀v w,f=.ret v->T=.ret w->Rd g F w v->P)->P) f (λh k _ _=>k Z h) (λh _ k _=>k Z h) λv h _ _ k=>by obtain⟨w,h,r⟩:=h;exact k v w Z h r) h d i j
def aaf:LX c nx []:=λp L fl G e r Q E q=>iy e λh d=>vG (q p .next (d▸.of (.refl r)) (h▸Z))
def Ub(d:SS c a s)(i:LX c b es):LX c (bh a b) (s::es):=λp L fl G e r=>aQ e λf1 σ1 g e=>λQ E q=>yI (d p L f1 σ1 g r _ _ λp1 T h d=>te d
 (λd g=>by rw[g];rw[d]at e;exact(i p1 σ1 fl G e h.rel).next h q E) (λd g=>by rw[g];rw[d]at e;exact iy e λi j=>q p1 _ (j▸h) (i▸Z))
 λv w d g k=>by rw[g];rw[d]at e;exact iy e λi j=>q p1 _ (j▸h) (i▸⟨w,Z,k⟩))
def jf{t:N Expr}{l:W}:d5 e->lN e t l d=H1 J:=by apply@Expr.casesOn (λe=>d5 e=U->lN e t l d=H1 J) e<;>intros<;>first|rfl|exact ao ‹_›
def zf(d:c.OK):interactive c.env=J:=by unfold interactive;rw[d.kind];rfl
def KS.nx(q:KS c p pg G fl Q)(e:Ev.nx σ1=O (fl,G))(n:Sx c p pg p1 σ1):Q .next p1.s:=iy e λh d=>q p1 .next (d▸n) (h▸Z)
def Uc(d:c.OK)(h:SE c f ea)(g:d5 ea):SS c (vW f) (.Expr ea R):=λp L fl G e r=>aQ e λi σ1 i e=>λQ E q=>wpAny_Expr_any (h.val i r _ _ λp1 x h i=>q.nx e (.of h)) (zf d) (jf g)
def CA:SS c (sW U f) (.Return C R):=λp L fl G e r Q E q=>iy e λh d=>wpAny_Return_none (q p _ (d▸.of (.refl r)) (h▸⟨_,Z,Z⟩))
def aag(h:SE c f ea):SS c (sW J f) (.Return (O ea) R):=λp L fl G(e:ax _ (λv s=>O (.ret v,s))=O (fl,G))r=>aQ e λd σ1 d e=>λQ E q=>wpAny_Return_some (h.val d r _ _ λp1 x d g=>iy e λh i=>q p1 _ (i▸.of d) (h▸⟨x,Z,g⟩))
def aah:SS c (λs=>O (.brk,s)) (.Break R):=λp L fl G e r Q E q=>iy e λh d=>wpAny_Break (q p _ (d▸.of (.refl r)) (h▸Z))
def aai:SS c nx (.Pass R):=λp L fl G e r Q E q=>wpAny_Pass (q.nx e (.of (.refl r)))
def aaj(h:SE c f ea)(i:LX c a d)(j:LX c b g):SS c (BH f a b) (.If ea d g R):=λp L fl G e r=>aQ e λd σ1 d e=>λQ E q=>wpAny_If (h.yQ d r _ _ λp1 x h d=>y9 (λg=>(i p1 σ1 fl G (il (dM g) (rH h e)) d.rel).next (.of d) q E) λg=>(j p1 σ1 fl G (il (dw g) (rH h e)) d.rel).next (.of d) q E)
def Ud(h:SE c f ea):SS c (HD f) (.Assert ea m R):=λp L fl G e r=>aQ e λd σ1 d e=>λQ E q=>wpAny_Assert_holds (h.yQ d r _ _ λp1 x d g=>bW (rH d e) λd e=>⟨d,q.nx e (.of g)⟩)
def aak{d:eg}(h:LX c a es):SS c a (.Try es (d::g) [] [] R):=λp L fl G e r Q E q=>wpAny_Try_except (h p L fl G e r _ _ λp1 T h d=>te d (λd g=>by rw[g];exact vG (q p1 _ h (d▸Z))) (λd g=>by rw[g];exact q p1 _ h (d▸Z)) λv w d g i=>by rw[g];exact q p1 _ h (d▸⟨w,Z,i⟩))
def mF(d:c.OK):(c.env.scope.kind==.class||(c.env.scope.kind==.module&&c.env.locals !=c.env.globals))=J:=by rw[d.kind];rfl
def Ii(g:c.OK)(r:bC c p L)(z:aq c.lv x){h:ul}(n:∀a o,p.h.get? a=O o->h.get? a=O o){t:ii}(A:p.h.get? t=C){q:N Ow}(B:∀j,q=O j->j=.loc x/\∃o,h.get? t=O o){y:bv}{l:LV}(m:W)
 (F:∀d u k,v1 c.L h d->k (c.g.nm x)=O y->Zz c (p.up d u p.F (bQ t q (mY (.loc x) p.ow))) k x (O l)){Q:df->ge->Prop}{E:aT}(K:∀i,Ext (lg U) p L.pg i L.pg->bC c i (aE L x l)->Q () i.s):
  he (M' c) c.A (UF c.env (c.g.nm x) y) Q E {p.s with heap:=h,toks:=m}:=by
 obtain⟨h,h,H⟩:=r.loc;have i:=h.at λo=>n _ o;refine BP (g.loc x z) (g.locals▸i) (λd i j=>?_) (mF g);rw[g.locals]at i j;have h:=i;obtain⟨o,_,_,k,_⟩:=h;have S:kJ (λw=>w=.frame∨w=.loc x) p (p.up d (m+1) p.F _):=kJ.bind r.pg.own n j r.kx k A B (bx Z) (bx Z);refine K _ (S.ext (Ay Z Z) (aU _) λ_=>⟨λ_=>Z,λa t o=>S.ko t _ o λh=>h.elim (bx Z) (bx Z)⟩) (S.MS r (λw h e=>e.elim (λe=>ao (e▸h:shared .frame=U)) (FL h)) i λa=>?_);by_cases z:a=x
 ·rw[z,show aj x _=_ from dk]
  exact F d _ _ j (eP Z)
 ·rw[show aj a _=_ from bZ z]
  exact(H a).to S (eH λh=>z (g.kf.inj _ _ h)) λh=>h.elim (bx Z) λh=>z (Am h)
def tc{d:I}(k:N Ow)(h:lg d k):lg U k:=by induction d with|true=>exact h|false=>exact pm id (λk=>Ow.casesOn k id (λ_=>id) ao ao aV ao id) k h
def Sx.ofT{l:LV}{x:W}(e:Ext (lg U) p L.pg p1 L.pg)(r:bC c p1 (aE L x l)):Sx c p L.pg p1 (aE L x l):=⟨e.weak tc,r⟩
def qF(g:c.OK)(r:bC c p L)(h:aq c.lv x){y:bv}(i:Rd c.g p.F y v){Q:df->ge->Prop}{E:aT}(K:∀d,Ext (lg U) p L.pg d L.pg->bC c d (aE L x (.val v))->Q () d.s):he (M' c) c.A (UF c.env (c.g.nm x) y) Q E p.s:=Ii g r h (l:=.val v) (λ_ _=>id) (ju (aU _)) bX p.s.toks (λ_ _ _ _ h=>⟨y,h,i⟩) K
def iV(g:c.OK)(r:bC c p L)(h:aq c.lv x){y:bv}(i:Rd c.g p.F y v){Q:df->ge->Prop}{E:aT}(K:∀d,Sx c p L.pg d (aE L x (.val v))->Q () d.s):he (M' c) c.A (UF c.env (c.g.nm x) y) Q E p.s:=qF g r h i λd e g=>K d (.ofT e g)
def Kx(j:c.OK)(r:bC c p L)(k:aq c.lv x){d:aP}{h:af}(z:jV d)(l:cD c.g p.F d h){n:W}{Q:df->ge->Prop}{E:aT}(K:∀g,Sx c p L.pg g (aE L x (.own h))->Q () g.s):he (M' c) c.A (UF c.env (c.g.nm x) (.ref p.h.objs.size)) Q E {p.s with heap:=p.h.push (eE d n)}:=have i:=gZ p.h Z;Ii j r k (l:=.own h) (λ_ _=>hJ _) (ju (aU _)) (λh h=>⟨(au h).symm,_,i⟩) p.s.toks (λj k j j h=>⟨_,h,dS,d,n,(j.2 _ λq=>by obtain⟨o,d⟩:=r.pg.own.sJ _ _ r.kx;exact aa (il (ju (aU _)) (q▸d))).trans i,z,l⟩) λg e d=>K g (.ofT e d)
end
section
variable{g:fC}{es l:gS}{e:M2}{a b:W}{t:kv}{hsh:D}{y key:bv}
def iM.un(h:iM g (e::es)):(∃a t,e.key=.str (g.nm a) t)/\iM g es:=⟨h e gY,λx c=>h x (iH _ c)⟩
def iM.cons(h:∃a t,e.key=.str (g.nm a) t)(k:iM g es):iM g (e::es):=λx c=>(c?.mp c).elim (λq=>q▸h) (k x)
def lO(c:∀x y,g.nm x=g.nm y->x=y)(d:e.key=.str (g.nm a) t):fe (g.nm b) hsh key y (e::es)=br (ac a b) (⟨e.hash,e.key,y⟩::es) (e::fe (g.nm b) hsh key y es):=by rw[fe,HS c d];cases ac a b<;>rfl
def CC(c:lw):(fe c hsh key y es).length<=es.length+1:=by induction es with|nil=>exact aU _|cons e es d=>rw[fe];split;exact iI _;exact eN d
def NG(k:iM g es)(d:∀x y,g.nm x=g.nm y->x=y):iM g (fe (g.nm b) hsh (.str (g.nm b) t) y es):=by induction es with|nil=>exact iM.cons ⟨b,t,Z⟩ k|cons e es f=>obtain⟨⟨a,c,h⟩,k⟩:=k.un;rw[lO d h];cases ac a b with|true=>exact iM.cons ⟨a,c,h⟩ k|false=>exact iM.cons ⟨a,c,h⟩ (f k)
def NH(k:iM g es)(c:∀x y,g.nm x=g.nm y->x=y):d4 (g.nm b) (fe (g.nm b) hsh (.str (g.nm b) t) y es)=O (O y):=by induction es with|nil=>rw[show fe _ hsh _ y []=[⟨hsh,.str _ t,y⟩]from Z,gD c Z,dM (cf b)]|cons e es d=>obtain⟨⟨a,f,h⟩,k⟩:=k.un;rw[lO c h];by_cases z:ac a b=U;rw[dM z,gD c (e:=⟨e.hash,e.key,y⟩) h,dM z];have z:=d8.mpr z;rw[dw z,gD c h,dw z];exact d k
def Ue(k:iM g es)(c:∀x y,g.nm x=g.nm y->x=y)(n:a≠b):d4 (g.nm a) (fe (g.nm b) hsh (.str (g.nm b) t) y es)=d4 (g.nm a) es:=by induction es with|nil=>rw[show fe _ hsh _ y []=[⟨hsh,.str _ t,y⟩]from Z,gD c Z,dw (jW n.symm)]|cons e es d=>obtain⟨⟨f,h,h⟩,k⟩:=k.un;rw[lO c h,gD c h];by_cases z:ac f b=U;rw[dM z,gD c (e:=⟨e.hash,e.key,y⟩) h,dw (jW λq=>n (il q (aK z)))];rw[dw (jW λq=>n (il q (aK z)))];rw[dw (d8.mpr z),gD c h,d k]
def ahA(o:N (eU))(n m:W):=oc o (λo=>oc o (λ_=>n=m) (n=m+1)) mf
def Ky(k:iM g es)(c:∀x y,g.nm x=g.nm y->x=y):ahA (d4 (g.nm b) es) (fe (g.nm b) hsh key y es).length es.length:=by induction es with|nil=>exact Z|cons e es d=>obtain⟨⟨a,f,h⟩,k⟩:=k.un;rw[lO c h,gD c h];cases ac a b with|true=>exact Z|false=>exact pm id (pm (λh=>ah pp h) λ_ h=>ah pp h) (d4 _ es) (d k)
def Ug{c:Type}{l:Y (W×c)}{w:c}(e:aj a l=C):(put a w l).length=l.length+1:=by induction l with|nil=>rfl|cons p l d=>by_cases h:ac p.1 a=U;exact ch (il (fF h) e) (yG _);have h:=d8.mpr h;rw[Af h];exact ah pp (d (il (dH h) e))
def Uh{p:Pt}{q:N PA}(h:d4 (g.nm b) l=d4 (g.nm b) es):wk g p es b q->wk g p l b q:=by unfold wk;rw[h];exact id
def noRef(k:iM g es):es.any (·.refKey)=J:=by induction es with|nil=>rfl|cons e es c=> obtain⟨⟨a,d,h⟩,k⟩:=k.un;rw[sO,c k,show e.refKey=J by unfold CT;rw[h]];rfl
end
section
variable{c:Cx}{p p':Pt}{R σ':St}{a:W}{y:bv}{pa:PA}{es:gS}{n n' g':W}{hsh:D}{t:kv}{T:Ow->Prop}{v:V}{fl:Fl}
abbrev NI(c:Cx)(a:W)(hsh:D)(t:kv)(y:bv)(es:gS):gS:=fe (c.g.nm a) hsh (.str (c.g.nm a) t) y es
variable(ok:c.OK)
def CD(d:pV c.g p R.pg.par es n)(S:kJ T p p')(j:∀b,b≠a->¬T (.bU b))(h:c.g.bw a)(f:p'.h.get? c.g.dG=O (fE (NI c a hsh t y es) n'))(g:(NI c a hsh t y es).length<=lim)(i:yl c.g p' a y pa):pV c.g p' (put a pa R.pg.par) (NI c a hsh t y es) n':=by have e:=ok.kf.inj;refine⟨f,?_,g,NG d.key e,λb=>?_⟩;(have L:=Ky (hsh:=hsh) (key:=.str (c.g.nm a) t) (y:=y) (b:=a) d.key e;have A:=d.bU a;cases f:aj a R.pg.par with|none=>rw[f]at A;rw[show d4 _ es=_ from A]at L;rw[Ug f,<-d.len];exact L|some q=> rw[f]at A;obtain⟨_,w,g,_⟩:=A;rw[g]at L;rw[kM f,<-d.len];exact L);by_cases z:b=a;rw[z,dk];exact⟨h,y,NH d.key e,i⟩;rw[bZ z];exact Uh (Ue d.key e z) (S.bU (j b z) (d.bU b))
variable(r:bC c p R)
def Ij(S:kJ T p p')(b:∀w,T w->w=.dict∨w=.bU a)(f:c.g.dj)(g:p'.ow c.g.dG=O .dict)(i:pV c.g p' (put a pa R.pg.par) es n):bC c p' ⟨R.loc,⟨put a pa R.pg.par,R.pg.aG,g'⟩⟩:=by have d:∀{w},ac (HY w) 3=J->ac (HY w) 4=J->¬T w:=λh k q=>(b _ q).elim (λe=>ao (il h (e▸Z))) λe=>ao (il k (e▸Z));have sh:∀w,T w->shared w:=λw h=>(b w h).elim (λe=>e▸Z) λe=>e▸Z;refine S.rel r ⟨S.own,λ_=>?_,λb=>S.aG (pg:=R.pg) r.pg (d Z Z) b⟩ sh;obtain⟨b,e,e,_⟩:=r.pg.par f;exact⟨S.ko _ _ b (d Z Z),g,S.k' b (d Z Z) e,es,n,i⟩
def CE{s:ge}{K:WP}(X:K.In s.heap)(f:W.InstAt s.heap x (lb d e) d (O (fE es n)))(j:ty K (.ref d) "__setattr__"=O (O (.builtin "object.__setattr__"))/\ct K d){b:lw}(m:ee K d b=O C)(o:c5 K d)(u:es.any (·.refKey)=J)(z:es.length+1<=lim){Q:df->ge->Prop}
 (q:∀n' hsh t h l,v1 e s.heap h->h.get? e=O (fE (fe b hsh (.str b t) y es) n')->Q () {s with heap:=h,toks:=l}):he (WF k w) A (mu (.ref x) b y) Q E s:=by
 have i:=f.dict;refine set_plain X f j.1 (osa_open X f j.2 m λd=>?_);obtain⟨d,d,B⟩:=any_some o;have F:=f.at_;have G:=looks_clsIn (M:=WF k w) X d;obtain⟨H,L,M,g,P⟩:=s;refine bR (cP (bR (bR (Q? F (bR (G.at ?_))))));rw[B];refine cP (bR (cP (bR ?_)));refine bR (bR (wpAny_askSetting (cP (bR (wpAny_mkText (bR (Q? i ?_)))))));have d:(!es.toArray.any (·.key.isStr b)&&es.toArray.any (·.refKey))=J:=by rw[show es.toArray.any (·.refKey)=J by rw[<-Array.any_toList];exact u,q_]
 show he _ _ (if aRefKeyMayBeTheName b es.toArray=U then _ else _) _ _ _;rw[aRefKeyMayBeTheName_at,d];have h:(fe b (On w.params b) (.str b (g+1)) y es).length<=lim:=ay (CC _) z;have d:=putName_dict b (On w.params b) (.str b (g+1)) y es n
 have f:(H.update e (Obj.putName b (On w.params b) (.str b (g+1)) y)).get? e=O (fE (fe b (On w.params b) (.str b (g+1)) y es) (putN b es n)):=by rw[nT _ i (by rw[show fE es n=dictOf es n from Z,d];rfl),show fE es n=dictOf es n from Z,d];rfl
 refine wpAny_updatePart i (bR (wpAny_lookBehind f (pastItsLine_dict ?_) (cP (q _ _ _ _ _ (Heap.SameBut.update ..) f))));rw[EX];exact vI (ay h bI)
variable(x:c.g.dj)(A:c.g.bw a)
def CF(h:bd (ak R.pg.par) 900000){d:ul}(g:∀a o,p.h.get? a=O o->d.get? a=O o)(e:pV c.g p R.pg.par es n){k:W}{Q:df->ge->Prop}{E:aT}
 (q:∀n' hsh t b f,v1 c.g.dG d b->b.get? c.g.dG=O (fE (NI c a hsh t y es) n')->(NI c a hsh t y es).length<=lim->Q () {p.s with heap:=b,toks:=f}):he (M' c) c.A (mu (.ref c.g.par) (c.g.nm a) y) Q E {p.s with heap:=d,toks:=k}:=
 have z:=by rw[aB]at h;rw[e.len];exact Nc h
 CE (λa o d=>g _ _ (ok.In r a o d)) ⟨g _ _ (r.pg.par x).3,Z,Z,g _ _ e.at_⟩ (ok.kf.K2 x) (ok.kf.HH a x A) (ok.kf.Cm x) (noRef e.key) z λn' hsh t b f d e=>q n' hsh t b f d e (ay (CC _) z)
def ż{P:Prop}(h:hV c.G.ro R a pa=O (fl,σ'))(k:c.G.ro=J->bd (ak R.pg.par) 900000->.next=fl->⟨R.loc,⟨put a pa R.pg.par,R.pg.aG,q8 R a pa⟩⟩=σ'->P):P:=FU h λb h=>bW h λd h=>iy h λe f=>k b d e f
def Ik(m:c.G.ro=J)(e:bd (ak R.pg.par) 900000){b:ul}(g:∀a o,p.h.get? a=O o->b.get? a=O o){t:ii}(h:p.h.get? t=C){q:N Ow}(l:∀i,q=O i->i=.bU a/\∃o,b.get? t=O o){k:W}(f:q8 R a pa=R.pg.bD+1)
 (s:∀d n,v1 c.g.dG b d->yl c.g (p.up d n p.F (bQ t q (mY (.bU a) p.ow))) a y pa){Q:df->ge->Prop}{E:aT}(K:∀p',Sx c p R.pg p' ⟨R.loc,⟨put a pa R.pg.par,R.pg.aG,q8 R a pa⟩⟩->Q () p'.s):he (M' c) c.A (mu (.ref c.g.par) (c.g.nm a) y) Q E {p.s with heap:=b,toks:=k}:=by
 obtain⟨_,i,_,es,n,b⟩:=r.pg.par x;refine CF ok r x A e g b λn' hsh e d e j k o=>?_;have S:kJ (λw=>w=.dict∨w=.bU a) p (p.up d e p.F _):=kJ.bind r.pg.own g j i k h l (bx Z) (bx Z);exact K _ ⟨S.ext (λw e=>Ay Z Z w (m▸e)) (jM (Nat.lt_of_lt_of_eq (nN _) f.symm)) λe=>ch (il f e) (zQ _),Ij r S (λ_=>id) x ((bp λq=>aa (il h (q▸b.at_))).trans (MR i (bx Z))) (CD ok b S (λb b h=>h.elim (bx Z) λh=>b (HV h)) A k o (s _ _ j))⟩
def Yk{q:PA}:Hx q=J->kN (O q)=C:=PA.casesOn q (λv h=>(ah (λo=>mp o O) (Option.isSome_eq_false_iff.mp h|>vC.mp))) (λ_ h=>ao h.symm) (λ_ h=>ao h.symm) (λ_ h=>ao h.symm) λ_ h=>ao h.symm
def aal{q:N PA}:oc q Hx J=J->kN q=C:=pm (λ_=>Z) (λ_=>Yk) q
def CG(g:Rd c.g p.F y v)(e:hV c.G.ro R a (.val v)=O (fl,σ')){Q:df->ge->Prop}{E:aT}(K:∀p',Sx c p R.pg p' σ'->.next=fl->Q () p'.s):he (M' c) c.A (mu (.ref c.g.par) (c.g.nm a) y) Q E p.s:=ż e λh i j b=>by
 rw[<-b]at K;have one:q8 R a (.val v)=R.pg.bD+1->he _ c.A _ Q E p.s:=λf=>Ik ok r x A h i (λ_ _=>id) (ju (aU _)) bX f (λ_ _ _=>g) λp' n=>K p' n j;by_cases b:Hx (.val v)=U
 ·exact one (dM b)
 have b:=d8.mpr b;by_cases d:oc (aj a R.pg.par) Hx J=U
 ·exact one ((dw b).trans (dM d))
 have d:=d8.mpr d;have f:q8 R a _=R.pg.bD:=(dw b).trans (dw d);obtain⟨_,k,_,es,n,l⟩:=r.pg.par x;refine CF ok r x A i (λ_ _=>id) l λn' hsh i m o s i u=>?_;have S:kJ (λw=>w=.dict) p (p.up m o p.F p.ow):=kJ.turn r.pg.own s k i;refine K _ ⟨S.ext (λw e q=>Ay (k:=.dict) Z Z w (h▸e) (.inl q)) (cZ f.symm) λ_=>⟨λe=>?_,λ_ _=>id⟩,Ij r S (λ_=>.inl) x k (CD ok l S (λe _=>bx Z) A i u g)⟩ j;by_cases z:e=a
 ·rw[z,dk,Yk b,aal d]
 ·rw[bZ z]
def aam:Hx (vP b):=Cn.casesOn b (λ_=>Z) (λ_=>Z) (λ_=>Z) λ_=>Z
def CH(fo:o.isFreed=J)(f:∀b n d,b.get? p.h.objs.size=O o->g7 c.g (p.up b n p.F d) p.h.objs.size cn)(e:hV c.G.ro R a (vP cn)=O (fl,σ')){Q:df->ge->Prop}{E:aT}(K:∀p',Sx c p R.pg p' σ'->.next=fl->Q () p'.s):
  he (M' c) c.A (mu (.ref c.g.par) (c.g.nm a) (.ref p.h.objs.size)) Q E {p.s with heap:=p.h.push o}:=ż e λd e h i=>
 have g:=gZ p.h fo
 Ik ok r x A d e (λ_ _=>hJ o) (ju (aU _)) (λd d=>⟨(au d).symm,o,g⟩) (dM aam)
  (λb n b=>HZ ⟨_,Z,dS,f _ _ _ ((b.2 _ λq=>by obtain⟨_,_,_,es,m,b⟩:=r.pg.par x;exact aa (il (ju (aU _)) (q▸b.at_))).trans g)⟩) λp' n=>K p' (i▸n) h
end
section
variable{c:Cx}{p p1 p2:Pt}{B σ1 σ2 F:St}{pg:PG}{v w:V}{fl:Fl}{e ea eo:Expr}{es A:bM}{f:fc}{G H:ww}{x a:W}{xs:ae}{y:bv}{t:ii}
def mG{P:Prop}(h:bV c.g.nm (x::xs) A)(k:∀p es,A=.Name (c.g.nm x) p::es->bV c.g.nm xs es->P):P:=by induction A with|nil=>exact ao h|cons t l _=> refine ag (show(nu t (iD c.g.nm x)&&bV c.g.nm xs l)from h) λb d=>?_;obtain⟨s,p,g,b⟩:=kF b;exact k p l (g▸g6 b▸Z) d
def mH{s:ge}{Q:df->ge->Prop}(h:he (M' c) c.A (UF c.env (c.g.nm x) y) Q E s):he (M' c) c.A (assign (.Name (c.g.nm x) G) c.env y) Q E s:=by exact bR (uk (wpAny_bindName h))
def ķ(c:Cx)(A:bM):Y (bv->e5 df):=(el A c.env).map (·.2)
def rL{P:Prop}(h:gN c.lv (x::xs))(k:aq c.lv x->gN c.lv xs->P):P:=by by_cases q:aq c.lv x=U;exact k q (il (dM q) h);exact ao (il (dw (d8.mpr q)) h)
def FY(k:c.OK)(xs:ae):∀(x:W)(A:bM)(p:Pt)(B:St),bV c.g.nm (x::xs) A->gN c.lv (x::xs)->bC c p B->Rd c.g p.F y v->∀(Q:df->ge->Prop)(E:aT),(∀b,Sx c p B.pg b (oX v (x::xs) B)->Q () b.s)->he (M' c) c.A (assignAll y (ķ c A)) Q E p.s:=by induction xs with|nil=> refine λx A p B g h r d Q E q=>mG g λH es i b=>rL h λj _=>?_;rw[i,(cO.mp b)];exact mH (iV k r j d q)|cons l xs m=> refine λx A p B g h r d Q E q=>mG g λH es i b=>rL h λj h=>?_;rw[i];refine mG b λg g g _=>?_;rw[g]at b ⊢;exact bR (ui (mH (iV k r j d λp1 g=>m l _ p1 _ b h g.rel (d.bS g.ext.le) Q E λp2 b=>q p2 (g.trans b))))
def wW(d:bV c.g.nm (x::xs) A):j! A e b=H1 C:=mG d λp es b _=>by rw[b];cases es<;>rfl
def Az{l:W}(h:d5 e):swapsWithSole A e l b=H1 J:=by
 induction A with
 |nil=>rfl
 |cons t A=>induction A with
  |nil=>exact jf h
  |cons _ _ _=>rfl
def aan(g:c.OK)(h:SE c f ea)(b:bV c.g.nm (x::xs) A)(i:gN c.lv (x::xs))(j:d5 ea):SS c (Mx (x::xs) f) (.Assign A ea G):=λp B fl F e r=>aQ e λd σ1 d e=>λQ E q=>EK (h.val d r _ _ λp1 y d h=>FY g xs x A p1 σ1 b i d.rel h _ E λp2 g=>q.nx e ((Sx.of d).trans g)) (Az j) (wW b)
def Ui(k:c.OK){l:sT}(h:SL c l es)(z:bd es.length 1000)(b:bV c.g.nm xs A)(d:gN c.lv xs):SS c (HB xs l) (.Assign A (.List es H) G):=λp B fl F e r=>ym e λx i e=>aQ e λg σ1 g e=>λQ E q=>by rw[i]at b d;refine EK (rn ((h.2 p B _ _ g r H).1 _ _ λp1 i i j=>?_)) (Az Z) (wW b);have L:=u9 (h.1 _ _ _ g) j z;refine⟨ay L bI,mG b λp2 l b g=>rL d λd _=>?_⟩;rw[b,(cO.mp g)];exact mH (Kx k i.rel d L j λp2 b=>q.nx e ((Sx.of i).trans b))
def wY:∀{A:bM},bV c.g.nm xs A->(el A b).length=xs.length/\(el A b).findIdx? (·.1)=C:=by induction xs with|nil=>exact λ{A}h=>(cO.mp h)▸⟨Z,Z⟩|cons x xs d=> refine λ{A}h=>mG h λp es g h=>?_;obtain⟨a,i⟩:=d h;rw[g,show el _ b=_::el es b from Z];exact⟨ah pp a,by rw[List.findIdx?_cons,i];rfl⟩
def Il{P:Prop}(h:unpack (x::xs) b B=O F)(k:∀v l,b=v::l->unpack xs l (aE B x (.val v))=O F->P):P:=mZ (h) k
def FZ:∀{b:af}{B:St},unpack xs b B=O F->xs.length=b.length:=by induction xs with|nil=>exact λh=>lh h λh _=>h▸Z|cons x xs d=>exact λh=>Il h λv l b h=>b▸ah pp (d h)
def zg(m:c.OK)(xs:ae):∀(A:bM)(g:aP)(h:af)(p:Pt)(B:St),bV c.g.nm xs A->gN c.lv xs->unpack xs h B=O F->bC c p B->cD c.g p.F g h->∀(Q:df->ge->Prop)(E:aT),(∀b,Sx c p B.pg b F->Q () b.s)->he (M' c) c.A (assignInOrder (ķ c A) g) Q E p.s:=by induction xs with|nil=> refine λA g h p B i j b r d Q E q=>lh b λk b=>?_;rw[(cO.mp i)];exact cP (q p (au b▸.of (.refl r)))|cons x xs n=> refine λA g h p B i j b r d Q E q=>mG i λH es g h=>rL j λi j=>Il b λv l k b=>?_;rw[k]at d;obtain⟨w,k,o,s,d⟩:=d.un;rw[g,o];exact bR (ui (mH (iV m r i s λp1 g=>n es k l p1 _ h j b g.rel (d.bS g.ext.le) Q E λp2 b=>q p2 (g.trans b))))
def wZ(g:c.OK)(r:bC c p B){k:W}{b:af}(h:bV c.g.nm xs A)(l:gN c.lv xs)(i:unpack xs b B=O F)(j:Rd c.g p.F y (.tup b)){Q:df->ge->Prop}{E:aT}(q:∀d,Sx c p B.pg d F->Q () d.s):he (M' c) c.A (assign (.Tuple A k H) c.env y) Q E p.s:=by obtain⟨a,m,n,n,f,z,d⟩:=(j);obtain⟨j,o⟩:=wY h;rw[n];refine rl g.handled ⟨_,r.st _ _ f,Z,_,Z⟩ (j.trans ((FZ i).trans (cD.length d).symm)) o λn o=>?_;have j:Nx c p B.pg (p.up n p.s.toks p.F p.ow) B:=Nx.grow r _ (λn r e=>o n r (nO (pK e)) e) (λ_ _=>id) λ_ _=>.inl;exact zg g xs A m b _ B h l i j.rel d Q E λp2 b=>q p2 ((Sx.of j).trans b)
def aao:B7 e->j! [.Tuple A k H] e b=H1 C:=by apply@Expr.casesOn (λe=>B7 e=U->j! [.Tuple A k H] e b=H1 C) e<;>intros<;>first|rfl|exact ao ‹_›
def aap(d:c.OK){k:W}(h:SE c f ea)(g:bV c.g.nm xs A)(i:gN c.lv xs)(j:d5 ea)(l:B7 ea):SS c (Tc xs f) (.Assign [.Tuple A k H] ea G):=λp B fl F e r=>aQ e λb σ1 b e=>bL e λm m e=>bL e λσ2 n e=>λQ E q=>EK (h.val b r _ _ λp1 y b h=>wZ (k:=k) d b.rel g i n (oq m▸h) λp2 d=>q.nx e ((Sx.of b).trans d)) (Az j) (aao l)
def zh(c:Cx)(o:Expr):=s8 c 0/\∃H,o=.Name (c.g.nm 0) H
def pX.step(n:Nx c p pg p1 σ1)(r:bC c p B)(h:pX c p x t):pX c p1 x t:=by obtain⟨m,b,d⟩:=h;exact⟨m,b.at λ_ e=>n.ext.keep _ _ e (r.kx▸Z),d⟩
def ve(d:c.OK)(b:zh c eo)(g:aq c.lv 0)(L:pX c p 0 c.g.par){Q:aT}{E:aT}(q:Q (.ref c.g.par) p.s):he (M' c) c.A (Db eo c.env) Q E p.s:=by obtain⟨h,H,i⟩:=b;obtain⟨m,b,e⟩:=L;exact i▸qY (jY d g b e q) h
def NJ{X:I}{P:Prop}(h:gd (iR c.lv B) (gd X k)=O z)(r:bC c p B)(K:c.g.dj->aq c.lv 0->pX c p 0 c.g.par->X->k=O z->P):P:=bW h λb h=>bW h λd h=>have s:=Ap r b;K s.1 s.2 s.3 d h
def KS.fin(q:KS c p pg F fl Q)(n:Sx c p pg p1 F)(h:.next=fl):Q .next p1.s:=q p1 .next n (h▸Z)
def Uj(b:c.OK){l:sT}(g:zh c eo)(h:SE c f ea)(i:d5 ea):SS c (vX c.G c.lv a J J l f) (.Assign [.Attribute eo (c.g.nm a) H] ea G):=λp B fl F e r=>NJ e r λj k L m(e:ax _ (λv s=>hV c.G.ro s a _)=O _)=>aQ e λd σ1 d e=>λQ E q=> Hp (h.val d r _ _ λp1 y d h=>ve b g k (L.step d r) (CG b d.rel j (b.bw a m) h e λp2 b=>KS.fin q ((Sx.of d).trans b))) (jf i)
def NK(d:c.OK){l:sT}{b:I}{p2:ww}(n:zh c eo)(h:SL c l es)(z:bd es.length 1000):SS c (vX c.G c.lv a U b l f) (.Assign [.Attribute eo (c.g.nm a) H] (.List es p2) G):=λp B fl F e r=>NJ e r λo s L u(e:ax _ (λg b=>hV c.G.ro b a (.lst g))=O _)=>aQ e λg σ1 i e=>λQ E q=>by refine Hp (rn ((h.2 p B _ _ i r p2).1 _ _ λp1 j b k=>?_)) Z;have m:=u9 (h.1 _ _ _ i) k z;have h:=Nx.push b.rel (eE j 0) p1.s.toks;exact⟨ay m bI,ve d n s ((L.step b r).step h b.rel) (CH (cn:=.lst g) d b.rel o (d.bw a u) Z (λd n d g=>⟨j,0,g,m,k⟩) e λp2 h=>KS.fin q ((Sx.of b).trans h))⟩
def NL(b:c.OK){l:sT}{p2:ww}(d:zh c eo):SS c (vX c.G c.lv a J U l f) (.Assign [.Attribute eo (c.g.nm a) H] (.Dict [] [] p2) G):=λp B fl F e r=>NJ e r λg h L i(e)=>λQ E q=> Hp (wpAny_Dict_empty (ve b d h (L.step (Nx.push r _ p.s.toks) r) (CH (cn:=.kX []) b r g (b.bw a i) Z (λb n b g=>⟨[],Ae (Heap.DictOf.new p.h) (λo e=>(au (il (gZ p.h Z) e))▸g),eG _,Z,Z⟩) e λp2 b=>KS.fin q b))) Z
end
section
variable{c:Cx}{p p1 p2:Pt}{σ σ1 σ2 T:St}{v w:V}{fl:Fl}{e ea eo ei:Expr}{f i:fc}{pos ps:ww}{x a:W}{po:N Pl}{t:ii}{R:nw}{es:b9}{b:gB}
def Đ{d:Type}{l:LV}{f:V->N d}{g:af->N d}{r:d}{P:Prop}:Kb l f g=O r->(∀v,l=.val v->f v=O r->P)->(∀d,l=.own d->g d=O r->P)->P:=LV.casesOn l (λv h k _=>k v Z h) λd h _ k=>k d Z h
def ahB{d:Type}{b:I}{x:N d}{r:d}(h:b)(k:x=O r):gd b x=O r:=h▸k
variable(ok:c.OK)(hp:SA c po eo)(hi:SE c i ei)
def Uk(d:SE c f ea)(l:d5 ea):SS c (HC c.G c.lv po i f) (.Assign [.Subscript eo ei ps] ea pos):=λp σ fl T e r=>bL e λg h e=>aQ e λj σ1 j e=>bL e λk k e=>aQ e λm σ2 m e=>bW e λo e=>bL e λn s e=>bL e λn u e=>bL e λn y e=>λQ E q=>wpAny_Assign_Subscript (d.val j r _ _ λp1 y1 d r=>by obtain⟨t,P⟩:=mA ok d.rel (hp g h) k;exact P.ev _ _ λk=>hi.val m (d.rel.toks k) _ _ λp2 y2 j m=>by have n:=(Nx.toks d.rel k).trans j;have k:=P.again ok d.rel (hp g h) n o s;exact ZW m (r.bS n.ext.le) u k.at_ _ _ λg g _ g h _=>q.nx e (.of (d.trans (n.trans (vc j.rel k.is g h y))))) (jf l)
def NN:SS c (Td c.G c.lv po i) (.Delete [.Subscript eo ei ps] pos):=λp σ fl T e r=>aQ e λd d g e=>bL e λd _ e=>aQ e λd σ2 h e=>bW e λk e=>bL e λd l e=>bL e λd d e=>bL e λj m e=>bL e λj o e=>λQ E q=>by obtain⟨s,t,P⟩:=tb ok r hp g;refine wpAny_Delete (wpAny_deleteEach_cons (wpAny_delete_Subscript (P.ev _ _ λg=>hi.val h (r.toks g) _ _ λp2 y2 h u=>?_)));refine bL d λj y d=>?_;have n:=(Nx.toks r g).trans h;have j:=P.again ok r s n k y;have g:=dic_at d j.at_;obtain⟨d,d⟩:=HI l u;rw[d];exact ZX m g _ _ λd d _ d g _=>wpAny_deleteEach_nil (q.nx e (.of (n.trans (vc h.rel j.is d g o))))
where
 dic_at {p:Pt} {cn:Cn} {t:ii} {kvs:eu} (h:nZ cn=O kvs) (N:g7 c.g p t cn):yk c.g p t kvs:=
  (Cn.casesOn (motive:=λcn=>nZ cn=O kvs->g7 c.g p t cn->yk c.g p t kvs) cn bX (λl h N=>au h▸N) bX bX:nZ cn=O kvs->g7 c.g p t cn->yk c.g p t kvs) h N
def Ul{l:aP}{h:af}(d:wM c p t l n h)(o:p.h.get? k=O (eE g m))(r:cD c.g p.F g j)(s:bd (ak h+ak j) 900000):O_ c (B? .Add (.ref t) (.ref k)) p t (.lst (h++j)) λx=>x=.ref t:=λQ E q=>by(obtain⟨d,z,j⟩:=d;have h:=aeJ j r s;have s:isSeqSlot (O (.builtin "list.__iadd__")):=by decide+kernel);(have u:=by show(ek (.type "list") (dunderI "add")>>=λfi=>H1 (fi.isSome&&!isSeqSlot fi))=H1 J;rw[a6.lookup];rfl);refine ui (bR (wpAny_typeOf ⟨_,d,Z⟩ (bR (fN u ?_))));refine bR (wpAny_binaryOp1_none ⟨_,d,Z⟩ ⟨_,o,Z⟩ H_ (bR (fN (PySem.seqSlot_of a6.lookup s) (bR (wpAny_rule ?_)))));refine hR a6 ⟨_,d,Z⟩ PySem.F.entry_list_iadd (PySem.F.args_list_iadd_2 _ _) (AutoSeq1.list___iadd___list_list_0 t l.toArray n k g.toArray m (Cy (ay h bI)) (ay z bI) (vI (ay h bI))) ⟨d,o,?_⟩;obtain⟨k,l,l⟩:=mC (f:=λx=>x++g.toArray) d (zJ _ _);exact q _ _ _ k ⟨_,_,l,ay (cZ aX) h,j.append r⟩ Z
def Kz(r:bC c p σ)(g:aq c.lv x)(L:pX c p x t){Q:df->ge->Prop}{E:aT}(K:∀d,Sx c p σ.pg d σ->Q () d.s):he (M' c) c.A (UF c.env (c.g.nm x) (.ref t)) Q E p.s:=by refine gq λP h=>?_;obtain⟨m,d,H⟩:=r.loc;obtain⟨j,j,e⟩:=L;refine h ?_;rw[Ao j d]at e;refine BP (ok.loc x g) (ok.locals▸d) (λh d g=>?_) (mF ok);rw[ok.locals]at d g;have j:=d;obtain⟨o,_,_,k,_⟩:=j;have S:kJ (λw=>w=.frame) p (p.up h (p.s.toks+1) p.F p.ow):=kJ.turn r.pg.own g r.kx k;refine K _ ⟨S.ext (λw e q=>Ay (k:=.frame) Z Z w e (.inl q)) (aU _) λ_=>⟨λ_=>Z,λ_ _=>id⟩,S.MS r (λw h e=>ao (e▸h:shared .frame=U)) d λa=>(H a).to S ?_ (bx Z)⟩;by_cases z:c.g.nm a=c.g.nm x;exact(eP z).trans (z▸e.symm);exact eH z
def aeY{h:Cn}{v:V}{P:Prop}(e:cX c.G h c.G.dD [v]=O (u,j))(l:g7 c.g p t h)(k:∀d g,h=.lst d->jc v=O g->.lst (d++g)=j->bd (ak d+ak g) 900000->P):P:=by have m:=jW λq=>ch (il ok.kf.dD ((ah c.g.nm q).trans ok.kf.dT)) (aO Z);refine(Cn.casesOn (motive:=λh=>cX c.G h c.G.dD [v]=O _->g7 c.g p t h->(∀d g,h=.lst d->jc v=O g->.lst (d++g)=j->bd (ak d+ak g) 900000->P)->P) h (λd e _ k=>?_) bX bX λ_ _=>pr) e l k;refine jj e (λh _=>ao (il m h)) λ_ e=>jj e (λ_ e=>?_) λh _=>ao (il h (cf _));exact bL e λg h e=>bW e λj e=>iy e λ_ q=>k d g Z h q j
def aaq(y:s8 c x)(u:SE c f ea):SS c (Te c.G c.lv x R f) (.AugAssign (.Name (c.g.nm x) ps) R ea pos):=λp σ fl T e r=>bW e λg e=>bL e λl z e=>by refine gq λd d=>Đ e (λv h e=>aQ e λw σ1 j e=>bL e λm k e=>d (λQ E q=>?_)) λA h e=>bW e λB e=>aQ e λw σ1 j e=>bW e λF e=>bL e λcn k e=>aQ e λm m G e=>bL e λσ2 K e=>d (λQ E q=>?_);obtain⟨E,m,H⟩:=r.loc;have H:=H x;rw[z,h]at H;obtain⟨y0,n,s⟩:=H;exact oa (jY ok g m n (u.val j r _ _ λp1 y1 d o=>X7 d.rel (s.bS d.ext.le) o k _ _ λp2 s s H=>iV ok s.rel g H λH n3=>q.nx e ((Sx.of (d.trans s)).trans n3)));obtain⟨t,P⟩:=mA (pl:=.loc x) (cn:=.lst A) ok r ⟨y,ps,Z⟩ (ahB g (z▸h▸Z));have L:=P.is;obtain⟨E,m,n⟩:=L;refine oa (jY ok g m n (u.val j r _ _ λp1 y1 d o=>?_));have h:=P.again ok r ⟨y,ps,Z⟩ d F k;refine aeY ok G h.at_ λj j j k m n=>?_;rw[j]at h;obtain⟨j,j,g1,j,r⟩:=h.at_;obtain⟨b,u,s,s,u,y,y⟩:=KX k o;rw[s,add_of B];refine Ul ⟨g1,j,r⟩ (d.rel.st _ _ u) y n _ _ λj k j j k n=>?_;have n3:=vc d.rel h.is j (m▸k) K;rw[n];exact Kz ok n3.rel g (pX.step n3 d.rel h.is) λg g=>q.nx e ((Sx.of (d.trans n3)).trans g)
where
 add_of {R:nw} (h:isAdd R):R=.Add:=(wP (motive:=λR=>isAdd R=U->R=.Add) R (λ_=>Z) ao ao ao ao ao ao ao ao ao ao ao ao:isAdd R->R=.Add) h
def Um(j:zh c eo)(k:SE c f ea):SS c (B4 c.G c.lv a R f) (.AugAssign (.Attribute eo (c.g.nm a) ps) R ea pos):=λp σ fl T e r=>bW e λl e=>bL e λv0 d e=>bL d λg g d=>aQ e λw σ1 m e=>bL e λu n e=>λQ E q=>by obtain⟨h,o,L⟩:=Ap r l;rw[wJ d]at g;obtain⟨y0,l,G⟩:=An ok r h g;(have s:c.g.bw a:=by obtain⟨_,_,_,es,d,d⟩:=r.pg.par h;have A:=d.bU a;rw[g]at A;exact A.1);have g:=Nx.toks r (p.s.toks+1);refine wpAny_AugAssign_AttributeAny (ve ok j o L (G _ _ (k.val m g.rel _ _ λp1 y1 d j=>?_)));exact X7 d.rel (Rd.bS d.ext.le (l)) j n _ _ λp2 z j k=>CG ok j.rel h s k e λh n3=>KS.fin q ((Sx.of (g.trans (d.trans j))).trans n3)
end
open Classical in
def ck(b:Y ii)(p:Pt):Pt:={p with ow:=λa=>if a∈b then O .ck else p.ow a}
open Classical in
def un(b:Y ii)(p:Pt):Pt:={p with ow:=λa=>if a∈b then C else p.ow a}
section
variable{c:Cx}{p p1 p2:Pt}{σ σ1 σ2 σ':St}{pg pg1 pg2:PG}{pk wr fp:Y ii}{a:ii}{k:Ow}{T:N Ow->I}{h0 h':ul}{n:W}
def Yl(h:a∈pk):(ck pk p).ow a=O .ck:=eP h
def Im(h:a∉pk):(ck pk p).ow a=p.ow a:=eH h
def w6(h:a∈pk):(un pk p).ow a=C:=eP h
def nC(h:a∉pk):(un pk p).ow a=p.ow a:=eH h
def rM(h:(un pk p).ow a=O k):a∉pk/\p.ow a=O k:=by by_cases q:a∈pk;exact aa (il (w6 q) h);exact⟨q,il (nC q) h⟩
def bC.mv(r:bC c p σ)(o:Own (p.up h' n p.F b))(k:∀a w,p.ow a=O w->w≠.ck->b a=O w/\∀o,p.h.get? a=O o->h'.get? a=O o):bC c (p.up h' n p.F b) σ:=by obtain⟨m,b,H⟩:=r.loc;have f:=k _ _ r.kx (bx Z);refine⟨r.pg.to o (λa w o h s=>(k a w h (rJ s).2).2 o) (λa w h s=>(k a w h (rJ s).2).1) λ_ _=>id,f.1,⟨m,b.at f.2,λa=>?_⟩,r.base⟩;exact pm id (λl=>LV.casesOn l (λ_=>id) λb h=>by obtain⟨t,e,o,h⟩:=h;exact have z:=k _ _ o (bx Z);⟨t,e,z.1,h.to z.2 λ_ _=>id⟩) (aj a σ.loc) (H a)
def Un(r:bC c p σ)(b:∀a∈pk,p.ow a=C/\(∀o,¬p.F a o)/\∃o,p.h.get? a=O o):bC c (ck pk p) σ:=by(have d:∀{a k},(ck pk p).ow a=O k->(a∈pk/\k=.ck)∨p.ow a=O k:=λ{a k}h=>by by_cases q:a∈pk;exact .inl ⟨q,ou (il (Yl q) h)⟩;exact .inr (il (Im q) h));exact r.mv ⟨λa o f=>⟨(r.pg.own.fz a o f).1,(Im λq=>(b a q).2 o f).trans (r.pg.own.fz a o f).2⟩,λa k h=>(d h).elim (λq=>(b a q.1).3) (r.pg.own.sJ a k),λa e k h h' n=>(d h).elim (λq=>ch q.2 n) λq=>(d h').elim (λd=>ch d.2 n) λd=>r.pg.own.inj a e k q d n⟩ λa w h _=>⟨(Im λq=>aa ((b a q).1.symm.trans h)).trans h,λ_=>id⟩
def aar(kf:T (O .ck))(b:∀a∈pk,p1.ow a=O .ck)(x:Ext T p1 pg1 p2 pg2):Ext T (un pk p1) pg1 (un pk p2) pg2 where
 le:=x.le
 sh:=x.sh
 keep:=λa o e h=>x.keep a o e (by
  by_cases q:a∈pk
  ·exact(b a q).symm▸kf
  ·exact nC q▸h)
 ex:=x.ex
 to:=λa o e=>by
  by_cases q:a∈pk
  ·exact .inr (w6 q)
  ·exact(x.to a o e).imp (λh=>(nC q).trans (h.trans (nC q).symm)) λh=>(nC q).trans h
 ck:=λa=>by
  by_cases q:a∈pk
  ·rw[w6 q,w6 q]
  ·rw[nC q,nC q];exact x.ck a
 kx:=λa=>by
  by_cases q:a∈pk
  ·rw[w6 q,w6 q]
  ·rw[nC q,nC q];exact x.kx a
 bD:=x.bD
 calm:=λe=>⟨(x.calm e).1,λa t h=>have z:=rM h;(nC z.1).trans ((x.calm e).2 a t z.2)⟩
structure oA(c:Cx)(T:N Ow->I)(pk:Y ii)(p:Pt)(pg:PG)(p1:Pt)(σ1:St):Prop where
 rel:bC c p1 σ1
 ext:Ext T p pg (un pk p1) σ1.pg
 ck:∀a∈pk,p1.ow a=O .ck
abbrev BI(c:Cx)(pk:Y ii)(p:Pt)(pg:PG)(p1:Pt)(σ1:St):Prop:=oA c (lg c.G.ro) pk p pg p1 σ1
def oA.start(r:bC c p σ)(g:∀a o,p.h.get? a=O o->h0.get? a=O o)(b:∀a∈pk,p.h.get? a=C)(d:∀a∈pk,∃o,h0.get? a=O o):oA c T pk p σ.pg (Ev.ck pk (p.up h0 n p.F p.ow)) σ:=by have f:bC c (p.up h0 n p.F p.ow) σ:=r.grow g (λ_ _=>id) λ_ _=>.inl;(have e:∀a,(un pk (Ev.ck pk (p.up h0 n p.F p.ow))).ow a=p.ow a:=λa=>by by_cases q:a∈pk;exact(w6 q).trans (r.pg.own.free (b a q)).symm;exact(nC q).trans (Im q));exact⟨Un f λa q=>⟨r.pg.own.free (b a q),λo f=>r.pg.own.ű (b a q) f,d a q⟩,⟨λ_ _=>id,Z,λa o h _=>g a o h,λa o h=>⟨o,g a o h⟩,λa o _=>.inl (e a),λa=>by rw[e],λa=>by rw[e],aU _,λ_=>⟨λ_=>Z,λa t h=>(e t).trans h⟩⟩,λa q=>Yl q⟩
variable(x:oA c T pk p pg p1 σ1)(hw:∀a∈wr,a∈pk)(fr:∀a∈pk,p.h.get? a=C)
def oA.ov(b:∀a o,a∉wr->p1.h.get? a=O o->h'.get? a=O o):Ext T p pg (p1.up h' n p1.F (un pk p1).ow) σ1.pg/\bC c (p1.up h' n p1.F (un pk p1).ow) σ1:=by have d:∀{a w},p1.ow a=O w->w≠.ck->a∉pk:=λh n q=>n (au (il h (x.ck _ q)));have g:∀{a o},p.h.get? a=O o->a∉wr:=λh q=>aa (il (fr _ (hw _ q)) h);have nF:∀{a o},p1.F a o->a∉pk:=λf q=>aa ((x.rel.pg.own.fz _ _ f).2.symm.trans (x.ck _ q));refine⟨⟨x.ext.le,ah (λs:ge=>{s with heap:=h',toks:=n}) x.ext.sh,λa o e k=>b a o (g e) (x.ext.keep a o e k),λa o e=>by obtain⟨i,h⟩:=x.ext.ex a o e;exact⟨i,b a i (g e) h⟩,x.ext.to,x.ext.ck,x.ext.kx,x.ext.bD,x.ext.calm⟩,x.rel.mv ⟨λa o f=>⟨b a o (λq=>nF f (hw a q)) (x.rel.pg.own.fz a o f).1,(nC (nF f)).trans (x.rel.pg.own.fz a o f).2⟩,λa k h=>by obtain⟨o,e⟩:=x.rel.pg.own.sJ a k (rM h).2;exact⟨o,b a o (λq=>(rM h).1 (hw a q)) e⟩,λa e k h h'=>x.rel.pg.own.inj a e k (rM h).2 (rM h').2⟩ λa w h n=>⟨(nC (d h n)).trans h,λo=>b a o λq=>d h n (hw a q)⟩⟩
def oA.over(x:BI c pk p pg p1 σ1)(hw:∀a∈wr,a∈pk)(fr:∀a∈pk,p.h.get? a=C)(b:∀a o,a∉wr->p1.h.get? a=O o->h'.get? a=O o):Sx c p pg (p1.up h' n p1.F (un pk p1).ow) σ1:=have z:=x.ov hw fr b;⟨z.1,z.2⟩
def oA.done(x:BI c pk p pg p1 σ1)(fr:∀a∈pk,p.h.get? a=C):Sx c p pg (un pk p1) σ1:=x.over (λ_ h=>ch h cr) fr λ_ _ _=>id
def oA.step(e:Ext T p1 σ1.pg p2 σ2.pg)(r:bC c p2 σ2)(b:T C:=by rfl)(kf:T (O .ck):=by rfl):oA c T pk p pg p2 σ2:=⟨r,x.ext.trans b (aar kf x.ck e),λa q=>(e.ck a).mp (x.ck a q)⟩
def oA.iter(b:∀a o,a∉wr->p1.h.get? a=O o->h'.get? a=O o)(f:∀a∈pk,∃o,h'.get? a=O o):oA c T pk p pg (p1.up h' n p1.F p1.ow) σ1:=by(have d:=λa o e=>by by_cases q:a∈wr;exact f a (hw a q);exact⟨o,b a o q e⟩);have S:kJ (λw=>w=.ck) p1 (p1.up h' n p1.F p1.ow):=⟨⟨λa o f=>⟨b a o (λq=>aa ((x.rel.pg.own.fz a o f).2.symm.trans (x.ck a (hw a q)))) (x.rel.pg.own.fz a o f).1,(x.rel.pg.own.fz a o f).2⟩,λa k h=>by obtain⟨o,f⟩:=x.rel.pg.own.sJ a k h;exact d a o f,x.rel.pg.own.inj⟩,λ_ _=>id,Z,λa o e t=>b a o (λq=>t .ck (x.ck a (hw a q)) Z) e,λ_ _ h _=>h,d,λ_ _ _=>.inl Z,λ_=>.rfl,λ_=>.rfl⟩;obtain⟨m,f,H⟩:=x.rel.loc;have g:∀{a o},p.h.get? a=O o->a∉wr:=λh q=>aa (il (fr _ (hw _ q)) h);refine⟨S.MS x.rel (λw s e=>(rJ s).2 e) (f.at λ_=>S.k' x.rel.kx (bx Z)) λa=>(H a).to S Z (bx Z),⟨x.ext.le,ah (λs:ge=>{s with heap:=h',toks:=n}) x.ext.sh,λa o e k=>b a o (g e) (x.ext.keep a o e k),λa o e=>by obtain⟨b,h⟩:=x.ext.ex a o e;exact d a b h,x.ext.to,x.ext.ck,x.ext.kx,x.ext.bD,x.ext.calm⟩,x.ck⟩
def rN(c:Cx)(T:N Ow->I)(b:gB)(f:b9):=∀p σ d σ',b σ=O (d,σ')->bC c p σ->∀(Q:yn)(E:aT),(∀b e,Ext T p σ.pg b σ'.pg->bC c b σ'->Nn c.g b.F e d->Q e b.s)->he (M' c) c.A (e0 f c.env) Q E p.s
def oA.kept{b:N Ow->I}(x:oA c b pk p pg p1 σ1)(kf:T (O .ck))(e:T C)(d:∀a∈fp,a∈pk∨(∃o,p.h.get? a=O o)/\T (p.ow a)):∀a∈fp,T (p1.ow a):=λa b=>by by_cases q:a∈pk;exact(x.ck a q).symm▸kf;refine(d a b).elim (λz=>ch z q) λz=>?_;obtain⟨⟨o,b⟩,h⟩:=z;exact(x.ext.to a o b).elim (λz=>(il (nC q) z).symm▸h) λz=>(il (nC q) z).symm▸e
def Io{s:St}{k:gB}{P:Prop}(h:turn f s k=O (d,σ'))(r:Nn g F b f)(e:b=.next->k s=O (d,σ')->P)(i:b=.brk->s=σ'->.next=d->P)(j:∀v w,b=.ret w->Rd g F w v->s=σ'->.ret v=d->P):P:=
 (Fl.casesOn (motive:=λf=>turn f s k=O _->Nn g F b f->P) f (λh r=>e r h) (λh r=>iy h λa b=>i r b a) λv h r=>by obtain⟨w,r,d⟩:=r;exact iy h λa b=>j v w r d b a) h r
structure Kp(c:Cx)(T:N Ow->I):Prop where
 ck:T (O .ck)=U
 none:T C=U
 le:∀k,lg c.G.ro k->T k=U
 tr:∀k,T k->lg U k=U
def Ym(c:Cx)(pk:Y ii)(p:Pt)(pg:PG)(b:W->ul->Prop)(n:W)(d:W->gB)(r:q5)(k:W)(s:ge):=∃i σ1 p1,s=p1.s/\k=n-i/\i<=n/\BI c pk p pg p1 σ1/\b i p1.h/\d i σ1=r
def Ym.next{b:W->ul->Prop}{i:W}{d:W->gB}{s:ge}(e:i<m)(L:BI c pk p pg p1 σ1)(f:b (i+1) p1.h)(g:d (i+1) σ1=r):∃k,k<m-i/\Ym c pk p pg b m d r k p1.s:=⟨m-_,k_ m i e,i+1,σ1,p1,Z,Z,e,L,f,g⟩
structure SD(c:Cx)(T:N Ow->I)(pk wr fp:Y ii)(p:Pt)(h0:ul)(St':W->ul->Prop):Prop where
 kk:Kp c T
 fp:∀a∈fp,a∈pk∨(∃o,p.h.get? a=O o)/\T (p.ow a)=U
 wr:∀a∈wr,a∈pk
 live:∀i h,St' i h->∀a∈pk,∃o,h.get? a=O o
 grow:∀a o,p.h.get? a=O o->h0.get? a=O o
 fresh:∀a∈pk,p.h.get? a=C
 st:St' 0 h0
section
variable{x:W}{b:gB}{Q:b9}{ps:ww}{I:ii}{items:af}{P:W->bv->Prop}{St':W->ul->Prop}{fl:Fl}{R:ep->ge->Prop}
def SD.turn(w:SD c T pk wr fp p h0 St'){e d:Pt}{g:St}{i:W}{f:N Ow->Bool}(s:∀k,T k->f k)(fr:∀h h',St' i h->(∀b∈fp,∀o,h.get? b=O o->h'.get? b=O o)->St' i h')(m:St' i p1.h)(L:BI c pk p pg p1 σ1)(l:BI c pk p pg e g)(q:Ext f p1 pg1 e pg2)(j:Ext T e g.pg d σ2.pg)(r:bC c d σ2):BI c pk p pg d σ2/\St' i d.h:=⟨l.step (j.weak w.kk.le) r,fr _ _ m λa d o e=>j.keep a o (q.keep a o e (s _ (L.kept w.kk.ck w.kk.none w.fp a d))) (l.kept w.kk.ck w.kk.none w.fp a d)⟩
def lP(m:c.OK)(g:wz c.g.prog c.g.w c.A I fp wr items.length P St')(w:SD c T pk wr fp p h0 St')(E:aq c.lv x)(F:rN c T b Q)(e:∀i v,P i v->∃y,items[i]?=O y/\Rd c.g p.F v y)(r:bC c p σ)(j:∀v,letOwnedTupleGo (.Name (c.g.nm x) ps) (.ref I) v=H1 ())
 (h:forL (λv s=>b (aE s x (.val v))) items σ=O (fl,σ'))(q:∀d f,Sx c p σ.pg d σ'->Nn c.g d.F f fl->R (.ok f) d.s):Uf (M' c) c.A (.forLoop (.Name (c.g.nm x) ps) (.ref I) Q [] c.env) R {p.s with heap:=h0,toks:=n}:=by
 let d:=Ym c pk p σ.pg St' items.length (λi=>forL (λv s=>b (aE s x (.val v))) (items.drop i)) (O (fl,σ'))
 refine codeAny_forLoop d (λk d l=>?_) items.length ⟨0,σ,Ev.ck pk _,Z,Z,eG _,.start r w.grow w.fresh (w.live 0 _ w.st),w.st,h⟩ j;obtain⟨i,σ1,p1,h,j,o,L,r,d⟩:=l;rw[h,j];refine(zL o).elim (λt=>?_) λu=>?_
 ·refine g.item i p1.s _ _ t r λv z A j B h=>?_
  obtain⟨y,l,y⟩:=e i v j;obtain⟨i,j⟩:=zN.mp l;have d:forL (λv s=>b _) _ σ1=O _:=d;rw[zO i,j]at d;refine aQ (show ax _ (λi s=>turn i s _)=O _ from d) λf3 G H i=>?_;have j:BI c pk p σ.pg (p1.up z A p1.F p1.ow) σ1:=L.iter w.wr w.fresh (λa o l=>h a o l) (w.live _ _ B);refine zI (qF m j.rel E (y.bS L.ext.le) λm y E=>F m _ f3 G H E _ _ λm f F G H=>?_);have f:=w.turn w.kk.tr (g.frame _) B j (j.step (σ2:=aE σ1 x _) (y.weak tc) E) y F G;exact Io i H (λe i=>by rw[e];exact Ym.next (s:=m.s) t f.1 f.2 i) (λe a b=>by rw[e];exact q (un pk m) _ (a▸f.1.done w.fresh) (b▸Z)) λv i e j a b=>by rw[e];exact q (un pk m) _ (a▸f.1.done w.fresh) (b▸⟨i,Z,j⟩)
 ·have d:forL (λv s=>b _) _ σ1=O _:=d
  rw[u,zZ]at d;exact g.done p1.s _ _ (u▸r) λz A h=>vG (iy (d) λa b=>q _ _ (b▸L.over w.wr w.fresh λa o l=>h a o l) (a▸Z))
end
end
def cD.at:∀{b:aP},cD g F b a->∀(i:W)(w:bv),b[i]?=O w->∃v,a[i]?=O v/\Rd g F w v:=by induction a with|nil=>exact λr i w e=>aa (by rw[show _=[]from r]at e;exact e)|cons v a c=>intro b r i w e;obtain⟨y,l,q,r,d⟩:=r.un;rw[q]at e;induction i with|zero=>exact⟨v,Z,au e▸r⟩|succ i _=>exact c d i w e
def zj(n:W):∀(a i:W),i<n->(dF b n a)[i]?=O (.int (a+i*b:W)):=by induction n with|zero=>exact λa i h=>ch h (BN _)|succ n c=>intro a i h;induction i with|zero=>rw[hX];rfl|succ i _=> show(dF b n _)[i]?=_;rw[c _ i (IR h),C2,fK a,hO b]
def qG(n:W):∀a,(dF b n a).length=n:=by induction n with|zero=>exact λ_=>Z|succ n c=>exact λa=>ah pp (c _)
section
variable{c:Cx}{p:Pt}{A B:St}{x:W}{F:ww}{H:b9}{G:N Ow->I}{y:bv}{v:V}{vs:af}{t:ii}
def Kp.it:Kp c (lg c.G.ro):=⟨Z,Z,λ_=>id,tc⟩
def Kp.ro:Kp c (lg U):=⟨Z,Z,tc,λ_=>id⟩
def uC(c:Cx)(G:N Ow->I)(x:W)(F:ww)(H:b9)(y:bv)(p:Pt)(A:St)(a:af):=∀(b:gB)d B,rN c G b H->forL (λv s=>b (aE s x (.val v))) a A=O (d,B)->∀(R:ep->ge->Prop)(E:aT),(∀a b,Sx c p A.pg a B->Nn c.g a.F b d->R (.ok b) a.s)->he (M' c) c.A (mE y) (λa s=>Uf (M' c) c.A (.forLoop (.Name (c.g.nm x) F) a H [] c.env) R s) E p.s
def SD.one(d:Kp c G){b:Y ii}(e:∀a∈b,(∃o,p.h.get? a=O o)/\G (p.ow a)){o:xL}{St':W->ul->Prop}(f:∀i h,St' i h->∃o,h.get? p.h.objs.size=O o)(g:St' 0 (p.h.push o)):SD c G [p.h.objs.size] [p.h.objs.size] (p.h.objs.size::b) p (p.h.push o) St':=⟨d,λa b=>(c?.mp b).elim (λq=>.inl (eC.mpr q)) λq=>.inr (e a q),λ_ h=>h,λi h s a b=>(eC.mp b)▸f i h s,λ_ _=>hJ o,λa b=>(eC.mp b)▸ju (aU _),g⟩
def ti(e:p.h.get? t=O o):t≠p.h.objs.size:=λq=>aa (il (ju (aU _)) (q▸e))
def tj(e:p.h.get? t=O o)(k:G (p.ow t)):∀a∈[t],(∃o,p.h.get? a=O o)/\G (p.ow a):=λa a=>(eC.mp a)▸⟨⟨o,e⟩,k⟩
def AA{a:aP}{i:W}{w:bv}(h:a.toArray[i]?=O w):a[i]?=O w:=il BO h
variable(L:c.OK)(kk:Kp c G)(hx:aq c.lv x)(r:bC c p A)
def CI(h:p.h.get? t=O (eE a n))(e:G (p.ow t))(d:a.length=vs.length)(f:∀(i:W)(w:bv),a[i]?=O w->∃v,vs[i]?=O v/\Rd c.g p.F w v):uC c G x F H (.ref t) p A vs:=λb b B g j R E q=>by have b:=ru (prog:=c.g.prog) (w:=c.g.w) L.handled p.h.objs.size t (ti h) a.toArray;rw[show a.toArray.size=vs.length from d]at b;exact eX ⟨_,h,Z,_,Z⟩ (lP L b (.one kk (tj h e) (λi h s=>by obtain⟨⟨o,a,_⟩,_⟩:=s;exact⟨o,a⟩) ⟨⟨_,gZ _ Z,Z,Z⟩,⟨_,hJ _ h,Z,_,Z⟩⟩) hx g (λi w a=>f i w (AA a)) r (λ_=>Z) j q)
def NO:vJ v=O vs->Rd c.g p.F y v->uC c G x F H y p A vs:=by have z:∀{t o},p.F t o->p.h.get? t=O o/\G _:=λf=>have h:=r.pg.own.fz _ _ f;⟨h.1,h.2.symm▸kk.none⟩;refine@V.casesOn (λv=>vJ v=O vs->Rd c.g p.F y v->uC c G x F H y p A vs) v aa bX bX bX (λl e(h)=>?_) (λl e(h)=>?_) gL bX bX bX bX bX aa aa bX gL aa bX;obtain⟨d,b,n,h,f,_,a⟩:=h;rw[h];rw[au e]at a;refine λg g B j e R E q=>?_;have g:=Walks.tuple (prog:=c.g.prog) (w:=c.g.w) L.handled p.h.objs.size d (ti (z f).1) b.toArray;rw[show b.toArray.size=vs.length from cD.length a]at g;exact wpAny_pyIter_tuple ⟨_,(z f).1,Z,_,Z⟩ (lP L g (.one kk (tj (z f).1 (z f).2) (λi h s=>by obtain⟨⟨o,g,_⟩,_⟩:=s;exact⟨o,g⟩) ⟨⟨_,gZ _ Z,Z,Z⟩,⟨_,hJ _ (z f).1,Z,_,Z⟩⟩) hx j (λi w g=>cD.at a i w (AA g)) r (λ_=>Z) e q);obtain⟨d,b,n,h,f,_,a⟩:=h;rw[au e]at a;exact h▸CI L kk hx r (z f).1 (z f).2 (cD.length a) (cD.at a)
def NP(d:LW c.g p.F b a){i:W}{w:bv}(h:∃k,∃x,b[i]?=O (k,x)/\(mI c.g.prog c.g.w).is k w=U):∃v,(keysOf a)[i]?=O v/\Rd c.g p.F w v:=by obtain⟨k,x,e,f⟩:=h;obtain⟨u,g⟩:=Value.isInt_shape f;refine⟨.int k,?_,g▸Rd.i⟩;(have f:keysOf a=b.map λb=>V.int b.1:=by show a.map ((λi=>V.int i)∘_)=_;rw[<-jx,<-d.1,jx];rfl);rw[f,m_,e];rfl
def w8(d:LW c.g p.F a b):a.length=(keysOf b).length:=d.len.trans (jb _).symm
def aas(r:bC c p A){d:Pl}{b:eu}:iS c.G c.lv A d=O (.kX b)->wK c p A d t->∃a,p.ow t=O (.bU a):=by have f:∀{l:Y _}{P:Prop},Cn.vL l=.kX b->P:=λh=>ao (ah (λc=>yd c U (di:=λ_=>J)) h).symm;have g:∀{l:af}{P:Prop},Cn.lst l=.kX b->P:=λh=>ao (ah (λc=>yd c U (di:=λ_=>J)) h).symm;refine Pl.casesOn d (λx e _=>bW e λ_ e=>bL e λl _ e=>Đ e (λv _ e=>bW e λ_ e=>g (au e)) λvs _ e=>g (au e)) λa e b=>bW e λ_ e=>md e (λq d e=>?_) λ_ e=>iJ e λ_ _ e=>f e;refine(HW (p:=p) (a:=a) e).elim (λh=>by obtain⟨_,_,_,_,h⟩:=h;exact f h.symm) λh=>⟨a,?_⟩;have b:pY c p a t _:=b;rw[d,h.2]at b;exact b
def NQ(e:yk c.g p t b)(g:(t==Do)=J){d:W}(a:p.ow t=O (.bU d)):uC c (lg U) x F H (.ref t) p A (keysOf b):=λb b B h i R E q=>by refine gq λP f=>?_;obtain⟨j,k,b,b⟩:=e;obtain⟨l,d⟩:=k.dictAt;obtain⟨o,e⟩:=r.pg.own.sJ _ _ a;refine f ?_;have f:=R1 (knd:=mI c.g.prog c.g.w) L.handled p.h.objs.size t (ti e) j l;rw[w8 b]at f;exact v! g d (lP L f (.one .ro (tj e (a▸Z)) (λe f s=>by obtain⟨⟨o,a,_⟩,_⟩:=s;exact⟨o,a⟩) ⟨⟨_,gZ _ Z,Z,by rw[w8 b];rfl⟩,d.push _⟩) hx h (λe w a=>NP b a) r (λ_=>Z) i q)
def F0(n m:W):b_ (n:D) (m:D) 1=((m-n:W):D):=by rw[rangeSize_one];by_cases h:n<m;rw[eP (qp.mpr h),Int.ofNat_sub (jM h)];rw[eH λq=>h (qp.mp q),i0 (p5 h)];rfl
def aat(f:∀d∈a,ig d.1)(g:PZ c.g p.F a b){i:W}{w:bv}(h:∃k,∃x,a[i]?=O (k,x)/\(No c.g.prog c.g.w).is k w=U):∃v,(b.map λp=>V.str p.1)[i]?=O v/\Rd c.g p.F w v:=by obtain⟨k,x,e,i⟩:=h;obtain⟨u,h⟩:=Value.isStrOf_shape i;refine⟨.str k.cps.toList,?_,h▸Rd.s (f _ (yJ e))⟩;(have f:(b.map λp=>V.str p.1)=a.map λd=>V.str d.1.cps.toList:=by show b.map ((λl=>V.str l)∘_)=_;rw[<-jx,<-g.1,jx];rfl);rw[f,m_,e];rfl
def NR(f:Cg c.g p t a)(h:(t==Do)=J)(i:lg c.G.ro (p.ow t)):uC c (lg c.G.ro) x F H (.ref t) p A (a.map λp=>.str p.1):=λb b B j k R E q=>by refine gq λP l=>?_;obtain⟨d,e,b,m,b⟩:=f;have b:PZ c.g p.F d a:=b;have f:d.length=(a.map λp=>V.str p.1).length:=b.len.trans (jb _).symm;obtain⟨n,a⟩:=e.dictAt;obtain⟨o,_,_,g,_⟩:=e;refine l ?_;have e:=R1 (knd:=No c.g.prog c.g.w) L.handled p.h.objs.size t (ti g) d n;rw[f]at e;exact v! h a (lP L e (.one .it (tj g i) (λi h s=>by obtain⟨⟨o,d,_⟩,_⟩:=s;exact⟨o,d⟩) ⟨⟨_,gZ _ Z,Z,by rw[f];rfl⟩,a.push _⟩) hx j (λi w a=>aat m b a) r (λ_=>Z) k q)
def w9{n m:W}{v:kv}(d:IsRange p.h t (n:D) ((m:W):D) 1 u v w)(b:m<=lim)(a:n<=lim):uC c G x F H (.ref t) p A (dF 1 (m-n) n):=λe e B e f R E q=>by have g:=small_one (gP (aO Z) (eM n)) (FS (jw.mpr a) (aO Z)) (gP (aO Z) (eM m)) (FS (jw.mpr b) (aO Z));refine rb d g ?_;rw[F0];have a:=Walks.range (prog:=c.g.prog) (w:=c.g.w) L.handled p.h.objs.size (n) 1 (m-n);(have d:wz c.g.prog c.g.w c.A p.h.objs.size [p.h.objs.size] [p.h.objs.size] (dF 1 (m-n) n).length (λi v=>i<m-n/\∃t,v=.int (n+i*1) t) (λi h=>f' h p.h.objs.size ((n)+(i)*1) (((m-n:W))-(i)) 1):=by rw[qG];exact⟨a.sub,a.frame,λi s Q E b g k=>a.item i s Q E b g λv g j l=>k v g j ⟨b,l⟩,a.done,a.self⟩);(have a:f' (p.h.push {cls:=.type "range_iterator",data:=.fields #[mD n,mD ((m-n:W)),mD 1]}) p.h.objs.size ((n)+((0))*1) (((m-n:W))-((0))) 1:=by exact gZ p.h Z);refine lP L d (.one kk (λd d=>ch d cr) (λi h s=>⟨_,s⟩) a) hx e (λi w a=>?_) r (λ_=>Z) f q;obtain⟨b,t,a⟩:=a;refine⟨_,zj _ n i b,a▸?_⟩;exact Rd.i
def Q_(c:Cx)(a:N (W×X))(d:Expr):=∀k b,a=O (k,b)->∃f F a e,d=.Call (.Name (c.g.nm f) F) [a] [] e/\s8 c f/\aq c.lv f=J/\c.G.gl f=O (.bi k)/\eK c.g.nm b a/\plainArg a=U
def B2E(c:Cx)(b:N X)(d:Expr):=∀a,b=O a->∃f F b e,d=.Call (.Name (c.g.nm f) F) b [] e/\s8 c f/\aq c.lv f=J/\c.G.gl f=O (.bi 3)/\pz c.g.nm a b=U
def Uo(b:wK c p A (.bU a) t)(e:aj a A.pg.par=C)(f:c.G.cA a=O d):lg c.G.ro (p.ow t):=by have b:pY c p a t _:=b;rw[e]at b;obtain⟨o,e,_⟩:=L.kf.MT a d f;rw[show t=c.g.uP a from b,(r.pg.own.fz _ o (r.base _ _ e)).2];rfl
def AB(e:s8 c f)(a:aq c.lv f=J)(b:c.G.gl f=O (.bi n))(d:c.g.HF n=.type T)(r:bC c p A){Q:aT}{E:aT}(q:Q (.type T) p.s):he (M' c) c.A (Db (.Name (c.g.nm f) F) c.env) Q E p.s:=by obtain⟨y,g,h⟩:=L.glob f _ a b;have a:=(g).trans d;exact qY (h p.s Q E (λb o h=>r.Tu b o h) (a▸q)) e
def NS(e:s8 c f)(g:aq c.lv f=J)(h:c.G.gl f=O (.bi n))(i:c.g.HF n=.type T)(d:plainArg a)(r:bC c p A){Q:aT}{E:aT}
 (q:he (M' c) c.A (Db a c.env) (λy s=>he (M' c) c.A (dn (.type T) [y]) Q E s) E p.s):he (M' c) c.A (Db (.Call (.Name (c.g.nm f) F) [a] [] b) c.env) Q E p.s:=
 yP (AB L e g h i r (ij (uB d wU b).1 Z (e_ (jv q (λy s h=>g_ (vH ⟨⟨.machine,λa a=>cP a⟩,h⟩)) λ_ _ x=>x) (mz d))))
end
section
variable{c:Cx}{p p1:Pt}{σ σ1 σ':St}{x y:W}{ps pos:ww}{be:b9}{b bq:gB}{ite:Expr}{f:fc}{po:N Pl}{bo:N (W×X)}{b2:N X}{fl:Fl}{R:ep->ge->Prop}{n k:W}{ts:bM}{l:ae}
def lQ:n9 ite->∀x,wo ite a x=H1 x:=by apply@Expr.casesOn (λe=>n9 e=U->∀x,wo e a x=H1 x) ite<;>intros<;>first|rfl|exact ao ‹_›
def Ip(h:LX c b be):rN c (lg c.G.ro) b be:=λp σ fl σ' e r Q E q=>h p σ fl σ' e r Q E λa d n=>q a d n.ext n.rel
def csE{a:Type}{f:eu->N a}{g:Y (ae×V)->N a}{r:a}{P:Prop}:yd d C (di:=f) (sd:=g)=O r->(∀a,d=.kX a->f a=O r->P)->(∀a,d=.vL a->g a=O r->P)->P:=Cn.casesOn d bX (λl h k _=>k l Z h) (λl h _ k=>k l Z h) λ_=>aa
def psE{a:Type}{f:W->N a}{r:a}{P:Prop}:LP d aaM f=O r->(∀a,d=.bU a->f a=O r->P)->P:=Pl.casesOn d bX λa h k=>k a Z h
def uC.run{e:N Ow->I}{y:bv}(h:uC c e x ps be y p1 σ1 g)(n:Nx c p σ.pg p1 σ1)(i:rN c e b be)(j:forL (λv s=>b (aE s x (.val v))) g σ1=O (fl,σ')){E:aT}(q:∀a d,Sx c p σ.pg a σ'->Nn c.g a.F d fl->R (.ok d) a.s):he (M' c) c.A (mE y) (λe s=>Uf (M' c) c.A (.forLoop (.Name (c.g.nm x) ps) e be [] c.env) R s) E p1.s:=h b fl σ' i j R E λa d e=>q a d ((Sx.of n).trans e)
def aeZ(h:iS c.G c.lv σ (.bU a)=O (.vL e))(d:aj a σ.pg.par=C):c.G.cA a=O e:=bW h λ_ h=>by rw[d]at h;exact iJ (h) λl d h=>d.trans (ah O (ah (λc=>yd c [] (sd:=id)) h))
def wq{P:Type}{M:o?}{m:e5 P}{a:P->ge->Prop}{E:aT}{s:ge}(H:∀(Q:P->ge->Prop)(E:aT),(∀f s,a f s->Q f s)->he M A m Q E s):he M A m a E s:=H _ _ λ_ _ h=>h
def aau(d:c.OK)(T:c.Calls)(F:SA c po ite)(S:Q_ c bo ite)(hb2:B2E c b2 ite)(c':SE c f ite)(o:aq c.lv x)(e:n9 ite)(t:rN c (lg c.G.ro) b be)(Q:rN c (lg U) bq be):SS c (My x (source c.G c.lv po bo b2 f) bq b) (.For (.Name (c.g.nm x) ps) ite be [] pos):=λp σ fl σ' a r=>aQ a λa σ1 a g=>λh E q=>by refine BS (wq λh h s=>?_) (lQ e);refine md a (λpc e a=>csE a (λE u a=>iy a λh i=>?_) λE u a=>psE a λG v a=>md a gL λM a=>iJ a λj hcd a=>iy (ah O a) λh i=>?_) λ_ a=>md a (λw V a=>jj a (λh3 a=>aQ a λj m z a=>bL a λL A a=>bW a λB a=>iy a λh i=>?_) λ_ a=>bW a λh5 a=>bL a λE H a=>iy a λh i=>?_) λ_ a=>md a (λX has a=>aQ a λP m z a=>Tz a λj K K a=>bL a λn hn a=>bL a λL A a=>bW a λB a=>bW a λhl2 a=>iy a λh i=>?_) λ_ a=>aQ a λj m z a=>bL a λP K a=>iy a λh i=>?_;rw[<-h,<-i]at g;obtain⟨a,j,e⟩:=(bL e λa j e=>iJ e λcn m e=>⟨a,j,(u▸e▸m)⟩:∃a,po=O a/\iS c.G c.lv σ a=O (.kX E));obtain⟨L,P⟩:=mA d r (F a j) e;obtain⟨G,ho⟩:=aas r e P.is;exact P.ev _ _ λk=>s _ _ ((NQ d o (r.toks k) (P.at_.tok k) P.ns ho).run (Nx.toks r k) Q g q);rw[<-h,<-i]at g;obtain⟨a,j,m,Q⟩:=(bL e λa j e=>iJ e λcn m e=>⟨a,j,(u▸e▸m),(ah wf e).trans v⟩:∃a,po=O a/\iS c.G c.lv σ a=O (.vL E)/\a=.bU G);have E:=aeZ (Q▸m) M;rw[au (il hcd E)]at g;obtain⟨L,P⟩:=mA d r (F a j) m;exact P.ev _ _ λk=>s _ _ ((NR d o (r.toks k) (P.at_.tok k) P.ns (show lg c.G.ro (p.ow L)from Uo d r (Q▸P.is) M E)).run (Nx.toks r k) t g q);rw[<-h,<-i]at g;obtain⟨b',ps',a',pos',E,j,F,m,v,M⟩:=S w.1 w.2 V;rw[aK h3]at m;rw[E];refine NS d j F m d.kf.ZC M r (((bz d T w.2).1 a' v).val z r _ _ λp1 y a G=>?_);obtain⟨d',Q⟩:=Sz A G;rw[Q];exact call_range_1 (s _ _ ((w9 d .it o (Nx.push a.rel _ _).rel (pn ..) (kL B) (eG _)).run (a.trans (Nx.push a.rel _ _)) t g q));rw[<-h,<-i]at g;obtain⟨b',ps',a',pos',E,j,F,m,v,M⟩:=S w.1 w.2 V;rw[aK h5]at m;rw[E];refine NS d j F m d.kf.O1 M r ?_;refine bL H λpc e H=>?_;obtain⟨w,L,P⟩:=tb d r (rK v) e;obtain⟨e,j,B,e⟩:=NN.dic_at H P.at_;obtain⟨v,A⟩:=j.dictAt;refine P.ev _ _ λk=>kdl_call (kdl_dict P.ns) d.handled A (ay B bI) λv w v n u H v=>?_;have a:=Nx.grow r w u (λ_ _=>id) λ_ _=>.inl;refine s _ _ ((CI d .it o a.rel H (r.pg.own.new (aU _)▸Z) ?_ λu w H=>NP e (v.2 u w ?_)).run a t g q);exact(zW).trans (v.1.trans (w8 e));exact il (EO) H;rw[<-h,<-i]at g;obtain⟨b',ps',u,pos',E,j,F,m,v⟩:=hb2 X has;have L:=(bz d T X).2 u v;rw[E];refine yP (AB d j F m d.kf.ZC r (qE (ks:=[]) L.pl (wR Z) L.l Aj z Z Z r λp1 j j a G j=>⟨d.kf.ZC▸Ib d 3,?_⟩));obtain⟨y,l,Q,m,e⟩:=(K▸G).un;obtain⟨y2,u,v⟩:=cD.one e;obtain⟨d',e⟩:=Sz hn m;obtain⟨m,m⟩:=Sz A v;rw[j.none,Q,u,e,m];exact call_range_2 (s _ _ ((w9 d .it o (Nx.push a.rel _ _).rel (pn ..) (kL B) (kL hl2)).run (a.trans (Nx.push a.rel _ _)) t g q));rw[<-h,<-i]at g;exact c'.val z r _ _ λp1 y a G=>s _ _ ((NO d .it o a.rel K G).run a t g q)
def Ĩ(b:gB)(x y:W)(i c:W):gB:=λs=>b (aE (aE s x (.val (.int i))) y (.val (.str [c])))
def KA(F:c.OK){h r t:Y ii}{E:ul}{B:ii}{A:W->XV bv->Prop}{o:W->ul->Prop}{H:W->ii->ul->Prop}(m:WalksT c.g.prog c.g.w c.A B t r l.length A o H)(w:SD c (lg c.G.ro) h r t p E o)(G:bV c.g.nm [x,y] ts)(X:gN c.lv [x,y])(hb:LX c b be)
 (d:∀(i:W)a,A i a->∃(u v:kv)(e:W),l[i]?=O e/\a=#[Value.int (i:D) u,.str ⟨#[e]⟩ v]/\ig ⟨#[e]⟩)(K:bC c p σ)(g:vY (Ĩ b x y) l 0 σ=O (fl,σ'))(q:∀j z,Sx c p σ.pg j σ'->Nn c.g j.F z fl->R (.ok z) j.s):
  Uf (M' c) c.A (.forLoop (.Tuple ts k ps) (.ref B) be [] c.env) R {p.s with heap:=E,toks:=n}:=by
 let j:=Ym c h p σ.pg o l.length (λi=>vY (Ĩ b x y) (l.drop i) i) (O (fl,σ'))
 refine qm j (λk j o=>?_) l.length ⟨0,σ,Ev.ck h _,Z,Z,eG _,.start K w.grow w.fresh (w.live 0 _ w.st),w.st,g⟩;obtain⟨i,σ1,p1,r,t,A,L,H,j⟩:=o;have j:vY _ _ i σ1=O _:=j;rw[r,t];refine(zL A).elim (λK=>?_) λM=>?_
 ·refine m.item i p1.s _ _ K H λT a P r o t tup Q A=>wq λt t t=>?_
  obtain⟨u,v,e,B,S,hch⟩:=d i a o;obtain⟨a,o⟩:=zN.mp B;rw[zO a,o]at j;refine aQ (show ax _ (λf s=>turn f s _)=O _ from j) λf3 σ3 e2 B=>?_;refine m.go ts _ ps i T {p1.s with heap:=P,toks:=r} _ _ Q λa T V=>t _ _ ?_;have E:BI c h p σ.pg (p1.up a r p1.F p1.ow) σ1:=L.iter w.wr w.fresh (λa o t g=>V a o t (A a o t g)) (w.live _ _ T);obtain⟨oT,hT1,hT2⟩:=tup;obtain⟨n1,n2⟩:=wY G;have rs:cD c.g p1.F [.int i u,.str ⟨#[e]⟩ v] [.int i,.str [e]]:=⟨_,_,Z,(Rd.i:Rd c.g p1.F _ _),_,_,Z,(Rd.s hch:Rd c.g p1.F _ _),Z⟩
  refine rl F.handled ⟨oT,V _ _ (m.apart _ _ _ Q) hT1,hT2⟩ (by rw[n1,S];rfl) n2 λe i=>?_;rw[S];have e:=Nx.grow E.rel r (λb o g=>i b o (nO (pK g)) g) (λ_ _=>id) λ_ _=>.inl;refine zg F [x,y] ts _ _ _ σ1 G X Z e.rel rs _ _ λi g=>hb i _ f3 σ3 e2 g.rel _ _ λi z u z=>?_;have v:=(Sx.of e).trans g;have e:=w.turn (λ_=>id) (m.frame _) T E (E.step v.ext g.rel) v.ext u.ext u.rel;exact Io B z (λd B=>by rw[d];exact Ym.next (s:=i.s) K e.1 e.2 B) (λd a b=>by rw[d];exact q (un h i) _ (a▸e.1.done w.fresh) (b▸Z)) λv z d g a b=>by rw[d];exact q (un h i) _ (a▸e.1.done w.fresh) (b▸⟨z,Z,g⟩)
 ·rw[M,zZ]at j
  exact m.done p1.s _ _ (M▸H) λP r A=>vG (iy (j) λa b=>q _ _ (b▸L.over w.wr w.fresh λa o t=>A a o t) (a▸Z))
def F3(d:A.handled=C)(a:ii)(x:lw)(t:kv):Draws prog w A a [a] x.cps.size (λi v=>∃c,∃u,x.cps[i]?=O c/\v=.str ⟨#[c]⟩ u) (λi h=>h.IsStrIter a (strIterType x) x t i):=by unfold strIterType;split;exact Draws.strAscii d a x t;exact Draws.strWide d a x t
def Up(g:c.OK)(m:c.Calls)(i:Q_ c bo ite)(j:n9 ite)(t:bV c.g.nm [x,y] ts)(u:gN c.lv [x,y])(v:LX c b be):SS c (rg c.G c.lv x y bo b) (.For (.Tuple ts k ps) ite be [] pos):=λp σ fl σ' e r=>aQ e λo a s e=>bW e λw e=>aQ e λd σ1 z e=>bL e λA B e=>λQ E q=>by obtain⟨d,d,E,d,F,G,H,h,d,K⟩:=i o a s;rw[aK w]at h;refine BS ?_ (lQ j);rw[F];refine NS g G H h g.kf.O4 K r (((bz g m a).1 E d).val z r _ _ λp1 h i h=>?_);obtain⟨j,s,o,m,w⟩:=HJ B h;rw[o];refine call_enumerate_str λh o z r B=>wpAny_pyIter_enum o ?_;have h:=F3 (prog:=c.g.prog) (w:=c.g.w) (A:=c.A.in1) g.handled p1.h.objs.size j s;have s:=WalksT.enumerateD h _ (zQ _) (λh=>zQ _ (eC.mp h)) gY;rw[show j.cps.size=A.length from m▸zW.symm]at s;have two:∀{a:ii}{P:Prop},a∈[p1.h.objs.size+1,p1.h.objs.size]->_->(a=p1.h.objs.size->P)->P:=λh j A=>(c?.mp h).elim j λh=>A (eC.mp h);refine KA g s ⟨.it,λa d=>.inl d,λa d=>d,λg h s a d=>?_,B,λa d=>two d (λq=>q▸ju (iI _)) λq=>q▸ju (aU _),⟨⟨_,o⟩,z⟩⟩ t u v (λg a g=>?_) i.rel e λa e h=>q a e ((Sx.of i).trans h);obtain⟨⟨a,a⟩,e,e,_⟩:=s;exact two d (λq=>q▸⟨_,a⟩) λq=>q▸⟨_,e⟩;obtain⟨e,d,⟨h,u,a,i⟩,j⟩:=g;have d:=EO.trans a;exact⟨e,u,h,m▸d,i▸j,s7 w (n0 (fR (eG _) (wG d))) λz r=>(eC.mp r)▸yJ d⟩
def KC(v:c.OK)(K:bV c.g.nm [x,y] ts)(M:gN c.lv [x,y])(P:rN c (lg c.G.ro) b be)(r:bC c p σ){a:aP}{d:af}{t:ii}(h:p.h.get? t=O (eE a n))(m:lg c.G.ro (p.ow t))(u:cD c.g p.F a d)
 (z:forL (yv b x y) d σ=O (fl,σ'))(q:∀e j,Sx c p σ.pg e σ'->Nn c.g e.F j fl->R (.ok j) e.s){E:aT}:he (M' c) c.A (mE (.ref t)) (λe s=>Uf (M' c) c.A (.forLoop (.Tuple ts k ps) e be [] c.env) R s) E p.s:=by
 have g:=ru (prog:=c.g.prog) (w:=c.g.w) v.handled p.h.objs.size t (ti h) a.toArray;rw[show a.toArray.size=d.length from u.length]at g;have w:SD c _ [p.h.objs.size] [p.h.objs.size] _ p _ _:=.one (o:={cls:=.type "list_iterator",data:=.fields #[.ref t,.int 0 0]}) (St':=λi h=>h.IsListIter p.h.objs.size t i/\h.IsList t a.toArray) .it (tj h m) (λi h s=>by obtain⟨⟨o,e,_⟩,_⟩:=s;exact⟨o,e⟩) ⟨⟨_,gZ _ Z,Z,Z⟩,⟨_,hJ _ h,Z,_,Z⟩⟩
 let e:=Ym c [p.h.objs.size] p σ.pg (λi h=>h.IsListIter p.h.objs.size t i/\h.IsList t a.toArray) d.length (λi=>forL (yv b x y) (d.drop i)) (O (fl,σ'))
 refine eX ⟨_,h,Z,_,Z⟩ (qm e (λk a a=>?_) d.length ⟨0,σ,Ev.ck [p.h.objs.size] _,Z,Z,eG _,.start r w.grow w.fresh (w.live 0 _ w.st),w.st,z⟩);obtain⟨i,σ1,p1,e,h,m,L,z,d⟩:=a;have d:forL _ _ σ1=O _:=d;rw[e,h];refine(zL m).elim (λA=>?_) λB=>?_
 ·refine g.item i p1.s _ _ A z λE F G a m r=>?_
  obtain⟨e,e,H⟩:=cD.at u i E (AA a);obtain⟨a,h⟩:=zN.mp e;rw[zO a,h]at d;refine aQ (show ax _ (λf s=>turn f s _)=O _ from d) λf3 Q e i=>bL e λus S e=>bL e λa T e=>?_;have t:BI c [p.h.objs.size] p σ.pg (p1.up F G p1.F p1.ow) σ1:=L.iter w.wr w.fresh (λa o u=>r a o u) (w.live _ _ m);have h:=oq S▸H.bS L.ext.le;have S:=h;obtain⟨H,_,_,H,_⟩:=(S);refine H▸wpAny_letOwnedTupleGo_listiter m.1 (H▸wZ v t.rel K M T h λh n3=>P h _ f3 Q e n3.rel _ _ λv j e j H=>?_);have h:=w.turn (λ_=>id) (g.frame _) m t (t.step n3.ext n3.rel) n3.ext e j;exact Io i H (λe i=>by rw[e];exact Ym.next (s:=v.s) A h.1 h.2 i) (λe a b=>by rw[e];exact q (un [p.h.objs.size] v) _ (a▸h.1.done w.fresh) (b▸Z)) λE i e j a b=>by rw[e];exact q (un [p.h.objs.size] v) _ (a▸h.1.done w.fresh) (b▸⟨i,Z,j⟩)
 ·rw[B,zZ]at d
  exact g.done p1.s _ _ (B▸z) λF G r=>vG (iy (d) λa b=>q _ _ (b▸L.over w.wr w.fresh λa o u=>r a o u) (a▸Z))
def Uq(d:c.OK)(h:SE c f ite)(m:n9 ite)(g:bV c.g.nm [x,y] ts)(i:gN c.lv [x,y])(j:rN c (lg c.G.ro) b be):SS c (B6 x y f b) (.For (.Tuple ts k ps) ite be [] pos):=λp σ fl σ' e r=>aQ e λv σ1 a e=>bL e λo o e=>λQ E q=>BS (h.val a r _ _ λp1 a a h=>by have r:=rD o▸h;obtain⟨h,h,h,h,o,_,s⟩:=(r);have z:=a.rel.pg.own.fz _ _ o;rw[h];exact KC d g i j a.rel z.1 (z.2.symm▸Z) s e λd e g=>q d e ((Sx.of a).trans g)) (lQ m)
def aav(h:SE c f e)(j:LX c b be):SS c (uH f b n) (.While e be [] pos):=λp σ fl σ' g r Q E q=>by refine wpAny_While (codeAny_whileLoop (λk e=>∃σ1 p1,e=p1.s/\Sx c p σ.pg p1 σ1/\uH f b k σ1=O _) (λk e e=>?_) n ⟨σ,p,Z,.of (.refl r),g⟩);obtain⟨σ1,p1,g,d,a⟩:=e;rw[g];induction k with|zero=>exact aa a|succ k _=> refine aQ (show ax _ (λv s=>bn (gJ v) λx=>br x (ax (b s) λe s=>turn e s _) (nx s))=O _ from a) λv m e a=>h.yQ e d.rel _ _ λo x h e=>y9 (λg=>?_) λg=>vG (q.nx (il (dw g) (rH h a)) (d.trans (.of e)));refine aQ (il (dM g) (rH h a)) λf3 i g a=>j o m f3 i g e.rel _ _ λg h n3 j=>?_;have h:=(d.trans (.of e)).trans n3;exact Io a j (λd a=>by rw[d];exact⟨k,nN k,i,g,Z,h,a⟩) (λd a b=>by rw[d];exact q g _ (a▸h) (b▸Z)) λv z d e a b=>by rw[d];exact q g _ (a▸h) (b▸⟨z,Z,e⟩)
end
section
local macro_rules | `(tactic| trivial) => `(tactic| first | exact ao | exact fun _ => ao | exact fun _ _ => ao | exact fun _ _ _ => ao | exact fun _ _ _ _ => ao | exact fun _ _ _ _ _ => ao | exact fun _ _ _ _ _ _ => ao)
def uV{P:Prop}{s:a9}{a:N Expr->ww->I}{d:bM->ww->I}{e:bM->Expr->ww->I}{f:Expr->nw->Expr->ww->I}{fo:Expr->Expr->b9->b9->ww->I}{g i:Expr->b9->b9->ww->I}{j:b9->Y eg->b9->b9->ww->I}{k:Expr->N Expr->ww->I}{l:Expr->ww->I}{m bk:ww->I}(h:ma s J a d e f fo g i j k l m bk=U)
 (kre:∀v p,s=.Return v p->a v p->P:=by trivial)(kde:∀t p,s=.Delete t p->d t p->P:=by trivial)(kas:∀t v p,s=.Assign t v p->e t v p->P:=by trivial)(kau:∀t o v p,s=.AugAssign t o v p->f t o v p->P:=by trivial)(kfo:∀t n b o p,s=.For t n b o p->fo t n b o p->P:=by trivial)
 (kwh:∀c b o p,s=.While c b o p->g c b o p->P:=by trivial)(kif:∀c b o p,s=.If c b o p->i c b o p->P:=by trivial)(ktr:∀b h o q p,s=.Try b h o q p->j b h o q p->P:=by trivial)(kar:∀v r p,s=.Assert v r p->k v r p->P:=by trivial)(kex:∀v p,s=.Expr v p->l v p->P:=by trivial)(kpa:∀p,s=.Pass p->m p->P:=by trivial)(kbk:∀p,s=.Break p->bk p->P:=by trivial):P:=by
 refine@Stmt.casesOn (λb=>s=b->ma b J a d e f fo g i j k l m bk=U->P) s ?_ ?_ ?_ ?_ ?_ ?_ ?_ ?_ ?_ ?_ ?_ ?_ ?_ ?_ ?_ ?_ ?_ ?_ ?_ ?_ ?_ ?_ ?_ ?_ ?_ ?_ ?_ ?_ Z h
 case refine_4=>exact kre
 case refine_5=>exact kde
 case refine_6=>exact kas
 case refine_8=>exact kau
 case refine_10=>exact kfo
 case refine_12=>exact kwh
 case refine_13=>exact kif
 case refine_18=>exact ktr
 case refine_20=>exact kar
 case refine_25=>exact kex
 case refine_26=>exact kpa
 case refine_27=>exact kbk
 all_goals (intros;exact ao ‹J=U›)
section
variable{s:a9}{P:Prop}
def ahC{f:N Expr->ww->I}(h:ma s J (re:=f)=U)(k:∀v p,s=.Return v p->f v p->P):P:=uV h (kre:=k)
def ahD{f:bM->ww->I}(h:ma s J (de:=f)=U)(k:∀t p,s=.Delete t p->f t p->P):P:=uV h (kde:=k)
def rO{f:bM->Expr->ww->I}(h:ma s J (asg:=f)=U)(k:∀t v p,s=.Assign t v p->f t v p->P):P:=uV h (kas:=k)
def Yn{f:Expr->nw->Expr->ww->I}(h:ma s J (aug:=f)=U)(k:∀t o v p,s=.AugAssign t o v p->f t o v p->P):P:=uV h (kau:=k)
def ahE{f:Expr->Expr->b9->b9->ww->I}(h:ma s J (fo:=f)=U)(k:∀t i b o p,s=.For t i b o p->f t i b o p->P):P:=uV h (kfo:=k)
def ahF{f:Expr->b9->b9->ww->I}(h:ma s J (wh:=f)=U)(k:∀c b o p,s=.While c b o p->f c b o p->P):P:=uV h (kwh:=k)
def ae0{f:Expr->b9->b9->ww->I}(h:ma s J (ifs:=f)=U)(k:∀c b o p,s=.If c b o p->f c b o p->P):P:=uV h (kif:=k)
def ahG{f:b9->Y eg->b9->b9->ww->I}(h:ma s J (tr:=f)=U)(k:∀b h o u p,s=.Try b h o u p->f b h o u p->P):P:=uV h (ktr:=k)
def ae1{f:Expr->N Expr->ww->I}(h:ma s J (asr:=f)=U)(k:∀v m p,s=.Assert v m p->f v m p->P):P:=uV h (kar:=k)
def ae2{f:Expr->ww->I}(h:ma s J (ex:=f)=U)(k:∀v p,s=.Expr v p->f v p->P):P:=uV h (kex:=k)
end
def qH{P:Prop}{f:Expr->I}(h:pT a f)(k:∀t,a=[t]->f t->P):P:=by cases a with|nil=>exact ao h|cons t l=>exact ag (h) λa b=>k t (ah (t::·) (cO.mp b)) a
def NT:uq x->x=.yR (ur x):=X.casesOn (motive:=λx=>uq x=U->x=.yR (ur x)) x ao iz ao ao ao aV aV aV iz aV aV aV aV pj pj pj aV (λ_ _=>Z) ao iz pj Su F4 iz Su ao
def aaw:Hw x->x=.Ss:=X.casesOn (motive:=λx=>Hw x=U->x=.Ss) x ao iz ao ao ao aV aV aV iz aV aV aV aV pj pj pj aV aV (λ_=>Z) iz pj Su F4 iz Su ao
def Ur:uu x=O (f,a)->x=.bF f (.cons a .nil) [] .nil:=X.casesOn (motive:=λx=>uu x=O (f,a)->x=.bF f (.cons a .nil) [] .nil) x aa gL aa aa aa bX bX bX gL bX bX bX bX kH kH kH bX bX aa gL kH (λg b b b h=>lh h λb h=>bW h λc h=>iJ h λd e h=>by rw[b,nil_of c,ND e,show g=f from ah wf h,show d=a from ah Fk h]) To gL Fy aa
section
variable{c:Cx}{e:Expr}{es:b9}{n:W}
def ae3(h:eK c.g.nm a e):Q_ c (q9 c.G c.lv (uu a)) e:=λk m a=>aQ a λf i b a=>FU a λo a=>iJ a λq d a=>bL d λw r d=>by rw[Ur b]at h;obtain⟨j,es,g,p,t,h⟩:=uw (f:=λj u g _=>nu j (λs=>iD c.g.nm f s&&LS s)&&pz c.g.nm (.cons i .nil) u&&oe c.g.nm [] g&&pz c.g.nm .nil (g.map λk:wn=>k.value)) h;refine ag h λh _=>ag h λh g=>ag h λb h=>?_;obtain⟨s,j,s,b⟩:=kF b;refine ag b λb u=>NF h λh l v w x y=>?_;refine⟨f,j,h,p,?_,ze u (g6 b),o,?_,(show i=m from ah Fk a)▸w,x⟩;rw[t,s,g6 b,E2 g Z,v,(cO.mp y)];rw[r,oZ d,show q=k from ah wf a]
def Us:call2 x=O (f,a)->x=.bF f a [] .nil:=X.casesOn (motive:=λx=>call2 x=O (f,a)->x=.bF f a [] .nil) x aa gL aa aa aa bX bX bX gL bX bX bX bX kH kH kH bX bX aa gL kH (λg b d d h=>lh h λd h=>bW h λi h=>by rw[d,nil_of i,show g=f from ah wf (au h),show b=a from ah Fk (au h)]) To gL Fy aa
def ahH(h:eK c.g.nm a e):B2E c (B5 c.G c.lv (call2 a)) e:=λa a=>aQ a λf j b a=>FU a λk a=>bL a λd d a=>bL d λw l d=>bW a λm a=>by rw[Us b]at h;obtain⟨i,es,g,p,o,h⟩:=uw (f:=λi q g _=>nu i (λs=>iD c.g.nm f s&&LS s)&&pz c.g.nm j q&&oe c.g.nm [] g&&pz c.g.nm .nil (g.map λg:wn=>g.value)) h;refine ag h λh _=>ag h λh g=>ag h λb h=>?_;obtain⟨s,i,j,b⟩:=kF b;refine ag b λb q=>⟨f,i,es,p,?_,ze q (g6 b),k,?_,(au a)▸h⟩;rw[o,j,g6 b,E2 g Z];rw[l,oZ d,aK m]
abbrev x?(c:Cx):Cx:={c with G:=D? c.G}
abbrev chG(G:cQ)(gl:jP)(av func:W->af->aY->PG->dR)(sup:W->af->PG->dR)(ro:I)(comp:X->W->X->ae->ae->St->mi):cQ:={G with gl:=gl,av:=av,func:=func,sup:=sup,ro:=ro,comp:=comp}
def KF.chg{K:WP}(k:KF K g G B){gl av func sup ro comp}:KF K g (chG G gl av func sup ro comp) B:=⟨k.inj,k.bool,k.len,k.handed,k.Ki,k.FC,k.Tq,k.Ag,k.const,k.Cj,k.Cm,k.Co,k.K2,k.HH,k.Cp,k.Tr,k.FD,k.N_,k.G4,k.O5,k.ZC,k.O4,k.O1,k.N?,k.N!,k.dT,k.dD,k.qu,k.ew,k.lH,k.E5,k.Ts,k.E3,k.Tt,k.Cq,k.MT,k.K'⟩
def Cx.OK.ro(a:c.OK):(x? c).OK:=⟨a.kf.chg,a.jD,a.locals,a.kind,a.loc,a.glob,a.units,a.handled,a.bw,a.depth⟩
def Cx.Calls.ro(a:c.Calls):(x? c).Calls:=⟨a.av,a.func,a.Yi,λ_ _ _ _ _ _ _ _ _ e=>aa e,λ_ _ _ _ _ _ _ _ _ _ _ e=>aa e,λ_ _ _ _ _ _ _ _ _ _ _ _ e=>aa e⟩
def bC.ae4{p:Pt}(r:bC c p a):bC (x? c) p a:=⟨r.pg,r.kx,r.loc,r.base⟩
def bC.ae5{p:Pt}(r:bC (x? c) p a):bC c p a:=⟨r.pg,r.kx,r.loc,r.base⟩
def Ut(h:LX (x? c) b es):rN c (lg U) b es:=λp a b d e r Q E q=>h p a b d e r.ae4 Q E λa b n=>q a b n.ext n.rel.ae5
def ae6(c:Cx)(n:W)(x:S):=(∀e,XU c.g.nm x e->SS c (s4 c.lv n x c.G) e)/\∀es,lI c.g.nm x es->LX c (s4 c.lv n x c.G) es
def NU{b:I}{s:a9}(h:b->SS c f s)(k:b=J->SS c g s):SS c (br b f g) s:=by cases b with|true=>exact h Z|false=>exact k Z
def NV(a:vO x)(h:eK c.g.nm x o):zh c o:=Ih (Ax a▸h)
def rP{s:a9}:SS c aaM s:=λ_ _ _ _ e=>aa e
def oB(n:W)(x:S):∀c:Cx,c.OK->c.Calls->uU c.lv x->ae6 c n x:=by
 induction x with
 |nil=>exact λc a d i=>⟨λe h=>ao h,λes h=>(cO.mp h:es=[])▸aaf⟩
 |cons x m o a'=>
  refine λc a d i=>⟨λe h=>ao h,λes h=>?_⟩;cases es with
  |nil=>exact ao h
  |cons e es=>exact ag (show(uU c.lv x&&uU c.lv m)from i) λG Q=>ag (show(XU c.g.nm x e&&lI c.g.nm m es)from h) λb f=>(Ub ((o c a d G).1 e b) ((a' c a d Q).2 es f):)
 |expr x=>exact λc a d i=>⟨λs h=>ae2 (f:=λv _=>eK c.g.nm x v&&d5 v) h (λv p g h=>ag h λb f=>g▸(Uc a ((bz a d x).1 v b) f:)),λes h=>ao h⟩
 |ret x=>
  refine λc a d i=>⟨λs h=>ahC (f:=λv _=>oc v (λv=>!cq x&&eK c.g.nm x v) (cq x)) h (λv p g h=>g▸?_),λes h=>ao h⟩;show SS c (sW (cq x) _) _;cases v with
  |none=>exact(show cq x from h)▸CA
  |some v=>exact ag (show(!cq x&&eK c.g.nm x v)from h) λb f=>(im _▸b:cq x=J)▸(aag ((bz a d x).1 v f):)
 |brk=>exact λc a d i=>⟨λs h=>uV h (kbk:=λp g _=>g▸aah),λes h=>ao h⟩
 |U_=>exact λc a d i=>⟨λs h=>uV h (kpa:=λp g _=>g▸aai),λes h=>ao h⟩
 |set m x=>
  refine λc a d i=>⟨λs h=>rO (f:=λt v _=>bV c.g.nm m t&&eK c.g.nm x v&&!m.isEmpty&&d5 v) h (λt v p g h=>g▸ag h λh H=>ag h λh j=>ag h λb f=>NU (λq=>?_) λ_=>?_),λes h=>ao h⟩
  ·rw[NT q]at f
   obtain⟨A,B,V,f⟩:=MB (f:=λA=>pz c.g.nm (ur x) A&&bd A.length 1000) f;exact ag f λf R=>V▸(Ui a ((bz a d (ur x)).2 A f).l R b i:)
  ·cases m with
   |nil=>exact ao j
   |cons E ys=>exact(aan a ((bz a d x).1 v f) b i H:)
 |setC x elt E T cs=>exact λc a d i=>⟨λs h=>d.setC x elt E T cs s i h,λes h=>ao h⟩
 |C! m x=> refine λc a d i=>⟨λs h=>rO (f:=λt v _=>pT t (Mz · (bV c.g.nm m))&&eK c.g.nm x v&&d5 v&&B7 v) h (λt v p g h=>g▸ag h λh H=>ag h λh j=>ag h λb f=>qH b λy r b=>?_),λes h=>ao h⟩;obtain⟨l,g',B,M,b⟩:=MC b;rw[r,M];exact(aap a ((bz a d x).1 v f) b i j H:)
 |Fe z L x=>
  refine λc a d i=>⟨λs h=>rO (f:=λt v _=>pT t (isAt · λk n _=>iD c.g.nm L n&&eK c.g.nm z k)&&eK c.g.nm x v&&d5 v) h (λt v p g h=>g▸ag h λh j=>ag h λb f=>qH b λy r b=>NU (λq=>?_) λ_=>rP),λes h=>ao h⟩;obtain⟨k,h',B,M,b⟩:=yY b;refine ag b λF K=>?_;rw[r,M,g6 F];have hE:=NV q K;cases q1:uq x with
  |true=> rw[NT q1]at f;obtain⟨A,B,V,f⟩:=MB (f:=λA=>pz c.g.nm (ur x) A&&bd A.length 1000) f;exact ag f λf R=>V▸(NK a hE ((bz a d (ur x)).2 A f).l R:)
  |false=>cases q2:Hw x with
   |true=> rw[aaw q2]at f;obtain⟨ks,A,B,V,f⟩:=aem (f:=λL u=>L.isEmpty&&u.isEmpty) f;exact ag f λH h5=>by rw[V,(cO.mp H:ks=[]),(cO.mp h5:A=[])];exact(NL a hE:)
   |false=>exact(Uj a hE ((bz a d x).1 v f) j:)
 |Zk z o x=> refine λc a d i=>⟨λs h=>rO (f:=λt v _=>pT t (Fo · λk A=>eK c.g.nm z k&&eK c.g.nm o A&&jC A)&&eK c.g.nm x v&&d5 v) h (λt v p g h=>g▸ag h λh j=>ag h λb f=>qH b λy r b=>?_),λes h=>ao h⟩;obtain⟨k,A,B,M,b⟩:=HE b;rw[r,M];exact ag b λb _=>ag b λF K=>Uk a (rK F) ((bz a d o).1 A K) ((bz a d x).1 v f) j
 |del z o=> refine λc a d i=>⟨λs h=>ahD (f:=λt _=>pT t (Fo · λk A=>eK c.g.nm z k&&eK c.g.nm o A&&jC A)) h (λt p g h=>g▸qH h λy r b=>?_),λes h=>ao h⟩;obtain⟨k,A,B,M,b⟩:=HE b;rw[r,M];exact ag b λb _=>ag b λF K=>NN a (rK F) ((bz a d o).1 A K)
 |aug x op E=> refine λc a d i=>⟨λs h=>Yn (f:=λy t v _=>nu y (λs=>iD c.g.nm x s&&LS s)&&ac (oN op) (oN t)&&eK c.g.nm E v) h (λy t v p g h=>g▸ag h λh j=>ag h λb f=>?_),λes h=>ao h⟩;obtain⟨s,B,r,b⟩:=kF b;exact ag b λF K=>by rw[r,g6 F,<-FX f];exact(aaq a (ze K (g6 F)) ((bz a d E).1 v j):)
 |J7 z L op E=> refine λc a d i=>⟨λs h=>Yn (f:=λy t v _=>isAt y (λk n _=>iD c.g.nm L n&&eK c.g.nm z k)&&ac (oN op) (oN t)&&eK c.g.nm E v) h (λy t v p g h=>g▸ag h λh j=>ag h λb f=>NU (λq=>?_) λ_=>rP),λes h=>ao h⟩;obtain⟨k,h',B,r,b⟩:=yY b;exact ag b λF K=>by rw[r,g6 F,<-FX f];exact(Um a (NV q K) ((bz a d E).1 v j):)
 |ifs x L u o a'=>exact λc a d i=>⟨λs h=>ae0 (f:=λt A F _=>eK c.g.nm x t&&lI c.g.nm L A&&lI c.g.nm u F) h (λv A F p g h=>g▸ag h λh j=>ag h λb f=>ag (show(uU c.lv L&&uU c.lv u)from i) λG Q=>aaj ((bz a d x).1 v b) ((o c a d G).2 A f) ((a' c a d Q).2 F j)),λes h=>ao h⟩
 |uH x u o=>exact λc a d i=>⟨λs h=>ahF (f:=λt w k _=>eK c.g.nm x t&&lI c.g.nm u w&&k.isEmpty) h (λv w k p g h=>ag h λh j=>ag h λb f=>by rw[g,(cO.mp j)];exact(aav ((bz a d x).1 v b) ((o c a d i).2 w f):)),λes h=>ao h⟩
 |yb m T u o=>
  refine λc a d i=>⟨λs h=>ahE (f:=λy P w k _=>XT c.g.nm m y&&eK c.g.nm T P&&lI c.g.nm u w&&k.isEmpty&&n9 P) h (λy P w k p g h=>ag h λh h5=>ag h λh H=>ag h λh j=>ag h λb f=>ag (show(gN c.lv m&&uU c.lv u)from i) λG Q=>?_),λes h=>ao h⟩;rw[g,(cO.mp H)];have d':=(o c a d Q).2 w j;cases m with
  |nil=>exact rP
  |cons x m=>cases m with
   |nil=> obtain⟨t,B,r,b⟩:=kF b;rw[r,g6 b];exact rL G λG _=>aau a d (rK f) (ae3 f) (ahH f) ((bz a d T).1 P f) G h5 (Ip d') (Ut ((o (x? c) a.ro d.ro Q).2 w j))
   |cons E m=>cases m with
    |cons _ _=>exact rP
    |nil=>
     obtain⟨l,g',B,r,b⟩:=MC b;rw[r];have B0:=ae3 f
     have X:∀z,Q_ c z P->SS c (λs=>oc z (λR=>rg c.G c.lv x E (O R) (s4 c.lv n u c.G) s) (B6 x E (ev c.G c.lv · T) (s4 c.lv n u c.G) s)) (.For (.Tuple l g' B) P w [] p):=λz ho=>by
      cases z with
      |none=>exact(Uq a ((bz a d T).1 P f) h5 b G (Ip d'):)
      |some R=>exact(Up a d ho h5 b G d':)
     exact X _ B0
 |Zl x=>exact λc a d i=>⟨λs h=>ae1 (f:=λv _ _=>eK c.g.nm x v) h (λv h' p g h=>g▸(Ud ((bz a d x).1 v h):)),λes h=>ao h⟩
 |C? u o=>
  refine λc a d i=>⟨λs h=>ahG (f:=λw g k m _=>lI c.g.nm u w&&!g.isEmpty&&k.isEmpty&&m.isEmpty) h (λw hd k m p g h=>ag h λh H=>ag h λh j=>ag h λb f=>?_),λes h=>ao h⟩;rw[g,(cO.mp j),(cO.mp H)];cases hd with
  |nil=>exact ao f
  |cons h0 hd=>exact(aak ((o c a d i).2 w b):)
 |bad=>exact λc a d i=>⟨λe h=>rP,λes h p a a a e=>aa e⟩
end
end
def lS{M:o?}{s:ge}{e b:Type}(d:b->e->b)(l:Y e):∀(a:b)(f:e->b->e5 (C' b)),(∀c x g,l=c++x::g->f x (c.foldl d a)=H1 (.yield (d (c.foldl d a) x)))->∀Q:b->ge->Prop,Q (l.foldl d a) s->he M A (forIn l a f) Q E s:=by induction l with|nil=>exact λa f _ Q q=>by rw[q4];exact cP q|cons x l i=> refine λa f h Q q=>?_;have b:f x a=H1 _:=h [] x l Z;rw[eL,b];exact bR (cP (i _ f (λc y g e=>h (x::c) y g (ah _ e)) Q q))
def CJ{a b:Type}(l:Y a)(X:b):∀S:Y a,l.foldl (λ(t:Y a×b)x=>(t.1++[x],t.2)) (S,X)=(S++l,X):=by induction l with|nil=>exact λS=>by rw[eq];rfl|cons x l c=>exact λS=>(c _).trans (by rw[am];rfl)
def dflt(S:je)(p:lw×bv):je:=if(S.lookup p.1).isNone then S++[(p.1,p.2)]else S
def CL(n:lw)(a:je):∀S:je,(a.foldl dflt S).lookup n=(S.lookup n).or (a.lookup n):=by induction a with|nil=>exact λS=>(Option.or_none).symm|cons p a b=>refine λS=>(b _).trans ?_;rw[kD];unfold dflt;by_cases h:(S.lookup p.1).isNone=U;(rw[eP h,yH,Option.or_assoc,kD];cases n==p.1<;>rfl);rw[eH h];by_cases q:(n==p.1)=U;(rw[q];rw[<-eq_of_beq q]at h;cases z:S.lookup n with|none=>rw[z]at h;exact ch Z h|some v=>rfl);rw[d8.mpr q]
structure gr(p:l5):Prop where
 po:p.posonlyargs=[]
 ko:p.kwonlyargs=[]
 va:p.vararg=C
 ka:p.kwarg=C
def defaultsOf(o:N (XV bv)):aP:=(o.getD #[]).toList
def F5(b:sB)(s:ge)(a:aP):=∀(M:o?)(A:v6)(E:aT)(Q:N (XV bv)->ge->Prop),(∀o,defaultsOf o=a->Q o s)->he M A (seqItems? b.defaults) Q E s
def Iq(h:gr d.params){a:Y lw}(e:d.params.args.map (·.arg)=a){b:aP}{s:ge}(i:F5 d s b)
 (l:b.length<=a.length)(j:args.pos.length<=a.length)
 (g:∀c k v f,args.kw=c++(k,v)::f->a.contains k/\((a.zip args.pos++c).lookup k)=C)(m:∀n∈a.take (a.length-b.length),((a.zip args.pos++args.kw).lookup n).isSome=U):
  m5 s d args (a.filterMap λn=>(((((a.zip args.pos).lookup n).or (args.kw.lookup n)).or (((a.drop (a.length-b.length)).zip b).lookup n)).map (n,·))):=λM A E Q q=>by
 obtain⟨p,r,⟨t,o,u,ko,w,x,y⟩,z,B,F,G,H,K,L,P,R,S⟩:=d;obtain⟨rfl,rfl,rfl,rfl⟩:=h;have d:b? (λx:Arg=>x.arg) []++b? (λx=>x.arg) o=a:=e;have k:=e;unfold bindArgs;dsimp only;rw[d,k];refine bR (lS (λt x=>(t.1++[x],t.2)) _ _ _ (λc x f d=>?_) _ ?_)
 ·obtain⟨k,o⟩:=g c x.1 x.2 f d
  rw[CJ];exact(eP (ET.mpr (.inl k))).trans ((eH λz=>yG _ (il (Option.eq_some_of_isSome z) o)).trans rfl)
 ·rw[CJ]
  refine bR (i _ _ _ _ λo g=>?_);unfold defaultsOf at g;rw[g];rw[eH (λz=>ch (aO (ag z λg _=>g)) (zY.mpr j))];rw[show n_ _ b=b by rw[i0 l];rfl]
  have g:(a.take (a.length-b.length)).filter (λn=>(i' n (a.zip args.pos++args.kw)).isNone)=[]:=by rw[List.filter_eq_nil_iff];exact λn e z=>by rw[<-k9,m n e]at z;exact ao z
  rw[g];refine bR (lS dflt _ _ _ (λc x f d=>?_) _ (bR ?_))
  ·unfold dflt
   by_cases h:(i' x.1 (c.foldl dflt (a.zip args.pos++args.kw))).isNone=U
   ·exact(eP h).trans (ah (λz=>H1 _) (eP h).symm)
   ·exact(eH h).trans (ah (λz=>H1 _) (eH h).symm)
  ·refine cP ?_
   refine cP ?_;have f:(λn=>w' (λx=>(n,x)) (i' n (List.foldl dflt (a.zip args.pos++args.kw) ((n_ (a.length-b.length) a).zip b))))=λn=>_:=funext λn=>by rw[CL,yH]
   rw[f,show a++b? (λx:Arg=>x.arg) []=a from eq _];exact q
def lookup_none{l:je}(h:∀p∈l,p.1≠k):l.lookup k=C:=by induction l with|nil=>rfl|cons p l a=> rw[kD,qV (Ne.symm (h p gY))];exact a λq a=>h q (iH _ a)
def lookup_mem{l:je}(a:(l.map (·.1)).Nodup){k:lw}{v:bv}(h:(k,v)∈l):l.lookup k=O v:=by induction l with|nil=>exact ch h cr|cons p l b=>rw[fS,mV]at a;rw[kD];refine(c?.mp h).elim (λq=>?_) λh=>?_;rw[<-q,qU];rw[qV λq:k=p.1=>a.1 (q▸fq h)];exact b a.2 h
def Uu{b:Y lw}:∀{a:aP}{p:lw×bv},p∈b.zip a->p.1∈b.take a.length:=by induction b with|nil=>exact λh=>ch (List.zip_nil_left▸h) cr|cons n b c=>intro a p h;induction a with|nil=>exact ch (l7▸h) cr|cons w a _=> exact(c?.mp (h)).elim (λq=>by rw[q];exact gY) λh=>iH _ (c h)
section
variable{g:fC}{F F':bl}{kws:je}{ks b:aY}{T p1 p2:jN}{ws ds:aP}{as:af}{x y:W}{v:V}{w:bv}{k:W×V}{d:N V}
abbrev Inj(g:fC):Prop:=∀x y,g.nm x=g.nm y->x=y
def oy.un(h:oy g F kws (k::ks)):∃w l,kws=(g.nm k.1,w)::l/\Rd g F w k.2/\oy g F l ks:=by induction kws with|nil=>exact ch h.1.symm (bN _ _)|cons q l _=> have e:=fw h.1;obtain⟨w,m,z,r,a⟩:=h.2.un;have z:=fw z;exact⟨q.2,l,ah (·,q.2) e.1▸Z,(show q.2=w from z.1)▸r,e.2,z.2▸a⟩
def oy.cons(r:Rd g F w v)(h:oy g F kws ks):oy g F ((g.nm x,w)::kws) ((x,v)::ks):=⟨ah _ h.1,w,_,Z,r,h.2⟩
def oy.get(a:Inj g)(x:W):∀{kws:je},oy g F kws ks->Km g F (kws.lookup (g.nm x)) (aj x ks):=by induction ks with|nil=>exact λr=>(vD.mp r.1)▸Z|cons k ks c=>intro kws r;obtain⟨w,l,q,r,e⟩:=r.un;rw[q,kD];by_cases z:ac k.1 x=U;rw[show aj x _=_ from fF z,<-aK z,qU];exact⟨w,Z,r⟩;have n:g.nm x≠g.nm k.1:=λq=>z ((a _ _ q)▸cf x);rw[show aj x _=_ from dH (d8.mpr z),qV n];exact c e
def names_nodup(e:Inj g){c:Type}{l:Y (W×c)}(a:(l.map (·.1)).Nodup):(l.map λp=>g.nm p.1).Nodup:=by induction l with|nil=>exact zU|cons p l f=> rw[fS,mV]at a ⊢;refine⟨λq=>?_,f a.2⟩;obtain⟨r,c,f⟩:=eO.mp q;exact a.1 ((e _ _ f)▸fq c)
def KD(g:fC)(F:bl)(T:jN)(ws:aP):=∃a,T.map (·.2)=a.map O/\cD g F ws a
def KD.bS(s:F.le F')(h:KD g F T ws):KD g F' T ws:=by obtain⟨a,e,r⟩:=h;exact⟨a,e,r.bS s⟩
def KD.len(h:KD g F T ws):ws.length=T.length:=by obtain⟨a,e,r⟩:=h;exact r.length.trans (il (jb O) (e▸jb _))
abbrev iA(g:fC)(T:jN):Y lw:=T.map λp=>g.nm p.1
def KD.get(f:Inj g):∀{ws:aP},KD g F T ws->(T.map (·.1)).Nodup->(x,d)∈T->∃v w,d=O v/\((iA g T).zip ws).lookup (g.nm x)=O w/\Rd g F w v:=by induction T with|nil=>exact λ_ _ h=>ch h cr|cons p T i=>intro ws h a j;obtain⟨c,e,r⟩:=h;induction c with|nil=>exact ch e (bN _ _)|cons v c _=>obtain⟨w,l,q,r,h⟩:=r.un;have e:=fw e;rw[fS,mV]at a;rw[q,show(iA g _).zip _=_::(iA g T).zip l from Z,kD];refine(c?.mp j).elim (λz=>?_) λz=>?_;rw[show g.nm x=g.nm p.1 from ah (λp:W×N V=>g.nm p.1) z,qU];exact⟨v,w,(ah Fk z).trans e.1,Z,r⟩;have n:g.nm x≠g.nm p.1:=λq=>a.1 ((f _ _ q)▸fq z);rw[qV n];exact i ⟨c,e.2,h⟩ a.2 z
def slot(a:Y lw)(ws:aP)(kws:je)(n:lw):eU:=((a.zip ws).lookup n).or (kws.lookup n)
def Ir{n:lw}:slot (n::a) (w::ws) kws n=O w:=by unfold slot;rw[BQ,kD,qU];rfl
def Iu{m:lw}(h:n≠m):slot (m::a) (w::ws) kws n=slot a ws kws n:=by unfold slot;rw[BQ,kD,qV h]
def rQ:slot a [] kws n=kws.lookup n:=by unfold slot;rw[l7];rfl
structure BpW(g:fC)(F:bl)(T:jN)(ws:aP)(kws dl:je)(as:af)(b:aY):Prop where
 all:∀p∈b,∃w,(slot (iA g T) ws kws (g.nm p.1)).or (dl.lookup (g.nm p.1))=O w/\Rd g F w p.2
 keys:b.map (·.1)=T.map (·.1)
 len:as.length<=T.length
 miss:∀x,(x,C)∈T->(slot (iA g T) ws kws (g.nm x)).isSome=U
def zm(m:Inj g)(u:oy g F kws ks)(i:je)(T:jN):∀(as:af)(ws:aP)(b:aY),Hy ks T as=O b->cD g F ws as->(T.map (·.1)).Nodup->(∀x v,(x,O v)∈T->∃w,i.lookup (g.nm x)=O w/\Rd g F w v)->BpW g F T ws kws i as b:=by induction T with|nil=>exact λas ws b e r f o=>lh e λh e=>by rw[h,<-au e];exact⟨λp a=>ch a cr,Z,aU _,λx c=>ch c cr⟩|cons p T A=>refine λas ws b e r f o=>?_;rw[fS,mV]at f;have B:=λx v h=>o x v (iH _ h);have G:∀{x:W}{d:N V},(x,d)∈T->g.nm x≠g.nm p.1:=λh q=>f.1 ((m _ _ q)▸fq h);refine y? (e) (λj e=>bL e λv E e=>iJ e λs t e=>?_) λv H j e=>iJ e λs t e=>?_;rw[j]at r;rw[show ws=[]from r];have a:=A [] [] s t Z f.2 B;have S:∀n,slot (iA g (p::T)) [] kws n=slot (iA g T) [] kws n:=λn=>rQ.trans rQ.symm;have K:=u.get m p.1;(have L:∃w,(slot (iA g T) [] kws (g.nm p.1)).or (i.lookup (g.nm p.1))=O w/\Rd g F w v:=by rw[rQ];refine md E (λM h e=>?_) λh e=>?_;rw[h]at K;obtain⟨w,i,u⟩:=K;exact⟨w,by rw[i];rfl,au e▸u⟩;rw[h]at K;obtain⟨w,i,u⟩:=o p.1 v (e▸gY);exact⟨w,by rw[show kws.lookup _=C from K];exact i,u⟩);refine⟨λq o=>?_,?_,j▸eG _,λx c=>?_⟩;rw[S];rw[<-e]at o;exact(c?.mp o).elim (λz=>z▸L) (a.all q);rw[<-e];exact ah _ a.keys;rw[S];refine(c?.mp c).elim (λz=>?_) (a.miss x);rw[rQ,show x=p.1 from ah wf z];refine md E (λM h _=>?_) λ_ e=>aa ((ah Fk z).trans e);rw[h]at K;obtain⟨w,i,_⟩:=K;exact i▸Z;rw[j]at r ⊢;obtain⟨w,l,q,r,h⟩:=r.un;rw[q];have a:=A H l s t h f.2 B;refine⟨λz h=>?_,?_,eN a.len,λx c=>?_⟩;rw[<-e]at h;refine(c?.mp h).elim (λz=>by rw[z,show iA g _=g.nm p.1::iA g T from Z,Ir];exact⟨w,Z,r⟩) λh=>?_;have n:g.nm z.1≠g.nm p.1:=λq=>f.1 (a.keys▸(m _ _ q)▸fq h);rw[show iA g _=g.nm p.1::iA g T from Z,Iu n];exact a.all z h;rw[<-e];exact ah _ a.keys;refine(c?.mp c).elim (λz=>?_) λc=>?_;rw[show x=p.1 from ah wf z,show iA g _=g.nm p.1::iA g T from Z,Ir];rfl;rw[show iA g _=g.nm p.1::iA g T from Z,Iu (G c)];exact a.miss x c
def cV{a:Type}{l:Y (W×a)}{v:a}(e:aj x l=O v):(x,v)∈l:=by induction l with|nil=>exact aa e|cons p l c=>by_cases z:ac p.1 x=U;rw[show aj x _=_ from fF z]at e;rw[<-aK z,<-au e];exact gY;rw[show aj x _=_ from dH (d8.mpr z)]at e;exact iH _ (c e)
def Uv{a:Type}{l:Y (W×a)}(e:aj x l=C):x∉l.map (·.1):=by induction l with|nil=>exact cr|cons p l c=>by_cases z:ac p.1 x=U;exact ch (il (fF z) e) (yG _);rw[show aj x _=_ from dH (d8.mpr z)]at e;exact λh=>(c?.mp h).elim (λq=>z (q▸cf _)) (c e)
def Uw(h:kwOk T ks):(∀p∈ks,∃d,(p.1,d)∈T)/\(ks.map (·.1)).Nodup:=by
 induction ks with
 |nil=>exact⟨λp c=>ch c cr,zU⟩
 |cons p ks e=>
  have h:oc _ (λ_=>oc _ aaE _) J=U:=h;cases a:aj p.1 T with
  |none=>rw[a]at h;exact ao h
  |some d=>cases c:aj p.1 ks with
   |some _=>rw[a,c]at h;exact ao h
   |none=> rw[a,c]at h;obtain⟨f,b⟩:=e h;exact⟨λq e=>(c?.mp e).elim (λz=>z▸⟨d,cV a⟩) (f q),mV.mpr ⟨Uv c,b⟩⟩
def p9{f:lw->eU}(h:∀p∈b,∃w,f (g.nm p.1)=O w/\Rd g F w p.2):oy g F ((b.map λp=>g.nm p.1).filterMap λn=>(f n).map (n,·)) b:=by induction b with|nil=>exact⟨Z,Z⟩|cons p b a=> obtain⟨w,c,e⟩:=h p gY;rw[fS,lx,c];exact oy.cons e (a λq a=>h q (iH _ a))
def keys_eq(e:b.map (·.1)=T.map (·.1)):(b.map λp=>g.nm p.1)=iA g T:=by have:=ah (b? g.nm) e;rwa [jx,jx]at this
def Iv(e:Inj g)(c:oy g F kws ks)(i:kwOk (T.drop as.length) ks)(j:(T.map (·.1)).Nodup)(m:ws.length=as.length){a h:je}{k:lw}(f:kws=a++(k,w)::h):((iA g T).zip ws).lookup k=C/\k∈iA g T/\a.lookup k=C:=by(refine gq λP l=>?_;obtain⟨n,o⟩:=Uw i;have h:(iA g T).Nodup:=names_nodup e j;have j:k∈ks.map λp=>g.nm p.1:=by rw[<-c.1,f];exact fq (db a gY));obtain⟨p,a,i⟩:=eO.mp j;obtain⟨d,j⟩:=n p a;refine l ?_;refine⟨lookup_none λq a z=>?_,i▸fq (i3 j),lookup_none λq a z=>?_⟩;have l:=Uu a;(rw[z,m,<-i]at l;have i:g.nm p.1∈(iA g T).drop as.length:=by rw[<-List.map_drop];exact fq j);rw[<-BR as.length (iA g T)]at h;exact(zP.mp h).2.2 _ l _ i Z;(have h:(kws.map (·.1)).Nodup:=by rw[c.1];exact names_nodup e o);rw[f,mc]at h;exact(zP.mp h).2.2 q.1 (fq a) k gY z
def xa(h:Inj g){s:ge}{fd:sB}(f:pQ T as ks=O b)(e:(T.map (·.1)).Nodup)(i:cD g F ws as)(o:oy g F kws ks)(t:gr fd.params)(u:fd.params.args.map (·.arg)=iA g T)(a:T=p1++p2)(r:∀p∈p1,p.2=C)(m:KD g F p2 ds)(A:F5 fd s ds):
  ∃c,oy g F c b/\b.map (·.1)=T.map (·.1)/\m5 s fd ⟨ws,kws⟩ c:=bW f λE f=>by
 have c:=m.len;have j:(iA g T).length=p1.length+ds.length:=by rw[jb,a,aX,c]
 have n:=by rw[a,mc]at e;exact(zP.mp e).2.1
 have sp:iA g T=iA g p1++iA g p2:=by rw[a];exact mc
 have G:(iA g T).drop ((iA g T).length-ds.length)=iA g p2:=by rw[j,Hq,sp,p_ (jb _)]
 have H:(iA g T).take ((iA g T).length-ds.length)=iA g p1:=by rw[j,Hq,sp,p7 (jb _)]
 have c:=zm h o _ T as ws b f i e λx v f=>by rw[a]at f;refine(gX.mp f).elim (λz=>aa (r _ z).symm) λz=>?_;obtain⟨f,w,q,f,l⟩:=m.get h n z;exact⟨w,f,au q▸l⟩
 refine⟨_,p9 (f:=λn=>(slot _ ws kws n).or (((iA g p2).zip ds).lookup n)) c.all,c.keys,?_⟩;have B:=Iq (args:=⟨ws,kws⟩) t u A (j▸nQ _ _) (show ws.length<=_ by rw[jb,i.length];exact c.len) (λj k v j m=>?_) λn j=>?_
 ·rw[G]at B
  rw[keys_eq c.keys];exact B
 ·obtain⟨z,f,l⟩:=Iv h o E e i.length m
  exact⟨h_.mpr f,by rw[yH,z];exact l⟩
 ·rw[H]at j
  obtain⟨p,e,f⟩:=eO.mp j;have:=c.miss p.1 (by rw[a];exact h? _ ((r p e)▸e));rw[yH,<-f];exact this
def KG(j:Inj g){s:ge}{c:sB}{a:bv}(h:pQ T as ks=O b)(e:(0::T.map (·.1)).Nodup)(m:cD g F ws as)(E:oy g F kws ks)(H:gr c.params)(K:c.params.args.map (·.arg)=g.nm 0::iA g T)(i:T=p1++p2)(G:∀p∈p1,p.2=C)(n:KD g F p2 ds)(L:F5 c s ds):
  ∃f,oy g F f b/\b.map (·.1)=T.map (·.1)/\m5 s c ⟨a::ws,kws⟩ ((g.nm 0,a)::f):=bW h λM h=>by
 obtain⟨u,e⟩:=mV.mp e;have c:=n.len;have o:(g.nm 0::iA g T).length=(p1.length+1)+ds.length:=by rw[vE,jb,i,aX,c,jL]
 have t:=by rw[i,mc]at e;exact(zP.mp e).2.1
 have sp:g.nm 0::iA g T=(g.nm 0::iA g p1)++iA g p2:=by rw[i];exact ah (g.nm 0::·) mc
 have c:(g.nm 0::iA g p1).length=p1.length+1:=ah pp (jb _);have P:(g.nm 0::iA g T).drop ((g.nm 0::iA g T).length-ds.length)=iA g p2:=by rw[o,Hq,sp,p_ c]
 have Q:(g.nm 0::iA g T).take ((g.nm 0::iA g T).length-ds.length)=g.nm 0::iA g p1:=by rw[o,Hq,sp,p7 c]
 have f:=zm j E ((iA g p2).zip ds) T as ws b h m e λx v c=>by rw[i]at c;refine(gX.mp c).elim (λz=>aa (G _ z).symm) λz=>?_;obtain⟨c,w,q,l,r⟩:=n.get j t z;exact⟨w,l,au q▸r⟩
 have t:∀{x},x∈T.map (·.1)->g.nm x≠g.nm 0:=λh q=>u (j _ _ q▸h)
 have R:∀{n},n∈iA g T->n≠g.nm 0:=λh q=>by obtain⟨p,c,u⟩:=eO.mp h;exact t (fq c) (u.trans q)
 have A:∀{n:lw},n≠g.nm 0->((g.nm 0::iA g T).zip (a::ws)).lookup n=((iA g T).zip ws).lookup n:=λh=>by rw[BQ,kD,qV h]
 refine⟨_,p9 (f:=λn=>((((g.nm 0::iA g T).zip (a::ws)).lookup n).or (kws.lookup n)).or (((iA g p2).zip ds).lookup n)) (λp c=>by rw[A (t (f.keys▸fq c))];exact f.all p c),f.keys,?_⟩;have B:=Iq (args:=⟨a::ws,kws⟩) H K L (o▸nQ _ _) (show(a::ws).length<=_ by rw[vE,vE,jb,m.length];exact eN f.len) (λo k v o o=>?_) λn n=>?_
 ·rw[P,lx]at B
  have H:((((g.nm 0::iA g T).zip (a::ws)).lookup (g.nm 0)).or (kws.lookup (g.nm 0))).or (((iA g p2).zip ds).lookup (g.nm 0))=O a:=by rw[BQ,kD,qU];rfl
  dsimp only at B;rw[H]at B;rw[keys_eq f.keys];exact B
 ·obtain⟨z,l,r⟩:=Iv j E M e m.length o
  exact⟨h_.mpr (iH _ l),by rw[yH,A (R l),z];exact r⟩
 ·rw[Q]at n
  rw[yH];refine(c?.mp n).elim (λq=>by rw[q,BQ,kD,qU];rfl) λh=>?_;obtain⟨p,c,u⟩:=eO.mp h;have a:(p.1,C)∈T:=by rw[i];exact h? _ ((G p c)▸c)
  rw[<-u,A (t (fq a))];exact f.miss p.1 a
def Iw(h:Inj g)(e:(b.map (·.1)).Nodup):∀{a:je},oy g F a b->∀{m:lw->eU},(∀p∈a,m p.1=O p.2)->∀(c:W->af->Prop)(x:W),oc (aj x (b.map λp=>(p.1,LV.val p.2))) (λl=>Kb l (λv=>∃w,m (g.nm x)=O w/\Rd g F w v) (c x)) mf:=by induction b with|nil=>exact λ_ _ _ _ _=>trivial|cons p b f=>intro a r m a c x;rw[fS,mV]at e;obtain⟨w,l,q,r,h⟩:=r.un;rw[q]at a;by_cases z:ac p.1 x=U;rw[show aj x ((p::b).map λp=>(p.1,LV.val p.2))=O _ from fF z,<-aK z];exact⟨w,a _ gY,r⟩;rw[show aj x ((p::b).map λp=>(p.1,LV.val p.2))=aj x _ from dH (d8.mpr z)];exact f e.2 h (λq e=>a q (iH _ e)) c x
end
def iW(g:fC)(B:bl)(a:jP):=∀x v,a x=O v->∃y,Rd g B y v/\ ((∃a,(∀h,dq B h->h.Ns np a)/\a (g.nm x)=O y)∨∃a b,(∀h,dq B h->h.Ns np a)/\a (g.nm x)=C/\(∀h,dq B h->h.Ns wp b)/\b (g.nm x)=O y)
structure ip(k:W)(A:v6):Prop where
 depth:A.depth+10+k<Fa
 units:A.units+100+3*k<RT
 handled:A.handled=C
def ip.deeper(r:ip (k+1) A)(a:w5):ip k (A.deeper a):=⟨fR (cZ (show A.depth+1+10+k=A.depth+10+_ by rw[fK _ 1 k,hO 1 k])) r.depth,fR (cZ (show A.units+3+100+3*k=A.units+100+3*_ by rw[Mi,fK _ 3,hO 3])) r.units,r.handled⟩
structure FnAt(g:fC)(B:bl)(f:ii)(d:Def)(o:xL)(fd:sB)(body:b9):Prop where
 at_:B f o
 data:o.data=.func fd
 A2:fd.body=.stmts body
 is:lI g.nm d.body body=U
 code:∀h,dq B h->h.CodeRec fd.code fd.qualname
 co:fd.scope.isCoroutine=J
 bD:fd.scope.isGenerator=J
 kind:fd.scope.kind=.function
 globals:fd.globals=np
 builtins:fd.builtins=wp
 cell:∀x∈fd.scope.names,x.2≠.cell
 plain:gr fd.params
 names:fd.params.args.map (·.arg)=iA g d.params
 Z3:∃p1 p2 ds,d.params=p1++p2/\(∀p∈p1,p.2=C)/\KD g B p2 ds/\((fd.defaults=.none/\ds=[])∨∃T n,fd.defaults=.ref T/\B T (jU ds n))
 lv:∀x,aq d.lv x->fd.scope.names.lookup (g.nm x)=O .local
 gv:∀x,aq d.gv x->fd.scope.names.lookup (g.nm x)=O .globalImplicit
 loc:uU d.lv d.body=U
 par:∀p∈d.params,aq d.lv p.1=U
 nd:(d.params.map (·.1)).Nodup
section
variable{A:v6}{K:WP}{g:fC}{G:cQ}{B:bl}{d:Def}{o:xL}{fd:sB}{body:b9}{f L:ii}{k n:W}{p p1 p2:Pt}{pg pg':PG}{a:ii}{w:Ow}
abbrev AD(A:v6)(K:WP)(g:fC)(G:cQ)(B:bl)(d:Def)(fd:sB)(f L:ii):Cx:={A:=A.deeper (Tm fd L f),env:=Tm fd L f,K:=K,g:=g,G:=yh G d,B:=B,L:=L,lv:=d.lv}
def AE(ya:iW g B b){x:W}{v:V}(e:b x=O v){env:w5}(c:env.scope.kind=.function)(j:env.kindOf (g.nm x)=O .globalImplicit)(i:env.globals=np)(l:env.builtins=wp):∃y,Rd g B y v/\∀(M:o?)(A:v6)(s:ge)(Q:aT)(E:aT),(∀a o,B a o->s.heap.get? a=O o)->Q y s->he M A (hN env (g.nm x)) Q E s:=by obtain⟨y,r,h⟩:=ya x v e;refine⟨y,r,λM A s Q E b q=>?_⟩;unfold hN;simp only[Env.blockKind,c,j,ScopeKind.isAnnotationScope,Bool.false_and,Bool.false_eq_true,if_false];refine h.elim (λh=>?_) λh=>?_;obtain⟨j,c,e⟩:=h;exact l2 (i▸c _ b) e q;obtain⟨j,j,c,e,j,m⟩:=h;exact k8 (i▸c _ b) e (l▸j _ b) m q
def Iy(b:FnAt g B f d o fd body)(kf:KF K g G B)(e:∀a o,K.lookup a=O o->B a o)(ya:iW g B G.gl)(i:∀a,G.bw a->g.bw a)(c:ip (k+1) A)(L:ii):(AD A K g G B d fd f L).OK where
 kf:=kf.chg
 jD:=e
 locals:=Z
 kind:=b.kind
 loc:=b.lv
 glob:=λx v _ e=>bW (e) λj e=>by obtain⟨y,r,h⟩:=AE ya e (env:=Tm fd L f) b.kind (b.gv x j) b.globals b.builtins;exact⟨y,r,h _ _⟩
 units:=fR (gb _ _) (fR (cZ (jL _ 100 _)) ((c.deeper _).units|>λh=>(jL _ _ _)▸h))
 handled:=c.handled
 bw:=i
 depth:=fR (gb _ k) (c.deeper _).depth
open Classical in
def off(p:Pt):Pt:={p with ow:=λa=>if gM (p.ow a)=U then C else p.ow a}
def Yo(h:gM (p.ow a)):(off p).ow a=C:=eP h
def m8(h:gM (p.ow a)=J):(off p).ow a=p.ow a:=eH (d8.mp h)
def Iz:pF (off p):=λa=>(m7 _).elim (λh=>(Yo h).symm▸Z) λh=>(m8 h).symm▸h
def oE(h:(off p).ow a=O w):gM (p.ow a)=J/\p.ow a=O w:=(m7 _).elim (λq=>aa (il (Yo q) h)) λq=>⟨q,il (m8 q) h⟩
def AG(x:qQ g p pg):qQ g (off p) pg:=x.to ⟨λa o f=>⟨(x.own.fz a o f).1,(m8 ((x.own.fz a o f).2▸Z)).trans (x.own.fz a o f).2⟩,λa k h=>x.own.sJ a k (oE h).2,λa b k h c=>x.own.inj a b k (oE h).2 (oE c).2⟩ (λ_ _ _ _ _=>id) (λa w h s=>(m8 (wO h (rJ s).1)).trans h) λ_ _=>id
def aax{b:I}(k:N Ow)(h:lg J k):lg b k:=by induction b with|true=>exact tc k h|false=>exact h
def enter(x:qQ g p pg)(l:pF p){b:ul}{t:W}{o:xL}(c:b.get? p.h.objs.size=O o)(k:∀a o,p.h.get? a=O o->b.get? a=O o):qQ g {(p.up b t p.F p.ow)with ow:=bQ p.h.objs.size (O .frame) p.ow} pg:=have b:=x.own.grow k λ_ _=>.inl;have e:=x.own.new (aU _);x.to (b.give c (λo f=>x.own.ű (ju (aU _)) f) λa h=>ao (il (l a) (ah gM h))) (λa _ o _ _=>k a o) (λa w h _=>(bp λq=>aa (il e (q▸h))).trans h) λ_ _=>id
def leave(l:pF p)(h:Own p){b:ul}{t:W}(k:∀a o,p.h.get? a=O o->b.get? a=O o){c:I}(x:Ext (lg c) {(p.up b t p.F p.ow)with ow:=bQ p.h.objs.size (O .frame) p.ow} pg p2 pg'):uT p pg (off p2) pg':=by have b:∀{a o},p.h.get? a=O o->a≠p.h.objs.size:=λe q=>aa (il (ju (aU _)) (q▸e));have i:=h.new (aU _);have nL:∀{a w},p.ow a=O w->a≠p.h.objs.size:=λh q=>aa (il i (q▸h));have i:∀{a w},p2.ow a=O w->gM _=J->(off p2).ow a=O w:=λh n=>(m8 (h▸n)).trans h;refine⟨x.le,x.sh.trans Z,λa o e q=>x.keep a o (k a o e) (show lg c (bQ p.h.objs.size _ p.ow a)=U by rw[bp (b e)];exact aax _ q),λa o e=>x.ex a o (k a o e),λa o e=>?_,λa=>⟨λh=>i ((x.ck a).mp ((bp (nL h)).trans h)) Z,λh=>?_⟩,λa=>⟨λh=>ao (il (l a) (ah gM h)),λh=>ao (il (Iz a) (ah gM h))⟩,x.bD,λe=>⟨(x.calm e).1,λa t h=>i ((x.calm e).2 a t ((bp (nL h)).trans h)) Z⟩⟩;refine(x.to a o (k a o e)).elim (λh=>?_) λh=>.inr ((m8 (h▸Z)).trans h);have h:=h.trans (bp (b e));exact .inl ((m8 (h▸l a)).trans h);have h:=(x.ck a).mpr (oE h).2;exact(aJ h).elim (λq=>ch (au q.2) (bx Z)) p?
def NX(b:FnAt g B f d o fd body)(kf:KF K g G B)(P:∀a o,K.lookup a=O o->B a o)(ya:iW g B G.gl)(Q:∀a,G.bw a->g.bw a)(t:ip (k+1) A)(F:∀h,dq B h->h.NoLimit)(R:∀L,(AD A K g G B d fd f L).OK->(AD A K g G B d fd f L).Calls)(n:W){c:aP}{e:af}(y:cD g B c e):
  fT g B A (.ref f) c λc h pg=>run G n d (e++c) h pg:=λc h pg v pg' e p c c l x c E H h q=>bL e λj S e=>aQ e λT V X h=>iy h λr u=>by
 refine gq λh hP=>?_;have h:=λa o e=>(x.own.fz a o (c _ _ e)).1;obtain⟨p1,p2,i,d1,d2,d3,s⟩:=b.Z3
 have hds:F5 fd p.s i:=s.elim (λz M A i s q=>by rw[z.1];exact cP (q C z.2.symm)) λz M A i s q=>by obtain⟨i,m,i,s⟩:=z;rw[i];exact hF (h _ _ s) Z (q _ Z)
 obtain⟨i,s,v,k3⟩:=xa kf.inj S b.nd ((y.bS c).append E) H b.plain b.names d1 d2 (d3.bS c) hds;refine hP ?_;have E:(j.map (·.1)).Nodup:=by rw[v];exact b.nd
 have S:(i.map (·.1)).Nodup:=by rw[s.1];exact names_nodup kf.inj E
 refine EP (fR (ay (gb _ 10) (gb _ _)) t.depth) (h _ _ b.at_) b.data (F _ h) (b.code _ h) b.A2 k3 b.cell (λy hy=>?_) (λh F H=>?_) b.co b.bD b.kind
 ·have hb:y.1∈j.map λp=>g.nm p.1:=by rw[<-s.1];exact fq hy
  obtain⟨z,hz,e⟩:=eO.mp hb;have hz2:z.1∈d.params.map (·.1):=by rw[<-v];exact fq hz
  obtain⟨v,z,e'⟩:=eO.mp hz2;rw[<-e,<-e'];exact b.lv _ (b.par v z)
 ·have e:=Iy b kf P ya Q t p.h.objs.size
  have t:=F;obtain⟨oL,_,_,z,_⟩:=t
  have P:bC (AD A K g G B d fd f p.h.objs.size) {(p.up h (p.s.toks+i.length) p.F p.ow)with ow:=bQ p.h.objs.size _ p.ow} ⟨j.map λp=>_,pg⟩:=
   ⟨enter x l z H,dS,⟨_,F,λx=>Iw (m:=λy=>i.reverse.lookup y) kf.inj E s (λq j=>lookup_mem (by rw[Fc];exact(EY _).nodup_iff.mpr S) (Fb.mpr j)) (λx j=>∃t,i.reverse.lookup _=O (.ref t)/\bQ p.h.objs.size _ p.ow t=O _/\wj g {(p.up h _ p.F p.ow)with ow:=bQ p.h.objs.size _ p.ow} t j) x⟩,c⟩
  refine((oB n d.body _ e (R _ e) b.loc).2 body b.is) _ _ T V X P _ _ λb b b c=>?_;have e:=λi h=>q _ i Iz (u▸leave l x.own H b.ext) (u▸AG b.rel.pg) h;refine te c (λb c=>?_) (λb c=>?_) λv y b c h=>?_
  ·rw[c];exact e _ (by rw[<-r,b];exact Z)
  ·rw[c];exact e _ (by rw[<-r,b];exact Z)
  ·rw[c];exact e _ (by rw[<-r,b];exact h)
end
def AH(l:Y (W×W)):S:=bm (motive:=λ_=>S) .nil (λp _ a=>.cons (.Fe (.aR 0) p.1 (.aR p.2)) a) l
section
variable{g:fC}{F:bl}{es:gS}{i:aY}{a:W}{hsh:D}{t:kv}{w:bv}{v:V}
def Ad.un{p:W×V}(r:Ad g F es (p::i)):sY (Tn g p.1 (Rd g F · p.2)) (Ad g F · i) es:=r
def Ad.key(r:Ad g F es i):iM g es:=by induction i generalizing es with|nil=>exact(r)▸λ_ h=>ch h cr|cons p i b=> obtain⟨e,l,q,h,c⟩:=r.un;exact q▸iM.cons (h.2.elim λt k=>⟨p.1,t,k⟩) (b c)
def Ad.fresh(b:Inj g)(r:Ad g F es i)(e:aj a i=C):fe (g.nm a) hsh (.str (g.nm a) t) w es=es++[⟨hsh,.str (g.nm a) t,w⟩]:=by induction i generalizing es with|nil=>rw[show es=[]from r];rfl|cons p i c=>obtain⟨d,l,q,⟨_,⟨d,d⟩,_⟩,f⟩:=r.un;by_cases z:ac p.1 a=U;exact ch (il (fF z) e) (yG _);have z:=d8.mpr z;rw[q,lO b d,dw z,c f (il (dH z) e)];rfl
def Ad.snoc(b:g.y4 a)(c:Rd g F w v)(r:Ad g F es i):Ad g F (es++[⟨hsh,.str (g.nm a) t,w⟩]) (i++[(a,v)]):=by induction i generalizing es with|nil=>rw[show es=[]from r];exact⟨⟨hsh,.str _ t,w⟩,[],Z,⟨b,⟨t,Z⟩,c⟩,Z⟩|cons p i d=> obtain⟨b,l,q,h,c⟩:=r.un;exact q▸⟨b,_,Z,h,d c⟩
def Ad.ae7(s:F.le b)(r:Ad g F es i):Ad g b es i:=by induction i generalizing es with|nil=>exact r|cons p i c=> obtain⟨d,l,q,h,b⟩:=r.un;exact⟨d,l,q,⟨h.1,h.2,h.3.bS s⟩,c b⟩
def KH{c:Type}{a:W}{v:c}(n:b≠a)(l:Y (W×c)):aj b (l++[(a,v)])=aj b l:=by induction l with|nil=>exact dH (jW n.symm)|cons p l d=>exact ah (br _ _) d
end
section
variable{prog:zs}{w:t1}{A:v6}{K:WP}{g:fC}{F:bl}{C x dx L:ii}{env:w5}{m:lw->eU}{b:aY}
structure Yp(K:WP)(g:fC)(F:bl)(C x dx L:ii)(env:w5)(m:lw->eU)(b:aY):Prop where
 inj:Inj g
 hk:env.scope.kind=.function
 hL:env.locals=L
 k0:env.kindOf (g.nm 0)=O .local
 m0:m (g.nm 0)=O (.ref x)
 hm:∀y v,aj y b=O v->∃w,m (g.nm y)=O w/\Rd g F w v
 hl:∀y v,aj y b=O v->env.kindOf (g.nm y)=O .local
 sa:ty K (.ref C) "__setattr__"=O (O (.builtin "object.__setattr__"))/\ct K C=U
 has:c5 K C=U
 hKd:∀a o,K.lookup a=O o->a≠dx
 hLd:L≠dx
 hxd:x≠dx
def KI(a:Yp K g F C x dx L env m b)(l:Y (W×W)):∀(n:aY)(c:b9),lI g.nm (AH l) c->fieldsOf b l=O n->(∀p∈l,ee K C (g.nm p.1)=O none/\g.y4 p.1=U)->(l.map (·.1)).Nodup->∀(e:gS)(f:aY)(o:W)(s:ge),
  Ad g F e f->(∀p∈l,aj p.1 f=none)->e.length+l.length<=900000->s.heap.Ns L m->s.heap.get? x=O (lb C dx)->s.heap.get? dx=O (fE e o)->K.In s.heap->∀Q E,
  (∀i u j v,Ad g F i (f++n)->i.length<=900000->j.get? dx=O (fE i u)->(∀y,y≠dx->j.get? y=s.heap.get? y)->Q .next {s with heap:=j,toks:=v})->he (WF prog w) A (e0 c env) Q E s:=by
 induction l with
 |nil=> refine λn c t d _ _ e f o s r _ h _ _ B _ Q E q=>?_;rw[(cO.mp t)];exact vG (q e o s.heap s.toks (au d▸(eq f).symm▸r) h B λ_ _=>Z)
 |cons p l ih=>
  refine λn c t d H G e f o s r M h P R B X Q E q=>?_
  induction c with
  |nil=>exact ao t
  |cons k c _=>
   refine ag (show(XU g.nm (.Fe (.aR 0) p.1 (.aR p.2)) k&&lI g.nm (AH l) c)from t) λe hs2=>?_;refine rO e λe e e f n=>ag n λn h4=>ag n λe h3=>qH e λo htt e=>?_;obtain⟨o,t,t,hat,e⟩:=yY e;refine ag e λe h2=>bL (d) λS T d=>iJ d λfs' hf' d=>?_;obtain⟨t,hwy,ry⟩:=a.hm p.2 S T;obtain⟨tk,ia⟩:=H p gY
   have V:∀{z:W}{k:Expr}{t:bv}{Q:aT},eK g.nm (.aR z) k->env.kindOf _=O .local->m _=O t->Q t s->he (WF prog w) A (Db k env) Q E s:=λ{z k t Q}f t y q=>by obtain⟨k,k,f,n⟩:=kF f;refine ag n λk n=>?_;have k:=aO k;rw[f,k];exact qY (EW a.hk t (a.hL▸P) y q) (qV λy=>yF (il (ah ü (cF (k.trans y))) n))
   rw[f,htt,hat,(aO e)];refine yI (Hp (V h3 (a.hl p.2 S T) hwy (V h2 a.k0 a.m0 ?_)) (jf h4));have f:=ay (cZ (jL _ 1 _)) h;refine CE X ⟨R,Z,Z,B⟩ a.sa tk a.has (noRef r.key) (ay (gb _ _) (ay f (aO Z))) λu e t j v e k=>?_;rw[r.fresh a.inj (M p gY)]at k;rw[fS,mV]at G;refine ih fs' c hs2 hf' (λp c=>H p (iH _ c)) G.2 _ _ u {s with heap:=j,toks:=v} (r.snoc ia ry) (λz h=>?_) (by rw[aX];exact f) (P.sameBut e a.hLd) ((e.2 x a.hxd).trans R) k (λc o f=>(e.2 c (a.hKd c o f)).trans (X c o f)) Q E λi f j k a n o r=>q i f j k (by rw[am]at a;exact d▸a) n o λc a=>(r c a).trans (e.2 c a);rw[KH λy:z.1=p.1=>G.1 (y▸fq h)];exact M z (iH _ h)
end
structure ClsAt(K:WP)(g:fC)(B:bl)(k:W)(C:XK)(fI:ii)(lv:ae)(o:xL)(fd:sB)(body:b9):Prop where
 cls:g.jz k=U
 makes:H? K (g.cU k)=U
 init:ty K (.ref (g.cU k)) "__init__"=O (O (.ref fI))
 typ:typeIn K (.ref fI)=O (.type "function")
 fn:FnAt g B fI ⟨(0,none)::C.params,lv,[],AH C.fields⟩ o fd body
 sa:ty K (.ref (g.cU k)) "__setattr__"=O (O (.builtin "object.__setattr__"))/\ct K (g.cU k)=U
 take:∀p∈C.fields,ee K (g.cU k) (g.nm p.1)=O none/\g.y4 p.1=U
 ndf:(C.fields.map (·.1)).Nodup
 len:C.fields.length<=1000
def oy.mem(r:oy g F b a){y:W}{v:V}(h:(y,v)∈a):∃w,(g.nm y,w)∈b/\Rd g F w v:=by induction a generalizing b with|nil=>exact ch h cr|cons k a c=> obtain⟨w,l,q,r,a⟩:=r.un;rw[q];refine(c?.mp h).elim (λz=>by rw[<-z]at r ⊢;exact⟨w,gY,r⟩) λh=>?_;obtain⟨w,b,d⟩:=c a h;exact⟨w,iH _ b,d⟩
def FnAt.ahI{g:fC}{B:bl}{k:ii}{e:jN}{l m:ae}{n:S}{o:xL}{d:sB}{r:b9}(t:FnAt g B k ⟨(0,C)::e,l,m,n⟩ o d r):∃a b c,e=a++b/\(∀p∈a,p.2=C)/\KD g B b c/\∀s:ge,dq B s.heap->F5 d s c:=by obtain⟨a,b,c,h,u,i,g⟩:=t.Z3;(have v:∀s:ge,dq B s.heap->F5 d s c:=λs d=>g.elim (λz M A E Q q=>by rw[z.1];exact cP (q C z.2.symm)) λz M A E Q q=>by obtain⟨T,m,g,k⟩:=z;rw[g];exact hF (d _ _ k) Z (q _ Z));induction a with|nil=>(obtain⟨j,f,_⟩:=i;rw[<-(show _::e=b from h)]at f;induction j with|nil=>exact ch f (bN _ _)|cons w j _=>exact aa (fw f).1)|cons q a _=>exact⟨a,b,c,(fw h).2,λp a=>u p (iH _ a),i,v⟩
def NY{K:WP}{fI:ii}(d:ClsAt K g B k f fI n o H L)(s:G.cls k=O f)(kf:KF K g G B)(z:∀b o,K.lookup b=O o->B b o)(rm:A.depth+2<Fa)
 (xY:∀h,dq B h->h.NoLimit):fT g B A (.ref (g.cU k)) [] λc e a=>mp (make G k c e) (·,a):=λc e a v t e p c c l y E S T R q=>iJ e λu c m=>bL c λj j c=>bL c λr G c=>iJ c λfs M c=>by
 have j:=au (il s j);rw[<-j]at G M;rw[<-(show a=t from ah Fk m),<-(show u=v from ah wf m),<-c]at q;obtain⟨⟨a,t,u,w,x⟩,F,j⟩:=p;have c:=λb o e=>(y.own.fz b o (E _ _ e)).1;have X:=λb o e=>c b o (z b o e);refine make_core (makes_of X d.makes) (qo X d.init) (λm=>bind_fn X m d.typ) (.inl Z) ?_;have z:∀b o,a.get? b=O o->((a.push TD).push (c8 (g.cU k) a.objs.size)).get? b=O o:=λb o e=>hJ _ (hJ _ e);have m:dq B ((a.push TD).push (c8 (g.cU k) a.objs.size)):=λb o e=>z _ _ (c _ _ e)
 have P:=by
  have:=gZ (a.push TD) (o:=c8 (g.cU k) a.objs.size) Z
  rwa [sP]at this
 have hd2:((a.push TD).push (c8 (g.cU k) a.objs.size)).get? a.objs.size=O (fE [] 0):=hJ _ (gZ a Z);have c:=d.fn;obtain⟨s,s,s,B,d2,d3,hds⟩:=c.ahI;have Q:=c.nd;obtain⟨s,A,R,k3⟩:=KG (s:=⟨(a.push TD).push (c8 (g.cU k) a.objs.size),t,u,w,x⟩) kf.inj G Q S T c.plain c.names B d2 (d3.bS E) (hds _ m);have Ð:∀{y:W}{v:V},(y,v)∈r->y∈f.params.map (·.1):=λh=>by rw[<-R];exact fq h
 have S:∀{y:W},y∈f.params.map (·.1)->aq n y:=λh=>by obtain⟨B,E,e⟩:=eO.mp h;exact e▸c.par B (iH _ E)
 have T:=c.par (0,C) gY
 have n:((((g.nm 0,ff (a.objs.size+1))::s)).map (·.1)).Nodup:=by rw[fS,A.1];exact names_nodup kf.inj (l:=(0,V.none)::r) (by rw[fS,R];exact Q)
 have Q:∀{q:lw×bv},q∈((g.nm 0,ff (a.objs.size+1))::s)->((g.nm 0,ff (a.objs.size+1))::s).reverse.lookup q.1=O q.2:=λG=>lookup_mem (by rw[Fc];exact(EY _).nodup_iff.mpr n) (Fb.mpr G);refine EP (qX (nN _) rm) (m _ _ c.at_) c.data (xY _ m) (c.code _ m) c.A2 k3 c.cell (λG n=>?_) (λm R m=>?_) c.co c.bD c.kind
 ·refine(c?.mp n).elim (λq=>q▸c.lv 0 T) λn=>?_
  have hb:G.1∈r.map λp=>g.nm p.1:=by rw[<-A.1];exact fq n
  obtain⟨y,n,e⟩:=eO.mp hb;rw[<-e];exact c.lv _ (S (Ð n))
 ·have sz:((a.push TD).push (c8 (g.cU k) a.objs.size)).objs.size=a.objs.size+2:=by rw[sP,sP]
  have ne1:a.objs.size+1≠a.objs.size:=zQ _;have ne2:a.objs.size+2≠a.objs.size:=ed (Nat.lt_add_of_pos_right (aO Z));rw[sz]at R
  have a':Yp K g F (g.cU k) (a.objs.size+1) a.objs.size (a.objs.size+2) (Tm H ((a.push TD).push (c8 (g.cU k) a.objs.size)).objs.size fI) (λG=>((g.nm 0,ff (a.objs.size+1))::s).reverse.lookup G) r:=
   ⟨kf.inj,c.kind,sz,c.lv 0 T,Q gY,λy v n=>by obtain⟨r,s,G⟩:=A.mem (cV n);exact⟨r,Q (iH _ s),G⟩,λy v n=>c.lv _ (S (Ð (cV n))),d.sa,kf.FC k d.cls,λb o e B=>Nat.lt_irrefl _ (B▸pK (X b o e)),ne2,ne1⟩
  refine KI a' f.fields fs L c.is M d.take d.ndf [] [] 0 _ Z (λ_ _=>Z) (ay (cZ (hM _)) (ay d.len (aO Z))) R (m _ _ P) (m _ _ hd2) (λb o e=>m _ _ (z _ _ (X b o e))) _ _ λc f n s A E B v=>?_;have r:∀b o,a.get? b=O o->n.get? b=O o:=λb o e=>(v b (nO (pK e))).trans (m _ _ (z _ _ e));have z:=(v _ ne1).trans (m _ _ P);have m:F.le ((F.add a.objs.size (fE c f)).add (a.objs.size+1) (lb (g.cU k) a.objs.size)):=λb o e=>.inl (.inl e);have v:∀{i:W},j (a.objs.size+i)=C:=λ{i}=>y.own.new (gb _ _);have G:Own (Pt.up ⟨⟨a,t,u,w,x⟩,F,j⟩ n s ((F.add a.objs.size (fE c f)).add (a.objs.size+1) (lb (g.cU k) a.objs.size)) j):=y.own.grow r λb o(e)=>e.elim (λe=>e.imp id λe=>⟨by rw[e.1,e.2];exact B,by rw[e.1];exact v (i:=0)⟩) λe=>.inr ⟨by rw[e.1,e.2];exact z,by rw[e.1];exact v⟩;exact⟨Z,q (Pt.up ⟨⟨a,t,u,w,x⟩,F,j⟩ n s ((F.add a.objs.size _).add _ _) j) _ l (Ext.grow r m) (y.to G (λb _ o _ _=>r b o) (λ_ _ h _=>h) m) ⟨_,_,c,f,Z,d.cls,bl.ib _ _ _,.inl (bl.ib _ _ _),ay E (aO Z),Ad.ae7 m A⟩⟩
abbrev q?(B:ii)(p:Pt):Pt:={p with ow:=bQ B (O .frame) (vw p).ow}
abbrev fo(B:ii)(p:Pt):Pt:={p with ow:=bQ B (O .ck) (off p).ow}
abbrev Cx.Ux(c:Cx)(G':cQ)(env':w5)(B:ii)(lv':ae):Cx:={c with env:=env',G:=G',L:=B,lv:=lv'}
section
variable{c:Cx}{p p1 p2:Pt}{σ1 σ2:St}{pg A:PG}{B a:ii}{w:Ow}{G':cQ}{env':w5}{y:W}
def xb(h:p.ow B=O .ck):(vw p).ow B=O .ck:=(uS (h▸Z)).trans h
def aay(o:Own p)(h:p.ow B=O .ck):Own (q? B p):=have V:=Nj o;⟨λa o f=>⟨(V.fz a o f).1,(bp λq=>aa ((V.fz a o f).2.symm.trans (q▸xb h))).trans (V.fz a o f).2⟩,λa k e=>(aJ e).elim (λq=>q.1▸V.sJ B _ (xb h)) λq=>V.sJ a k q.2,λa b k e d n=>(aJ e).elim (λq=>(aJ d).elim (λr=>q.1.trans r.1.symm) λr=>ao (il (Ni (p:=p) b) ((r.2.trans q.2.symm)▸Z))) λq=>(aJ d).elim (λr=>ao (il (Ni (p:=p) a) ((q.2.trans r.2.symm)▸Z))) λr=>V.inj a b k q.2 r.2 n⟩
def ae8(h:p.ow B=O .ck){k:Ow}(e:p.ow a=O k)(s:shared k):(q? B p).ow a=O k:=(bp λq:a=B=>(rJ s).2 (ou (il h (q▸e)))).trans ((uS (wO e (rJ s).1)).trans e)
def Uy(r:bC c p σ1)(h:p.ow B=O .ck){m:lw->eU}(b:p.h.Ns B m){x:bv}{v:V}(d:m (c.g.nm y)=O x)(e:Rd c.g p.F x v):bC (c.Ux G' env' B [y]) (q? B p) ⟨[(y,.val v)],σ1.pg⟩:=⟨r.pg.to (aay r.pg.own h) (λ_ _ _ _ _=>id) (λ_ _=>ae8 h) λ_ _=>id,dS,⟨m,b,λb=>by by_cases q:ac y b=U;rw[fF q];have q:=aK q;exact q▸⟨x,d,e⟩;rw[dH (d8.mpr q)];exact trivial⟩,r.base⟩
def ä:pF (fo B p):=λa=>by by_cases q:a=B;rw[q];exact ah gM (dS);exact(ah gM (bp q)).trans (Iz a)
def ae9(x:qQ c.g p pg)(h:p.ow B=O .frame):qQ c.g (fo B p) pg:=have b:=(AG x).own;x.to ⟨λa o f=>⟨(b.fz a o f).1,(bp λq=>aa ((x.own.fz a o f).2.symm.trans (q▸h))).trans (b.fz a o f).2⟩,λa k e=>(aJ e).elim (λq=>q.1▸x.own.sJ B _ h) λq=>b.sJ a k q.2,λa d k e f n=>(aJ e).elim (λq=>ch (ou q.2) n) λq=>(aJ f).elim (λr=>ch (ou r.2) n) λr=>b.inj a d k q.2 r.2 n⟩ (λ_ _ _ _ _=>id) (λa w e s=>(bp λq=>ao ((ah shared (au (il h (q▸e)))).trans s)).trans ((m8 (wO e (rJ s).1)).trans e)) λ_ _=>id
def Uz(h:p1.ow B=O .ck)(b:p2.ow B=O .frame)(x:Ext (EE J) (q? B p1) pg p2 A):uT (vw p1) pg (fo B p2) A where
 le:=x.le
 sh:=x.sh
 keep:=λa o e k=>x.keep a o e (by
  by_cases q:a=B
  ·rw[q,show(q? B p1).ow B=O .frame from dS];rfl
  ·rw[show(q? B p1).ow a=_ from bp q];exact Ci k)
 ex:=x.ex
 to:=λa o e=>by
  by_cases q:a=B
  ·rw[q];exact .inl ((dS).trans (xb h).symm)
  ·have z:(q? B p1).ow a=(vw p1).ow a:=bp q
   exact(x.to a o e).elim (λk=>.inl ((bp q).trans ((m8 (((k.trans z).symm▸Ni a))).trans (k.trans z)))) λk=>.inr ((bp q).trans ((m8 (k▸Z)).trans k))
 ck:=λa=>by
  by_cases q:a=B
  ·rw[q];exact⟨λ_=>dS,λ_=>xb h⟩
  ·have z:(q? B p1).ow a=(vw p1).ow a:=bp q
   have b:(fo B p2).ow a=(off p2).ow a:=bp q;exact⟨λk=>b.trans (have l:=(x.ck a).mp (z.trans k);(m8 (l▸Z)).trans l),λk=>il z ((x.ck a).mpr (oE (il b k)).2)⟩
 kx:=λa=>⟨λk=>ao (il (Ni (p:=p1) a) (k▸Z)),λk=>ao (il (ä (p:=p2) (B:=B) a) (k▸Z))⟩
 bD:=x.bD
 calm:=λe=>⟨(x.calm e).1,λa t k=>by have n:t≠B:=λq=>ch (ou (il (xb h) (q▸k))) (bx Z);have l:=(x.calm e).2 a t ((bp n).trans k);exact(bp n).trans ((m8 (l▸Z)).trans l)⟩
def UA{m:lw->eU}(S:SE (c.Ux G' env' B [y]) f e)(k:G'.ro=J)(d:f J ⟨[(y,.val v)],σ1.pg⟩=O (u,σ2))(r:bC c p1 σ1)(h:p1.ow B=O .ck)(g:p1.h.Ns B m)(i:m (c.g.nm y)=O x)(j:Rd c.g p1.F x v)
 (q:∀b z,Ext (EE J) p1 σ1.pg b σ2.pg->bC c b ⟨σ1.loc,σ2.pg⟩->Rd c.g b.F z u->Q z b.s):he (M' c) c.A (Db e env') Q E p1.s:=
 S J _ _ u σ2 d (Uy r h g i j) Q E λp2 z n b=>have X:=Uz h n.rel.kx (k▸n.ext);q (bk p1 (fo B p2)) z (Nl X ä) (Nm X r (ae9 n.rel.pg n.rel.kx) ä) b
end
def CM(f:V->PG->dR)(b:af):PG->N (af×PG):=bm (motive:=λ_=>PG->N (af×PG)) (λa=>O ([],a)) (λv _ c a=>ax (f v a) λu a=>ax (c a) λr a=>O (u::r,a)) b
def sk(f:fc)(y:W)(v:V)(a:PG):dR:=ax (f J ⟨[(y,.val v)],a⟩) λu s=>O (u,s.pg)
section
variable{c:Cx}{p p1 p2:Pt}{σ σ1:St}{pg pg' pg1:PG}{pk fp:Y ii}{a:ii}{o:xL}{kp:N Ow->I}{h0:ul}{n:W}{E:aT}
variable(x:oA c kp (a::pk) p pg p1 σ1)(na:a∉pk)(fa:p.h.get? a=C)
def oA.rest(e:∀b o,b≠a->p1.h.get? b=O o->h0.get? b=O o):oA c kp pk p pg (p1.up h0 n p1.F (bQ a C p1.ow)) σ1:=by have d:=x.ck a gY;have l:∀{b w},p1.ow b=O w->w≠.ck->b≠a:=λh n q=>n (ou (il d (q▸h)));have m:∀{b o},p.h.get? b=O o->b≠a:=λh q=>aa (il fa (q▸h));have nF:∀{b o},p1.F b o->b≠a:=λf q=>aa ((x.rel.pg.own.fz _ _ f).2.symm.trans (q▸d));have g:∀{b w},bQ a C p1.ow b=O w->b≠a/\p1.ow b=O w:=λh=>(aJ h).elim (λq=>aa q.2) id;(have i:(un pk (p1.up h0 n p1.F (bQ a C p1.ow))).ow=(un (a::pk) p1).ow:=funext λb=>by by_cases q:b∈pk;exact(w6 q).trans (w6 (iH _ q)).symm;refine(nC q).trans ?_;by_cases z:b=a;rw[z];exact(dS).trans (w6 (gY)).symm;exact(bp z).trans (nC λk=>(c?.mp k).elim z q).symm);refine⟨x.rel.mv ⟨λb d f=>⟨e b d (nF f) (x.rel.pg.own.fz b d f).1,(bp (nF f)).trans (x.rel.pg.own.fz b d f).2⟩,λb k h=>by obtain⟨o,f⟩:=x.rel.pg.own.sJ b k (g h).2;exact⟨o,e b o (g h).1 f⟩,λb f k h j=>x.rel.pg.own.inj b f k (g h).2 (g j).2⟩ λb w h n=>⟨(bp (l h n)).trans h,λo=>e b o (l h n)⟩,⟨x.ext.le,ah (λs:ge=>{s with heap:=h0,toks:=n}) x.ext.sh,λb o f k=>e b o (m f) (x.ext.keep b o f k),λb o f=>by obtain⟨d,h⟩:=x.ext.ex b o f;exact⟨d,e b d (m f) h⟩,λb o h=>by rw[i];exact x.ext.to b o h,λb=>by rw[i];exact x.ext.ck b,λb=>by rw[i];exact x.ext.kx b,x.ext.bD,λh=>⟨(x.ext.calm h).1,λb t j=>by rw[i];exact(x.ext.calm h).2 b t j⟩⟩,λb d=>(bp λq:b=a=>na (q▸d)).trans (x.ck b (.tail _ d))⟩
def oA.DL(e:p1.h.get? a=O o):oA c kp pk p pg {p1 with F:=p1.F.add a o,ow:=bQ a C p1.ow} σ1:=have y:=x.rest na fa λ_ _ _=>id;⟨y.rel.grow (λ_ _=>id) (p1.F.mx _ _) λb d f=>f.imp id λ(q:b=a/\d=o)=>⟨by rw[q.1,q.2];exact e,q.1▸dS⟩,⟨λb d f=>.inl (y.ext.le b d f),y.ext.sh,y.ext.keep,y.ext.ex,y.ext.to,y.ext.ck,y.ext.kx,y.ext.bD,y.ext.calm⟩,y.ck⟩
structure ñ(c:Cx)(pk:Y ii)(p:Pt)(pg0:PG)(loc:cz)(St':W->ul->Prop)(items:af)(D B:ii)(f:V->PG->dR)(pg':PG)(rs:af)(i:W)(pg1:PG)(p1:Pt)(ws:aP)(n:W)(m:lw->eU)(done rest:af):Prop where
 L:oA c (EE J) pk p pg0 p1 ⟨loc,pg1⟩
 st:St' i p1.h
 hD:p1.h.get? D=O (eE ws n)
 rd:cD c.g p1.F ws done
 len:done.length=i
 hB:p1.h.Ns B m
 e:CM f (items.drop i) pg1=O (rest,pg')
 Ġ:rs=done++rest
def QQ(c:Cx)(pk:Y ii)(p:Pt)(d:PG)(e:cz)(f:W->ul->Prop)(b:af)(g B:ii)(h:V->PG->dR)(pg':PG)(j:af)(k:W)(s:ge):=∃i pg1 p1 l,∃n m q r,s=p1.s/\k=b.length-i/\i<=b.length/\ñ c pk p d e f b g B h pg' j i pg1 p1 l n m q r
def QQ.ends{h:cz}{j:W->ul->Prop}{f:V->PG->dR}{t:W}{s:ge}{P:Prop}(x:QQ c pk p pg h j b k B f pg' e t s)
 (turn:∀i pg1 p1 d n m r u l v g,s=p1.s->t=b.length-i->i<b.length->b[i]?=O v->f v pg1=O (u,g)->ñ c pk p pg h j b k B f pg' e i pg1 p1 d n m r (u::l)->CM f (b.drop (i+1)) g=O (l,pg')->P)
 (y:∀p1 d n m,s=p1.s->ñ c pk p pg h j b k B f pg' e b.length pg' p1 d n m e []->P):P:=by
 obtain⟨i,pg1,p1,d,n,m,r,l,w,z,A,S⟩:=x;refine(zL A).elim (λb=>?_) λj=>?_
 ·have e:=S.e
  rw[zO b]at e;exact aQ (show ax _ (λu pg=>ax (CM f _ pg) λf pg=>O (u::f,pg))=O _ from e) λu g k e=>aQ e λf h l e=>iy e λq(h)=>turn i pg1 p1 d n m r u f _ g w z b (f? b) k (q▸S) (h▸l)
 ·have e:=S.e
  rw[j,zZ]at e;refine iy (e) λq h=>?_;have z:=S.Ġ;rw[<-q,eq]at z;rw[<-q,<-z,j,h]at S;exact y p1 d n m w S
section
variable{It:ii}{items:af}{P:W->bv->Prop}{St':W->ul->Prop}
def KJ(H:c.G.ro=J)(r:wz c.g.prog c.g.w c.A It fp [It] items.length P St')(w:SD c (lg J) [It] [It] fp p h0 St')(X:items.length<=1000)(F:∀k v,P k v->∃y,items[k]?=O y/\Rd c.g p.F v y)
 {y:W}{i:Expr}{z:ww}{env':w5}(hkind:env'.scope.kind=.function)(hx:env'.kindOf (c.g.nm y)=O .local){h:cQ}(hG:h.ro=J){f:fc}{b B:ii}(G:env'.locals=B)(hin:SE (c.Ux h env' B [y]) f i)
 (s:∀a∈[It,b,B],p.h.get? a=C)(t:b≠It)(V:b≠B)(u:It≠B){e:af}{pg':PG}{j:W}{l:ge}(A:QQ c [It,b,B] p pg σ.loc St' items b B (sk f y) pg' e j l){R:ep->ge->Prop}
 (q:∀p2 g n m,oA c (EE J) [b,B] p pg p2 ⟨σ.loc,pg'⟩->p2.h.get? b=O (eE g n)->jV g->cD c.g p2.F g e->p2.h.Ns B m->R (.ok .next) p2.s){d:aT}:
  he (M' c) c.A (pyNext (.ref It)) (λH h=>match H with
   |none=>R (.ok .next) h
   |some v=>he (M' c) c.A (assign (.Name (c.g.nm y) z) env' v) (λ_ z=>he (M' c) c.A (Db i env') (λx i=> he (M' c) c.A (dn (.builtin "list.append") [.ref b,x]) (λ_ H=>∃m,m<j/\QQ c [It,b,B] p pg σ.loc St' items b B (sk f y) pg' e m H) d i) d z) d h) d l:=by
 have H:b∈[It,b,B]:=.tail _ gY;have K:It∈[It,b,B]:=.head _;have mB:B∈[It,b,B]:=.tail _ aaz;have y:∀{e},e∈[It,b,B]->∀a∈[e],a∈[It,b,B]:=λh a d=>(eC.mp d)▸h;have i:∀{a e:ii},a≠e->a∉[e]:=λn h=>n (eC.mp h)
 have fpn:∀{e},It≠e->e∈[It,b,B]->∀a∈fp,a∉[e]:=λn m a d h=>(w.fp a d).elim (λq=>n (il (eC.mp q) (eC.mp h))) λq=>by obtain⟨⟨o,f⟩,_⟩:=q;exact aa (il (s _ m) ((eC.mp h)▸f))
 have L:∀{h:ul}{o:xL}{m:lw->eU},(∃o,h.get? It=O o)->h.get? b=O o->h.Ns B m->∀a∈[It,b,B],∃o,h.get? a=O o:=λj z l a d=>(c?.mp d).elim (λq=>q▸j) λd=>(c?.mp d).elim (λq=>q▸⟨_,z⟩) λd=>(eC.mp d)▸(by obtain⟨o,_,_,h,_⟩:=l;exact⟨o,h⟩);refine A.ends (λk pg1 p1 g n m done a' rest v pg2 M hk v A e1 S e2=>?_) λp1 g n m M S=>?_
 ·rw[M]
  refine r.item k p1.s _ _ v S.st λx z Q hp R j=>?_;obtain⟨y0,hy,T⟩:=F k x hp;rw[au (il hy A)]at T;have A:=j b _ (i t) S.hD;have F:=S.hB.at λo=>j B o (i u.symm);have L2:=S.L.iter (n:=Q) (y K) s j (L (w.live _ _ R It gY) A F);refine zI (BP hx (G▸F) (λl n3 sb3=>?_) (by rw[hkind];rfl));rw[G]at n3 sb3;have G:∀a o,a∉[B]->z.get? a=O o->l.get? a=O o:=λa o n f=>(sb3.2 a λq=>n (q▸.head _)).trans f;have hD3:=G b _ (i V) A;have st3:=r.frame _ _ l R λa d o=>G a o (fpn u mB a d);have l:=L2.iter (n:=Q+1) (y mB) s G (L (w.live _ _ st3 It gY) hD3 n3);refine aQ e1 λG σ2 G R=>iy R λq1 q2=>?_;refine UA hin hG G l.rel (l.ck B mB) n3 (eP Z) (T.bS l.ext.le) λR b' G T rz=>?_;have L4:=l.step (σ2:=⟨σ.loc,σ2.pg⟩) G T;have kf:=λ{a o}d f=>G.keep a o f (by rw[l.ck a d];rfl);have T:=kf H hD3;have hB4:=n3.at λo=>kf mB;have st4:=r.frame _ _ R.h st3 λa d o f=>G.keep a o f (Ci (l.kept Z Z (λe l=>(w.fp e l).imp (λq=>y K e q) id) a d));have wl:=S.rd.length.trans S.len;refine append_at T (λh5 sb5 l=>?_) (ay (cZ ((EX).trans wl)) (ay (jM v) (ay X (aO Z))));have T:∀a o,a∉[b]->R.h.get? a=O o->h5.get? a=O o:=λa o n f=>(sb5.2 a λq=>n (q▸.head _)).trans f;rw[EZ]at l;have f:=r.frame _ _ h5 st4 λa d o=>T a o (fpn t.symm H a d);have d:=hB4.at λo=>T B o (i V.symm);have V:=L4.iter (n:=R.s.toks) (y H) s T (L (w.live _ _ f It gY) l d);rw[q2]at V;exact⟨_,hk▸k_ _ _ v,k+1,pg2,_,g++[b'],n+1,_,done++[a'],rest,Z,Z,v,V,f,l,(S.rd.bS G.le).append ⟨b',[],Z,q1▸rz,Z⟩,by rw[aX,S.len];rfl,d,e2,S.Ġ.trans (am done [a'] rest).symm⟩
 ·rw[M]
  refine r.done p1.s _ _ S.st λz Q j=>?_;have A:=j b _ (i t) S.hD;have F:=S.hB.at λo=>j B o (i u.symm);exact q _ g n m (S.L.rest (λh=>(c?.mp h).elim t.symm λh=>u (eC.mp h)) (s _ K) λe o h=>j e o (i h)) A (ay (cZ (S.rd.length.trans S.len)) (ay X (aO Z))) S.rd F
def xc(L:c.G.ro=J)(l:wz c.g.prog c.g.w c.A It fp [It] items.length P St')(w:SD c (lg J) [It] [It] fp p h0 St')(M:items.length<=1000)(Q:∀g v,P g v->∃y,items[g]?=O y/\Rd c.g p.F v y)(K:bC c p σ)
 {y:W}{i u:Expr}{t z:ww}{d:c7}{j:Y (lw×ii)}(F:∀s∈d.names,s.2≠.cell)(A:d.kind=.function)(R:d.names.lookup (c.g.nm y)=O .local){G':cQ}(S:G'.ro=J){h:fc}(T:∀B,SE (c.Ux G' (o2 d j B c.env) B [y]) h i)
 {k:af}{pg':PG}(e:CM (sk h y) items σ.pg=O (k,pg')){r:bv->ii->ep->ge->Prop}
 (q:∀b B p2 f n m,oA c (EE J) [b,B] p σ.pg p2 ⟨σ.loc,pg'⟩->p.h.get? b=C->p.h.get? B=C->b≠B->p2.h.get? b=O (eE f n)->jV f->cD c.g p2.F f k->p2.h.Ns B m->r (.ref b) B (.ok .next) p2.s):
  he (M' c) c.A (newList []) (λb h=>he (M' c) c.A (newFunctionEnv d c.env.globals j [] c.env.qual C .none (O c.env)) (λg s=> Uf (M' c) c.A (.compStart (.ListComp i [⟨.Name (c.g.nm y) t,u,[],0⟩] d z) 0 (.ref It) b {g with scope:=relabel d c.env}) (r b g.locals) s) E h) E {p.s with heap:=h0,toks:=n}:=by
 refine wpAny_newObj_type (wpAny_newFunctionEnv F (λ_ r=>ch r cr) (λs v B=>?_) A);have g:h0.objs.size<(h0.push (eE [] 0)).objs.size:=by rw[sP];exact nN _
 have y:=nO g;have h:=λb o e=>B.extBut b o (nO (pK e)) (hJ _ e);have B:=λb o e=>h b o (hJ _ e);have F:=h _ _ (gZ _ Z);have h:=λ{b}G=>Option.eq_none_iff_forall_not_mem.mpr λo e=>zY.mpr G (pK (w.grow b o e));obtain⟨G,H⟩:=w.live 0 _ w.st It gY;have G:=pK H;have V:∃o,s.get? (h0.push (eE [] 0)).objs.size=O o:=by obtain⟨o,_,_,r,_⟩:=v;exact⟨o,r⟩
 have r:=l.frame _ _ _ w.st λb _ o=>B b o;have H:∀a∈[It,h0.objs.size,(h0.push _).objs.size],p.h.get? a=C:=λa b=>(c?.mp b).elim (λq=>q▸w.fresh It gY) λb=>(c?.mp b).elim (λq=>q▸h (aU _)) λb=>(eC.mp b)▸h (jM g);have X:oA c (EE J) [It,h0.objs.size,(h0.push _).objs.size] p σ.pg (Ev.ck [It,h0.objs.size,(h0.push _).objs.size] (p.up s n p.F p.ow)) σ:=.start K (λa o e=>B a o (w.grow a o e)) H λa b=>(c?.mp b).elim (λq=>q▸w.live 0 _ r It gY) λb=>(c?.mp b).elim (λq=>q▸⟨_,F⟩) λb=>(eC.mp b)▸V
 have b:Uf _ c.A (.compLoop (.ListComp i [⟨.Name _ t,u,[],0⟩] d z) 0 _ _ _) _ {p.s with heap:=s,toks:=n}:=
  codeAny_compLoop_list _ (λi i i=>KJ L l w M Q (env':=o2 d j (h0.push _).objs.size c.env) A (oI R) S Z (T _) H (ed G) y (nO (qX G g)) i λp2 f n m L=>q _ _ p2 f n m L (h (aU _)) (h (jM g)) y) items.length ⟨0,σ.pg,_,[],0,_,[],k,Z,Z,eG _,X,r,F,Z,Z,v,e,Z⟩
 exact codeAny_compStart_list b (l.self 0 _ _ _ r b)
end
end
def F6{a b:Type}(f:lw×a->lw×b)(c:∀p,(f p).1=p.1){n:lw}{k:a}{l:Y (lw×a)}(h:l.lookup n=O k):(l.map f).lookup n=O (f (n,k)).2:=by induction l with|nil=>exact aa h|cons p l d=>have e:f p=(p.1,(f p).2):=pu (c _) Z;rw[fS,e,kD];rw[show(p::l).lookup n=_ from kD]at h;cases q:n==p.1 with|true=> rw[q]at h;have:p=(n,k):=pu (gc.mp q).symm (au h);rw[this]|false=>rw[q]at h;exact d h
def NZ(h:b.names.lookup n=O k):(relabel b a).names.lookup n=O (if(k==.free&&a.scope.kind==.function&&a.kindOf n==O .cell)then .cell else k):=by have:=F6 (λp:lw×W1=>if(p.2==.free&&a.scope.kind==.function&&a.kindOf p.1==O .cell)then(p.1,ù)else _) (λp=>by by_cases q:(p.2==.free&&a.scope.kind==.function&&a.kindOf p.1==O .cell)=U<;>simp only[q]<;>rfl) h;refine l? (l? Z this) (ah O ?_);by_cases q:(k==.free&&a.scope.kind==.function&&a.kindOf n==O .cell)=U<;>simp only[q]<;>rfl
def mem_lookup{a:Type}{l:Y (lw×a)}{b:a}(h:(n,b)∈l):∃b,l.lookup n=O b:=by induction l with|nil=>exact ch h cr|cons p l c=>rw[show(p::l).lookup n=_ from kD];cases q:n==p.1 with|true=>exact⟨p.2,Z⟩|false=>exact(c?.mp h).elim (λe=>ao (il q (gc.mpr (ah wf e)))) c
def AI(e:w5)(i:lw×W1->Y (lw×ii)->e5 (C' (Y (lw×ii))))(f:∀p h,i p h=if p.2==.free then(cellOf e p.1>>=λb=>H1 (.yield ((p.1,b)::h)))else H1 (.yield h))(l:Y (lw×W1)):
  ∀(c:Y (lw×ii)),(∀p∈l,p.2=.free->∃b,e.cells.lookup p.1=O b)->(∀p∈c,e.cells.lookup p.1=O p.2)->∃d,forIn l c i=H1 d/\(∀p∈d,e.cells.lookup p.1=O p.2)/\(∀p∈c,p∈d)/\∀p∈l,p.2=.free->∃b,(p.1,b)∈d:=by
 induction l with
 |nil=>exact λc _ g=>⟨c,q4,g,λ_ h=>h,λ_ h=>ch h cr⟩
 |cons p l m=>
  intro c j g;have n:=λq a=>j q (iH _ a);cases h:p.2==NameKind.free with
  |true=> obtain⟨b,o⟩:=j p gY (gc.mp h);obtain⟨d,e,j,i,k⟩:=m ((p.1,b)::c) n λq r=>(c?.mp r).elim (λe=>e▸o) (g q);refine⟨d,?_,j,λq a=>i q (iH _ a),λq a f=>(c?.mp a).elim (λe=>e▸⟨b,i _ gY⟩) λa=>k q a f⟩;rw[eL,f,h];unfold cellOf;rw[o];exact e
  |false=> obtain⟨d,e,j,i,k⟩:=m c n g;refine⟨d,?_,j,i,λq a f=>(c?.mp a).elim (λe=>ao (il h (gc.mpr (e▸f)))) λa=>k q a f⟩;rw[eL,f,h];exact e
def F7(a:c7)(b:w5):rq a b=forIn a.names [] (λ(p:lw×W1)(a:Y (lw×ii))=>(if p.2==.free then(cellOf b p.1>>=λb=>H1 (.yield ((p.1,b)::a)))else H1 (.yield a):e5 (C' (Y (lw×ii))))):=by unfold rq;simp only[bind_pure]
def xd(h:∀p∈a.names,p.2=.free->∃d,b.cells.lookup p.1=O d):∃c,rq a b=H1 c/\∀n,a.names.lookup n=O .free->c.lookup n=b.cells.lookup n:=by obtain⟨c,e,f,_,g⟩:=AI b _ (λp i=>Z) a.names [] h (λ_ h=>ch h cr);refine⟨c,(F7 a b).trans e,λn a=>?_⟩;obtain⟨d,b⟩:=g _ (Sc a) Z;obtain⟨a,a⟩:=mem_lookup b;exact a.trans (f _ (Sc a)).symm
def fU{l:ae}(h:aq l x):x∈l:=by
 induction l with
 |nil=>exact ao h
 |cons y l a=>cases q:ac y x with
  |true=>exact aK q▸.head _
  |false=>exact .tail _ (a (il (dw q) h))
def o5{l:ae}(h:x∈l):aq l x:=by
 induction l with
 |nil=>exact ch h cr
 |cons y l a=>cases q:ac y x with
  |true=>exact dM q
  |false=>exact(dw q).trans ((c?.mp h).elim (λe=>ao (il q (e▸cf x))) a)
def ai{a:Type}{f:a->I}{l:Y a}(h:aH f l=U){b:a}(m:b∈l):f b:=by
 induction l with
 |nil=>exact ch m cr
 |cons c l d=>cases q:f c with
  |true=>exact(c?.mp m).elim (λe=>e▸q) (d (il (dM q) h))
  |false=>exact ao (il (dw q) h)
def UB{b:Type}{f:b->I}{l:Y b}(h:Mn f l=U):∃a∈l,f a:=by
 induction l with
 |nil=>exact ao h
 |cons c l d=>cases q:f c with
  |true=>exact⟨c,.head _,q⟩
  |false=>obtain⟨a,m,e⟩:=d (il (dw q) h);exact⟨a,.tail _ m,e⟩
def N4{a b:I}(h:(!a||b))(e:a):b:=by rw[e]at h;exact h
def ĉ{P:Prop}{a b:I}(h:(a||b))(k:a->P)(l:b->P):P:=(ET.mp h).elim k l
structure ş(nm:W->lw)(elt:X)(y:W)(cs:ae)(sc:c7):Prop where
 kind:sc.kind=.function
 cell:∀p∈sc.names,p.2≠.cell
 names:∀p∈sc.names,p.2=.local->sc.names.lookup p.1=O .local
 free:∀p∈sc.names,p.2=.free->∃z∈cs,nm z=p.1
 S':sc.names.lookup (nm y)=O .local
 lj:∀z∈cs,sc.names.lookup (nm z)=O .free
 uses:∀z∈namesOf elt,z=y∨z∈cs∨sc.names.lookup (nm z)=O .globalImplicit
def N5{a:W->lw}(h:D2 a b y c d):ş a b y c d:=ag h λh c=>ag h λh d=>ag h λh f=>ag h λa e=>have H:=λp(b)=>ai e b;⟨aO a,λp b=>ag (H p b) λh _=>ag h λa _ e=>ao (il (ah (!·) (cF e)) a),λp b e=>ag (H p b) λh _=>ag h λ_ a=>aO (N4 a (cF e)),λp b e=>ag (H p b) λ_ a=>by obtain⟨z,m,q⟩:=UB (N4 a (cF e));exact⟨z,m,aO q⟩,aO f,λz b=>aO (ai d b),λz b=>ĉ (ai c b) (λh=>ĉ h (λa=>.inl (aK a)) λa=>.inr (.inl (fU a))) λa=>.inr (.inr (aO a))⟩
def x9(G:cQ):cQ:={G with comp:=λ_ _ _ _ _ _=>C}
def UC(G:cQ)(a:jP)(b:X):cQ:={G with gl:=yg a (namesOf b),sup:=λ_ _ _=>C,comp:=λ_ _ _ _ _ _=>C}
def IB(x:X):N (X×X):=LQ x C (cons:=λa r=>O (a,r))
def isInt(n:W)(x:X):I:=LQ x J (int:=λm=>ac m n)
def N6(x:X):N (W×X):=LQ x C (bF:=λf a b c=>lc b (gd (cq c) (O (f,a))) λ_ _=>C)
def Yq(x:X):N (W×X):=ax (N6 x) λf a=>ax (IB a) λa r=>ax (IB r) λb r=>ax (IB r) λd r=>gd (cq r) (gd (isInt 0 a) (gd (isInt 2 d) (O (f,b))))
def Ş(G:cQ)(a:ae)(c:X)(s:St):N (af×St):=oc (Yq c) (λb=>br (aq a b.1) C (bn (bn (G.gl b.1) sS) λk=>gd (ac k 3) (ax (ev G a J b.2 s) λv s=>bn (asNat v) λn=>gd (bd n 1000) (O (dF 2 ((n+1)/2) 0,s))))) (ax (ev G a J c s) λv s=>bn (jc v) λa=>gd (bd (ak a) 1000) (O (a,s)))
def ŝ(c:jP)(a b:ae)(d:X):I:=aH (λz=>aq a z&&(c z).isSome) b&&aH (λz=>!aq a z||aq b z) (namesOf d)
def rR(G:cQ)(b:jP)(c:ae)(a:X)(y:W)(f:X)(d e:ae)(s:St):mi:=gd (ŝ b c d a) (ax (Ş (x9 G) e f s) λc s=>ax (CM (sk (ev (UC G b a) [y] · a) y) c s.pg) λa b=>O (.lst a,⟨s.loc,b⟩))
abbrev Cx.x9(c:Cx):Cx:={c with G:=Ev.x9 c.G}
def Cx.OK.x9{c:Cx}(a:c.OK):c.x9.OK:=⟨a.kf.chg,a.jD,a.locals,a.kind,a.loc,a.glob,a.units,a.handled,a.bw,a.depth⟩
structure Cx.eV(c:Cx):Prop where
 av:∀m,c.g.dj->c.g.isFn m->fT c.g c.B c.A (.ref (c.g.fnAt m)) [.ref c.g.par] (c.G.av m)
 func:∀f,c.g.isFn f->fT c.g c.B c.A (.ref (c.g.fnAt f)) [] (c.G.func f)
 Yi:∀k,c.g.jz k->fT c.g c.B c.A (.ref (c.g.cU k)) [] λas ks pg=>mp (make c.G k as ks) (·,pg)
def CN(h:c.G.sup=λ_ _ _=>C){m:W}{a:X}{e:Expr}:SE c (Fj c.G m (c! c.G c.lv a).l) e:=λt p a v a a _=>by unfold Fj at a;rw[h]at a;exact FU a λ_ a=>aQ a λ_ _ _ a=>aQ a λ_ _ a _=>aa a
def Cx.eV.calls{c:Cx}(x:c.eV)(a:c.G.sup=λ_ _ _=>C)(b:c.G.comp=λ_ _ _ _ _ _=>C):c.Calls:=
 ⟨x.av,x.func,x.Yi,λ_ _ _ _=>CN a,λ_ _ _ _ _ _ t p c v d a _=>by
  unfold uv at a;rw[b]at a;exact FU a λ_ a=>aa a,λ_ _ _ _ _ _ _ _ p c v d a _=>by
  unfold yX at a;rw[b]at a;exact FU a λ_ a=>aa a⟩
def Cx.eV.x9{c:Cx}(x:c.eV)(a:c.G.sup=λ_ _ _=>C):c.x9.Calls:=Cx.eV.calls ⟨x.av,x.func,x.Yi⟩ a Z
def Cx.eV.Ux{c:Cx}(x:c.eV){a:jP}{b:X}{d:w5}{B:ii}{y:W}:(c.Ux (UC c.G a b) d B [y]).Calls:=Cx.eV.calls ⟨x.av,x.func,x.Yi⟩ Z Z
structure kR(c:Cx)(cv:ae)(gi gl1:jP):Prop where
 cell:∀z v,aq cv z->gi z=O v->∃a w,c.env.cells.lookup (c.g.nm z)=O a/\c.env.kindOf (c.g.nm z)=O .cell/\(∃o,c.B a o/\o.data=.cell (O w))/\Rd c.g c.B w v
 glob:∀z v,aq cv z=J->gi z=O v->gl1 z=O v
 ya:iW c.g c.B gl1
 X_:c.env.globals=np
 blt:c.env.builtins=wp
section
variable{c:Cx}{v:V}{E:aT}{A:ae}{gi z:jP}
def N7(a:c.OK)(e:kR c A gi z){f:X}{y:W}{i:ae}{d:c7}{g:Y (lw×ii)}(b:ş c.g.nm f y i d)(h:ŝ gi A i f)(m:∀n,d.names.lookup n=O .free->g.lookup n=c.env.cells.lookup n)(B:ii):
  (c.Ux (UC c.G gi f) (o2 d g B c.env) B [y]).OK where
 kf:=a.kf.chg
 jD:=a.jD
 locals:=Z
 kind:=b.kind
 loc:=λx j=>(eC.mp (fU j)).symm▸oI b.S'
 glob:=λx v j f=>bW f λf k=>ag h λn o=>by
  have f:=fU f;have l:∀{h:W1},d.names.lookup (c.g.nm x)=O h->(o2 d g B c.env).kindOf _=O _:=λh=>NZ h;by_cases d:x∈i
  ·obtain⟨g,w,p,r,⟨t,l3,u⟩,i⟩:=e.cell x v (ag (ai n d) λg _=>g) k
   refine⟨w,i,λs Q E g q=>?_⟩;have i:=b.lj x d;refine qd b.kind ?_ ((m _ i).trans p) ⟨t,g _ _ l3,u⟩ q;rw[l i,r,a.kind];rfl
  ·have i:=(b.uses x f).elim (λh=>ao ((il (o5 (h▸eC.mpr Z)) j).symm)) λh=>h.elim (λh=>ch h d) id
   have j:=d8.mpr λq=>d (fU (N4 (ai o f) q));obtain⟨w,r,h⟩:=AE e.ya (e.glob x v j k) b.kind (l i) e.X_ e.blt;exact⟨w,r,λs Q E g q=>h _ _ s Q E g q⟩
 units:=a.units
 handled:=a.handled
 bw:=a.bw
 depth:=a.depth
theorem yo(n:W):b_ 0 (n:D) 2=((n+1)/2:W):=by unfold b_;split<;>lia
def KO:((l_ 1001).all λn=>q0 0 (n:D) 2):=by decide+kernel
def KQ{n:W}(h:n<=1000):q0 0 (n:D) 2:=Fd.mp KO n (List.mem_range.mpr (Wp h))
end
def xe:IB x=O (a,b)->x=.cons a b:=X.casesOn x aa (λc d h=>iy h λq(a)=>q▸a▸Z) aa aa aa bX bX bX gL bX bX bX bX kH kH kH bX bX aa gL kH Fy To gL Fy aa
def CO:isInt n x->x=.int n:=X.casesOn x ao iz ao ao ao (λm h=>ah X.int (aK h)) aV aV iz aV aV aV aV pj pj pj aV aV ao iz pj Su F4 iz Su ao
def KR:N6 x=O (f,a)->x=.bF f a [] .nil:=X.casesOn x aa gL aa aa aa bX bX bX gL bX bX bX bX kH kH kH bX bX aa gL kH (λg a a a h=>lh h λa h=>bW h λb h=>iy h λq(c)=>by rw[a,nil_of b,q,c]) To gL Fy aa
def N8(h:Yq x=O (f,b)):x=.bF f (.cons (.int 0) (.cons b (.cons (.int 2) .nil))) [] .nil:=aQ h λg a a h=>aQ h λb r b h=>aQ h λc c c h=>aQ h λd d d h=>bW h λe h=>bW h λf h=>bW h λg h=>iy h λq(h)=>by rw[KR a,xe b,xe c,xe d,nil_of e,CO f,CO g,q,h]
def Nx.N9{p:Pt}(n:Nx c.x9 p a b d):Nx c p a b d:=⟨n.ext,n.rel.pg,n.rel.kx,n.rel.loc,n.rel.base⟩
def F8(c:Cx)(p:Pt)(f:ul)(b:af)(a:ii):=∃d P e,wz c.g.prog c.g.w c.A a d [a] b.length P e/\SD c (lg J) [a] [a] d p f e/\∀i v,P i v->∃y,b[i]?=O y/\Rd c.g p.F v y
section
variable{c:Cx}{p p1:Pt}{R σ1:St}{v:V}{vs:af}{E:aT}{K:aT}
def Kp.no(a:c.G.ro=J):Kp c (lg J):=a▸Kp.it
variable(ok:c.OK)(T:c.G.ro=J)
def UD(r:bC c p R)(e:Rd c.g p.F y (.lst vs))(q:∀b n a,F8 c p b vs a->K (.ref a) {p.s with heap:=b,toks:=n}):he (M' c) c.A (mE y) K E p.s:=by obtain⟨t,b,k,a,f,z,d⟩:=(e);rw[a];have h:=r.st _ _ f;have e:=ru (prog:=c.g.prog) (w:=c.g.w) ok.handled p.h.objs.size t (ti h) b.toArray;rw[show b.toArray.size=vs.length from cD.length d]at e;exact eX ⟨_,h,Z,_,Z⟩ (q _ _ _ ⟨_,_,_,e,.one (.no T) (tj h ((r.pg.own.fz _ _ f).2.symm▸Z)) (λi h s=>by obtain⟨⟨o,b,_⟩,_⟩:=s;exact⟨o,b⟩) ⟨⟨_,gZ _ Z,Z,Z⟩,⟨_,hJ _ h,Z,_,Z⟩⟩,λi w a=>cD.at d i w (AA a)⟩)
def Oa{n:W}(g:n<=1000){t:ii}{t0 d e:kv}(f:IsRange p.h t 0 (n:D) 2 t0 d e)(q:∀b k a,F8 c p b (dF 2 ((n+1)/2) 0) a->K (.ref a) {p.s with heap:=b,toks:=k}):he (M' c) c.A (mE (.ref t)) K E p.s:=by refine rb f (KQ g) ?_;rw[yo];have a:=Walks.range (prog:=c.g.prog) (w:=c.g.w) ok.handled p.h.objs.size 0 2 ((n+1)/2);(have d:wz c.g.prog c.g.w c.A p.h.objs.size [p.h.objs.size] [p.h.objs.size] (dF 2 ((n+1)/2) 0).length (λi v=>i<(n+1)/2/\∃t,v=.int (0+i*2) t) (λi h=>f' h p.h.objs.size (0+(i)*2) ((((n+1)/2))-(i)) 2):=by rw[qG];exact⟨a.sub,a.frame,λi s Q E b e k=>a.item i s Q E b e λv e f g=>k v e f ⟨b,g⟩,a.done,a.self⟩);(have a:f' (p.h.push {cls:=.type "range_iterator",data:=.fields #[mD 0,mD (((n+1)/2)),mD 2]}) p.h.objs.size (0+((0))*2) ((((n+1)/2))-((0))) 2:=by exact gZ p.h Z);refine q _ _ _ ⟨_,_,_,d,.one (.no T) (λd d=>ch d cr) (λi h s=>⟨_,s⟩) a,λi w a=>?_⟩;obtain⟨b,t,a⟩:=a;refine⟨_,zj _ 0 i b,a▸?_⟩;exact Rd.i
def CP(w:c.x9.Calls)(T:c.G.ro=J){i:X}{j:Expr}(e:Ş c.x9.G c.lv i R=O (vs,σ1))(m:eK c.g.nm i j)(r:bC c p R)(q:∀p1 a f b,Nx c p R.pg p1 σ1->F8 c p1 a vs b->vs.length<=1000->K (.ref b) {p1.s with heap:=a,toks:=f}):
  he (M' c) c.A (Db j c.env) (λx d=>he (M' c) c.A (mE x) K E d) E p.s:=by
 have n:=ok.x9;have o:bC c.x9 p R:=⟨r.pg,r.kx,r.loc,r.base⟩;refine md e (λd h e=>FU e λr e=>bL e λk A e=>bW e λB e=>aQ e λy z t e=>bL e λf F e=>bW e λg e=>iy e λf u=>?_) λ_ e=>aQ e λy z t e=>bL e λl r e=>bW e λg e=>iy e λf u=>?_
 ·rw[N8 h]at m
  obtain⟨e,G,e,h,H,h⟩:=uw (f:=λs L e p=>nu s (λs=>iD c.g.nm d.1 s&&LS s)&&pz c.g.nm (.cons (.int 0) (.cons d.2 (.cons (.int 2) .nil))) L&&oe c.g.nm [] e&&pz c.g.nm .nil (e.map (λk:wn=>k.value))) m;refine ag h λh _=>ag h λh L=>ag h λe h=>?_;obtain⟨s,M,M,e⟩:=kF e;refine ag e λe P=>?_;rw[H,M,g6 e,E2 L Z];have H:c.x9.G.gl d.1=O _:=bL A λA L M=>by rw[L,oZ M,aK B]
  have GL:=(bz n w (.cons (.int 0) (.cons d.2 (.cons (.int 2) .nil)))).2 G h
  have B:=by have L:∀x h s,(c! c.x9.G c.x9.lv (.cons x h)).l s=ax (ev c.x9.G c.lv J x s) λv s=>ax ((c! c.x9.G c.x9.lv h).l s) λvs s=>O (v::vs,s):=λ_ _ _=>Z;exact(ah (λh:N _=>ax h λvs s=>O (V.int 0::vs,s)) ((L _ _ _).trans (t▸Z)):ax ((c! c.x9.G c.x9.lv (.cons d.2 (.cons (.int 2) .nil))).l R) (λvs s=>O _)=ax (O ([y,.int 2],z)) λvs s=>O _)
  refine yP (AB n (ze P (g6 e)) r H ok.kf.ZC o ?_);refine ij (GL.pl _).1 Z ((GL.l.2 p R _ _ B o _).1 _ _ λd d n3 e=>vH ⟨⟨.machine,λd d=>cP d⟩,?_⟩);obtain⟨w0,d,k0,h,e⟩:=e.un;obtain⟨d,d,x,d,e⟩:=e.un;obtain⟨s,y,s⟩:=cD.one e;obtain⟨t0,h⟩:=(h);obtain⟨e,d⟩:=Sz F d;obtain⟨e,s⟩:=(s);rw[k0,x,y,h,d,s];have n3:=n3.N9;refine call_range_3 (aO Z) ?_ (Or.inl (fx (aO Z)));exact Oa ok T (cw g) (pn ..) λa k b H=>q _ a k b (u▸n3.trans (Nx.push n3.rel _ _)) (f▸H) (by rw[<-f,qG];exact Nat.div_le_of_le_mul (ay (eN (cw g)) (aO Z)))
 ·refine(((bz n w i).1 j m).val t o) _ _ λp1 A e d=>?_
  rw[rD r,f]at d;have e:=e.N9;exact UD ok T e.rel d λa k b H=>q p1 a k b (u▸e) H (f▸(aB l)▸cw g)
end
def AJ{b:W->lw}{e g:Expr->I}{i:X}{P:Prop}(h:z8 b e g i y j f c k)(m:∀d a,c=[⟨.Name (b y) d,a,[],0⟩]->e f->g a->D2 b i y j k->n9 a->P):P:=by
 induction c with
 |nil=>exact ao h
 |cons n l=>induction l with
  |cons _ _ _=>exact ao h
  |nil=>cases n with
   |mk t a o p=> refine ag h λh e=>ag h λh f=>ag h λh g=>ag h λh i=>ag h λh j=>ag h λc h=>?_;obtain⟨s,d,k,c⟩:=kF c;refine m d a ?_ h j f e;rw[show t=_ from k,show s=b y from aO c,show o=[]from cO.mp i,show p=0 from aO g]
section
variable{c:Cx}{p p1 p2:Pt}{σ σ1 σ':St}{pg:PG}{pk:Y ii}{v:V}{E:aT}{cv:ae}{gi T:jP}{R it:X}{y x:W}{cs:ae}
variable(ok:c.OK)(c0:c.eV)
def CQ(o:c.G.sup=λ_ _ _=>C)(k:kR c cv gi T)(f:c.G.ro=J){g a:Expr}{d:c7}{h i:ww}(e:rR c.G gi cv R y it cs c.lv σ=O (v,σ1))(t:eK c.g.nm R g)(r:eK c.g.nm it a)(l:D2 c.g.nm R y cs d)(n:n9 a)
 (s:bC c p σ){j:N (bv->e5 df)}{Q:aT}(q:∀p1 b B p2 x m,Nx c p σ.pg p1 b->oA c (EE J) [B] p1 b.pg p2 σ1->p1.h.get? B=C->Rd c.g p2.F x v->p2.h.Ns B m->compPost (M' c) c.A E j Q x B (.ok .next) p2.s):
  he (M' c) c.A (õ (.ListComp g [⟨.Name (c.g.nm y) h,a,[],0⟩] d i) d c.env (firstIterPos [⟨.Name (c.g.nm y) h,a,[],0⟩] i) (newList []) J (Db a c.env) j) Q E p.s:=
 bW e λg e=>aQ e λa b i e=>aQ e λa a j e=>iy e λu z=>by
  have a:=N5 l
  obtain⟨d,e,l⟩:=xd λp h w=>by obtain⟨A,d,F⟩:=a.free p h w;refine ag g λh _=>ag (ai h d) λG H=>?_;obtain⟨w,K⟩:=BM.mp H;obtain⟨H,_,L,_⟩:=k.cell A w G K;exact⟨H,F▸L⟩
  refine j_ Z (lQ n) e a.kind a.names (CP ok (c0.x9 o) f i r s λp1 e n e e i o=>?_);obtain⟨r,P,r,r,w,s⟩:=i;refine xc f r w o s e.rel a.cell a.kind a.S' (G':=UC c.G gi R) f (λB=>(bz (N7 ok k a g l B) c0.Ux R).1 _ t) j λa B p2 f n m L g fB i j d k l=>?_;exact q p1 b B {p2 with F:=p2.F.add a _,ow:=bQ a C p2.ow} _ m e (z▸L.DL (λh=>i (eC.mp h)) g j) fB (u▸⟨a,f,n,Z,p2.F.ib _ _,d,k.bS (p2.F.mx _ _)⟩) l
def oA.weak{a b:N Ow->I}(x:oA c a pk p pg p1 σ1)(w:∀k,b k->a k):oA c b pk p pg p1 σ1:=⟨x.rel,x.ext.weak w,x.ck⟩
def oA.out{b:N Ow->I}(x:oA c b [B] p pg p1 σ1)(fB:p.h.get? B=C)(d:v1 B p1.h a):Ext b p pg (p1.up a p1.s.toks p1.F (un [B] p1).ow) σ1.pg/\bC c (p1.up a p1.s.toks p1.F (un [B] p1).ow) σ1:=x.ov (λ_ h=>h) (λa h=>eC.mp h▸fB) λa o n e=>(d.2 a λq=>n (q▸.head _)).trans e
def IC(f:c.G.sup=λ_ _ _=>C)(g:kR c cv gi T)(d:c.G.comp=rR c.G gi cv){e:Expr}(h:Tf e (z8 c.g.nm (eK c.g.nm R) (eK c.g.nm it) R y cs)):SE c (uv c.G c.lv R y it cs) e:=λt p σ v σ' a r=>FU a λb a=>aQ a λv0 σ1 a e=>by rw[d]at a;obtain⟨d,d,d,d,d,h⟩:=MA h;refine AJ h λh h h i j k l=>?_;rw[d,h];refine mode ok Z e λQ E q=>?_;refine CQ ok c0 f g b a i j k l r λp1 a B p2 x m a L fB d e=>?_;exact⟨m,e,λe e=>have z:=L.out fB e;q _ x (a.trans ⟨b.symm▸z.1,z.2⟩) d⟩
def UE(i:c.G.sup=λ_ _ _=>C)(j:kR c cv gi T)(g:c.G.comp=rR c.G gi cv){e:a9}(k:aq c.lv x)(h:XU c.g.nm (.setC x R y it cs) e):SS c (yX c.G c.lv x R y it cs) e:=λp σ a σ' a r Q E q=>FU a λb a=>aQ a λv0 σ1 d l=>by refine rO h λa w o s h=>ag h λa m=>qH a λt t a=>?_;obtain⟨u,p0,u,a⟩:=kF a;rw[s,t,u,g6 a];have S:=IC ok c0 i j g m;(have z:uv c.G c.lv R y it cs J σ=O (v0,σ1):=by unfold uv;rw[dw b,d];rfl);obtain⟨s,a,t,u,a,h⟩:=MA m;refine AJ h λh m A B F G H=>?_;rw[A]at a;rw[a]at S ⊢;obtain⟨f,n⟩:∃f,lN (.ListComp s [⟨.Name (c.g.nm y) h,m,[],0⟩] t u) (O (.Name (c.g.nm x) p0)) o.line c.env=H1 f:=⟨_,Z⟩;induction f with|false=>exact zT (S.val z r _ _ λp1 w a f=>iV ok a.rel k f λp2 f=>q.nx l ((Sx.of a).trans f)) n|true=> rw[g]at d;rw[nq _ _ _ _ n];refine bR (uk (bR ?_));refine bR (jv (CQ ok c0 i j b d B F G H r λp1 d B p2 w m a L fB d f=>?_) (λ_ g g=>cP (cP g)) λ_ _ e=>e);refine zI (qF ok L.rel k d λd d g=>?_);have h:=(L.weak λ_=>Ci).step (σ2:=aE σ1 x _) (d.weak tc) g;exact⟨m,f.at λo e=>d.keep B o e (by rw[L.ck B gY];rfl),λd d=>have z:=h.out fB d;q.nx l ((Sx.of a).trans ⟨b.symm▸z.1,z.2⟩)⟩
def Cx.eV.comp(ok:c.OK)(a:c.G.sup=λ_ _ _=>C)(b:kR c cv gi T)(d:c.G.comp=rR c.G gi cv):c.Calls:=⟨c0.av,c0.func,c0.Yi,λ_ _ _ _=>CN a,λ_ _ _ _ _ h=>IC ok c0 a b d h,λ_ _ _ _ _ _ e h=>UE ok c0 a b d e h⟩
end
section
variable{prog:zs}{w:t1}{A:v6}{s:ge}
def call_cells{R:ep->ge->Prop}{fd:sB}
 (j:A.depth<Fa)(k:s.heap.get? a=O o)(l:o.data=.func fd)(z:s.heap.NoLimit)(q:s.heap.CodeRec fd.code fd.qualname)
 (p:fd.body=.stmts body)(r:m5 s fd g c)(t:fd.closure=[])
 (y:∀x∈c,fd.scope.names.lookup x.1=O .local∨(fd.scope.names.lookup x.1=O .cell/\((e? (s.heap.objs.size+1) fd.scope.names []).lookup x.1).isSome=U))
 (B:∀f,InCallC s (xz fd s.heap.objs.size a).locals (bindL (xz fd s.heap.objs.size a).kindOf c λ_=>C) (xz fd s.heap.objs.size a).cells
    (bindC (xz fd s.heap.objs.size a).kindOf c λ_=>C) f->
   he (WF prog w) (A.deeper (xz fd s.heap.objs.size a)) (e0 body (xz fd s.heap.objs.size a)) (λh b=>R (.ok (.ret (match h with|.ret v=>v|_=>.none))) b)
    (λe b=>he (WF prog w) (A.deeper (xz fd s.heap.objs.size a)) (leaving (xz fd s.heap.objs.size a) e) (λ_ d=>R (.error e) d) (λi d=>R (.error i) d) b) f)
 (m:fd.scope.isCoroutine=J)(n:fd.scope.isGenerator=J)(u:fd.scope.kind=.function):
  Uf (WF prog w) A (.call (.ref a) g) R s:=by
 refine codeAny_call_function j k l m n p q (r _ _ _ _ ?_);rw[t];refine wpAny_newFunctionEnv_cells u y λa a b x=>?_;rw[a];rw[a]at x;exact⟨z.keeps x.toInCall.keep,codeAny_func (B b x)⟩
end
def KU:∀{n:W}{a:Y (lw×ii)},((x,ù)∈b∨∃c,(x,c)∈a)->∃c,(x,c)∈e? n b a:=by induction b with|nil=>exact λh=>h.elim (λh=>ch h cr) id|cons p r d=>intro n a h;have H:∀{f b},(∀c,_∈a->∃c,_∈b)->(_=p->∃c,_∈b)->∃c,_∈e? f r b:=λa b=>d (h.elim (λh=>(c?.mp h).elim (λe=>.inr (b e)) .inl) λh=>.inr (by obtain⟨c,h⟩:=h;exact a c h));induction p with|mk m k=>unfold e?;split;exact H (λc h=>⟨c,.tail _ h⟩) λe=>⟨n,by rw[show x=m from ah wf e];exact .head _⟩;rename_i a;exact H (λc h=>⟨c,h⟩) λe=>ch (gc.mpr ((ah Fk e).symm)) a
def F9(h:a.lookup x=O .cell):∃c,(e? n a []).lookup x=O c:=by obtain⟨_,a⟩:=KU (.inl (Sc h));exact mem_lookup a
structure ð(g:fC)(B:bl)(f:ii)(params lv gv cv:ae)(o:xL)(fd:sB)(body:b9):Prop where
 at_:B f o
 data:o.data=.func fd
 A2:fd.body=.stmts body
 code:∀h,dq B h->h.CodeRec fd.code fd.qualname
 co:fd.scope.isCoroutine=J
 bD:fd.scope.isGenerator=J
 kind:fd.scope.kind=.function
 globals:fd.globals=np
 builtins:fd.builtins=wp
 Z':fd.closure=[]
 plain:gr fd.params
 names:fd.params.args.map (·.arg)=params.map g.nm
 nod:fd.defaults=.none
 lv:∀x,aq lv x->fd.scope.names.lookup (g.nm x)=O .local
 gv:∀x,aq gv x->fd.scope.names.lookup (g.nm x)=O .globalImplicit
 cv:∀x,aq cv x->fd.scope.names.lookup (g.nm x)=O .cell
def KV(a:jP)(z:W)(v:V)(k:W):N V:=br (ac k z) (O v) (a k)
def Ŝ(G:cQ)(a:jP)(b:ae)(z:W)(v:V):cQ:={G with gl:=KV G.gl z v,comp:=rR {G with gl:=KV G.gl z v} (KV a z v) b}
abbrev Cx.lj(c:Cx)(gi:jP)(cv:ae)(z:W)(v:V)(B':bl):Cx:={c with B:=B',G:=Ŝ c.G gi cv z v}
def ê{P:Prop}(e:KV a z v x=O u)(k:x=z->v=u->P)(l:a x=O u->P):P:=jj e (λh e=>k (aK h) (au e)) λ_=>l
def KF.bS{K:WP}(k:KF K g G B)(a:B.le b):KF K g G b:=⟨k.inj,k.bool,k.len,k.handed,k.Ki,k.FC,k.Tq,k.Ag,λg h b v c d=>by obtain⟨w,e,f,i,j,m,n⟩:=k.const g h b v c d;exact⟨w,e,f,i,j,m.bS a,n⟩,k.Cj,k.Cm,k.Co,k.K2,k.HH,k.Cp,k.Tr,λg h=>by obtain⟨o,i,e,f⟩:=k.FD g h;exact⟨o,i,a _ _ e,f⟩,k.N_,k.G4,k.O5,k.ZC,k.O4,k.O1,k.N?,k.N!,k.dT,k.dD,k.qu,k.ew,k.lH,k.E5,k.Ts,k.E3,by obtain⟨o,h⟩:=k.Tt;exact⟨o,a _ _ h⟩,k.Cq,λb e h=>by obtain⟨o,c,d⟩:=k.MT b e h;exact⟨o,a _ _ c,λp l=>d p λb c e=>l b c (a b c e)⟩,k.K'⟩
def iW.bS(ya:iW g B a)(b:B.le F):iW g F a:=λx v e=>by obtain⟨y,r,h⟩:=ya x v e;have S:∀{h},dq F h->dq B h:=λa c o e=>a _ _ (b _ _ e);exact⟨y,r.bS b,h.imp (λz=>by obtain⟨b,c,d⟩:=z;exact⟨b,λh a=>c h (S a),d⟩) λz=>by obtain⟨b,e,c,d,f,g⟩:=z;exact⟨b,e,λh a=>c h (S a),d,λh a=>f h (S a),g⟩⟩
def fT.bS{run:af->aY->PG->dR}(h:fT g B A f b run)(c:B.le a):fT g a A f b run:=λa b d v f e p g i l x j=>h a b d v f e p g i l x λa o e=>j a o (c a o e)
section
variable{c:Cx}{p p0:Pt}{T:St}{R:PG}{v:V}{E:aT}{G:ae}{gi H:jP}{z:W}{a:ii}{P:bl}{o:xL}{w:bv}
def UG(b:c.OK)(g:kR c G gi H)(B:aq G z)(m:c.env.cells.lookup (c.g.nm z)=O a)(n:c.env.kindOf (c.g.nm z)=O .cell)(d:c.B.le P)(r:P a o)(s:o.data=.cell (O w))(t:Rd c.g P w v):(c.lj gi G z v P).OK/\kR (c.lj gi G z v P) G (KV gi z v) H:=
 ⟨⟨(b.kf.bS d).chg,λy o e=>d _ _ (b.jD y o e),b.locals,b.kind,b.loc,λx u f e=>ê e (λh i=>by
   rw[h,<-i];exact⟨w,t,λA Q E j q=>qd b.kind n m ⟨o,j _ _ r,s⟩ q⟩) λe=>by
   obtain⟨F,k,l⟩:=b.glob x u f e;exact⟨F,k.bS d,λA Q E j q=>l A Q E (λy p e=>j _ _ (d _ _ e)) q⟩,b.units,b.handled,b.bw,b.depth⟩,
 ⟨λx u f e=>ê e (λh i=>by
   rw[h,<-i];exact⟨a,w,m,n,⟨o,r,s⟩,t⟩) λe=>by
   obtain⟨b,i,k,l,⟨j,m,n⟩,r⟩:=g.cell x u f e;exact⟨b,i,k,l,⟨j,d _ _ m,n⟩,r.bS d⟩,λx u f e=>ê e (λh _=>ao (il f (h▸B))) (g.glob x u f),g.ya.bS d,g.X_,g.blt⟩⟩
def Cx.eV.lj(b:c.eV)(d:c.B.le P):(c.lj gi G z v P).eV:=⟨λm h e=>(b.av m h e).bS d,λf h=>(b.func f h).bS d,λk h=>(b.Yi k h).bS d⟩
def lT{d:W->lw}(h:lI d (.cons x xs) b):∃e f,b=e::f/\XU d x e/\lI d xs f:=by induction b with|nil=>exact ao h|cons e b _=>exact ag (show(XU d x e&&lI d xs b)from h) λa d=>⟨e,b,Z,a,d⟩
def Gd(h:c.OK)(s:kR c G gi H)(t:aq G z){e:Y ii}{u:eU}(i:c.env.cells.lookup (c.g.nm z)=O a)(j:c.env.kindOf (c.g.nm z)=O .cell)(f:a∉e)(g:∀b∈a::e,p0.h.get? b=C)(r:∀b∈e,∃o,p.h.get? b=O o)(L:BI c (a::e) p0 R p T)(k:p.h.IsCell a u)(x:Rd c.g p.F w v){Q:df->ge->Prop}
 (q:∀d,(∀b o,b≠a->p.h.get? b=O o->d.h.get? b=O o)->p.F.le d.F->(c.lj gi G z v d.F).OK->kR (c.lj gi G z v d.F) G (KV gi z v) H->c.B.le d.F->BI (c.lj gi G z v d.F) e p0 R d T->Q () d.s):he (M' c) c.A (UF c.env (c.g.nm z) w) Q E p.s:=by
 refine wpAny_storeName_cell h.kind j i k λl d u=>?_;obtain⟨o,m,y⟩:=d;have k:∀b o,b≠a->p.h.get? b=O o->l.get? b=O o:=λb o n e=>(u.2 b n).trans e
 have u:=L.iter (n:=p.s.toks) (λb d=>eC.mp d▸.head _) g (λb o n=>k b o λq=>n (q▸.head _)) λb d=>(c?.mp d).elim (λq=>q▸⟨o,m⟩) λq=>by obtain⟨d,e⟩:=r b q;exact⟨d,k b d (λz=>f (z▸q)) e⟩
 have d:=u.DL f (g a gY) (m);have f:=UG h s t i j (λb o e=>.inl (L.rel.base b o e)) (p.F.ib _ _) y (x.bS (p.F.mx _ _));exact q {p.up l p.s.toks p.F p.ow with F:=p.F.add a o,ow:=bQ a C p.ow} k (p.F.mx _ _) f.1 f.2 (λb o e=>.inl (L.rel.base b o e)) ⟨⟨d.rel.pg,d.rel.kx,d.rel.loc,λ_ _=>id⟩,d.ext,d.ck⟩
end
def X4(G:cQ)(a b c:ae):cQ:={G with gl:=yg G.gl a,comp:=rR {G with gl:=yg G.gl a} (yg G.gl b) c}
abbrev F?(A:v6)(K:WP)(g:fC)(G:cQ)(lv:ae)(fd:sB)(f:ii)(B:bl)(L:ii):Cx:={A:=A.deeper (xz fd L f),env:=xz fd L f,K:=K,g:=g,G:=G,B:=B,L:=L,lv:=lv}
section
variable{A:v6}{K:WP}{g:fC}{G:cQ}{B:bl}{Q lv gv H P:ae}{o:xL}{fd:sB}{body:b9}{f:ii}{k:W}
def Ob(a:ð g B f Q lv gv P o fd body)(kf:KF K g G B)(d:∀b o,K.lookup b=O o->B b o)(ya:iW g B G.gl)(i:∀b,G.bw b->g.bw b)(c:ip (k+1) A)(L:ii):(F? A K g (X4 G gv H P) lv fd f B L).OK where
 kf:=kf.chg
 jD:=d
 locals:=Z
 kind:=a.kind
 loc:=a.lv
 glob:=λx v _ e=>bW (e) λb e=>by obtain⟨y,r,h⟩:=AE ya e (env:=xz fd L f) a.kind (a.gv x b) a.globals a.builtins;exact⟨y,r,h _ _⟩
 units:=fR (gb _ (3*k)) (fR (cZ (jL _ 100 _)) ((c.deeper (xz fd L f)).units|>λh=>(jL _ _ _)▸h))
 handled:=c.handled
 bw:=i
 depth:=fR (gb _ k) (c.deeper (xz fd L f)).depth
def ID(a:ð g B f Q lv gv P o fd body)(ya:iW g B G.gl)(b:∀z,aq P z->aq H z=J)(L:ii):kR (F? A K g (X4 G gv H P) lv fd f B L) P (yg G.gl H) G.gl where
 cell:=λz v c e=>bW e λh _=>ao (il (b z c) h)
 glob:=λz v _ e=>bW e λ_ e=>e
 ya:=ya
 X_:=a.globals
 blt:=a.builtins
def CS{p:Pt}{t:W}{m:lw->eU}(x:qQ c.g p d)(l:pF p)(h:c.L=p.h.objs.size)(s:c.B.le p.F)(k:∀a o,p.h.get? a=O o->h0.get? a=O o)(i:h0.Ns p.h.objs.size m)(n:∀a∈pk,p.h.objs.size<a)(u:∀a∈pk,∃o,h0.get? a=O o)
 (r:∀b,b.F=p.F->∀x,Zz c b m x (aj x v)):∃b e,(∀a o,p.h.get? a=O o->b.get? a=O o)/\e.s={p.s with heap:=h0,toks:=t}/\e.F=p.F/\(∀a∈pk,b.get? a=C)/\BI c pk {(p.up b t p.F p.ow)with ow:=bQ p.h.objs.size (O .frame) p.ow} d e ⟨v,d⟩:=by
 obtain⟨oL,w,y,b,e,z⟩:=i;have i:=Obj.isFreed_of_dict e;have j:∀a∈pk,(p.h.push oL).get? a=C:=λa E=>ju (by rw[sP];exact n a E);have n:=λa o E=>(Heap.get?_push_cases E).elim (λq=>by rw[q.1,q.2];exact b) (k a o);have a:bC c {(p.up (p.h.push oL) t p.F p.ow)with ow:=bQ p.h.objs.size (O .frame) p.ow} ⟨v,d⟩:=⟨enter x l (gZ _ i) λ_ _=>hJ _,by rw[h];exact dS,⟨m,by rw[h];exact⟨oL,w,y,gZ _ i,e,z⟩,r _ Z⟩,s⟩;refine⟨p.h.push oL,_,λ_ _=>hJ _,?_,?_,j,oA.start (n:=t) a n j u⟩<;>rfl
def aaB{t:W}(h:oy g F a [(t,v)]):∃w,a=[(g.nm t,w)]/\Rd g F w v:=by cases a with|nil=>exact ch h.1 (bN _ _).symm|cons b l=>(have a:b.1::l.map (·.1)=[g.nm t]:=h.1;injection a with a h2);refine⟨b.2,?_,(h.2)|>λz=>by obtain⟨w,q,r⟩:=cD.one z;injection q with q;exact(show b.2=w from q)▸r⟩;rw[vD.mp h2,<-a]
end
section
variable{c:Cx}{p p0:Pt}{h:St}{g:PG}{v:V}{E:aT}{x:W}{w:bv}
def oA.loc(d:c.OK){b:Y ii}(L:BI c b p0 g p h)(e:aq c.lv x)(f:Rd c.g p.F w v){Q:df->ge->Prop}(q:∀a,Ext (lg c.G.ro) p h.pg a h.pg->BI c b p0 g a (aE h x (.val v))->Q () a.s):he (M' c) c.A (UF c.env (c.g.nm x) w) Q E p.s:=iV d L.rel e f λb a=>q b a.ext (L.step a.ext a.rel)
end
structure Gb where
 base:W->D
 old:W->D
 Oc:W
 txt:ae
structure dy(g:Gb):Prop where
 pos:∀k,0<=g.base k
 le:g.base 0<=900
 lt:∀i j,i<j->j<g.Oc->g.old i<g.old j
 Yr:∀j,j<g.Oc->g.old j<g.base 2
 tp:g.base 5=g.base 2+g.base 6
 six:1<=g.base 6
def CU(g:Gb)(z:D)(p:Sy):=qv p mf (off:=λk n=>z=g.base k+n) (big:=λk n=>g.base k+n<=z) (nn:=0<=z) (le:=λm=>z<=m) (old:=λj=>j<g.Oc/\z=g.old j)
def lU(p:ae):ae->Prop:=bm (motive:=λ_=>ae->Prop) (λs=>s=[]) (λc _ a s=>∃d t,s=d::t/\yc c d/\a t) p
def CV(g:Gb)(l:ae)(e:I):=0<=g.base 4/\g.base 4+l.length<=g.txt.length/\lU l ((g.txt.drop (g.base 4).toNat).take l.length)/\(e->(g.txt.length:D)=g.base 4+l.length)
def solid(v:V):I:=dP v U (cd:=λ_=>J) (sy:=λ_=>J) (bu:=λ_ _=>J) (ws:=λ_=>J) (ta:=J) (pa:=J)
section
variable(g:Gb)
variable(r:af->Prop)(w:V)
def UH:=∃l,w=.tup l/\r l
def é:=∃l,w=.lst l/\r l
def è(c:W)(r:aY->Prop)(w:V):=∃l,w=.obj c l/\r l
def KY(p:Sy)(w:V):=∃z,w=.int z/\CU g z p
def UI(l:ae)(e:I)(w:V):=w=.str g.txt/\CV g l e
def ç:=solid w=U
def Od(p:ae)(w:V):=∃s,w=.str s/\lU p s
def rT{a:Type}(r:a->Prop)(k:Y a->Prop)(l:Y a):=∃b m,l=b::m/\r b/\k m
def AK(a:W)(r:V->Prop)(p:W×V):=p.1=a/\r p.2
def Ga(v:V):V->Prop:=V.rec (motive_1:=λ_=>V->Prop) (motive_2:=λ_=>af->Prop) (motive_3:=λ_=>aY->Prop) (motive_4:=λ_=>W×V->Prop) (·=.none) (λb w=>w=.bool b) (λi w=>w=.int i) (λs w=>w=.str s) (λ_=>UH) (λ_=>é) (λc _=>è c) (λc w=>w=.cls c) (λf w=>w=.fn f) (λb w=>w=.bi b) (λk w=>w=.cd k) (λm w=>w=.av m) (·=.par) (λ_=>Ch) (KY g) (UI g) ç Od (·=[]) (λ_ _=>rT) (·=[]) (λ_ _=>rT) (λa _=>AK a) v
def cu(v:af):af->Prop:=V.rec_1 (motive_1:=λ_=>V->Prop) (motive_2:=λ_=>af->Prop) (motive_3:=λ_=>aY->Prop) (motive_4:=λ_=>W×V->Prop) (·=.none) (λb w=>w=.bool b) (λi w=>w=.int i) (λs w=>w=.str s) (λ_=>UH) (λ_=>é) (λc _=>è c) (λc w=>w=.cls c) (λf w=>w=.fn f) (λb w=>w=.bi b) (λk w=>w=.cd k) (λm w=>w=.av m) (·=.par) (λ_=>Ch) (KY g) (UI g) ç Od (·=[]) (λ_ _=>rT) (·=[]) (λ_ _=>rT) (λa _=>AK a) v
def o6(v:aY):aY->Prop:=V.rec_2 (motive_1:=λ_=>V->Prop) (motive_2:=λ_=>af->Prop) (motive_3:=λ_=>aY->Prop) (motive_4:=λ_=>W×V->Prop) (·=.none) (λb w=>w=.bool b) (λi w=>w=.int i) (λs w=>w=.str s) (λ_=>UH) (λ_=>é) (λc _=>è c) (λc w=>w=.cls c) (λf w=>w=.fn f) (λb w=>w=.bi b) (λk w=>w=.cd k) (λm w=>w=.av m) (·=.par) (λ_=>Ch) (KY g) (UI g) ç Od (·=[]) (λ_ _=>rT) (·=[]) (λ_ _=>rT) (λa _=>AK a) v
def qa{a:Type}(v:Y (a×V)):Y (a×V)->Prop:=bm (motive:=λ_=>Y (a×V)->Prop) (·=[]) (λp _ a=>rT (λq=>q.1=p.1/\Ga g p.2 q.2) a) v
end
def RO{a b:Type}(R:a->b->Prop)(o:N a)(c:N b):=∀a,o=O a->∃b,c=O b/\R a b
def m9{a b:Type}(R:a->b->Prop)(o:N a)(c:N b):=(o=C/\c=C)∨∃a b,o=O a/\c=O b/\R a b
def LY{a c b d:Type}(R:a->c->Prop)(T:b->d->Prop)(p:a×b)(q:c×d):=R p.1 q.1/\T p.2 q.2
section
variable{z E A B F G:Type}{R:z->E->Prop}{S:A->B->Prop}{T:F->G->Prop}{o:N z}{t:N E}{a:z}{b:E}
def RO.no:RO R (C:N z) t:=λ_ e=>aa e
def RO.so(h:R a b):RO R (O a) (O b):=λ_ e=>⟨b,Z,au e▸h⟩
def RO.to(h:RO R o t)(e:o=O a):∃b,t=O b/\R a b:=h a e
def m9.ro(h:m9 R o t):RO R o t:=λa e=>h.elim (λq=>aa (il q.1 e)) λq=>by obtain⟨x,y,c,d,f⟩:=q;exact⟨y,d,au (il c e)▸f⟩
def m9.no:m9 R C C:=.inl ⟨Z,Z⟩
def m9.so(h:R a b):m9 R (O a) (O b):=.inr ⟨a,b,Z,Z,h⟩
def RO.bn{f:z->N A}{c:E->N B}(h:RO R o t)(k:∀a b,R a b->RO S (f a) (c b)):RO S (Ev.bn o f) (Ev.bn t c):=λc e=>bL e λa d e=>by obtain⟨b,f,g⟩:=h a d;rw[f];exact k a b g c e
def RO.mp{f:z->A}{c:E->B}(h:RO R o t)(k:∀a b,R a b->S (f a) (c b)):RO S (Ev.mp o f) (Ev.mp t c):=λc e=>iJ e λa c d=>by obtain⟨b,e,f⟩:=h a c;rw[e];exact⟨_,Z,d▸k a b f⟩
def RO.ax{o:N (z×A)}{t:N (E×B)}{f:z->A->N F}{e:E->B->N G}(h:RO (LY R S) o t)(k:∀a b c d,R a b->S c d->RO T (f a c) (e b d)):RO T (Ev.ax o f) (Ev.ax t e):=λe d=>aQ d λa c f g=>by obtain⟨q,i,d⟩:=h _ f;rw[i];exact k a q.1 c q.2 d.1 d.2 e g
def RO.gd{x:I}{o:N z}{t:N E}(k:x->RO R o t):RO R (Ev.gd x o) (Ev.gd x t):=λa e=>bW e λh e=>by rw[h];exact k h a e
def RO.L0{x y:I}(q:x->y)(k:x->RO R o t):RO R (Ev.gd x o) (Ev.gd y t):=λa e=>bW e λh e=>by rw[q h];exact k h a e
def RO.br{x:I}{p:N z}(k:x->RO R o t)(l:x=J->RO R p c):RO R (Ev.br x o p) (Ev.br x t c):=by induction x with|true=>exact k Z|false=>exact l Z
def RO.oc{p:N A}{f:z->N A}{c:E->N B}(h:m9 R o t)(k:∀a b,R a b->RO S (f a) (c b))(l:RO S p d):RO S (Ev.oc o f p) (Ev.oc t c d):=h.elim (λq=>by rw[q.1,q.2];exact l) λq=>by obtain⟨a,b,c,d,e⟩:=q;rw[c,d];exact k a b e
def RO.bS{c:z->E->Prop}(h:RO R o t)(k:∀a b,R a b->c a b):RO c o t:=λa e=>by obtain⟨b,c,d⟩:=h a e;exact⟨b,c,k _ _ d⟩
def RO.e1{o t:N z}{f:z->N A}{c:z->N B}(h:RO (·=·) o t)(k:∀a,RO S (f a) (c a)):RO S (Ev.bn o f) (Ev.bn t c):=h.bn λa b(e)=>e▸k a
def RO.m1{o t:N z}{f:z->A}{c:z->B}(h:RO (·=·) o t)(k:∀a,S (f a) (c a)):RO S (Ev.mp o f) (Ev.mp t c):=h.mp λa b(e)=>e▸k a
def RO.KZ{o:N z}:RO (·=·) o o:=λa e=>⟨a,e,Z⟩
variable{g:Gb}{v w x y:V}{vs ws xs ys:af}{H L:aY}{n:W}
def cu.un(h:cu g (v::vs) ws):rT (Ga g v) (cu g vs) ws:=h
def cu.mk(h:Ga g v w)(k:cu g vs ws):cu g (v::vs) (w::ws):=⟨w,ws,Z,h,k⟩
def o6.un{p:W×V}(h:o6 g (p::H) L):rT (AK p.1 (Ga g p.2)) (o6 g H) L:=h
def o6.mk{a:W}(h:Ga g v w)(k:o6 g H L):o6 g ((a,v)::H) ((a,w)::L):=⟨_,_,Z,⟨Z,h⟩,k⟩
def ng{y:N A}{f:V->af->N A}{d:V->af->N B}(h:cu g vs ws)(k:RO S y c)(j:∀a b l m,Ga g a b->cu g l m->RO S (f a l) (d b m)):RO S (Ev.lc vs y f) (Ev.lc ws c d):=by induction vs with|nil=>rw[show ws=[]from h];exact k|cons v vs _=>obtain⟨b,m,e,c,d⟩:=h.un;rw[e];exact j v b vs m c d
def Oe{y:N A}{f:W×V->aY->N A}{d:W×V->aY->N B}(h:o6 g H L)(k:RO S y c)(j:∀a b l m,AK a.1 (Ga g a.2) b->o6 g l m->RO S (f a l) (d b m)):RO S (Ev.lc H y f) (Ev.lc L c d):=by induction H with|nil=>rw[show L=[]from h];exact k|cons v vs _=>obtain⟨b,m,e,c,d⟩:=h.un;rw[e];exact j v b vs m c d
def tq{f:V->N A}{c:V->N B}(h:cu g vs ws)(k:∀a b,Ga g a b->RO S (f a) (c b)):RO S (one vs f) (one ws c):=ng h .no λa b _ _ q h=>ng h (k a b q) λ_ _ _ _ _ _=>.no
def xf{f:V->V->N A}{e:V->V->N B}(h:cu g vs ws)(k:∀a b c d,Ga g a b->Ga g c d->RO S (f a c) (e b d)):RO S (two vs f) (two ws e):=ng h .no λa b _ _ q h=>tq h λc d=>k a b c d q
def cu.len(h:cu g vs ws):vs.length=ws.length:=by induction vs generalizing ws with|nil=>rw[show ws=[]from h]|cons v vs c=>obtain⟨b,m,e,_,h⟩:=h.un;rw[e];exact ah pp (c h)
def cu.ak(h:cu g vs ws):Ev.ak vs=Ev.ak ws:=by rw[aB,aB,h.len]
def cu.empty(h:cu g vs ws):vs.isEmpty=ws.isEmpty:=lM h.len
def cu.U?(h:cu g vs ws):RO (Ga g) (jl vs n) (jl ws n):=by induction vs generalizing ws n with|nil=>exact .no|cons v vs c=>obtain⟨b,m,e,d,h⟩:=h.un;rw[e];induction n with|zero=>exact .so d|succ n _=>exact c h
def cu.app(h:cu g vs ws)(k:cu g xs ys):cu g (vs++xs) (ws++ys):=by induction vs generalizing ws with|nil=>rw[show ws=[]from h];exact k|cons v vs c=>obtain⟨b,m,e,d,h⟩:=h.un;rw[e];exact .mk d (c h)
def cu.take(h:cu g vs ws):cu g (vs.take n) (ws.take n):=by induction vs generalizing ws n with|nil=>rw[show ws=[]from h,sM];exact Z|cons v vs c=>obtain⟨b,m,e,d,h⟩:=h.un;rw[e];induction n with|zero=>exact Z|succ n _=>exact .mk d (c h)
def cu.drop(h:cu g vs ws):cu g (vs.drop n) (ws.drop n):=by induction vs generalizing ws n with|nil=>rw[show ws=[]from h,zX];exact Z|cons v vs c=>obtain⟨b,m,e,f,d⟩:=h.un;induction n with|zero=>exact h|succ n _=>rw[e];exact c d
def cu.last(h:cu g vs ws):RO (Ga g) vs.getLast? ws.getLast?:=by induction vs generalizing ws with|nil=>exact .no|cons v vs d=>obtain⟨b,m,e,c,h⟩:=h.un;rw[e];induction vs with|nil=>rw[show m=[]from h];exact .so c|cons u us _=> obtain⟨c,c,c,e,e⟩:=h.un;rw[c,ha,ha,<-c];exact d h
def cu.dropLast(h:cu g vs ws):cu g vs.dropLast ws.dropLast:=by rw[Hs,Hs,h.len];exact h.take
def o6.lk(a:W)(h:o6 g H L):m9 (Ga g) (aj a H) (aj a L):=by induction H generalizing L with|nil=>rw[show L=[]from h];exact .no|cons p H c=>obtain⟨b,m,e,⟨d,f⟩,h⟩:=h.un;rw[e];show m9 _ (Ev.br _ _ _) (Ev.br _ _ _);rw[d];cases ac p.1 a with|true=>exact .so f|false=>exact c h
def cp{P:Prop}{x y:I}(h:Ev.br x y J=U)(k:x->y->P):P:=by induction x with|true=>exact k Z h|false=>exact ao h
local macro_rules | `(tactic| trivial) => `(tactic| first | exact fun _ => RO.no | exact fun _ _ => RO.no | exact fun _ _ _ => RO.no)
def Ga.as(e:v=x)(h:Ga g v w):Ga g x w:=e▸h
def uW(h:Ga g v w):RO (·=·) (gf v) (gf w):=λi e=>⟨i,(h.as (wu e))▸Z,Z⟩
def IE(h:Ga g v w):RO (·=·) (gJ v) (gJ w):=λi e=>⟨i,(h.as (Kj e))▸Z,Z⟩
def xg(h:Ga g v w):RO (·=·) (asNat v) (asNat w):=λi e=>⟨i,(h.as (rF e))▸Z,Z⟩
def xh(h:Ga g v w):RO (·=·) (dW v) (dW w):=λi e=>⟨i,(h.as (gp e))▸Z,Z⟩
def ahJ(h:Ga g v w):RO (·=·) (vK v) (vK w):=λi e=>⟨i,(h.as (Cr e))▸Z,Z⟩
def pBi(h:Ga g v w):RO (·=·) (sS v) (sS w):=λi e=>⟨i,(h.as (oZ e))▸Z,Z⟩
def ś(h:Ga g v w):RO (cu g) (uo v) (uo w):=λi e=>by obtain⟨l,q,r⟩:=(h.as (oq e));exact⟨l,q▸Z,r⟩
def UJ(h:Ga g v w):RO (cu g) (jc v) (jc w):=λi e=>by obtain⟨l,q,r⟩:=(h.as (rD e));exact⟨l,q▸Z,r⟩
def ahK:Ga g v w->RO (cu g) (vJ v) (vJ w):=Vc (M:=λv=>Ga g v w->RO _ _ _) v (tu:=λl h=>by obtain⟨l,q,r⟩:=h;exact q▸.so r) (ls:=λl h=>by obtain⟨l,q,r⟩:=h;exact q▸.so r)
def jZ:Ga g v w->RO (·=·) (eQ v) (eQ w):=Vc (M:=λv=>Ga g v w->RO _ _ _) v (no:=λh=>by rw[show w=.none from h];exact .so Z) (bo:=λb h=>by rw[show w=.bool b from h];exact .so Z) (i:=λb h=>by rw[show w=.int b from h];exact .so Z) (s:=λb h=>by rw[show w=.str b from h];exact .so Z) (tu:=λl h=>by obtain⟨l,q,r⟩:=h;exact q▸.so (ah (!·) (cu.empty r))) (ls:=λl h=>by obtain⟨l,q,r⟩:=h;exact q▸.so (ah (!·) (cu.empty r))) (ob:=λc f h=>by obtain⟨l,q,r⟩:=h;rw[q];exact .so Z) (me:=λb h=>by rw[show w=.av b from h];exact .so Z)
end
section
def LZ(v:V):I:=dP v J (no:=U) (bo:=λ_=>U) (i:=λ_=>U) (s:=λ_=>U) (cl:=λ_=>U) (fn:=λ_=>U) (bi:=λ_=>U) (cd:=λ_=>U) (me:=λ_=>U) (tu:=λl=>l.isEmpty)
def u!{a:Type}(l:Y (a×V)):I:=aH (λp=>LZ p.2) l
variable{g:Gb}{v w:V}{vs ws:af}
def tw:LZ v->Ga g v v:=Vc (M:=λv=>LZ v=U->Ga g v v) v (no:=λ_=>Z) (bo:=λ_ _=>Z) (i:=λ_ _=>Z) (s:=λ_ _=>Z) (cl:=λ_ _=>Z) (fn:=λ_ _=>Z) (bi:=λ_ _=>Z) (cd:=λ_ _=>Z) (me:=λ_ _=>Z) (tu:=λl h=>⟨l,Z,(cO.mp h).symm▸Z⟩)
def all_eq{f:V->I}(a:∀{v w},f v->Ga g v w->w=v)(h:aH f vs=U)(k:cu g vs ws):ws=vs:=by induction vs generalizing ws with|nil=>exact k|cons v vs i=>exact cp h λb c=>by obtain⟨d,m,e,d,f⟩:=k.un;rw[e,a b d,i c f]
def tC(n:W):∀{v w:V},dat n v->Ga g v w->w=v:=by induction n with|zero=>exact λ{v w}=>Vc (M:=λv=>dat 0 v=U->Ga g v w->w=v) v (no:=λ_ h=>h) (bo:=λ_ _ h=>h) (i:=λ_ _ h=>h) (s:=λ_ _ h=>h)|succ n a=>exact λ{v w}=>Vc (M:=λv=>dat (n+1) v=U->Ga g v w->w=v) v (no:=λ_ h=>h) (bo:=λ_ _ h=>h) (i:=λ_ _ h=>h) (s:=λ_ _ h=>h) (tu:=λl d h=>by obtain⟨m,q,r⟩:=h;rw[q,all_eq a d r]) (ls:=λl d h=>by obtain⟨m,q,r⟩:=h;rw[q,all_eq a d r])
end
def Ge(a:u8)(x y:D):fQ:=six a (O (a? (x=y))) (O (!a? (x=y))) (O (a? (x<y))) (O (a? (x<=y))) (O (a? (y<x))) (O (a? (y<=x)))
section
variable{u:u8}{c:I}{x y:D}{a1 a2 a3 v w A b1 b2 b3 B E F:fQ}
def mJ(a:∀c,a1=O c->b1=O c)(b:∀c,a2=O c->b2=O c)(d:∀c,a3=O c->b3=O c)(e:∀c,v=O c->B=O c)(f:∀c,w=O c->E=O c)(g:∀c,A=O c->F=O c)(h:six u a1 a2 a3 v w A=O c):six u b1 b2 b3 B E F=O c:=py u (a c) (b c) (d c) (e c) (f c) (g c) aa aa aa aa h
def tF(c:I)(e:(C:fQ)=O c):b=O c:=aa e
def L7{b d:I}(h:d=b)(c:I)(e:O b=O c):O d=O c:=h▸e
def AL:kE u (.int x) (.int y)=Ge u x y:=by cases u<;>rfl
def æ(h:x<y)(e:six u (O J) (O U) (O U) C (O J) C=O c):Ge u x y=O c:=mJ (L7 (dQ (C3 h))) (L7 (ah (!·) (dQ (C3 h)))) (L7 (cF h)) tF (L7 (dQ (C5 h))) tF e
def UK(h:y<x)(e:six u (O J) (O U) (O J) C (O U) C=O c):Ge u x y=O c:=mJ (L7 (dQ (C4 h))) (L7 (ah (!·) (dQ (C4 h)))) (L7 (dQ (C5 h))) tF (L7 (cF h)) tF e
def D_(e:six u a1 a2 a3 C C C=O c):six u a1 a2 a3 C d C=O c:=mJ (λ_=>id) (λ_=>id) (λ_=>id) tF tF tF e
def blt_iff{i:W}:jp i j=a? (i<j):=by cases h:jp i j with|true=>exact(cF (cw h)).symm|false=>exact(dQ λq=>ao (il h (hH q))).symm
def oF{P:Prop}(h:ac a b)(k:a=b->P):P:=k (aK h)
variable{g:Gb}{p q:Sy}{k:W}
def aaG(a:dy g)(h:Mo k):g.base 2<=g.base k:=by unfold Mo at h;cases q:ac k 2 with|true=>exact oF q λe=>e▸pL _|false=> rw[dw q]at h;exact oF h λe=>by rw[e,a.tp];exact uj (gP (aO Z) a.six)
def ahL(d:dy g){a b:D}(h:b<=a):g.base 2+b<g.base 5+a:=by rw[d.tp,ej];exact ES (FS h (Int.lt_add_of_pos_left a (um (aO Z) d.six))) _
def ahM(d:dy g){a b:D}(h:b<=a+1):g.base 2+b<=g.base 5+a:=by rw[d.tp,ej];exact yM (gP h (nU a 1▸lB d.six a)) _
def Ś(f:dy g){a b:D}{x y:D}(d:x=g.base 2+a)(e:y=g.base 5+b)(h:a<=b):x<y:=by rw[d,e];exact ahL f h
def ř(b:dy g){j:W}{a:D}(h:j<g.Oc)(d:Mo k)(e:a? (0<=a)):g.old j<g.base k+a:=um (b.Yr j h) (gP (aaG b d) (uj (aO e)))
def Ř(b:dy g){m a:D}(h:a? (m<a)):m<g.base k+a:=um (aO h) (gg (b.pos k))
def UL(i:dy g):CU g x p->CU g y q->Ż u p q=O c->Ge u x y=O c:=by refine Sy.casesOn p (λk a b=>?_) (λk d b=>?_) gL kH (λm b=>?_);have b:=b;refine Sy.casesOn q (λn o a e=>?_) (λn d a e=>bW e λf e=>bW e λd e=>oF f λf=>?_) bX gL λj a e=>bW e λf e=>bW e λd e=>?_;have a:=a;refine jj e (λh e=>oF h λh=>?_) λ_ e=>jj e (λh e=>oF h λh=>bW e λd e=>oF d λd=>jj e (λl e=>?_) λ_ e=>bW e λl e=>?_) λ_ e=>bW e λh e=>bW e λd e=>bW e λl e=>oF h λh=>oF d λd=>?_;rw[b,a,<-h];unfold Ge;rw[BU.mpr (Int.add_right_inj _),BU.mpr (hv _),BU.mpr (hA _),BU.mpr (hv _),BU.mpr (hA _)];exact e;rw[h]at b;rw[d]at a;exact UK (Ś i a b (aO l)) (D_ e);rw[h]at b;rw[d]at a;exact mJ tF tF (L7 (dQ (qZ.mpr (by rw[b,a];exact ahM i (aO l))))) tF tF tF e;rw[h]at b;rw[d]at a;exact æ (Ś i b a (aO l)) (D_ e);have a:=a;exact mJ tF tF tF tF tF (L7 (dQ (sQ.mpr (um (by rw[b,f];exact ES (aO d) _) a)))) e;have a:=a;exact UK (by rw[b,a.2];exact ř i a.1 f d) (D_ e);have b:=b;refine Sy.casesOn q (λn o a e=>bW e λf e=>bW e λd e=>oF f λf=>?_) kH bX gL λ_ _=>aa;rw[f]at b;exact UK (by rw[a];exact um (ES (aO d) _) b) (D_ e);have b:=b;refine Sy.casesOn q (λn o a e=>bW e λf e=>bW e λd e=>?_) kH bX gL λj a e=>?_;have a:=a;exact æ (by rw[a,b.2];exact ř i b.1 f d) (D_ e);have a:=a;refine mJ tF tF (L7 ?_) tF tF tF e;rw[blt_iff,b.2,a.2];by_cases h:m<j;rw[cF h,cF (i.lt m j h a.1)];rw[dQ h];refine dQ λq=>?_;by_cases z:m=j;rw[z]at q;exact FM _ q;have:=i.lt j m (Nat.lt_of_le_of_ne (p5 h) (Ne.symm z)) b.1;exact FM _ (h! q this)
def Of(b:dy g){m:D}:CU g x p->XM u p m=O c->Ge u x m=O c:=by refine Sy.casesOn p (λk a a e=>bW e λh e=>?_) kH bX (λn a e=>bW e λh e=>?_) λ_ _=>aa;have a:=a;exact UK (a▸Ř b h) e;have a:=a;exact mJ tF tF tF tF (L7 (dQ (qZ.mpr (gP a (aO h))))) tF e
def Og(b:dy g){m:D}:CU g x p->XN u m p=O c->Ge u m x=O c:=by refine Sy.casesOn p (λk a a e=>bW e λh e=>?_) kH bX (λn a=>aa) λ_ _=>aa;exact æ (a▸Ř b h) e
def Oh{p:ae}:∀{t s:ae},lU p t->Mp p s->cW t s=J:=by induction p with|nil=>(intro t s h e;rw[show t=[]from h];induction s with|nil=>exact ao e|cons d s _=>rfl)|cons c p a=>intro t s h e;obtain⟨d,j,q,b,f⟩:=h;rw[q];induction s with|nil=>rfl|cons i s _=>show br _ _ J=J;cases h:ac d i with|false=>rfl|true=> refine a f ?_;have e:br _ _ U=U:=e;rw[<-aK h,b]at e;exact e
def Oi{c:W}{l:ae}(h:uJ c l):c∈l:=by induction l with|nil=>exact ao h|cons d l a=>have h:br _ U _=U:=h;cases z:ac d c with|true=>exact aK z▸.head _|false=>rw[z]at h;exact .tail _ (a h)
def aaH{p t s:ae}{c:I}(h:lU p t)(e:X0 p s=O c):z1 (.str t) (.str s)=O c:=mZ e λf r d e=>by rw[d]at h;obtain⟨d,j,q,b,d⟩:=h;refine lh e λl e=>bW e λa e=>?_;rw[l]at d;rw[q,show j=[]from d];(have i:=by cases z:bd anyS f with|false=>(have:Zn f=[]:=by(have d:∀n,anyS<n->ac f n=J:=λn a=>jW λq=>by rw[q,hH (jM a)]at z;exact ao z.symm);unfold Zn;rw[d _ (aO Z),d _ (aO Z),d _ (aO Z),d _ (aO Z),d _ (aO Z)];rfl);rw[this]at a;exact ao a|true=>have b:br _ _ _=U:=b;rw[z]at b;cases y:ac f anyS with|true=>rw[aK y]at a;exact ao a|false=>rw[y]at b;exact Oi b);show O _=O c;refine jj e (λh e=>?_) λ_ e=>bW e λh e=>?_;rw[<-au e,ai h i];have z:=ai h i;rw[<-au e,(im _).mp z]
end
local macro_rules | `(tactic| trivial) => `(tactic| first | exact fun _ => RO.no | exact fun _ _ => RO.no | exact fun _ _ _ => RO.no | exact fun _ => aa | exact fun _ _ => aa | exact fun _ _ _ => aa)
section
variable{u A:Type}{S:u->A->Prop}{g:Gb}{a b a' b' v w:V}{ys B:af}{o:N u}{j:u8}{c:I}
def KN{f:V->N A}(e:w=v)(h:RO S o (f v)):RO S o (f w):=e▸h
def AM{s:ae}(h:Ga g a a')(e:dW a=O s):a'=a:=(show a'=.str s from h.as (gp e)).trans (gp e).symm
variable(E:Ga g a a')
def aaI(d:Ga g b b')(e:Zm a b=O c):a'=a/\b'=b:=have S:L6 a b=O c->a'=a/\b'=b:=λe=>have z:=FG e;⟨tC 30 z.1 E,tC 30 z.2 d⟩;md e (λx f e=>md e (λy e _=>⟨AM E f,AM d e⟩) λ_=>S) λ_=>S
def aaJ(f:cu g ys B)(e:inD a ys=O c):a'=a/\B=ys:=md e (λx d e=>bL d λs h d=>⟨AM E h,all_eq (tC 29) (FH d).1 f⟩) λ_ e=>bW e λd e=>bW e λh e=>⟨tC 30 d E,all_eq (tC 29) h f⟩
def Oj(d:Ga g b b'):RO (·=·) (Zm a b) (Zm a' b'):=λc e=>have z:=aaI E d e;⟨c,by rw[z.1,z.2];exact e,Z⟩
def aaK:Ga g a a'->RO (·=·) (u5 a .none) (u5 a' .none):=have k:∀{x o},a'=x->RO (·=·) o (u5 x .none)->RO (·=·) o (u5 a' .none):=λe h=>e▸h;Vc (M:=λa=>Ga g a a'->RO (·=·) (u5 a .none) (u5 a' .none)) a (no:=λh=>k h (.so Z)) (bo:=λb h=>k h (.so Z)) (i:=λb h=>k h (.so Z)) (s:=λb h=>k h (.so Z)) (tu:=λl h=>by obtain⟨l,q,_⟩:=h;exact k q (.so Z)) (ls:=λl h=>by obtain⟨l,q,_⟩:=h;exact k q (.so Z)) (ob:=λc l h=>by obtain⟨l,q,_⟩:=h;exact k q (.so Z)) (cl:=λb h=>k h (.so Z)) (fn:=λb h=>k h (.so Z)) (cd:=λb h=>k h (.so Z)) (me:=λb h=>k h (.so Z)) (pa:=λh=>k h (.so Z)) (ta:=λh=>pr h) (sy:=λp h=>by obtain⟨z,q,_⟩:=h;exact k q (.so Z)) (bu:=λl e h=>k h.1 (.so Z)) (ws:=λl h=>by obtain⟨z,q,_⟩:=h;exact k q (.so Z))
def aaL{x:I}:Ga g a a'->RO (·=·) (u5 a (.bool x)) (u5 a' (.bool x)):=have k:∀{y o},a'=y->RO (·=·) o (u5 y (.bool x))->RO (·=·) o (u5 a' (.bool x)):=λe h=>e▸h;Vc (M:=λa=>Ga g a a'->RO (·=·) (u5 a (.bool x)) (u5 a' (.bool x))) a (no:=λh=>k h (.so Z)) (bo:=λb h=>k h (.so Z)) (i:=λb h=>k h (.so Z)) (s:=λb h=>k h (.so Z)) (tu:=λl h=>by obtain⟨l,q,_⟩:=h;exact k q (.so Z))
def Ol:Ga g b b'->RO (·=·) (u5 a b) (u5 a' b'):=Vc (M:=λb=>Ga g b b'->RO (·=·) (u5 a b) (u5 a' b')) b (no:=λh=>KN h (aaK E)) (bo:=λx h=>KN h (aaL E))
def vf{fi:D->D->I}{d:ae->ae->I}(e:Ga g b b'):Ga g a a'->RO (·=·) (uK a b fi d) (uK a' b' fi d):=Vc (M:=λa=>Ga g a a'->RO (·=·) (uK a b fi d) (uK a' b' fi d)) a (i:=λx h=>KN (f:=λa'=>uK a' b' fi d) h ((uW e).m1 λ_=>Z)) (s:=λx h=>KN (f:=λa'=>uK a' b' fi d) h ((xh e).m1 λ_=>Z))
def Om(d:Ga g b b'):RO (·=·) (z1 a b) (z1 a' b'):=λc e=>md e (λy f _=>by
  have q:=gp f;rw[AM d f,q];rw[q]at e;have z:RO (·=·) (bn (dW a) λx=>lc x C λc r=>lc r (O (uJ c y)) λ_ _=>C) (bn (dW a') λx=>lc x C λc r=>lc r (O (uJ c y)) λ_ _=>C):=(xh E).e1 λ_=>.KZ;exact z c e) λf e=>bL e λl f e=>by
  obtain⟨m,q,r⟩:=(d.as (oq f):UH (cu g l) b');have z:=aaJ E r e;exact⟨c,by rw[q,z.1,z.2];exact e,Z⟩
def Gf{o:fQ}(h:RO (·=·) o d):RO (·=·) (mp o (!·)) (mp d (!·)):=h.m1 λ_=>Z
def Oo(d:Ga g b b'):RO (·=·) (kE j a b) (kE j a' b'):=py (motive:=λj=>RO (·=·) (kE j a b) (kE j a' b')) j (Oj E d) (Gf (Oj E d)) (vf d E) (vf d E) (vf d E) (vf d E) (Ol E d) (Gf (Ol E d)) (Om E d) (Gf (Om E d))
def known:Ga g a w->iK w=C/\mX w=C/\mW w=C:=by have k:∀{v},w=v->(iK v=C/\mX v=C/\mW v=C)->iK w=C/\mX w=C/\mW w=C:=λe h=>e▸h;exact V.casesOn (motive_1:=λa=>Ga g a w->iK w=C/\mX w=C/\mW w=C) a (λh=>k h ⟨Z,Z,Z⟩) (λ_ h=>k h ⟨Z,Z,Z⟩) (λ_ h=>k h ⟨Z,Z,Z⟩) (λ_ h=>k h ⟨Z,Z,Z⟩) (λ_ h=>by obtain⟨l,q,_⟩:=h;exact k q ⟨Z,Z,Z⟩) (λ_ h=>by obtain⟨l,q,_⟩:=h;exact k q ⟨Z,Z,Z⟩) (λ_ _ h=>by obtain⟨l,q,_⟩:=h;exact k q ⟨Z,Z,Z⟩) (λ_ h=>k h ⟨Z,Z,Z⟩) (λ_ h=>k h ⟨Z,Z,Z⟩) (λ_ h=>k h ⟨Z,Z,Z⟩) (λ_ h=>k h ⟨Z,Z,Z⟩) (λ_ h=>k h ⟨Z,Z,Z⟩) (λh=>k h ⟨Z,Z,Z⟩) pr (λ_ h=>by obtain⟨l,q,_⟩:=h;exact k q ⟨Z,Z,Z⟩) (λ_ _ h=>k h.1 ⟨Z,Z,Z⟩) (λh=>V.casesOn (motive_1:=λw=>solid w=U->iK w=C/\mX w=C/\mW w=C) w (λ_=>⟨Z,Z,Z⟩) (λ_ _=>⟨Z,Z,Z⟩) (λ_ _=>⟨Z,Z,Z⟩) (λ_ _=>⟨Z,Z,Z⟩) (λ_ _=>⟨Z,Z,Z⟩) (λ_ _=>⟨Z,Z,Z⟩) (λ_ _ _=>⟨Z,Z,Z⟩) (λ_ _=>⟨Z,Z,Z⟩) (λ_ _=>⟨Z,Z,Z⟩) (λ_ _=>⟨Z,Z,Z⟩) (λ_ _=>⟨Z,Z,Z⟩) (λ_ _=>⟨Z,Z,Z⟩) (λ_=>⟨Z,Z,Z⟩) (λ_=>⟨Z,Z,Z⟩) aV iz (λ_=>⟨Z,Z,Z⟩) aV h) λ_ h=>by obtain⟨l,q,_⟩:=h;exact k q ⟨Z,Z,Z⟩
def CW{p:Sy}:iK v=O p->v=.sym p:=Vc (M:=λv=>iK v=O p->v=.sym p) v (no:=aa) (sy:=λ_ h=>ah V.sym (au h)) (un:=aa) (pa:=aa) (ta:=aa)
def Oq{p:ae}:mX v=O p->v=.Zj p:=Vc (M:=λv=>mX v=O p->v=.Zj p) v (no:=aa) (ws:=λ_ h=>ah V.Zj (au h)) (un:=aa) (pa:=aa) (ta:=aa)
def CX{p:ae×I}:mW v=O p->v=.buf p.1 p.2:=Vc (M:=λv=>mW v=O p->v=.buf p.1 p.2) v (no:=aa) (bu:=λ_ _ h=>(au h)▸Z) (un:=aa) (pa:=aa) (ta:=aa)
def IF{p:Sy}(h:Ga g a a')(e:iK a=O p):KY g p a':=h.as (CW e)
def UM(f:dy g)(E:Ga g a a'):Ga g b b'->BV j a b=O c->kE j a' b'=O c:=by refine Vc (M:=λb=>Ga g b b'->BV j a b=O c->kE j a' b'=O c) b (i:=λm h e=>bL e λp d e=>?_) (s:=λs h e=>bL e λp d e=>?_) (sy:=λq h=>?_);obtain⟨z,q,r⟩:=IF E d;rw[q,show b'=.int m from h,AL];exact Of f r e;obtain⟨t,q,r⟩:=(E.as (Oq d):Od p a');rw[q,show b'=.str s from h];have n:=λd=>Oh (s:=s) r d;have w:=λc e=>aaH (s:=s) (c:=c) r e;exact py (motive:=λj=>ź j p s=O c->kE j (.str t) (.str s)=O c) j (λe=>bW e λd e=>(ah O (n d):kE .Eq (.str t) (.str s)=O J).trans e) (λe=>bW e λd e=>(ah (λb=>O (!b)) (n d):kE .NotEq (.str t) (.str s)=O U).trans e) aa aa aa aa aa aa (λe=>w c e) (λe=>iJ e λb d e=>(ah (mp · (!·)) (w b d):kE .NotIn (.str t) (.str s)=O !b).trans (ah O e)) e;obtain⟨y,d,r⟩:=(h:KY g q b');rw[d];refine(Vc (M:=λa=>Ga g a a'->BV j a (.sym q)=O c->kE j a' (.int y)=O c) a (no:=λh e=>?_) (i:=λm h e=>?_) (sy:=λp h e=>?_)) E;rw[show a'=.none from h];exact py (motive:=λj=>six j (O J) (O U) C C C C=O c->kE j .none (.int y)=O c) j id id aa aa aa aa aa aa aa aa e;rw[show a'=.int m from h,AL];exact Og f r e;obtain⟨x,d,i⟩:=(h:KY g p a');rw[d,AL];exact UL f i r e
def UN(E:Ga g v a)(e:Ga g w b):BV j a b=C:=by have d:=known E;have f:=(known e).1;exact Vc (M:=λb=>iK b=C->BV j a b=C) b (no:=λ_=>Z) (bo:=λ_ _=>Z) (i:=λm _=>by show bn (iK a) _=C;rw[d.1];rfl) (s:=λm _=>by show bn (mX a) _=C;rw[d.2];rfl) (tu:=λ_ _=>Z) (ls:=λ_ _=>Z) (ob:=λ_ _ _=>Z) (cl:=λ_ _=>Z) (fn:=λ_ _=>Z) (bi:=λ_ _=>Z) (cd:=λ_ _=>Z) (me:=λ_ _=>Z) (pa:=λ_=>Z) (ta:=λ_=>Z) (sy:=λ_ h=>aa h.symm) (bu:=λ_ _ _=>Z) (un:=λ_=>Z) (ws:=λ_ _=>Z) f
def Ot{e f:Type}{R:e->f->Prop}{o p:N e}{h d:N f}(i:∀a,o=O a->∃b,d=O b/\R a b)(k:RO R p d)(n:h=C):RO R (Ev.oc o O p) (Ev.oc h O d):=λa e=>by rw[n];exact md e (λb d e=>au e▸i b d) λ_ e=>k a e
def IG(e:dy g)(E:Ga g a a')(d:Ga g b b'):RO (·=·) (ph j a b) (ph j a' b'):=Ot (λc f=>⟨c,UM e E d f,Z⟩) (Oo E d) (UN E d)
end
def j1(k n m:D):k+n-m=k+(n-m):=n! k n m
def j2(k n m:D):k+n-(k+m)=n-m:=ly k n m
def j5(a b c d:D):a+b+(c+d)=a+c+(b+d):=by rw[ej,Int.add_left_comm b,<-ej]
def j3(k s n m:D):k+s+n-(k+m)=s+(n-m):=by rw[ej];exact(ly k _ m).trans (n! s n m)
def j4(k n z:D)(h:k<=900)(a:0<=z):k+n-z<=900+n:=gP (q7 _ a) (lB h n)
section
variable{P:Prop}{u:nw}{g:Gb}{a b a' b' v:V}{w su:N V}{r:V}
def å(h:XO u w su C C C=O r)(k:u=.Add->w=O r->P)(l:u=.Sub->su=O r->P):P:=by induction u with|Add=>exact k Z h|Sub=>exact l Z h|_=>exact aa h
def iG(h:x=y):Ga g (.int y) (.int x):=ah V.int h
def sG{p:Sy}(h:CU g z p):Ga g (.sym p) (.int z):=⟨z,Z,h⟩
def IH(j:dy g)(c:Ga g a a')(f:Ga g b b')(e:J9 u a b=O v):∃x y,a'=.int x/\b'=.int y/\((u=.Add/\Ga g v (.int (x+y)))∨(u=.Sub/\Ga g v (.int (x-y)))):=bL e λp d e=>by obtain⟨x,k,h⟩:=IF c d;refine Sy.casesOn p (λd n h=>?_) kH bX gL gL h e;refine V.casesOn b bX gL (λm i e=>?_) gL gL gL kH gL gL gL gL gL bX bX (λq i=>?_) kH bX gL f;exact⟨x,m,k,i,å e (λo e=>.inl ⟨o,au e▸sG (h▸ej _ _ _)⟩) λo e=>.inr ⟨o,au e▸sG (h▸j1 _ _ _)⟩⟩;obtain⟨y,l,d⟩:=(i);refine Sy.casesOn q (λn m d e=>?_) kH (λd e=>?_) gL gL d;have d:=d;refine⟨x,y,k,l,å e (λo e=>.inl ⟨o,?_⟩) λo e=>.inr ⟨o,?_⟩⟩;exact bW e λc e=>bW e λf e=>oF c λc=>oF f λf=>au e▸sG (by rw[h,d,c,f];exact(j5 _ _ _ _).trans (j.tp▸Z));exact jj e (λi e=>oF i λi=>au e▸iG (by rw[h,d,i];exact j2 _ _ _)) λ_ e=>bW e λc e=>bW e λf e=>oF c λc=>oF f λf=>au e▸sG (by rw[h,d,c,f,j.tp];exact j3 _ _ _ _);have d:=d;exact⟨x,y,k,l,å e bX λo e=>.inr ⟨o,bW e λc e=>oF c λc=>au e▸sG (by rw[h,c];exact j4 _ _ _ j.le d)⟩⟩
def II(h:Ga g v a):J9 u a b=C:=by unfold J9;rw[(known h).1];rfl
def UO(c:Ga g b b'):Ga g a a'->RO (Ga g) (J8 a b) (J8 a' b'):=have k:∀{x o},a'=x->RO (Ga g) o (J8 x b')->RO _ o _:=λe h=>e▸h;Vc (M:=λa=>Ga g a a'->RO _ _ _) a (i:=λx h=>k h ((uW c).m1 λ_=>Z)) (s:=λx h=>k h ((xh c).e1 λy=>.gd λ_=>.so Z)) (ls:=λx h=>by obtain⟨l,q,r⟩:=h;exact k q ((UJ c).bn λy z s=>by rw[cu.ak r,cu.ak s];exact .gd λ_=>.so ⟨_,Z,cu.app r s⟩))
def IJ(c:Ga g a a')(d:Ga g b b'):RO (Ga g) (Mq a b) (Mq a' b'):=(uW c).e1 λ_=>(uW d).m1 λ_=>Z
def Gg{c d:Type}{S:c->d->Prop}{z:N c}{e:N d}{f:W->N c}{h:W->N d}{n:W}(i:RO S z e)(k:∀n,RO S (f n) (h n)):RO S (gh n z f) (gh n e h):=by induction n with|zero=>exact i|succ n _=>exact k n
def Ou{R:V->V->Prop}{h i l:N V}(n:RO R c i)(o:RO R d j)(p:RO R e k)(q:RO R f l)(s:RO R h m):RO R (XO u c d e f h) (XO u i j k l m):=by induction u with|Add=>exact n|Sub=>exact o|Mult=>exact p|Mod=>exact q|FloorDiv=>exact s|_=>exact .no
def Ov(c:Ga g a a')(d:Ga g b b'):RO (Ga g) (yS u a b) (yS u a' b'):=Ou (UO d c) (IJ c d) ((xh c).e1 λx=>(xg d).e1 λn=>.gd λ_=>.gd λ_=>.so Z) ((uW c).e1 λx=>(xg d).e1 λm=>Gg .no λn=>.so Z) ((uW c).e1 λx=>(xg d).e1 λm=>Gg .no λn=>.gd λ_=>.so Z)
def UP(e:dy g)(c:Ga g a a')(d:Ga g b b'):RO (Ga g) (qw u a b) (qw u a' b'):=Ot (λv f=>by obtain⟨x,y,h,i,q⟩:=IH e c d f;rw[h,i];exact q.elim (λq=>by rw[q.1];exact⟨_,Z,q.2⟩) λq=>by rw[q.1];exact⟨_,Z,q.2⟩) (Ov c d) (II c)
def IK(e:dy g)(d:Ga g a a')(c:Ga g b b'):RO (Ga g) (Ka u a b) (Ka u a' b'):=Ot (λv f=>by obtain⟨x,y,h,i,q⟩:=IH e d c f;rw[h,i];exact q.elim (λq=>by rw[q.1];exact⟨_,Z,q.2⟩) λq=>by rw[q.1];exact⟨_,Z,q.2⟩) (Ou ((Vc (M:=λa=>Ga g a a'->RO _ _ _) a (i:=λx h=>by rw[show a'=.int x from h];exact(uW c).m1 λ_=>Z) (s:=λx h=>by rw[show a'=.str x from h];exact(xh c).e1 λy=>.gd λ_=>.so Z)) d) (IJ d c) .no .no .no) (II d)
def mpG{c:Type}{o:N c}{f:c->V}(k:∀a,Ga g (f a) (f a)):RO (Ga g) (mp o f) (mp o f):=RO.KZ.m1 k
def K1(c:Ga g b b')(e:Ga g a a'):RO (Ga g) (Ff a b) (Ff a' b'):=(xg c).e1 λn=>have k:∀{x o},a'=x->RO _ o (dP x C (s:=λs=>mp (jl s n) λd=>.str [d]) (tu:=λc=>jl c n) (ls:=λc=>jl c n))->RO _ o _:=λf h=>f▸h;(Vc (M:=λa=>Ga g a a'->RO (Ga g) (dP a C (s:=λs=>mp (jl s n) λd=>.str [d]) (tu:=λc=>jl c n) (ls:=λc=>jl c n)) _) a (s:=λs h=>k h (mpG λ_=>Z)) (tu:=λl h=>by obtain⟨m,q,r⟩:=h;exact k q (cu.U? r)) (ls:=λl h=>by obtain⟨m,q,r⟩:=h;exact k q (cu.U? r))) e
def UQ{p:ae}:∀{s:ae}{n c:W},lU p s->jl p n=O c->∃d,jl s n=O d/\yc c d:=by induction p with|nil=>exact λ_ e=>aa e|cons d p f=>intro s n c h e;obtain⟨b,t,q,i,j⟩:=h;rw[q];induction n with|zero=>exact⟨b,Z,(show d=c from au e)▸i⟩|succ n _=>exact(f (s:=t) j e:∃d,jl t n=O d/\yc c d=U)
def CY(h:bd anyS c=J)(k:yc c d):c=d:=by have k:br (bd anyS c) (br (ac c anyS) U (uJ d (Zn c))) (ac c d)=U:=k;rw[h]at k;exact aK k
def UR{c:Type}{l:Y c}{d:c}(h:jl ((l.drop k).take m) n=O d):jl l (k+n)=O d:=by rw[ot,List.getElem?_take]at h;rw[ot,<-List.getElem?_drop];by_cases q:n<m;rw[eP q]at h;exact h;rw[eH q]at h;exact aa h
def IL(h:Ga g b b')(e:Mr b=O n)(c:0<=g.base 4):b'=.int ((g.base 4).toNat+n:W):=bL e λp d e=>by obtain⟨z,q,r⟩:=IF h d;refine Sy.casesOn (motive:=λp=>CU g z p->qv p C (off:=λk n=>gd (ac k 4) (natOf n))=O n->b'=.int ((g.base 4).toNat+n:W)) p (λk i r e=>bW e λh e=>oF h λh=>?_) kH bX gL gL r e;have r:z=g.base k+i:=r;rw[q,r,h,wx e,fP,yL c]
def Ox(c:Ga g a a')(d:Ga g b b'):RO (Ga g) (iL a b) (iL a' b'):=λv e=>by unfold iL;rw[(known c).3];refine md e (λl i e=>bL e λn j e=>bL e λf k e=>?_) λ_ e=>K1 d c v e;obtain⟨q,h⟩:=(c.as (CX i):UI g l.1 l.2 a');rw[q,IL d j h.1];obtain⟨d,i,c⟩:=UQ h.3 k;refine⟨.str [d],(ah (mp · λf=>V.str [f]) (UR i):_),jj e (λ_ e=>jj e bX λ_ e=>?_) λh e=>?_⟩;exact au e▸(⟨[d],Z,d,[],Z,c,Z⟩:Od [f] (.str [d]));exact au e▸CY h c▸Z
end
section
variable{g:Gb}{a b a' v w:V}{vs ws as B:af}{ks A H L:aY}{F G u E:N V}{n:W}
def AN(h:m9 (Ga g) F u)(n:W):RO (·=·) (Zo F n) (Zo u n):=RO.oc h (λ_ _=>xg) (.so Z)
def CZ{p:ae}:∀{s:ae}(n:W),lU p s->lU (p.take n) (s.take n):=by induction p with|nil=>exact λn h=>by rw[show _=[]from h,sM];exact Z|cons i p c=>intro s n h;obtain⟨d,t,q,e,f⟩:=h;rw[q];induction n with|zero=>exact Z|succ n _=>exact⟨d,t.take n,Z,e,c n f⟩
def C6{p:ae}:∀{s:ae}(n:W),lU p s->lU (p.drop n) (s.drop n):=by induction p with|nil=>exact λn h=>by rw[show _=[]from h,zX];exact Z|cons d p c=>intro s n h;induction n with|zero=>exact h|succ n _=>obtain⟨d,t,q,d,d⟩:=h;rw[q];exact c n d
def aaN{p:ae}:∀{s:ae},Mu p->lU p s->s=p:=by induction p with|nil=>exact λ_ h=>h|cons c p d=>intro s e h;obtain⟨j,t,q,f,i⟩:=h;have e:br _ J _=U:=e;cases z:bd anyS c with|true=>rw[z]at e;exact ao e|false=> rw[z]at e;rw[q,d e i];exact CY z f▸Z
def Oy{p s:ae}(h:lU p s):Ga g (BX p) (.str s):=by unfold BX;cases e:Mu p with|true=>exact ah V.str (aaN e h)|false=>exact⟨s,Z,h⟩
def Oz(f:Ga g a a')(c:m9 (Ga g) F u)(d:m9 (Ga g) G E):RO (Ga g) (yV a F G) (yV a' u E):=λv e=>by have k:∀{x o},a'=x->RO (Ga g) o (yV x u E)->RO _ o _:=λe h=>e▸h;refine V.casesOn a bX gL gL (λs h=>k h (o:=bn _ λa=>mp _ λb=>.str _) ((AN c 0).e1 λa=>(AN d _).m1 λb=>Z) v) gL (λl h=>?_) kH gL gL gL gL gL bX bX gL kH bX gL f e;obtain⟨m,q,r⟩:=h;refine k q ((AN c 0).e1 λa=>?_) v;rw[cu.ak r];exact(AN d _).m1 λb=>⟨_,Z,(cu.take r).drop⟩
def ŗ{n:W}(h:m9 (Ga g) F u)(e:bn F Mr=O n)(c:0<=g.base 4):u=O (.int ((g.base 4).toNat+n:W)):=bL e λx d e=>by obtain⟨y,f,i⟩:=h.ro x d;rw[f,IL i e c]
def US(d:Ga g a a')(h:m9 (Ga g) F u)(k:m9 (Ga g) G E):RO (Ga g) (BY a F G) (BY a' u E):=λv e=>by unfold BY;rw[(known d).3];refine md e (λl f e=>bL e λi G e=>bL e λj m e=>?_) λ_ e=>Oz d h k v e;obtain⟨q,c⟩:=(d.as (CX f));rw[q,ŗ h G c.1,ŗ k m c.1];have d:lU ((l.1.take j).drop i) (((g.txt.drop (g.base 4).toNat).take j).drop i)->BX _=v->∃b,yV (.str g.txt) (O (.int ((g.base 4).toNat+i))) (O (.int ((g.base 4).toNat+j)))=O b/\Ga g v b:=λh q=>⟨.str _,Z,q▸(by rw[List.take_drop,e8]at h;exact Oy h)⟩;refine jj e (λh e=>d (C6 i ?_) (au e)) λ_ e=>bW e λk e=>d (C6 i ?_) (au e);have z:=CZ j c.3;have f:=c.4 h;rw[Hr (l:=g.txt.drop _) (by rw[uh];exact Nat.sub_le_iff_le_add.mpr (jw.mp (by rw[f,fP,yL c.1,nU];exact pL _)))]at z;exact z;have z:=CZ j c.3;rw[List.take_take,yN (aB l.1▸cw k)]at z;exact z
def OA(e:o6 g ks A){c:jN}:∀{as B:af},aH (λp=>oc p.2 LZ U) c=U->cu g as B->RO (o6 g) (Hy ks c as) (Hy A c B):=by induction c with|nil=>exact λ_ h=>ng h (.so Z) λ_ _ _ _ _ _=>.no|cons p c d=>refine λc h=>cp c λf c=>ng h (RO.bn (RO.oc (e.lk p.1) (λ_ _ q=>.so q) ?_) λv w q=>(d c (as:=[]) (Z)).mp λl m r=>.mk q r) λv w l m q r=>(d c r).mp λl m r=>.mk q r;cases e:p.2 with|none=>exact .no|some i=>exact .so (tw (il (ah (λo=>oc o LZ U) e) f))
def afj:∀{ks A:aY},o6 g ks A->kwOk c ks=kwOk c A:=by intro ks;induction ks with|nil=>exact λh=>by rw[show _=[]from h]|cons p r e=> intro A h;obtain⟨q,m,f,⟨i,_⟩,d⟩:=h.un;rw[f];show oc _ (λ_=>oc _ aaE (kwOk c r)) J=oc _ (λ_=>oc _ aaE (kwOk c m)) J;rw[i,e d];exact ah (λz=>oc _ (λ_=>z) J) ((d.lk p.1).elim (λz=>by rw[z.1,z.2]) λz=>by obtain⟨x,y,c,d,_⟩:=z;rw[c,d];rfl)
def C7(f:aH (λp=>oc p.2 LZ U) c=U)(e:cu g as B)(d:o6 g ks A):RO (o6 g) (pQ c as ks) (pQ c B A):=by unfold pQ;rw[e.len,afj d];exact .gd λ_=>OA d f e
def K3(h:o6 g H L){l:Y (W×W)}:RO (o6 g) (fieldsOf H l) (fieldsOf L l):=by induction l with|nil=>exact .so Z|cons p l c=>exact(h.lk p.2).ro.bn λv w q=>c.mp λl m r=>.mk q r
def OB{l:ae}:∀{vs ws:af},cu g vs ws->RO (o6 g) (z6 l vs) (z6 l ws):=by induction l with|nil=>exact λh=>ng h (.so Z) λ_ _ _ _ _ _=>.no|cons k l c=>exact λh=>ng h .no λv w x y q r=>(c r).mp λl m r=>.mk q r
def aaO{vs:af}:∀{ws:af},cu g vs ws->RO (·=·) (cat vs) (cat ws):=by induction vs with|nil=>exact λh=>by rw[show _=[]from h];exact .so Z|cons v vs c=> intro ws h;obtain⟨w,m,e,q,r⟩:=h.un;rw[e];exact(xh q).e1 λs=>(c r).m1 λ_=>Z
end
structure Ab where
 g:Gb
 gw:dy g
 ll:W->I
 dm:W->I
 pre:af
 pl:(pre.length:D)=g.base 6
 bY:pre.length<=100000
 J:af->PG->Prop
 î:∀t p a x k,ll a=false->dm a->J t p->J t {p with par:=put a x p.par,bD:=k}
 δ:W
section
variable(A:Ab)
def Ŗ(l:af)(q:af):=∃m,q=A.pre++m/\cu A.g l m
def yp(q p:PA):=x8 q (λv=>∃w,p=.val w/\Ga A.g v w) (λl=>∃m,p=.lst m/\cu A.g l m) (λl=>∃m,p=.kX m/\qa A.g l m) (λl=>∃m,p=.vL m/\qa A.g l m) λl=>∃m,p=.lst m/\Ŗ A l m
def vg(c d:Cn):=yd c Ch (λl=>∃m,d=.lst m/\cu A.g l m) (λl=>∃m,d=.kX m/\qa A.g l m) (λl=>∃m,d=.vL m/\qa A.g l m) λl=>∃m,d=.lst m/\Ŗ A l m
def A?(g:Gb)(l k:LV):=Kb l (λv=>∃w,k=.val w/\Ga g v w) λb=>∃a,k=.own a/\cu g b a
def Gh(g:Gb)(l a:cz):=∀x,m9 (A? g) (aj x l) (aj x a)
structure RP(p p':PG):Prop where
 tG:∀a,A.ll a=J->m9 (yp A) (aj a p.par) (aj a p'.par)
 abs:∀a,A.ll a->aj a p.par=C
 j:A.J p.aG p'
 bD:p'.bD=p.bD+A.δ
 len:p'.par.length<=900000
 zo:∀a,(aj a p.par).isSome=A.dm a
structure RS(s s':St):Prop where
 loc:Gh A.g s.loc s'.loc
 pg:RP A s.pg s'.pg
abbrev RV:V×St->V×St->Prop:=LY (Ga A.g) (RS A)
abbrev RVs:af×St->af×St->Prop:=LY (cu A.g) (RS A)
abbrev UT:V×PG->V×PG->Prop:=LY (Ga A.g) (RP A)
def Ys(a:jN):I:=aH (λp=>oc p.2 LZ U) a
structure iB(G H:cQ):Prop where
 gl:G.gl=H.gl
 LL:∀x v,H.gl x=O v->LZ v=U
 cls:G.cls=H.cls
 OC:∀c C,H.cls c=O C->Ys C.params/\u! C.consts=U
 du:G.du=H.du
 mh:∀a,A.ll a->H.du a=J
 cA:G.cA=H.cA
 G2:∀a kvs,H.cA a=O kvs->u! kvs=U
 L8:∀a,A.ll a->H.cA a=none
 attr:∀a,G.bw a->H.bw a/\A.ll a=J/\A.dm a=U
 nA:G.dT=H.dT
 nE:G.dD=H.dD
 nP:G.qu=H.qu
 nI:G.ew=H.ew
 nJ:G.lH=H.lH
 nd:ac H.ew H.dD=J/\ac H.ew H.qu=J
 ro:G.ro=H.ro
 av:∀m as as' ks ks' p p',cu A.g as as'->o6 A.g ks ks'->RP A p p'->RO (UT A) (G.av m as ks p) (H.av m as' ks' p')
 func:∀m as as' ks ks' p p',cu A.g as as'->o6 A.g ks ks'->RP A p p'->RO (UT A) (G.func m as ks p) (H.func m as' ks' p')
 sup:∀m as as' p p',cu A.g as as'->RP A p p'->RO (UT A) (G.sup m as p) (H.sup m as' p')
 comp:∀a b d e l s,G.comp a b d e l s=none
end
section
variable{A:Ab}{G H:cQ}{lv:ae}{s s' r:St}{i:Type}{v w x:V}
def OD{l:Y (i×V)}(h:u! l=U):qa g l l:=by induction l with|nil=>exact Z|cons p l a=>exact cp h λb c=>⟨p,l,Z,⟨Z,tw b⟩,a c⟩
def C8{l:aY}(h:u! l=U){a:W}(e:aj a l=O v):LZ v:=by induction l with|nil=>exact aa e|cons p l b=>exact cp h λa c=>jj (e) (λ_ e=>au e▸a) λ_ e=>b c e
def flat(h:Ga A.g v w):dZ w=J/\dZ v=J/\jy v=jy w/\pe v=pe w:=by have k:∀{u},w=u->_->dZ w=J/\dZ v=J/\jy v=jy w/\pe v=pe w:=λe h=>e▸h;exact(V.casesOn (motive_1:=λv=>(∀{u},w=u->(dZ u=J/\dZ v=J/\jy v=jy u/\pe v=pe u)->dZ w=J/\dZ v=J/\jy v=jy w/\pe v=pe w)->Ga A.g v w->dZ w=J/\dZ v=J/\jy v=jy w/\pe v=pe w) v (λk h=>k h ⟨Z,Z,Z,Z⟩) (λ_ k h=>k h ⟨Z,Z,Z,Z⟩) (λ_ k h=>k h ⟨Z,Z,Z,Z⟩) (λ_ k h=>k h ⟨Z,Z,Z,Z⟩) (λ_ k h=>by obtain⟨l,q,_⟩:=h;exact k q ⟨Z,Z,Z,Z⟩) (λ_ k h=>by obtain⟨l,q,_⟩:=h;exact k q ⟨Z,Z,Z,Z⟩) (λ_ _ k h=>by obtain⟨l,q,_⟩:=h;exact k q ⟨Z,Z,Z,Z⟩) (λ_ k h=>k h ⟨Z,Z,Z,Z⟩) (λ_ k h=>k h ⟨Z,Z,Z,Z⟩) (λ_ k h=>k h ⟨Z,Z,Z,Z⟩) (λ_ k h=>k h ⟨Z,Z,Z,Z⟩) (λ_ k h=>k h ⟨Z,Z,Z,Z⟩) (λk h=>k h ⟨Z,Z,Z,Z⟩) (λ_ h=>pr h) (λ_ k h=>by obtain⟨l,q,_⟩:=h;exact k q ⟨Z,Z,Z,Z⟩) (λ_ _ k h=>k h.1 ⟨Z,Z,Z,Z⟩) (λ_ h=>V.casesOn w (λ_=>⟨Z,Z,Z,Z⟩) (λ_ _=>⟨Z,Z,Z,Z⟩) (λ_ _=>⟨Z,Z,Z,Z⟩) (λ_ _=>⟨Z,Z,Z,Z⟩) (λ_ _=>⟨Z,Z,Z,Z⟩) (λ_ _=>⟨Z,Z,Z,Z⟩) (λ_ _ _=>⟨Z,Z,Z,Z⟩) (λ_ _=>⟨Z,Z,Z,Z⟩) (λ_ _=>⟨Z,Z,Z,Z⟩) (λ_ _=>⟨Z,Z,Z,Z⟩) aV (λ_ _=>⟨Z,Z,Z,Z⟩) ao ao aV iz (λ_=>⟨Z,Z,Z,Z⟩) aV h) λ_ k h=>by obtain⟨l,q,_⟩:=h;exact k q ⟨Z,Z,Z,Z⟩) k h
def OE{P:Prop}{l:LV}(h:A? A.g l k)(f:∀v w,l=.val v->k=.val w->Ga A.g v w->P)(o:∀a b,l=.own a->k=.own b->cu A.g a b->P):P:=LV.casesOn (motive:=λb=>l=b->A? A.g b k->P) l (λv e h=>by obtain⟨w,q,r⟩:=h;exact f v w e q r) (λa e h=>by obtain⟨w,q,r⟩:=h;exact o a w e q r) Z h
def tH(h:RS A s s'):iR lv s=iR lv s':=ah (λz=>br _ z J) ((h.loc 0).elim (λq=>by rw[q.1,q.2]) λq=>by obtain⟨l,k,a,b,c⟩:=q;rw[a,b];exact OE c (λv w e a r=>by rw[e,a];exact(flat r).3) λb b e a _=>by rw[e,a];rfl)
variable(j:iB A G H)
def OF{q:PA}:yp A q a->m9 (vg A) (Ms G q) (Ms H a):=PA.casesOn q (λv h=>by obtain⟨w,e,r⟩:=h;rw[e];show m9 _ (bn _ λk=>mp _ Cn.vL) (bn _ λk=>mp _ Cn.vL);rw[(flat r).4,j.cA];cases pe w with|none=>exact .no|some k=>cases e:H.cA k with|none=>exact(by rw[show(bn (O k) λk=>mp _ Cn.vL)=C from ah _ e];exact .no)|some l=>exact(by rw[show(bn _ λk=>mp _ Cn.vL)=O _ from ah _ e];exact .so ⟨l,Z,OD (j.G2 k l e)⟩)) (λ_ h=>by obtain⟨m,e,r⟩:=h;rw[e];exact .so ⟨m,Z,r⟩) (λ_ h=>by obtain⟨m,e,r⟩:=h;rw[e];exact .so ⟨m,Z,r⟩) (λ_ h=>by obtain⟨m,e,r⟩:=h;rw[e];exact .so ⟨m,Z,r⟩) λ_ h=>by obtain⟨m,e,r⟩:=h;rw[e];exact .so ⟨m,Z,r⟩
def C9(h:RS A s s')(p:Pl):m9 (vg A) (iS G lv s p) (iS H lv s' p)∨(iS G lv s p=C/\∃a,p=.bU a/\A.ll a/\iR lv s=U):=by refine Pl.casesOn p (λx=>.inl ?_) λa=>?_;(show m9 _ (gd _ _) (gd _ _);cases aq lv x with|false=>exact .no|true=>(refine(h.loc x).elim (λq=>by rw[q.1,q.2];exact .no) λq=>?_;obtain⟨l,k,b,d,f⟩:=q;rw[b,d];refine OE f (λv w e b r=>?_) λd d e b r=>by rw[e,b];exact .so ⟨d,Z,r⟩);rw[e,b];show m9 _ (gd (dZ v) _) (gd (dZ w) _);rw[(flat r).1,(flat r).2];exact .no);have c:=tH (lv:=lv) h;show m9 _ (gd _ _) (gd _ _)∨_;cases q:iR lv s with|false=>rw[c]at q;exact .inl (by rw[q];exact .no)|true=>have g:=il c q;cases b:A.ll a with|true=>exact .inr ⟨by show gd _ _=C;rw[h.pg.abs a b,j.cA,j.L8 a b,q];rfl,a,Z,b,Z⟩|false=>rw[g];refine .inl ((h.pg.tG a b).elim (λz=>?_) λz=>?_);(rw[z.1,z.2,j.cA];cases e:H.cA a with|none=>exact .no|some l=>exact .so ⟨l,Z,OD (j.G2 a l e)⟩);obtain⟨a,a,a,b,c⟩:=z;rw[a,b];exact OF j c
def o7(h:RS A s s')(p:Pl):RO (vg A) (iS G lv s p) (iS H lv s' p):=(C9 j h p).elim m9.ro λq=>by rw[q.1];exact .no
end
section
variable{A:Ab}{G H:cQ}{s r:St}{v w x y E i t:V}{c d:Cn}{as B vs ws:af}{a b n:W}{F L:Type}{S:F->L->Prop}
def OG{M:Cn->Cn->Prop}(h:vg A c d)(f:∀l m,cu A.g l m->M (.lst l) (.lst m))(g:∀l m,qa A.g l m->M (.kX l) (.kX m))(j:∀l m,qa A.g l m->M (.vL l) (.vL m))(k:∀l m,cu A.g l m->M (.Hv l) (.lst (A.pre++m))):M c d:=Cn.casesOn c (λl h=>by obtain⟨m,e,r⟩:=h;exact e▸f l m r) (λl h=>by obtain⟨m,e,r⟩:=h;exact e▸g l m r) (λl h=>by obtain⟨m,e,r⟩:=h;exact e▸j l m r) (λl h=>by obtain⟨m,e,n,f,r⟩:=h;exact e▸f▸k l n r) h
def qa.empty{e:Type}{l m:Y (e×V)}(h:qa A.g l m):l.isEmpty=m.isEmpty:=by induction l with|nil=>rw[show m=[]from h]|cons p l _=>obtain⟨q,k,e,_⟩:=h;rw[e];rfl
def qa.len{e:Type}{l:Y (e×V)}:∀{m:Y (e×V)},qa A.g l m->ak l=ak m:=by induction l with|nil=>exact λh=>by rw[show _=[]from h]|cons p l f=>exact λh=>by obtain⟨q,k,e,_,h⟩:=h;rw[e];exact ah pp (f h)
def UU(A:Ab):∃u us,A.pre=u::us:=by cases e:A.pre with|nil=>exact ch A.gw.six (by rw[<-A.pl,e];decide)|cons u us=>exact⟨u,us,Z⟩
def Dd(h:vg A c d):oW c=oW d:=OG (M:=λc d=>oW c=oW d) h (λ_ _ r=>ah (!·) (cu.empty r)) (λ_ _ r=>ah (!·) (qa.empty r)) (λ_ _ r=>ah (!·) (qa.empty r)) λ_ _ _=>by obtain⟨u,us,e⟩:=UU A;rw[e];rfl
def K4(h:vg A c d):m9 (Ga A.g) (vQ c) (vQ d):=OG (M:=λc d=>m9 (Ga A.g) (vQ c) (vQ d)) h (λl m r=>.so (iG (ah wv (cu.ak r).symm))) (λ_ _ _=>.no) (λ_ _ _=>.no) λl m r=>.so (sG (by show(ak (A.pre++m))=A.g.base 6+ak l;rw[aB,aX,fP,A.pl,aB,cu.len r]))
def AO{l:eu}:∀{m:eu},qa A.g l m->m9 (Ga A.g) (z5 k l) (z5 k m):=by induction l with|nil=>exact λh=>by rw[show _=[]from h];exact .no|cons p l e=>intro m h;obtain⟨q,m,f,⟨g,j⟩,h⟩:=h;rw[f];show m9 _ (br (a? (p.1=k)) (O p.2) (z5 k l)) (br (a? (q.1=k)) (O q.2) (z5 k m));rw[g];cases a? (p.1=k)with|true=>exact .so j|false=>exact e h
def IM{l:Y (ae×V)}:∀{m:Y (ae×V)},qa A.g l m->m9 (Ga A.g) (Fh k l) (Fh k m):=by induction l with|nil=>exact λh=>by rw[show _=[]from h];exact .no|cons p l e=>intro m h;obtain⟨q,m,f,⟨g,j⟩,h⟩:=h;rw[f];show m9 _ (br (cW p.1 k) (O p.2) (Fh k l)) (br (cW q.1 k) (O q.2) (Fh k m));rw[g];cases cW p.1 k with|true=>exact .so j|false=>exact e h
def UW(e:Ga A.g v w){l:eu}:∀{m:eu},qa A.g l m->qa A.g (dput k v l) (dput k w m):=by induction l with|nil=>exact λh=>by rw[show _=[]from h];exact⟨_,_,Z,⟨Z,e⟩,Z⟩|cons p l g=>intro m h;obtain⟨q,m,j,⟨f,o⟩,h⟩:=h;rw[j];show qa _ (br (a? (p.1=k)) ((k,v)::l) (p::dput k v l)) (br (a? (q.1=k)) ((k,w)::m) (q::dput k w m));rw[f];cases a? (p.1=k)with|true=>exact⟨_,_,Z,⟨Z,e⟩,h⟩|false=>exact⟨_,_,Z,⟨f,o⟩,g h⟩
def UX{l:eu}:∀{m:eu},qa A.g l m->qa A.g (ye k l) (ye k m):=by induction l with|nil=>exact λh=>by rw[show _=[]from h];exact Z|cons p l f=>intro m h;obtain⟨q,m,g,⟨e,j⟩,h⟩:=h;rw[g];show qa _ (br (a? (p.1=k)) l (p::ye k l)) (br (a? (q.1=k)) m (q::ye k m));rw[e];cases a? (p.1=k)with|true=>exact h|false=>exact⟨_,_,Z,⟨e,j⟩,f h⟩
def IP{R:V->V->Prop}(h:m9 R o e):o.isSome=e.isSome:=h.elim (λq=>by rw[q.1,q.2]) λq=>by obtain⟨_,_,e,f,_⟩:=q;rw[e,f];rfl
def Gi(h:vg A c d)(e:Ga A.g i t):RO (Ga A.g) (qz c i) (qz d t):=OG (M:=λc d=>RO (Ga A.g) (qz c i) (qz d t)) h (λ_ _ r=>(xg e).e1 λn=>cu.U? r) (λ_ _ r=>(uW e).e1 λk=>(AO r).ro) (λ_ _ r=>(xh e).e1 λk=>(IM r).ro) λ_ _ _=>.no
def int_str{F L:Type}{S:F->L->Prop}{e:D->N F}{h:D->N L}{g:ae->F}{j:ae->L}{x y:I}(m:x=y)(f:Ga A.g i t)(l:∀k,RO S (e k) (h k))(o:∀s,S (g s) (j s)):RO S (oc (gf i) e (gd x (mp (dW i) g))) (oc (gf t) h (gd y (mp (dW t) j))):=by cases h:gf i with|some k=>rw[wu h]at f;rw[show t=.int k from f];exact l k|none=> refine λa e=>bW e λg e=>iJ e λs h e=>?_;rw[gp h]at f;rw[show t=.str s from f,<-m,g];exact⟨_,Z,e▸o s⟩
def UY(e:Ga A.g v E){l:Y (ae×V)}:∀{m:Y (ae×V)},qa A.g l m->qa A.g (Mt k v l) (Mt k E m):=by induction l with|nil=>exact λh=>by rw[show _=[]from h];exact⟨_,_,Z,⟨Z,e⟩,Z⟩|cons p l g=>intro m h;obtain⟨q,m,j,⟨f,o⟩,h⟩:=h;rw[j];show qa _ (br (cW p.1 k) ((k,v)::l) (p::Mt k v l)) (br (cW q.1 k) ((k,E)::m) (q::Mt k E m));rw[f];cases cW p.1 k with|true=>exact⟨_,_,Z,⟨Z,e⟩,h⟩|false=>exact⟨_,_,Z,⟨f,o⟩,g h⟩
def K5(h:vg A c d)(e:Ga A.g i t):RO (·=·) (vR c i) (vR d t):=OG (M:=λc d=>RO (·=·) (vR c i) (vR d t)) h (λ_ _ _=>.no) (λl m r=>int_str (qa.empty r) e (λk=>.so (IP (AO r))) λs=>Z) (λ_ _ r=>(xh e).m1 λk=>IP (IM r)) λ_ _ _=>.no
def K7(h:vg A c d)(f:Ga A.g i t)(e:Ga A.g v E):RO (vg A) (yU c i v) (yU d t E):=OG (M:=λc d=>RO (vg A) (yU c i v) (yU d t E)) h (λ_ _ _=>.no) (λl m r=>int_str (qa.empty r) f (λk=>by rw[qa.len r];exact .gd λ_=>.so ⟨_,Z,UW e r⟩) λs=>⟨_,Z,⟨_,_,Z,⟨Z,e⟩,Z⟩⟩) (λ_ _ r=>(xh f).e1 λk=>by rw[qa.len r];exact .gd λ_=>.so ⟨_,Z,UY e r⟩) λ_ _ _=>.no
def De(e:Ga A.g v w)(h:cu A.g vs ws):cu A.g (pO n v vs) (pO n w ws):=h.take.app (.mk e h.drop)
def K8{p:af}:pO (p.length+n) v (p++vs)=p++pO n v vs:=by unfold pO;rw[List.take_append,List.drop_append,Hr (gb _ _),hq,List.drop_of_length_le (gb _ _),am];rfl
abbrev RM(A:Ab):V×Cn->V×Cn->Prop:=LY (Ga A.g) (vg A)
def xi(r:cu A.g vs ws):vg A (.lst vs) (.lst ws):=⟨ws,Z,r⟩
def OH(r:cu A.g vs ws):vg A (.Hv vs) (.lst (A.pre++ws)):=⟨_,Z,ws,Z,r⟩
variable(o:iB A G H)
def OI(r:cu A.g vs ws)(e:cu A.g as B):RO (RM A) (cX G (.lst vs) m as) (cX H (.lst ws) m B):=by unfold cX;rw[o.nA,o.nE,o.nP,o.nI];refine .br (λ_=>tq e λv w q=>?_) λ_=>.br (λ_=>tq e λv w q=>(UJ q).bn λl k q=>?_) λ_=>.br (λ_=>ng e (r.last.mp λv w q=>⟨q,xi r.dropLast⟩) λa b l m q h=>ng h ((xg q).e1 λn=>Gg (ng r .no λv w l m q r=>.so ⟨q,xi r⟩) λ_=>.no) λ_ _ _ _ _ _=>.no) λ_=>.gd λ_=>xf e λi t v w e f=>(xg e).e1 λn=>?_;rw[r.ak];exact .gd λ_=>.so ⟨Z,xi (r.app (.mk q Z))⟩;rw[r.ak,q.ak];exact .gd λ_=>.so ⟨Z,xi (r.app q)⟩;rw[r.ak];exact .gd λ_=>.gd λ_=>.so ⟨Z,xi (De f r)⟩
def IQ(r:cu A.g vs ws)(h:bd (ak vs) 800000):bd (ak (A.pre++ws)) 900000:=by rw[aB,aX,<-r.len,<-aB vs];exact hH (ay (g5 A.bY (cw h)) (aO Z))
def OJ(r:cu A.g vs ws)(f:cu A.g as B):RO (RM A) (cX G (.Hv vs) m as) (cX H (.lst (A.pre++ws)) m B):=by unfold cX;rw[o.nA,o.nI];refine .br (λ_=>tq f λv w q=>.L0 (IQ r) λ_=>.so ⟨Z,?_⟩) λ_=>λz e=>bW e λg e=>?_;rw[am];exact OH (r.app (.mk q Z));rw[aK g,o.nd.1,o.nd.2,cf];refine(xf f λi t v w g h z e=>bL e λp j e=>?_) z e;obtain⟨f,q,f⟩:=IF g j;refine Sy.casesOn p (λk j f e=>bW e λg e=>bL e λn j e=>bW e λk e=>bW e λl e=>oF g λg=>?_) kH bX gL gL f e;rw[q,f,g,wx j,<-A.pl];(have f:bd (A.pre.length+n) (ak (A.pre++ws)):=by rw[aB,aX,<-r.len,<-aB vs];exact hH (d9 (cw k) _));refine⟨(.none,.lst (A.pre++pO n w ws)),?_,au e▸⟨Z,OH (De h r)⟩⟩;show gd (bd (A.pre.length+n) (ak (A.pre++ws))) (gd (bd (ak (A.pre++ws)) 900000) (O (V.none,Cn.lst (pO (A.pre.length+n) w (A.pre++ws)))))=_;rw[f,IQ r l,K8];rfl
def xj(h:vg A c d)(e:cu A.g as B):RO (RM A) (cX G c m as) (cX H d m B):=OG (M:=λc d=>RO (RM A) (cX G c m as) (cX H d m B)) h (λ_ _ r=>OI o r e) (λ_ _ _=>.no) (λ_ _ _=>.no) λ_ _ r=>OJ o r e
def K9(h:vg A c d):vS c=vS d:=OG (M:=λc d=>vS c=vS d) h (λ_ _ _=>Z) (λ_ _ _=>Z) (λ_ _ _=>Z) λ_ _ _=>Z
def aaP(h:vg A c d):yp A (vP c) (vP d):=OG (M:=λc d=>yp A (vP c) (vP d)) h (λ_ m r=>⟨m,Z,r⟩) (λ_ m r=>⟨m,Z,r⟩) (λ_ m r=>⟨m,Z,r⟩) λ_ m r=>⟨_,Z,m,Z,r⟩
end
section
variable{A:Ab}{G H:cQ}{lv:ae}{s s' r F:St}{v w x y f E:V}{c d:Cn}{as u vs ws:af}{ks B:aY}{a b n:W}
def RP.put{p:PG}(h:RP A p e)(g:A.ll a=J)(i:A.dm a){x y:PA}(l:yp A x y){k j:W}(m:j=k+A.δ):RP A {p with par:=Ev.put a x p.par,bD:=k} {e with par:=Ev.put a y e.par,bD:=j}where
 tG:=λb e=>by
  by_cases q:b=a
  ·rw[q]
   rw[dk,dk];exact .so l
  ·show m9 _ _ _
   rw[bZ q,bZ q];exact h.tG b e
 abs:=λb e=>(bZ λq:b=a=>ao (il g (q▸e))).trans (h.abs b e)
 j:=A.î _ _ _ _ _ g i h.j
 bD:=m
 len:=(h.tG a g).elim (λq=>ao (il (ah sw q.1) ((h.zo a).trans i))) λq=>by obtain⟨_,_,_,e,_⟩:=q;exact ay (cZ (kM e)) h.len
 zo:=λb=>by
  by_cases q:b=a
  ·rw[q];exact(ah sw dk).trans i.symm
  ·exact(ah sw (bZ q)).trans (h.zo b)
def Gh.put{l:cz}(i:Gh g l e)(x:W){v w:LV}(h:A? g v w):Gh g (Ev.put x v l) (Ev.put x w e):=λb=>by by_cases q:b=x;rw[q,dk,dk];exact .so h;rw[bZ q,bZ q];exact i b
def RS.lr(h:RS A s s')(x:W){v w:LV}(e:A? A.g v w):RS A (aE s x v) (aE s' x w):=⟨h.loc.put x e,h.pg⟩
def UZ(a b d:W):ac (a+d) (b+d)=ac a b:=by rw[yO,R_,R_];exact Nat.add_right_cancel_iff
def calm_eq(h:RS A s s')(k:RS A r F):calm s r=calm s' F:=by unfold calm;rw[h.pg.bD,k.pg.bD,UZ]
def aaQ{q:PA}:yp A q e->BW q=BW e:=PA.casesOn q (λ_ h=>by obtain⟨w,e,_⟩:=h;rw[e];rfl) (λ_ h=>by obtain⟨w,e,_⟩:=h;rw[e];rfl) (λ_ h=>by obtain⟨w,e,_⟩:=h;rw[e];rfl) (λ_ h=>by obtain⟨w,e,_⟩:=h;rw[e];rfl) λ_ h=>by obtain⟨w,e,_⟩:=h;rw[e];rfl
def OL(h:RP A s.pg s'.pg){q:PA}(e:aj a s.pg.par=O q):A.ll a=J/\A.dm a/\∃g,aj a s'.pg.par=O g/\yp A q g:=by have g:=d8.mpr λz=>aa (il (h.abs a z) e);exact⟨g,il (h.zo a) (ah sw e),(h.tG a g).ro q e⟩
def zp{e:I}(h:RS A s s')(p:Pl)(i:vg A c d):RO (RS A) (hU e s p c) (hU e s' p d):=.br (λ_=>.no) λ_=>Pl.casesOn p (λx=>OG (M:=λc d=>RO _ (yd c C (ls:=λvs=>bn _ λl=>Kb l (λv=>gd (dZ v) (O (z4 s vs))) λ_=>O (aE s x (.own vs)))) (yd d C (ls:=λvs=>bn _ λl=>Kb l (λv=>gd (dZ v) (O (z4 s' vs))) λ_=>O (aE s' x (.own vs))))) i (λl m r=>(h.loc x).ro.bn λl k q=>OE q (λv w e g z=>by rw[e,g];exact .L0 (λt=>ao ((flat z).2.symm.trans t)) λt=>ao ((flat z).2.symm.trans t)) λvs ws e g _=>by rw[e,g];exact .so (h.lr x ⟨_,Z,r⟩)) (λ_ _ _=>.no) (λ_ _ _=>.no) λ_ _ _=>.no) λa=>λz e=>bL e λq g e=>bW e λj e=>by obtain⟨k,m,o,o,t⟩:=OL h.pg g;refine⟨Fg s' a (vP d),?_,au e▸⟨h.loc,h.pg.put k m (aaP i) h.pg.bD⟩⟩;show bn _ (λq=>gd _ _)=_;rw[o];exact ah _ (il (aaQ t) j)
def tJ{q:PA}:yp A q e->RO (Ga A.g) (pP q) (pP e):=PA.casesOn q (λ_ h=>by obtain⟨w,e,r⟩:=h;rw[e];exact .so r) (λ_ _=>.no) (λ_ _=>.no) (λ_ _=>.no) λ_ _=>.no
def Df(h:iB A G H){n:W}:RO (Ga A.g) (bn (G.cls n) λe=>aj a e.consts) (bn (H.cls n) λe=>aj a e.consts):=by rw[h.cls];intro v g;exact⟨v,g,bL g λe i g=>tw (C8 (h.OC n e i).2 g)⟩
def xk(e:iB A G H)(h:RS A s s')(a:W)(g:Ga A.g v w):RO (Ga A.g) (jm G v a s) (jm H w a s'):=by have k:∀{x o},w=x->RO (Ga A.g) o (jm H x a s')->RO _ o _:=λi h=>i▸h;refine V.casesOn v (λ_=>.no) (λ_ _=>.no) (λ_ _=>.no) (λ_ _=>.no) (λ_ _=>.no) (λ_ _=>.no) (λc l h=>?_) (λc h=>k h (Df e)) (λ_ _=>.no) (λ_ _=>.no) (λ_ _=>.no) (λ_ _=>.no) (λq=>k q ?_) (λ_=>.no) (λ_ _=>.no) (λ_ _ _=>.no) (λ_=>.no) (λ_ _=>.no) g;obtain⟨m,q,r⟩:=h;exact k q (.oc (o6.lk a r) (λ_ _ q=>.so q) (Df e));cases g:A.ll a with|true=> show RO _ (oc _ pP _) _;rw[h.pg.abs a g,e.du,e.mh a g,e.cA,e.L8 a g];exact .no|false=> refine .oc (h.pg.tG a g) (λ_ _=>tJ) ?_;rw[e.du,e.cA];exact .br (λ_=>.so Z) λ_=>RO.KZ.m1 λ_=>Z
def OM(g:iB A G H)(n:W)(i:cu A.g as u)(j:o6 A.g ks B):RO (Ga A.g) (make G n as ks) (make H n u B):=by unfold make;rw[g.cls];exact λv e=>bL e λk h e=>by rw[h];exact((C7 (g.OC n k h).1 i j).bn λb g g=>(K3 g).mp λl m q=>⟨m,Z,q⟩) v e
def aaR(h:Ga A.g v w):RO (Ga A.g) (dP v C (s:=λl=>O (.int (ak l))) (tu:=λl=>O (.int (ak l))) (ls:=λl=>O (.int (ak l))) (bu:=λl e=>br e (O (.sym (.off 4 (ak l)))) (O (.sym (.big 4 (ak l)))))) (dP w C (s:=λl=>O (.int (ak l))) (tu:=λl=>O (.int (ak l))) (ls:=λl=>O (.int (ak l))) (bu:=λl e=>br e (O (.sym (.off 4 (ak l)))) (O (.sym (.big 4 (ak l)))))):=by have k:∀{x o},w=x->RO (Ga A.g) o (dP x C (s:=λl=>O (.int (ak l))) (tu:=λl=>O (.int (ak l))) (ls:=λl=>O (.int (ak l))) (bu:=λl e=>br e (O (.sym (.off 4 (ak l)))) (O (.sym (.big 4 (ak l))))))->RO _ o _:=λe h=>e▸h;refine V.casesOn v (λ_=>.no) (λ_ _=>.no) (λ_ _=>.no) (λl h=>k h (.so Z)) (λl h=>?_) (λl h=>?_) (λ_ _ _=>.no) (λ_ _=>.no) (λ_ _=>.no) (λ_ _=>.no) (λ_ _=>.no) (λ_ _=>.no) (λ_=>.no) (λ_=>.no) (λ_ _=>.no) (λl e h=>k h.1 ?_) (λ_=>.no) (λ_ _=>.no) h;obtain⟨m,q,r⟩:=h;exact k q (.so (iG (ah wv (cu.ak r).symm)));obtain⟨m,q,r⟩:=h;exact k q (.so (iG (ah wv (cu.ak r).symm)));obtain⟨_,_,g,_,i⟩:=h;induction e with|true=>exact .so (sG (by show _=A.g.base 4+_;rw[aB,aB];exact i Z))|false=>exact .so (sG (by show A.g.base 4+_<=_;rw[aB,aB];exact g))
def Gj(j:iB A G H)(g:cu A.g as u):RO (Ga A.g) (Fi G n as) (Fi H n u):=.br (λ_=>tq g λ_ _=>aaR) λ_=>.br (λ_=>xf g λv w c d i e=>(uW i).e1 λ_=>(uW e).m1 λ_=>Z) λ_=>.gd λ_=>xf g λv w c d i e=>by have k:∀{x o},w=x->RO (Ga A.g) o (dP x C (s:=λ_=>bn (sS d) λz=>gd (ac z 7) (O (.bool U))) (ob:=λc _=>bn (vK d) λk=>mp (H.cls c) λg=>.bool (aq g.mro k)))->RO _ o _:=λg h=>g▸h;refine V.casesOn v (λ_=>.no) (λ_ _=>.no) (λ_ _=>.no) (λl h=>k h ((pBi e).e1 λ_=>.gd λ_=>.so Z)) (λ_ _=>.no) (λ_ _=>.no) (λn l h=>?_) (λ_ _=>.no) (λ_ _=>.no) (λ_ _=>.no) (λ_ _=>.no) (λ_ _=>.no) (λ_=>.no) (λ_=>.no) (λ_ _=>.no) (λ_ _ _=>.no) (λ_=>.no) (λ_ _=>.no) i;obtain⟨m,q,r⟩:=h;refine k q ((ahJ e).e1 λz=>?_);rw[j.cls];exact RO.KZ.m1 λ_=>Z
def Dg(h:RS A s s'){o:dR}{e:dR}(k:RO (UT A) o e):RO (RV A) (back s o) (back s' e):=k.ax λ_ _ _ _ q r=>.so ⟨q,h.loc,r⟩
def La(e:iB A G H)(j:Ga A.g f E)(g:cu A.g as u)(i:o6 A.g ks B)(h:RS A s s'):RO (RV A) (jQ G f as ks s) (jQ H E u B s'):=by have k:∀{x o},E=x->RO (RV A) o (jQ H x u B s')->RO _ o _:=λl h=>l▸h;refine V.casesOn f (λ_=>.no) (λ_ _=>.no) (λ_ _=>.no) (λ_ _=>.no) (λ_ _=>.no) (λ_ _=>.no) (λ_ _ _=>.no) (λc q=>k q ?_) (λn q=>k q ?_) (λn q=>k q ?_) (λ_ _=>.no) (λm q=>k q ?_) (λ_=>.no) (λ_=>.no) (λ_ _=>.no) (λ_ _ _=>.no) (λ_=>.no) (λ_ _=>.no) j;unfold jQ;rw[e.ro];exact .br (λ_=>.no) λ_=>(OM e c g i).mp λ_ _ q=>⟨q,h⟩;unfold jQ;rw[e.ro];exact .br (λ_=>.no) λ_=>Dg h (e.func _ _ _ _ _ _ _ g i h.pg);exact Oe i ((Gj e g).mp λ_ _ q=>⟨q,h⟩) λ_ _ _ _ _ _=>.no;unfold jQ;rw[e.ro];exact .br (λ_=>.no) λ_=>Dg h (e.av _ _ _ _ _ _ _ g i h.pg)
def IT(i:iB A G H)(x:W)(h:RS A s s'):RO (RV A) (Kc G lv x s) (Kc H lv x s'):=.br (λ_=>(h.loc x).ro.bn λl k q=>OE q (λv w e g r=>by rw[e,g];exact .so ⟨r,h⟩) λvs ws e g r=>by rw[e,g];exact .so ⟨⟨ws,Z,r⟩,h.lr x ⟨_,Z,_,Z,r⟩⟩) λ_=>by rw[i.gl];exact λz e=>iJ e λv g e=>by rw[g];exact⟨_,Z,e▸⟨tw (i.LL x v g),h⟩⟩
def fG{t:I}(e:Ga A.g v w)(h:RS A s s'):RO (RV A) (fin t v s) (fin t w s'):=.br (λ_=>(jZ e).m1 λb=>⟨Z,h⟩) λ_=>.so ⟨e,h⟩
end
section
variable(A:Ab)(lv:ae)
def ER(f b:fc):=∀t s a,RS A s a->RO (RV A) (f t s) (b t a)
def LR(l b:sT):=∀s a,RS A s a->RO (RVs A) (l s) (b a)
def CR(d e:XQ):=∀v a b s c,Ga A.g v a->RS A s c->RO (LY (·=·) (RS A)) (d v b s) (e a b c)
variable(po:N Pl)
def Gk(s:St)(P:Prop):=∀a,po=O (.bU a)->A.ll a->iR lv s->aj a s.pg.par=C->P
def U0(f:fc):=∀t s,Gk A lv po s (f t s=C)
def ŕ(l:sT):=∀s,Gk A lv po s (l s=C)
end
section
variable{A:Ab}{G H:cQ}{lv:ae}{s s':St}{v w:V}{L Q:Type}{S:L->Q->Prop}{po:N Pl}{a b d a' b' R o B i T:fc}{l E k k':sT}{c c':XQ}{m n:W}{x:I}
variable(sg:iB A G H)
def AP(h:RS A s s')(po:N Pl):m9 (LY (·=·) (vg A)) (gA G lv s po) (gA H lv s' po)∨(gA G lv s po=C/\∃a,po=O (.bU a)/\A.ll a/\iR lv s/\aj a s.pg.par=C):=by induction po with|none=>exact .inl .no|some p=>refine(C9 (lv:=lv) sg h p).imp (λq=>q.elim (λq=>.inl ⟨ah (mp · _) q.1,ah (mp · _) q.2⟩) λq=>?_) λq=>?_;obtain⟨j,a,f,e,g⟩:=q;exact⟨ah (mp · _) j,a,ah O f,e,g,h.pg.abs a e⟩;obtain⟨c,d,f,e,g⟩:=q;exact .inr ⟨(p,c),(p,d),ah (mp · _) f,ah (mp · _) e,Z,g⟩
def Dh(h:RS A s s'){F:Pl×Cn->N L}{e:Pl×Cn->N Q}{K:N L}{f:N Q}(z:Gk A lv po s (K=C))(g:∀p c d,vg A c d->RO S (F (p,c)) (e (p,d)))(l:RO S K f):RO S (oc (gA G lv s po) F K) (oc (gA H lv s' po) e f):=(AP sg h po).elim (λq=>.oc q (λc d r=>by rw[show c=(d.1,c.2)from pu r.1 Z];exact g d.1 c.2 d.2 r.2) l) λq=>by obtain⟨e,a,f,g,h,j⟩:=q;rw[e,show oc C F K=K from Z,z a f g h j];exact .no
def IU(h:RS A s s'){t:I}{K e:mi}(z:Gk A lv po s (K=C))(l:RO (RV A) K e):RO (RV A) (vT G lv t po s K) (vT H lv t po s' e):=.br (λ_=>Dh sg h z (λp c d r=>.so ⟨ah V.bool (Dd r).symm,h⟩) l) λ_=>l
def ON{P:Prop}{x:W}(h:O (Pl.loc x)=O (.bU y)):P:=ao (ah (λp=>LP p aaE λ_=>U) (au h))
def xl(h:LZ v):ER A (sU v) (sU v):=λ_ _ _ k=>fG (tw h) k
def aaS:ER A (BZ G lv n) (BZ H lv n):=λ_ _ _ h=>IU sg h (λ_ e=>ON e) ((IT sg n h).ax λ_ _ _ _=>fG)
variable(h:ER A o B)
def aaT(z:∀t s,Gk A lv po s ((ax (o J s) λv s=>bn (jm G v n s) λv=>fin t v s)=C)):ER A (S2 G lv po o n) (S2 H lv po B n):=λt s s' k=>IU sg k (z t s) ((h J s s' k).ax λv w r e q k'=>(xk sg k' n q).bn λ_ _ q=>fG q k')
def U1{t:I}{q:W}(f:O (Pl.bU m)=O (.bU q))(e:A.ll q)(g:iR lv s)(j:aj q s.pg.par=C):(ax (BZ G lv 0 J s) λv s=>bn (jm G v m s) λv=>fin t v s)=C:=by have r:m=q:=au (ah (λp=>bn p λp=>LP p aaM O) f);obtain⟨f,t⟩:=zb g;(have g:BZ G lv 0 J s=O (.par,s):=by show ax (Kc G lv 0 s) (fin J)=_;unfold Kc;rw[f,t];rfl);rw[g];show bn (oc (aj m s.pg.par) pP (br (G.du m) (O (.av m)) (mp (G.cA m) λ_=>.cd m))) _=C;rw[r,j,sg.du,sg.mh q e,sg.cA,sg.L8 q e];rfl
def afm:ER A (L? o) (L? B):=λt s s' k=>(h t s s' k).ax λ_ _ _ _ q k=>(jZ q).m1 λ_=>⟨Z,k⟩
def aaU:ER A (S4 o) (S4 B):=λt s s' k=>(h J s s' k).ax λ_ _ _ _ q k=>(uW q).e1 λ_=>fG Z k
def aaV(h:ER A d R)(e:ER A a a')(f:ER A b b'):ER A (S5 d a b) (S5 R a' b'):=λt s s' k=>(h U s s' k).ax λ_ _ _ _ q k=>(IE q).e1 λ_=>.br (λ_=>e t _ _ k) λ_=>f t _ _ k
variable(F:CR A c c')
def aaW:ER A (Mw o c e) (Mw B c' e):=λt s s' k=>(h J s s' k).ax λ_ _ _ _ q k=>(F _ _ e _ _ q k).ax λ_ _ _ _ q k=>.so ⟨ah V.bool (J0 q),k⟩
def aaX(f:ER A a a')(g:ER A b b'):ER A (S6 e a b) (S6 e a' b'):=λt s s' k=>(f J s s' k).ax λ_ _ _ _ q k=>(g J _ _ k).ax λ_ _ _ _ r k=>(UP A.gw q r).bn λ_ _ q=>fG q k
def aaY(h:LR A l E):ER A (S7 l) (S7 E):=λt s s' k=>(h s s' k).ax λ_ _ _ _ q k=>fG ⟨_,Z,q⟩ k
def aaZ(h:LR A l E):ER A (S8 l) (S8 E):=λt s s' k=>(h s s' k).ax λ_ _ _ _ q k=>fG ⟨_,Z,q⟩ k
def Lb{e f L:Type}{o:N (e×f)}{g:e->f->N L}(j:o=C):ax o g=C:=j▸Z
def aa0(e:ER A i T)(z:U0 A lv po o):ER A (S9 G lv po o i) (S9 H lv po B T):=λt s s' k=>Dh sg k (λa f g j r=>Lb (z J s a f g j r)) (λp c d _=>(e J s s' k).ax λv w u f q k'=>by rw[calm_eq k k'];exact .gd λ_=>(o7 sg k' p).bn λc d r=>(Gi r q).bn λ_ _ q=>fG q k') ((h J s s' k).ax λ_ _ _ _ q k=>(e J _ _ k).ax λ_ _ _ _ r k=>(Ox q r).bn λ_ _ q=>fG q k)
abbrev RVo(A:Ab):N V×St->N V×St->Prop:=LY (m9 (Ga A.g)) (RS A)
def IV(k:RS A s s'):RO (RVo A) (vU x o s) (vU x B s'):=.br (λ_=>.so ⟨.no,k⟩) λ_=>(h J s s' k).ax λ_ _ _ _ q k=>.so ⟨.so q,k⟩
def aa1{y:I}(e:ER A a a')(f:ER A b b'):ER A (Ta o (vU x a) (vU y b)) (Ta B (vU x a') (vU y b')):=λt s s' k=>(h J s s' k).ax λ_ _ _ _ q k=>(IV e k).ax λ_ _ _ _ e k=>(IV f k).ax λ_ _ _ _ f k=>(US q e f).bn λ_ _ q=>fG q k
def aa2:LR A yf yf:=λ_ _ k=>.so ⟨Z,k⟩
def U2(e:LR A l E):LR A (B1 o l) (B1 B E):=λs s' k=>(h J s s' k).ax λ_ _ _ _ q k=>(e _ _ k).ax λ_ _ _ _ r k=>.so ⟨.mk q r,k⟩
def U3{f e:I->fc}(g:∀y,ER A (f y) (e y))(y:I):ER A (yW x o f y) (yW x B e y):=λt s s' k=>.br (λ_=>h t s s' k) λ_=>(h t s s' k).ax λ_ _ _ _ q k=>(jZ q).e1 λ_=>.br (λ_=>.so ⟨q,k⟩) λ_=>g y t _ _ k
def aa3{p:fQ}(h:RO (·=·) p f):RO (·=·) (Fm e p) (Fm e f):=py (motive:=λe=>RO (·=·) (Fm e p) (Fm e f)) e .no .no .no .no .no .no .no .no h (h.m1 λ_=>Z)
def U4(z:U0 A lv po o):CR A (B3 G lv x po o c) (B3 H lv x po B c'):=λv w e s s' q k=>by induction e with|nil=>exact .no|cons g e _=>refine Dh sg k (λa g j r t=>Lb (z J s a g j r t)) (λp g g y=>?_) ((h J s s' k).ax λu g _ _ f k=>(IG A.gw q f).e1 λg=>.br (λ_=>?_) λ_=>?_);(generalize e=u;induction u with|nil=>exact .gd λ_=>(aa3 (K5 y q)).m1 λ_=>⟨Z,k⟩|cons _ _ _=>exact .no);(induction e with|nil=>exact .so ⟨Z,k⟩|cons _ _ _=>exact .no);generalize e=u;induction u with|nil=>exact .no|cons _ _ _=>exact .br (λ_=>F _ _ _ _ _ f k) λ_=>.so ⟨Z,k⟩
end
section
variable{A:Ab}{G H:cQ}{lv:ae}{s s':St}{v w:V}{po:N Pl}{o T:fc}{l R k k':sT}{c d:Cn}{m n:W}{x:I}{ks:ae}{t:I}
def xm(i:iB A G H){f e:V}{a g:af}{b h:aY}(j:Ga A.g f e)(p:cu A.g a g)(q:o6 A.g b h)(r:RS A s s'):RO (RV A) (ax (jQ G f a b s) λv s=>fin t v s) (ax (jQ H e g h s') λv s=>fin t v s):=(La i j p q r).ax λ_ _ _ _=>fG
def OO(q:uL G lv n ks):aq lv n=J:=d8.mpr λh=>ao (il (dM h) q)
def OP(a:iB A G H)(y:LR A l R)(B:LR A k k')(z:ŕ A lv po l):ER A (vV G lv n ks po l k) (vV H lv n ks po R k'):=λt s s' h=>by have K:RO _ (ax (Kc G lv n s) λb s=>ax _ λp s=>ax _ λe s=>bn (z6 ks e) λr=>ax _ λv s=>fin t v s) _:=(IT a n h).ax λ_ _ _ _ q h=>(y _ _ h).ax λ_ _ _ _ y h=>(B _ _ h).ax λ_ _ _ _ B h=>(OB B).bn λ_ _ B=>xm a q y B h;(have f:uL H lv n ks=uL G lv n ks:=by unfold uL;rw[a.gl]);unfold vV;rw[f];cases q:uL G lv n ks with|false=>exact K|true=>refine(AP (lv:=lv) a h po).elim (λz=>?_) λy=>?_;exact .oc (z.elim (λz=>by rw[z.1,z.2];exact .no) λz=>by obtain⟨u,a,g,i,j⟩:=z;rw[g,i];exact K4 j.2) (λ_ _ q=>fG q h) K;obtain⟨E,u,g,i,j,L⟩:=y;(have M:∀F:V->af->St->mi,(ax (Kc G lv n s) λb s=>ax (l s) (F b))=C:=λF=>by unfold Kc;rw[OO q];cases G.gl n with|none=>rfl|some P=>exact(Lb (z s u g i j L):ax _ _=C));rw[E];exact λ_ f=>aa (il (M λb p s=>ax (k s) λe s=>bn (z6 ks e) λr=>ax (jQ G b p r s) λv s=>fin t v s) f)
def U5(a:iB A G H)(b:LR A l R)(p:Pl)(r:vg A c d)(h:RS A s s'):RO (RV A) (Tb G lv m l t s (p,c)) (Tb H lv m R t s' (p,d)):=by show RO _ (gd _ _) _;rw[K9 r];refine .gd λ_=>(b s s' h).ax λb b u b q b=>?_;rw[calm_eq h b,a.ro];exact .gd λ_=>(o7 a b p).bn λc d r=>(xj a r q).ax λ_ _ _ _ q r=>(zp b p r).bn λ_ _ h=>fG q h
def OQ(a:iB A G H){e h:af}{f i:aY}{b g:St}(j:RS A b g)(p:cu A.g e h)(r:o6 A.g f i)(u:RS A s s'):RO (RV A) (Hz G (aj m b.pg.par) m x e f t s) (Hz H (aj m g.pg.par) m x h i t s'):=by cases b:A.ll m with|true=>rw[j.pg.abs m b];show RO _ (gd _ _) _;rw[a.du,a.mh m b];exact .no|false=> refine .oc (j.pg.tG m b) (λ_ _ q=>.gd λ_=>(tJ q).bn λ_ _ q=>xm a q p r u) ?_;rw[a.du];exact .gd λ_=>xm a Z p r u
def OR(h:iB A G H){e:ae}{a f:af}{b g:aY}(j:cu A.g a f)(i:o6 A.g b g)(p:RS A s s'):RO (RV A) (HA G m e a b t s) (HA H m e f g t s'):=by unfold HA;rw[h.nJ];exact .gd λ_=>Oe i (tq j λv w q=>(UJ q).bn λ_ _ q=>(aaO q).e1 λ_=>.gd λ_=>.gd λ_=>fG Z p) λ_ _ _ _ _ _=>.no
def OS(a:iB A G H)(f:ER A o T)(e:LR A l R)(g:LR A k k')(z:U0 A lv po o):ER A (z7 G lv po m ks x o l k) (z7 H lv po m ks x T R k'):=λt s s' h=>Dh a h (λi b j r u=>Lb (z J s i b j r u)) (λp c d y=>by
  induction ks with
  |nil=>exact U5 a e p y h
  |cons _ _ _=>exact .no) ((f J s s' h).ax λv w f f q b=>(e _ _ b).ax λ_ _ _ _ e h=>(g _ _ h).ax λ_ _ _ _ f h=>(OB f).bn λ_ _ f=>by
  rw[(flat q).3];exact .br (λ_=>OQ a b e f h) λ_=>(xh q).e1 λ_=>OR a e f h)
def aa4(a:iB A G H)(b:LR A l R):ER A (Fj G m l) (Fj H m R):=λt s s' h=>by unfold Fj;rw[a.ro];exact .br (λ_=>.no) λ_=>(b s s' h).ax λ_ _ _ _ q h=>(a.sup _ _ _ _ _ q h.pg).ax λ_ _ _ _ q r=>fG q ⟨h.loc,r⟩
def U6(g:iB A G H){a:X}{b:W}{d:X}{e:ae}{f:fc}:ER A (uv G lv a b d e) f:=λt s s' h=>by unfold uv;rw[g.comp];exact λz e=>FU e λ_ e=>aa e
variable(A G H lv)in
structure E4R(x:X):Prop where
 e:ER A (c! G lv x).e (c! H lv x).e
 l:LR A (c! G lv x).l (c! H lv x).l
 b:∀y,ER A ((c! G lv x).b y) ((c! H lv x).b y)
 c:CR A (c! G lv x).c (c! H lv x).c
 hE:U0 A lv (cG x) (c! G lv x).e
 hL:ŕ A lv (bn (yT x) cG) (c! G lv x).l
def sm{P:Prop}(h:(C:N Pl)=O (.bU a)):P:=aa h
def Yt:ER A (λ_ _=>C) f:=λ_ _ _ _=>.no
def gG{x:X}(g:cG x=C)(i:yT x=C){f b:fc}(a:c! G lv x=uM f)(e:c! H lv x=uM b)(h:ER A f b):E4R A G H lv x:=⟨by rw[a,e];exact h,by rw[a];exact λ_ _ _=>.no,by rw[a];exact λ_ _ _ _ _=>.no,by rw[a];exact λ_ _ _ _ _ _ _=>.no,by rw[g];exact λ_ _ _ e=>sm e,by rw[i];exact λ_ _ e=>sm e⟩
def OT{K:mi}(h:gA G lv s po=C)(k:K=C):vT G lv t po s K=C:=by unfold vT;rw[h,k];cases t<;>rfl
def eF(a:iB A G H)(x:X):E4R A G H lv x:=by induction x with|nil=>exact⟨λ_ _ _ _=>.no,aa2,λ_ _ _ _ _=>.no,λ_ _ _ _ _ _ _=>.no,λ_ _ _ e=>sm e,λ_ _ e=>sm e⟩|cons x z i j=>exact⟨λ_ _ _ _=>.no,U2 i.e j.l,U3 i.e j.b,U4 a i.e j.c i.hE,λ_ _ _ e=>sm e,λs b e f g h=>bL e λy p e=>bW p λ_ p=>(show B1 (c! G lv x).e (c! G lv z).l s=C from Lb (i.hE J s b ((au p)▸e) f g h))⟩|pf=>exact gG Z Z Z Z (xl Z)|yQ=>exact gG Z Z Z Z (xl Z)|Hu=>exact gG Z Z Z Z (xl Z)|int n=>exact gG Z Z Z Z (xl Z)|str l=>exact gG Z Z Z Z (xl Z)|aR y=>exact⟨aaS a,λ_ _ _=>.no,λ_ _ _ _ _=>.no,λ_ _ _ _ _ _ _=>.no,λ_ _ _ e=>ON e,λ_ _ e=>sm e⟩|bU o b i=>(have z:∀t s,Gk A lv (cG (.bU o b)) s ((ax ((c! G lv o).e J s) λv s=>bn _ λv=>fin t v s)=C):=λt s q e f g h=>bW e λp e=>by rw[Ax p];exact U1 a e f g h);exact⟨aaT a i.e z,λ_ _ _=>.no,λ_ _ _ _ _=>.no,λ_ _ _ _ _ _ _=>.no,λt s q e f g h=>by have y:=z t s q e f g h;(have p:gA G lv s (cG (.bU o b))=C:=by rw[e];show mp (gd _ _) _=C;rw[h,a.cA,a.L8 q f,g];rfl);exact OT p y,λ_ _ e=>sm e⟩|nt y i=>exact gG Z Z Z Z (afm i.e)|neg y i=>exact gG Z Z Z Z (aaU i.e)|and r i=>exact gG Z Z Z Z (i.b U)|or r i=>exact gG Z Z Z Z (i.b J)|ite b u d i j k=>exact gG Z Z Z Z (aaV i.e j.e k.e)|cmp l F K i j=>exact gG Z Z Z Z (aaW i.e j.c)|bin L b u i j=>exact gG Z Z Z Z (aaX i.e j.e)|tup r i=>exact gG Z Z Z Z (aaY i.l)|yR r i=>exact gG Z Z Z Z (aaZ i.l)|Ss=>exact gG Z Z Z Z Yt|sub o k i j=>exact gG Z Z Z Z (aa0 a i.e j.e i.hE)|cut o M P i j k=>exact gG Z Z Z Z (aa1 i.e j.e k.e)|bF Q B ks E i j=>exact gG Z Z Z Z (OP a i.l j.l i.hL)|fy o m B ks E i j k=>exact gG Z Z Z Z (OS a i.e j.l k.l i.hE)|sup m B i=>exact gG Z Z Z Z (aa4 a i.l)|comp b u d e _ _=>exact gG Z Z Z Z (U6 a)|bad=>exact gG Z Z Z Z Yt
end
def í(g:Gb)(f a:Fl):=vN f (a=.next) (a=.brk) λv=>∃w,a=.ret w/\Ga g v w
section
variable(A:Ab)
abbrev RF:Fl×St->Fl×St->Prop:=LY (í A.g) (RS A)
def SR(f b:gB):=∀s a,RS A s a->RO (RF A) (f s) (b a)
abbrev P2:(I×af)×St->(I×af)×St->Prop:=LY (LY (·=·) (cu A.g)) (RS A)
end
section
variable{A:Ab}{G H:cQ}{lv:ae}{s s':St}{v w:V}{R T:Type}{S:R->T->Prop}{po:N Pl}{e E i P:fc}{l L:sT}{a b a' b':gB}{m n x y:W}{f F:Fl}{xs:ae}{Q:nw}{bo:N (W×X)}{b2:N X}
def iX(h:RS A s s'):RO (RF A) (nx s) (nx s'):=.so ⟨Z,h⟩
def ë{M:Fl->Fl->Prop}(h:í A.g f F)(n:M .next .next)(b:M .brk .brk)(r:∀v w,Ga A.g v w->M (.ret v) (.ret w)):M f F:=
 Fl.casesOn f (λh=>(h)▸n) (λh=>(h)▸b) (λv h=>by obtain⟨w,q,k⟩:=h;exact q▸r v w k) h
def xn(q:í A.g f F)(h:RS A s s')(k:RO (RF A) (a s) (a' s')):RO (RF A) (turn f s a) (turn F s' a'):=ë (M:=λf F=>RO _ (turn f s a) (turn F s' a')) q k (iX h) λv w r=>.so ⟨⟨w,Z,r⟩,h⟩
def U7(c:SR A a a')(d:SR A b b'):SR A (bh a b) (bh a' b'):=λs s' h=>(c s s' h).ax λf F s s' q h=>ë (M:=λf F=>RO (RF A) (vN f _ _ λv=>O (.ret v,s)) (vN F _ _ λv=>O (.ret v,s'))) q (d _ _ h) (.so ⟨Z,h⟩) λv w r=>.so ⟨⟨w,Z,r⟩,h⟩
def U8(h:ER A e E):SR A (vW e) (vW E):=λs s' k=>(h J s s' k).ax λ_ _ _ _ _ k=>iX k
def aa6{z:I}(h:ER A e E):SR A (sW z e) (sW z E):=λs s' k=>.br (λ_=>.so ⟨⟨_,Z,Z⟩,k⟩) λ_=>(h J s s' k).ax λ_ _ _ _ q k=>.so ⟨⟨_,Z,q⟩,k⟩
def OU(q:Ga A.g v w)(xs:ae):∀{s s'},RS A s s'->RS A (oX v xs s) (oX w xs s'):=by induction xs with|nil=>exact id|cons x xs c=>exact λh=>c (h.lr x ⟨w,Z,q⟩)
def aa7(h:ER A e E):SR A (Mx xs e) (Mx xs E):=λs s' k=>(h J s s' k).ax λ_ _ _ _ q k=>iX (OU q xs k)
def OV{f:W->N R}{F:W->N T}(k:∀x,RO S (f x) (F x)):RO S (one xs f) (one xs F):=by
 induction xs with
 |nil=>exact .no
 |cons x r=>induction r with
  |nil=>exact k x
  |cons _ _ _=>exact .no
def U9(h:LR A l L):SR A (HB xs l) (HB xs L):=λs s' k=>OV λx=>(h s s' k).ax λ_ _ _ _ q k=>iX (k.lr x ⟨_,Z,q⟩)
def Va(c:iB A G H){p:X}{q:W}{r:X}{t:ae}:SR A (yX G lv x p q r t) a:=λs s' k=>by unfold yX;rw[c.comp];exact λz e=>FU e λ_ e=>aa e
def xo(xs:ae):∀{c d:af}{s s':St},cu A.g c d->RS A s s'->RO (RS A) (unpack xs c s) (unpack xs d s'):=by induction xs with|nil=>exact λq h=>ng q (.so h) λ_ _ _ _ _ _=>.no|cons x xs g=>exact λq h=>ng q .no λv w l m r q=>g q (h.lr x ⟨w,Z,r⟩)
def aa8(h:ER A e E):SR A (Tc xs e) (Tc xs E):=λs s' k=>(h J s s' k).ax λ_ _ _ _ q k=>(ś q).bn λ_ _ q=>(xo xs q k).bn λ_ _=>iX
def OW{q:PA}:yp A q c->Hx q=Hx c:=PA.casesOn q (λ_ h=>by obtain⟨w,e,r⟩:=h;rw[e];exact ah sw (flat r).4) (λ_ h=>by obtain⟨w,e,_⟩:=h;rw[e];rfl) (λ_ h=>by obtain⟨w,e,_⟩:=h;rw[e];rfl) (λ_ h=>by obtain⟨w,e,_⟩:=h;rw[e];rfl) λ_ h=>by obtain⟨w,e,_⟩:=h;rw[e];rfl
def Vb{q:PA}(h:RP A s.pg s'.pg)(g:A.ll x=J)(d:yp A q c):q8 s' x c=q8 s x q+A.δ:=by unfold q8;rw[<-OW d,h.bD,show oc _ Hx J=oc (aj x s.pg.par) Hx J from(h.tG x g).elim (λz=>by rw[z.1,z.2]) λz=>by obtain⟨_,_,c,d,g⟩:=z;rw[c,d];exact(OW g).symm,jL];cases Hx q<;>cases oc _ Hx J<;>rfl
def mK{c:I}{q:PA}(h:RS A s s')(g:A.ll x=J)(k:A.dm x)(j:yp A q d):RO (RF A) (hV c s x q) (hV c s' x d):=.br (λ_=>.no) λ_=>.L0 (λ_=>(aB _).symm▸hH h.pg.len) λ_=>.so ⟨Z,h.loc,h.pg.put g k j (Vb h.pg g j)⟩
def Vd(c:iB A G H){y z:I}(h:LR A l L)(j:ER A e E):SR A (vX G lv x y z l e) (vX H lv x y z L E):=λs s' k=>by unfold vX;rw[tH k,c.ro];refine .gd λ_=>.L0 (λq=>(c.attr x q).1) λq=>?_;obtain⟨_,d,g⟩:=c.attr x q;exact .br (λ_=>(h s s' k).ax λ_ _ _ _ q k=>mK k d g ⟨_,Z,q⟩) λ_=>.br (λ_=>mK k d g ⟨_,Z,Z⟩) λ_=>(j J s s' k).ax λ_ _ _ _ q k=>mK k d g ⟨_,Z,q⟩
def Gl{d:I}{p:Pl}(h:RS A s s')(r:vg A c g):RO (RF A) (bn (hU d s p c) nx) (bn (hU d s' p g) nx):=(zp h p r).bn λ_ _=>iX
def Ve(c:iB A G H)(g:ER A i P)(d:ER A e E):SR A (HC G lv po i e) (HC H lv po P E):=λs s' k=>RO.KZ.e1 λp=>(d J s s' k).ax λv w _ _ q k=>(o7 c k p).bn λ_ _ _=>(g J _ _ k).ax λ_ _ _ _ g d=>by rw[calm_eq k d,c.ro];exact .gd λ_=>(o7 c d p).bn λ_ _ r=>(K7 r g q).bn λ_ _ r=>Gl d r
def Yu(c:iB A G H)(h:RS A s s'):RO (LY (·=·) (vg A)) (gA G lv s po) (gA H lv s' po):=(AP c h po).elim m9.ro λq=>by rw[q.1];exact .no
def tL(h:vg A c d):RO (qa A.g) (nZ c) (nZ d):=OG (M:=λc d=>RO _ (nZ c) (nZ d)) h (λ_ _ _=>.no) (λ_ _ r=>.so r) (λ_ _ _=>.no) λ_ _ _=>.no
def aa9(c:iB A G H)(d:ER A i P):SR A (Td G lv po i) (Td H lv po P):=λs s' k=>(Yu c k).ax λp g g g g r=>(tL r).bn λ_ _ _=>(d J s s' k).ax λ_ _ _ _ q d=>by rw[calm_eq k d,c.ro,<-(g)];exact .gd λ_=>(uW q).e1 λz=>(RO.bn (o7 c d p) λ_ _=>tL).bn λ_ _ r=>(AO r).ro.bn λ_ _ _=>Gl d ⟨_,Z,UX r⟩
def aba(h:RS A s s')(q:Ga A.g v w):RO (RF A) (nx (aE s x (.val v))) (nx (aE s' x (.val w))):=iX (h.lr x ⟨w,Z,q⟩)
def mk_val(q:Ga A.g v w):yp A (.val v) (.val w):=⟨w,Z,q⟩
def abb(c:iB A G H)(j:ER A e E):SR A (Te G lv x Q e) (Te H lv x Q E):=λs s' k=>.gd λ_=>(k.loc x).ro.bn λl L q=>OE q (λv w d g q=>by
  rw[d,g];exact(j J s s' k).ax λ_ _ _ _ h k=>(IK A.gw q h).bn λ_ _ q=>aba k q) λo o d g _=>by
  rw[d,g];refine .gd λ_=>(j J s s' k).ax λ_ _ _ _ h d=>?_;rw[calm_eq k d,c.ro,c.nE];exact .gd λ_=>(o7 c d _).bn λ_ _ r=>(c.nE▸xj c r (.mk h Z):RO (RM A) _ _).ax λ_ _ _ _ _ r=>Gl d r
def Vf(c:iB A G H)(d:ER A e E):SR A (B4 G lv x Q e) (B4 H lv x Q E):=λs s' k=>by unfold B4;rw[tH k,c.ro];exact .gd λ_=>λz h=>bL h λv c h=>bL c λq g c=>by obtain⟨j,o,p,r,t⟩:=OL k.pg g;obtain⟨w,g,u⟩:=tJ t v c;rw[r,show bn (O p) pP=O w from g];exact((d J s s' k).ax λ_ _ _ _ c k=>(IK A.gw u c).bn λ_ _ q=>mK k j o (mk_val q)) z h
def afn(h:ER A e E)(c:SR A a a')(d:SR A b b'):SR A (BH e a b) (BH E a' b'):=λs s' k=>(h U s s' k).ax λ_ _ _ _ q k=>(IE q).e1 λ_=>.br (λ_=>c _ _ k) λ_=>d _ _ k
def abc(h:ER A e E)(c:SR A a a')(n:W):SR A (uH e a n) (uH E a' n):=by induction n with|zero=>exact λ_ _ _=>.no|succ n d=> intro s s' k;show RO _ (ax _ λv s=>bn (gJ v) λx=>br x (ax (a s) λf s=>turn f s _) (nx s)) (ax _ λv s=>bn (gJ v) λx=>br x (ax (a' s) λf s=>turn f s _) (nx s));exact(h U s s' k).ax λ_ _ _ _ q k=>(IE q).e1 λ_=>.br (λ_=>(c _ _ k).ax λ_ _ _ _ q k=>xn q k (d _ _ k)) λ_=>iX k
def Vg(h:ER A e E):SR A (HD e) (HD E):=λs s' k=>(h U s s' k).ax λ_ _ _ _ q k=>(IE q).e1 λ_=>.gd λ_=>iX k
def xp{f F:V->gB}(g:∀v w,Ga A.g v w->SR A (f v) (F w)){c:af}:∀{d:af},cu A.g c d->SR A (forL f c) (forL F d):=by induction c with|nil=>exact λq=>by rw[show _=[]from q];exact λ_ _=>iX|cons v c h=> intro d q;obtain⟨w,m,e,c,q⟩:=q.un;rw[e];exact λs s' k=>(g v w c s s' k).ax λ_ _ _ _ r k=>xn r k (h q _ _ k)
def Ld{f F:W->W->gB}(d:∀i c,SR A (f i c) (F i c))(l:ae):∀i,SR A (vY f l i) (vY F l i):=by induction l with|nil=>exact λ_ _ _=>iX|cons c l g=>exact λi s s' k=>(d i c s s' k).ax λ_ _ _ _ r k=>xn r k (g _ _ _ k)
def IW{l:eu}:∀{m:eu},qa A.g l m->cu A.g (keysOf l) (keysOf m):=by induction l with|nil=>exact λh=>by rw[show _=[]from h];exact Z|cons p l c=> intro m h;obtain⟨q,k,e,⟨d,_⟩,h⟩:=h;rw[e];exact .mk (ah V.int d) (c h)
def Di(n c:W):∀a,cu A.g (dF c n a) (dF c n a):=by induction n with|zero=>exact λ_=>Z|succ n d=>exact λa=>.mk Z (d _)
def OX{l:Y (ae×V)}:cu A.g (l.map λp=>.str p.1) (l.map λp=>.str p.1):=by induction l with|nil=>exact Z|cons p l c=>exact .mk Z c
def Vh(g:iB A G H)(k:RS A s s')(p:Pl):RO (P2 A) (LP p aaM λa=>oc (aj a s.pg.par) aaM (mp (G.cA a) λc=>((J,c.map λp=>.str p.1),s))) (LP p aaM λa=>oc (aj a s'.pg.par) aaM (mp (H.cA a) λc=>((J,c.map λp=>.str p.1),s'))):=Pl.casesOn p (λ_=>.no) λa=>by show RO _ (oc _ aaM _) _;rw[g.cA];cases d:A.ll a with|true=>rw[g.L8 a d,k.pg.abs a d];exact .no|false=>exact .oc (k.pg.tG a d) (λ_ _ _=>.no) (RO.KZ.m1 λc=>⟨⟨Z,OX⟩,k⟩)
def Gm(h:iB A G H)(B:ER A e E)(k:RS A s s')(z:Gk A lv po s ((oc bo (λg=>br (ac g.1 3) (ax (ev G lv J g.2 s) λv s=>bn (asNat v) λn=>gd (bd n 1000000) (O ((J,dF 1 n 0),s))) (gd (ac g.1 5) (bn (bn (gA G lv s (cG g.2)) λo=>nZ o.2) λd=>O ((J,keysOf d),s)))) (oc b2 (λj=>ax (BF G lv j s) λc s=>two c λv w=>bn (asNat v) λn=>bn (asNat w) λm=>gd (bd m 1000000) (gd (bd n 1000000) (O ((J,dF 1 (m-n) n),s)))) (ax (e J s) λv s=>bn (vJ v) λc=>O ((J,c),s))))=C)):RO (P2 A) (source G lv po bo b2 e s) (source H lv po bo b2 E s'):=Dh h k z (λp o t r=>OG (M:=λo t=>RO _ (yd o C (di:=λd=>O ((U,keysOf d),s)) (sd:=λ_=>LP p aaM λa=>oc (aj a s.pg.par) aaM (mp (G.cA a) λd=>((J,d.map λp:ae×V=>.str p.1),s)))) (yd t C (di:=λd=>O ((U,keysOf d),s')) (sd:=λ_=>LP p aaM λa=>oc (aj a s'.pg.par) aaM (mp (H.cA a) λd=>((J,d.map λp:ae×V=>.str p.1),s'))))) r (λ_ _ _=>.no) (λ_ _ r=>.so ⟨⟨Z,IW r⟩,k⟩) (λ_ _ _=>Vh h k p) λ_ _ _=>.no) (by induction bo with|none=>(generalize b2=u;induction u with|none=>exact show RO _ (ax _ λv s=>bn _ λc=>O ((J,c),s)) (ax _ λv s=>bn _ λc=>O ((J,c),s))from(B J s s' k).ax λ_ _ _ _ q k=>(ahK q).bn λ_ _ q=>.so ⟨⟨Z,q⟩,k⟩|some j=>exact show RO (P2 A) (ax _ λc s=>two c λv w=>bn _ λn=>bn _ λm=>gd (bd m 1000000) (gd (bd n 1000000) (O ((J,dF 1 (m-n) n),s)))) (ax _ λc s=>two c λv w=>bn _ λn=>bn _ λm=>gd _ (gd _ (O (_,s))))from((eF h j).l s s' k).ax λ_ _ _ _ q k=>xf q λ_ _ _ _ c d=>(xg c).e1 λ_=>(xg d).e1 λ_=>.gd λ_=>.gd λ_=>.so ⟨⟨Z,Di _ _ _⟩,k⟩)|some g=>exact .br (λ_=>((eF h g.2).e J s s' k).ax λ_ _ _ _ q k=>(xg q).e1 λ_=>.gd λ_=>.so ⟨⟨Z,Di _ _ _⟩,k⟩) λ_=>.gd λ_=>(RO.bn (Yu h k) λ_ _ r=>tL r.2).bn λ_ _ q=>.so ⟨⟨Z,IW q⟩,k⟩)
end
section
variable{A:Ab}{G H:cQ}{lv:ae}{s s':St}{e B:fc}{a b a' b' q E:gB}{n x y:W}{bo:N (W×X)}
def IX(q:Ga A.g v w):A? A.g (.val v) (.val w):=⟨w,Z,q⟩
def abd{f c:St->N ((I×af)×St)}(d:∀s s',RS A s s'->RO (P2 A) (f s) (c s'))(g:SR A q E)(h:SR A b b'):SR A (My x f q b) (My x c E b'):=λs s' k=>(d s s' k).ax λr c s s' z k=>by rw[show r.1=c.1 from z.1];exact .br (λ_=>xp (λv w u s s' k=>g _ _ (k.lr x (IX u))) z.2 s s' k) λ_=>xp (λv w u s s' k=>h _ _ (k.lr x (IX u))) z.2 s s' k
def Vi(c:iB A G H)(d:SR A b b'):SR A (rg G lv x y bo b) (rg H lv x y bo b'):=λs s' k=>RO.ax (λz e=>⟨z,e,Z,Z⟩) λp f f g z g=>by rw[<-(z),<-(g)];exact .gd λ_=>((eF c f).e J s s' k).ax λ_ _ s s' r k=>(xh r).e1 λl=>Ld (λi c s s' k=>d _ _ ((k.lr x (IX (v:=.int i) Z)).lr y (IX (v:=.str [c]) Z))) l 0 s s' k
def iB.roR(c:iB A G H):iB A (D? G) (D? H):=⟨c.gl,c.LL,c.cls,c.OC,c.du,c.mh,c.cA,c.G2,c.L8,c.attr,c.nA,c.nE,c.nP,c.nI,c.nJ,c.nd,Z,c.av,c.func,c.sup,c.comp⟩
def iB.OY(c:iB A G H)(d:Def):iB A (yh G d) (yh H d):=⟨ah (yg · d.gv) c.gl,λx v e=>bW e λ_ e=>c.LL x v e,c.cls,c.OC,c.du,c.mh,c.cA,c.G2,c.L8,c.attr,c.nA,c.nE,c.nP,c.nI,c.nJ,c.nd,c.ro,c.av,c.func,c.sup,c.comp⟩
def Gn{p:Pl}:cG c=O p->uu c=C:=X.casesOn c aa gL aa aa aa bX bX (λ_ _=>Z) (λ_ _ _=>Z) bX bX bX bX kH kH kH bX bX aa gL kH Fy To gL Fy aa
def Dj{p:Pl}:cG c=O p->call2 c=C:=X.casesOn c aa gL aa aa aa bX bX (λ_ _=>Z) (λ_ _ _=>Z) bX bX bX bX kH kH kH bX bX aa gL kH Fy To gL Fy aa
def abe(c:iB A G H){z:N (W×X)}:B5 G lv z=B5 H lv z:=by unfold B5;rw[c.gl]
def Vj(c:ER A e B)(d:SR A b b'):SR A (B6 x y e b) (B6 x y B b'):=λs s' k=>(c J s s' k).ax λ_ _ s s' q k=>(UJ q).bn λ_ _ q=>xp (λv w u s s' k=>(ś u).bn λ_ _ u=>(xo [x,y] u k).bn λ_ _ k=>d _ _ k) q s s' k
def Yv(c:iB A G H){z:N (W×X)}:q9 G lv z=q9 H lv z:=by unfold q9;rw[c.gl]
def OZ{z:I}(h:SR A a a')(k:SR A b b'):SR A (br z a b) (br z a' b'):=by cases z with|true=>exact h|false=>exact k
def Dk:SR A aaM f:=λ_ _ _=>.no
def AQ(n:W)(x:S):∀{G H:cQ},iB A G H->SR A (s4 lv n x G) (s4 lv n x H):=by
 induction x with
 |nil=>exact λ_ _ _=>iX
 |cons x d i j=>exact λc=>U7 (i c) (j c)
 |expr e=>exact λc=>U8 (eF c e).e
 |ret e=>exact λc=>aa6 (eF c e).e
 |brk=>exact λ_ _ _ h=>.so ⟨Z,h⟩
 |U_=>exact λ_ _ _=>iX
 |set d e=>exact λc=>OZ (U9 (eF c _).l) (aa7 (eF c e).e)
 |setC x p q r t=>exact λc=>Va c
 |C! d e=>exact λc=>aa8 (eF c e).e
 |Fe o a e=>exact λc=>OZ (Vd c (eF c _).l (eF c e).e) Dk
 |Zk o i e=>exact λc=>Ve c (eF c i).e (eF c e).e
 |del o i=>exact λc=>aa9 c (eF c i).e
 |aug x k e=>exact λc=>abb c (eF c e).e
 |J7 o a k e=>exact λc=>OZ (Vf c (eF c e).e) Dk
 |ifs f t e i j=>exact λc=>afn (eF c f).e (i c) (j c)
 |uH f b i=>exact λc=>abc (eF c f).e (i c) n
 |yb d g b i=>
  intro G H c;cases d with
  |nil=>exact Dk
  |cons x r=>cases r with
   |nil=>
    show SR A _ (My x _ _ _);rw[<-Yv c,<-abe c]
    exact abd (λs s' k=>Gm c (eF c g).e k λa d f h j=>by rw[Gn d,Dj d];exact(Lb ((eF c g).hE J s a d f h j):ax _ (λv s=>bn (vJ v) λd=>O ((J,d),s))=C)) (i c.roR) (i c)
   |cons y r=>cases r with
    |nil=>
     show SR A (λs=>oc _ (λz=>rg G lv x y _ _ s) _) (λs=>oc _ (λz=>rg H lv x y _ _ s) _);rw[<-Yv c];cases q9 G lv _ with
     |none=>exact Vj (eF c g).e (i c)
     |some z=>exact Vi c (i c)
    |cons _ _=>exact Dk
 |Zl e=>exact λc=>Vg (eF c e).e
 |C? b i=>exact λc=>i c
 |bad=>exact λ_=>Dk
def O0{b:aY}:∀{b':aY},o6 g b b'->Gh g (b.map λp=>(p.1,LV.val p.2)) (b'.map λp=>(p.1,LV.val p.2)):=by induction b with|nil=>exact λh=>by rw[show _=[]from h];exact λ_=>.no|cons p b c=>intro b' h x;obtain⟨q,m,e,⟨d,f⟩,h⟩:=h.un;rw[e];show m9 _ (br _ _ _) (br _ _ _);rw[d];cases ac p.1 x with|true=>exact .so ⟨_,Z,f⟩|false=>exact c h x
def IY(m:iB A G H)(n:W)(d:Def)(j:Ys d.params){c g:af}{f h:aY}(k:cu A.g c g)(l:o6 A.g f h){p i:PG}(o:RP A p i):RO (UT A) (run G n d c f p) (run H n d g h i):=(C7 j k l).bn λb b' c=>(AQ n d.body (m.OY d) _ _ ⟨O0 c,o⟩).ax λf c _ _ q k=>.so ⟨ë (M:=λf c=>Ga A.g (ku f) (ku c)) q Z Z λ_ _ r=>r,k.pg⟩
end
def u_:aY:=[(aes,.bi 0),(Aa,.bi 1),(Tj,.bi 3),(Cc,.bi 4),(Zv,.bi 5),(aer,.bi 7),(aeu,.bi 8)]
def X?(a:oj)(x:W):N V:=oc (aj x u_) O (oc (aj x yi) (λ_=>O (.cls x)) (mp (aj x a) λ_=>.fn x))
def Dl:Y (ae×V):=[([33],.str [33]),([33,33],.str [116,97,103,58,121,97,109,108,46,111,114,103,44,50,48,48,50,58])]
def Vk:Y (ae×V):=[([48],.str [0]),([97],.str [7]),([98],.str [8]),([116],.str [9]),([9],.str [9]),([110],.str [10]),([118],.str [11]),([102],.str [12]),([114],.str [13]),([101],.str [27]),([32],.str [32]),([34],.str [34]),([92],.str [92]),([47],.str [47]),([78],.str [133]),([95],.str [160]),([76],.str [8232]),([80],.str [8233])]
def mM(k:W):N (Y (ae×V)):=br (ac k wi) (O Dl) (br (ac k ny) (O Vk) (br (ac k we) (O [([120],.int 2),([117],.int 4),([85],.int 8)]) C))
def jE(m:W):I:=(aj m uy).isSome
abbrev yq:=W->af->aY->PG->dR
def Gp(a:oj)(b:W->I)(m f:yq):cQ:={gl:=X? a,cls:=λc=>aj c yi,du:=jE,bw:=b,cA:=mM,av:=m,func:=f,sup:=λ_ _ _=>C,dT:=jd,dD:=wd,qu:=MI,ew:=wc,lH:=Fu,ro:=J}
def Dm(G:cQ):yq:=λm a b c=>bn (aj m uy) λd=>run G 300 d (.par::a) b c
def Dn(a:oj)(G:cQ):yq:=λf b c d=>bn (aj f a) λa=>run G 300 a b c d
def O3(a:oj)(b:W->I):cQ:=Gp a b (λ_ _ _ _=>C) λ_ _ _ _=>C
def sig(a:oj)(b:W->I)(d:W):cQ:=ut (motive:=λ_=>cQ) (O3 a b) (λ_ G=>Gp a b (Dm G) (Dn a G)) d
def Vl(l:oj):I:=aH (λp=>Ys p.2.params) l
section
variable{g:Type}{f:g->I}{l:Y (W×g)}{a:W}{v:g}
def oG(h:aH (λp=>f p.2) l=U)(e:aj a l=O v):f v:=by induction l with|nil=>exact aa e|cons p l b=>exact cp h λc d=>jj (show br (ac p.1 a) (O p.2) (aj a l)=O v from e) (λ_ e=>au e▸c) λ_ e=>b d e
def iq:(aj a l).isSome=aq (l.map (·.1)) a:=by induction l with|nil=>rfl|cons p l b=>show(br (ac p.1 a) (O p.2) (aj a l)).isSome=br (ac p.1 a) U (aq (l.map (·.1)) a);cases ac p.1 a with|true=>rfl|false=>exact b
end
structure IZ(A:Ab)(at1 at2:W->I):Prop where
 mh:∀a,A.ll a->jE a=J
 L8:∀a,A.ll a->mM a=C
 attr:∀a,at1 a->at2 a/\A.ll a=J/\A.dm a=U
structure ahN:Prop where
 I0:aH (λp:W×XK=>Ys p.2.params&&u! p.2.consts) yi=U
 O6:Vl uy=U
def Ø:ahN:=⟨by kernel_rfl,by kernel_rfl⟩
def abg:aH (λp:W×V=>LZ p.2) u_=U:=Z
section
variable{A:Ab}{i:oj}{j at2:W->I}
abbrev Gq(A:Ab)(m m':yq):Prop:=∀n as as' ks ks' p p',cu A.g as as'->o6 A.g ks ks'->RP A p p'->RO (UT A) (m n as ks p) (m' n as' ks' p')
def oH(a:IZ A j at2){m b f c:yq}(d:Gq A m b)(g:Gq A f c):iB A (Gp i j m f) (Gp i at2 b c)where
 gl:=Z
 LL:=λx v e=>md (show oc (aj x u_) O (oc (aj x yi) (λ_=>O (.cls x)) (mp (aj x i) λ_=>.fn x))=O v from e) (λw h e=>au e▸oG (f:=LZ) abg h) λ_ e=>md e (λ_ _ e=>au e▸Z) λ_ e=>iJ e λ_ _ e=>e▸Z
 cls:=Z
 OC:=λc b e=>ag (oG (f:=λb:XK=>Ys b.params&&u! b.consts) Ø.I0 e) λb c=>⟨b,c⟩
 du:=Z
 mh:=a.mh
 cA:=Z
 G2:=λb b e=>jj e (λ_ e=>au e▸Z) λ_ e=>jj e (λ_ e=>au e▸Z) λ_ e=>jj e (λ_ e=>au e▸Z) λ_=>aa
 L8:=a.L8
 attr:=a.attr
 nA:=Z
 nE:=Z
 nP:=Z
 nI:=Z
 nJ:=Z
 nd:=⟨Z,Z⟩
 ro:=Z
 av:=d
 func:=g
 sup:=λ_ _ _ _ _ _ _=>.no
 comp:=λ_ _ _ _ _ _=>Z
def tM:Gq A (λ_ _ _ _=>C) m:=λ_ _ _ _ _ _ _ _ _ _=>.no
def zq(c:iB A G H):Gq A (Dm G) (Dm H):=λm a a a a p a d f h r e=>bL e λa b e=>by unfold Dm;rw[b];exact IY c 300 a (oG (f:=λa:Def=>Ys a.params) Ø.O6 b) (.mk (v:=.par) (w:=.par) Z d) f h r e
variable(g:Vl i)
def zr(c:iB A G H):Gq A (Dn i G) (Dn i H):=λm a a a a p a d f h r e=>bL e λa b e=>by unfold Dn;rw[b];exact IY c 300 a (oG (f:=λa:Def=>Ys a.params) g b) d f h r e
def I1(a:IZ A j at2):∀k d,k<=d->iB A (sig i j k) (sig i at2 d):=by intro k;induction k with|zero=>(intro d _;generalize d=u;induction u with|zero=>exact oH a tM tM|succ d _=>exact oH a tM tM)|succ k c=>intro d h;induction d with|zero=>exact ch h (zV k)|succ d _=>exact have b:=c d (vF h);oH a (zq b) (zr g b)
end
structure Mv where
 lE:W
 bE:I
 dl:D
 old:I
 new:I
 c0:W
 ci:I
 dc:D
def sh(m:Mv)(k:W):N D:=gh k (br m.bE C (O m.lE)) λk=>gh k (O m.dl) λk=>gh k (O 0) λk=>gh k (br m.ci C (O m.dc)) λk=>gh k (O m.lE) λk=>gh k (br m.old (br m.new (O m.c0) C) C) λ_=>C
def Ą(m:Mv)(k:W):N D:=gh k (br m.bE (O (m.lE-1)) C) λk=>gh k C λk=>gh k C λk=>gh k (br m.ci (O m.dc) C) λ_=>C
def Dp(m:Mv)(p q:Sy):I:=qv q J (off:=λa b=>qv p J (off:=λk n=>br (ac k a) (oc (sh m k) (λs=>a? (n=b+s)) J) (br (ac k 2) (br (ac a 5) (br m.old J (br m.new (a? (n=b+m.c0)) J)) J) J))) (nn:=qv p J (nn:=U) (off:=λk n=>br (ac k 0) (a? (0<=n)) J)) (big:=λa b=>br (ac a 2) (br (a? (b=1)) (qv p J (big:=λk n=>br (ac k 2) (a? (n=1)) J) (off:=λk n=>br (ac k 2) (a? (1<=n)) (br (ac k 5) (a? (0<=n)) J))) J) J)
def O7(m:Mv)(x:D)(q:Sy):I:=qv q J (off:=λk n=>oc (Ą m k) (λs=>a? (x=s+n)) J) (nn:=a? (0<=x))
def f0(w:V):I:=dP w J (no:=U) (un:=U)
def f1(b:I)(w:V):I:=dP w J (bo:=λc=>b==c) (un:=U)
def Y_(fi:D->Sy->I)(i:D)(w:V):I:=dP w J (i:=λj=>a? (i=j)) (sy:=fi i) (un:=U)
def f3(s:ae)(w:V):I:=dP w J (s:=cW s) (un:=U)
def f4(i:af->I)(w:V):I:=dP w J (tu:=i) (un:=U)
def f5(i:af->I)(w:V):I:=dP w J (ls:=i) (un:=U)
def f6(c:W)(i:aY->I)(w:V):I:=dP w J (ob:=λd l=>br (ac c d) (i l) J) (un:=U)
def f7(_:W)(_:V):I:=J
def f8(a:Sy->Sy->I)(p:Sy)(w:V):I:=dP w J (sy:=a p) (un:=U)
def f9(w:V):I:=dP w J (bu:=λl e=>br e J l.isEmpty) (un:=U)
def z'(w:V):I:=dP w J (un:=U)
def tn{a:Type}(w:Y a):I:=lc w U λ_ _=>J
def tm{a:Type}(i:a->I)(j:Y a->I)(w:Y a):I:=lc w J λb m=>br (i b) (j m) J
def F_(a:W)(i:V->I)(q:W×V):I:=br (ac a q.1) (i q.2) J
section
variable(b:Sy->Sy->I)(fi:D->Sy->I)
def rU(v:V):V->I:=V.rec (motive_1:=λ_=>V->I) (motive_2:=λ_=>af->I) (motive_3:=λ_=>aY->I) (motive_4:=λ_=>W×V->I) f0 f1 (Y_ fi) f3 (λ_=>f4) (λ_=>f5) (λc _=>f6 c) f7 f7 f7 f7 f7 (f7 0) (f7 0) (f8 b) (λ_ _=>f9) z' (λ_=>z') tn (λ_ _=>tm) tn (λ_ _=>tm) (λa _=>F_ a) v
def xr(v:af):af->I:=V.rec_1 (motive_1:=λ_=>V->I) (motive_2:=λ_=>af->I) (motive_3:=λ_=>aY->I) (motive_4:=λ_=>W×V->I) f0 f1 (Y_ fi) f3 (λ_=>f4) (λ_=>f5) (λc _=>f6 c) f7 f7 f7 f7 f7 (f7 0) (f7 0) (f8 b) (λ_ _=>f9) z' (λ_=>z') tn (λ_ _=>tm) tn (λ_ _=>tm) (λa _=>F_ a) v
def ahO(v:aY):aY->I:=V.rec_2 (motive_1:=λ_=>V->I) (motive_2:=λ_=>af->I) (motive_3:=λ_=>aY->I) (motive_4:=λ_=>W×V->I) f0 f1 (Y_ fi) f3 (λ_=>f4) (λ_=>f5) (λc _=>f6 c) f7 f7 f7 f7 f7 (f7 0) (f7 0) (f8 b) (λ_ _=>f9) z' (λ_=>z') tn (λ_ _=>tm) tn (λ_ _=>tm) (λa _=>F_ a) v
end
def Ŕ(a:Sy->Sy->I)(fi:D->Sy->I)(l:eu):eu->I:=bm (motive:=λ_=>eu->I) (λw=>lc w U λ_ _=>J) (λv _ j w=>lc w J λb m=>br (a? (v.1=b.1)) (br (rU a fi v.2 b.2) (j m) J) J) l
def O8(a:Sy->Sy->I)(fi:D->Sy->I)(x y:PA):I:=x8 x (λv=>x8 y (rU a fi v) aaE aaE aaE λ_=>J) (λl=>x8 y aaE (xr a fi l) aaE aaE λ_=>J) (λl=>x8 y aaE aaE (Ŕ a fi l) aaE λ_=>J) aaE λ_=>J
def oJ(f:W->PA->PA->I)(l:nW):nW->I:=bm (motive:=λ_=>nW->I) (λw=>lc w U λ_ _=>J) (λp _ j w=>lc w J λq m=>br (ac p.1 q.1) (br (f p.1 p.2 q.2) (j m) J) J) l
def Gr{b:Type}{P:Prop}{l:Y b}{f:b->Y b->I}(h:lc l J f=U)(k:∀a r,l=a::r->f a r->P):P:=by induction l with|nil=>exact ao h|cons a r _=>exact k a r Z h
def Yw{a:Type}{l:Y a}(h:lc l U (λ_ _=>J)=U):l=[]:=by induction l with|nil=>rfl|cons b r _=>exact ao h
def nG{P:Prop}{x y z:I}(h:br x y z=U)(k:x->y->P)(l:x=J->z->P):P:=by induction x with|true=>exact k Z h|false=>exact l Z h
def jo{b:Type}{P:Prop}{o:N b}{f:b->I}(h:oc o f J=U)(k:∀a,o=O a->f a->P):P:=by induction o with|none=>exact ao h|some a=>exact k a Z h
section
variable{g g':Gb}{A:Sy->Sy->I}{fi:D->Sy->I}
structure oK(g g':Gb)(A:Sy->Sy->I)(fi:D->Sy->I):Prop where
 sy:∀p q z,A p q->CU g z p->CU g' z q
 i:∀x q,fi x q->CU g' x q
 yr:CV g' [] J
 txt:g'.txt=g.txt
def oM:∀{y:ae},cW x y->x=y:=λ{y}=>(gU x y).mp
def AR(K:oK g g' A fi)(v:V):∀u w,rU A fi v u->Ga g v w->Ga g' u w:=by have a:∀{w x},w=x->solid x->Ga g' .Ht w:=λe h=>e▸h;exact V.rec (motive_2:=λl=>∀m n,xr A fi l m->cu g l n->cu g' m n) (motive_3:=λl=>∀m n,ahO A fi l m->o6 g l n->o6 g' m n) (motive_4:=λp=>∀(q r:W×V),F_ p.1 _ q->AK p.1 _ r->AK q.1 _ r) (λu w=>Vc (M:=λu=>rU A fi .none u=U->Ga g .none w->Ga g' u w) u (no:=λ_ h=>h) (un:=λ_ h=>a h Z)) (λk u w=>Vc (M:=λu=>rU A fi _ u=U->Ga g _ w->Ga g' u w) u (bo:=λd e h=>(gc.mp e)▸h) (un:=λ_ h=>a h Z)) (λi u w=>Vc (M:=λu=>rU A fi _ u=U->Ga g _ w->Ga g' u w) u (i:=λo e h=>(aO e)▸h) (sy:=λq e h=>⟨i,h,K.i i q e⟩) (un:=λ_ h=>a h Z)) (λs u w=>Vc (M:=λu=>rU A fi _ u=U->Ga g _ w->Ga g' u w) u (s:=λt e h=>(oM e)▸h) (un:=λ_ h=>a h Z)) (λl i u w=>Vc (M:=λu=>rU A fi _ u=U->Ga g _ w->Ga g' u w) u (tu:=λm e h=>by obtain⟨n,q,r⟩:=h;exact⟨n,q,i m n e r⟩) (un:=λ_ h=>by obtain⟨n,q,r⟩:=h;exact a q Z)) (λl i u w=>Vc (M:=λu=>rU A fi _ u=U->Ga g _ w->Ga g' u w) u (ls:=λm e h=>by obtain⟨n,q,r⟩:=h;exact⟨n,q,i m n e r⟩) (un:=λ_ h=>by obtain⟨n,q,r⟩:=h;exact a q Z)) (λd l i u w=>Vc (M:=λu=>rU A fi _ u=U->Ga g _ w->Ga g' u w) u (ob:=λt m e h=>cp e λb c=>by obtain⟨n,q,r⟩:=h;exact⟨n,aK b▸q,i m n c r⟩) (un:=λ_ h=>by obtain⟨n,q,r⟩:=h;exact a q Z)) pj pj pj pj pj iz iz (λp u w=>Vc (M:=λu=>rU A fi _ u=U->Ga g _ w->Ga g' u w) u (sy:=λq e h=>by obtain⟨z,f,j⟩:=h;exact⟨z,f,K.sy p q z e j⟩) (un:=λ_ h=>by obtain⟨n,q,r⟩:=h;exact a q Z)) (λl e u w=>Vc (M:=λu=>rU A fi _ u=U->Ga g _ w->Ga g' u w) u (bu:=λm t e h=>nG e aV λq e=>by rw[q,cO.mp e];exact⟨K.txt▸h.1,K.yr⟩) (un:=λ_ h=>a h.1 Z)) (λu w=>Vc (M:=λu=>rU A fi .Ht u=U->Ga g .Ht w->Ga g' u w) u (un:=λ_ h=>h)) (λp u w=>Vc (M:=λu=>rU A fi _ u=U->Ga g _ w->Ga g' u w) u (un:=λ_ h=>by obtain⟨n,q,r⟩:=h;exact a q Z)) (λm n e h=>by rw[Yw e];exact h) (λv l i o m n e h=>Gr e λk r t e=>cp e λb c=>by obtain⟨d,a,q,f,j⟩:=h;rw[t,q];exact .mk (i k d b f) (o r a c j)) (λm n e h=>by rw[Yw e];exact h) (λv l i o m n e h=>Gr e λk r t e=>cp e λb c=>by obtain⟨d,a,q,f,j⟩:=h;rw[t,q];exact⟨d,a,Z,i k d b f,o r a c j⟩) (λa v i q r e h=>cp e λb c=>⟨h.1.trans (aK b),i q.2 r.2 c h.2⟩) v
def kT(K:oK g g' A fi){l:af}:∀{m n:af},xr A fi l m->cu g l n->cu g' m n:=by induction l with|nil=>exact λe h=>by rw[Yw e];exact h|cons v l a=> intro m n e h;refine Gr e λb r c e=>cp e λd e=>?_;obtain⟨f,k,q,i,j⟩:=h.un;rw[c,q];exact .mk (AR K v b f d i) (a e j)
def Vm(K:oK g g' A fi){l:eu}:∀{m n:eu},Ŕ A fi l m->qa g l n->qa g' m n:=by induction l with|nil=>exact λe h=>by rw[Yw e];exact h|cons v l a=> intro m n e h;refine Gr e λb r d e=>cp e λf e=>cp e λe i=>?_;obtain⟨c,k,q,⟨j,m⟩,n⟩:=h;rw[d,q];exact⟨c,k,Z,⟨j.trans (aO f),AR K v.2 b.2 c.2 e m⟩,a i n⟩
def Dq{l:af}:∀{m:af},xr A fi l m->l.length=m.length:=by induction l with|nil=>exact λe=>by rw[Yw e]|cons v l a=>exact λe=>Gr e λb r b e=>cp e λ_ e=>b▸ah pp (a e)
def lV{f:W->PA->PA->I}{l:nW}(a:W):∀{m:nW},oJ f l m->(aj a l=C/\aj a m=C)∨∃x y,aj a l=O x/\aj a m=O y/\f a x y:=by induction l with|nil=>exact λe=>.inl ⟨Z,by rw[Yw e];rfl⟩|cons p l b=>intro m e;refine Gr e λq r c e=>cp e λd e=>cp e λh i=>?_;rw[c];show(br (ac p.1 a) (O p.2) (aj a l)=C/\br (ac q.1 a) (O q.2) (aj a r)=C)∨∃x y,br (ac p.1 a) (O p.2) (aj a l)=O x/\br (ac q.1 a) (O q.2) (aj a r)=O y/\_;rw[<-aK d];cases c:ac p.1 a with|true=>exact .inr ⟨p.2,q.2,Z,Z,aK c▸h⟩|false=>exact b i
end
def Dr{a:Sy->Sy->I}{fi:D->Sy->I}(K:oK A.g b.g a fi){x y c:PA}:O8 a fi x y->yp A x c->yp b y c:=PA.casesOn x (λv=>PA.casesOn y (λu e h=>by obtain⟨w,q,r⟩:=h;exact⟨w,q,AR K v u w e r⟩) aV aV aV λ_=>ao) (λl=>PA.casesOn y aV (λm e h=>by obtain⟨w,q,r⟩:=h;exact⟨w,q,kT K e r⟩) aV aV λ_=>ao) (λl=>PA.casesOn y aV aV (λm e h=>by obtain⟨w,q,r⟩:=h;exact⟨w,q,Vm K e r⟩) aV λ_=>ao) aV λ_=>ao
def Kn:ae:=[lJ,eA,z9,wa,Ft,rB,aN,hZ,aI,jT,Cd,MH,eR,Cb,rj,Fs,lK,XW,rt,wb]
def y':ae:=[Ti,MJ,Th,uO,yj,wg]
def atS(a:W):I:=aq Kn a
def iY(a:W):I:=aq y' a
def fM(a:W):I:=aq (Kn++y') a
def oO:oj:=[(37,jR),(259,v7),(260,v8),(241,v9)]
abbrev pS(d:W):cQ:=sig oO fM d
def aS:cQ:=sig oO atS 9
abbrev aC:=nW
def lF(b:aC)(l:ae)(e:I):PG:=⟨(lJ,.val (.sym (.off 4 0)))::(eA,.val (.buf l e))::b,[],0⟩
def NM(p:PG):dR:=aS.av bt [] [] p
structure Rs where
 t:ae
 ix:D
 ln:D
 cb:D
def Rs.ba(R:Rs)(k:W):D:=gh k (R.ix-1) λk=>gh k R.ln λ_=>R.cb
def Rs.mv(R:Rs)(m:Mv):Rs:=⟨R.t.drop m.lE,R.ix+m.lE,R.ln+m.dl,br m.ci 0 R.cb+m.dc⟩
def ahP(R:Rs)(p:Sy):V:=qv p (.sym p) (off:=λk n=>.int (R.ba k+n))
def ins(R:Rs)(v:V):V:=V.rec (motive_1:=λ_=>V) (motive_2:=λ_=>af) (motive_3:=λ_=>aY) (motive_4:=λ_=>W×V) .none .bool .int .str (λ_ i=>.tup i) (λ_ i=>.lst i) (λc _ i=>.obj c i) .cls .fn .bi .cd .av .par .aG (ahP R) .buf .Ht .Zj [] (λ_ _ i j=>i::j) [] (λ_ _ i j=>i::j) (λa _ i=>(a,i)) v
def Gu(R:Rs)(l:af):af:=l.map (ins R)
def œ(z:I)(p:Sy):I:=qv p J (off:=λk _=>br (ac k 0) (!z) (br (ac k 1) U (ac k 3)))
def ug(z:I)(v:V):I:=V.rec (motive_1:=λ_=>I) (motive_2:=λ_=>I) (motive_3:=λ_=>I) (motive_4:=λ_=>I) U aaF aaF aaF (λ_ i=>i) (λ_ i=>i) (λ_ _ i=>i) aaF aaF aaF aaF aaF U J (œ z) (λ_ _=>J) U aaE U (λ_ _ i j=>br i j J) U (λ_ _ i j=>br i j J) (λ_ _ i=>i) v
def S3(z:I)(l:af):I:=V.rec_1 (motive_1:=λ_=>I) (motive_2:=λ_=>I) (motive_3:=λ_=>I) (motive_4:=λ_=>I) U aaF aaF aaF (λ_ i=>i) (λ_ i=>i) (λ_ _ i=>i) aaF aaF aaF aaF aaF U J (œ z) (λ_ _=>J) U aaE U (λ_ _ i j=>br i j J) U (λ_ _ i j=>br i j J) (λ_ _ i=>i) l
def LC(p q:Sy):I:=qv q J (off:=λa b=>qv p J (off:=λk n=>br (ac k a) (a? (n=b)) J))
def SF(_:D)(_:Sy):I:=J
def O9(b:Sy->Sy->I)(fi:D->Sy->I)(m:Mv)(c:af)(x y:PA):I:=x8 x aaE (λa=>x8 y aaE (λus=>br m.old J (br m.new J (br (ac m.c0 0) (xr b fi a us) J))) aaE aaE λus=>br m.old J (br m.new (br (bd 1 m.c0) (br (xr LC SF (a.take m.c0) c) (xr b fi (a.drop m.c0) us) J) J) J)) aaE aaE λa=>x8 y aaE aaE aaE aaE λus=>br m.old (br m.new (br (xr LC SF (a.take m.c0) c) (xr b fi (a.drop m.c0) us) J) J) J
def Œ(q:PA):N V:=x8 q O aaM aaM aaM λ_=>C
def Pb(m:Mv)(b:af)(a:W)(x y:PA):I:=br (ac a aN) (O9 (Dp m) (O7 m) m b x y) (O8 (Dp m) (O7 m) x y)
def I3(f:W->PA->PA->I)(q:PG)(b:aC)(m:Mv)(a:af):I:=oJ f q.par (lF b [] J).par&&a? (0<=m.dc)&&S3 m.bE a&&ac (ak a) m.c0&&bd m.c0 10&&a? (0<=m.dl)&&br m.bE (bd 1 m.lE) U
def Du(q:PG)(b:aC)(m:Mv)(a:af):I:=I3 (Pb m a) q b m a
def Ö(b:S):S:=S.casesOn (motive:=λ_=>S) b .nil (λ_ r=>r) (λ_=>.nil) (λ_=>.nil) .nil .nil (λ_ _=>.nil) (λ_ _ _ _ _=>.nil) (λ_ _=>.nil) (λ_ _ _=>.nil) (λ_ _ _=>.nil) (λ_ _=>.nil) (λ_ _ _=>.nil) (λ_ _ _ _=>.nil) (λ_ _ _=>.nil) (λ_ _=>.nil) (λ_ _ _=>.nil) (λ_=>.nil) (λ_=>.nil) .nil
def x4:S:=sq [r_ 58,r_ 56,R? 59 [ni 4]]
def x!:S:=Ö (Ö (Ö cK))
abbrev gF(d:W):cQ:=yh (pS d) bH
def aF:cQ:=yh (sig oO atS 8) bH
def Pd:ae:=bH.lv
def I4:cz:=[(0,.val .par)]
def Le(l:cz):I:=lc l J λp r=>ac p.1 0&&Kb p.2 jy aaE&&r.isEmpty
def Hf(p:PG):q5:=pt aF Pd 300 x4 ⟨I4,p⟩
def ì(p:PG):q5:=pt aF Pd 300 x! ⟨I4,p⟩
def S!(b:aC)(w:ae)(e:I)(a:aC)(m:Mv)(c:af):I:=bd m.lE (ak w)&&oc (NM (lF b w e)) (λr=>br (oc (eQ r.1) id J) (br (ac r.2.bD 0) (oc (Hf r.2) (λq=>vN q.1 (Le q.2.loc&&ac q.2.pg.bD 0&&Du q.2.pg a m c) J λ_=>J) J) J) J) J
def D!(b:aC)(w:ae)(e:I)(c:aC)(m:Mv)(d:af)(a:W):I:=bd m.lE (ak w)&&oc (ì (lF b w e)) (λq=>ac q.2.pg.bD a&&Du q.2.pg c m d) J
def dz(w:ae):ae->I:=bm (motive:=λ_=>ae->I) aaF (λa _ b l=>lc l J λc y=>br (yc a c) (b y) J) w
def cC(w:ae)(e:I)(a:Rs):I:=dz w a.t&&br e (ac (ak w) (ak a.t)) U
def lu(m:Mv)(b a:af):af:=br m.new (br m.old (b++a) a) [V.none]
def oP(e:W->N PA)(g:Gb)(b:dy g)(a:af)(c:(a.length:D)=g.base 6)(d:a.length<=100000)(f:W):Ab:={g:=g,gw:=b,ll:=iY,dm:=atS,pre:=a,pl:=c,bY:=d,J:=λ_ p=>∀a,iY a->aj a p.par=e a,î:=λ_ p a x k h _ j b c=>(bZ λq:b=a=>ao (il h (q▸c))).trans (j b c),δ:=f}
structure AtG(Fr:W->N PA)(k:W)(bE:I)(b:aC)(rest:Rs)(pre:af)(pg:PG)(g:Gb)(gw:dy g)(pl:(pre.length:D)=g.base 6)(bY:pre.length<=100000)(δ:W):Prop where
 R:RP (oP Fr g gw pre pl bY δ) (lF b [] J) pg
 hi:bE->g.base 4=0
 hn:bE=J->g.base 4=g.base 0+1
 hl:g.txt.length<=800
 hk:pre.length+20*k<=5000
 h0:0<=g.base 4
 h1:g.base 4<=g.txt.length
 hr:g.txt.drop (g.base 4).toNat=rest.t
 b1:g.base 1=rest.ln
 b3:g.base 3=rest.cb
 b4:g.base 4=rest.ix
def qI(a:W->N PA)(k:W)(b:I)(c:aC)(d:Rs)(e:af)(f:PG):=∃g,∃h,∃i,∃j,∃l,AtG a k b c d e f g h i j l
def abi{z:I}(c:z=J->g.base 0=R.ix-1)(a:g.base 1=R.ln)(d:g.base 3=R.cb)(v:V):∀w,ug z v->Ga g v w->Ga b (ins R v) w:=V.rec (motive_2:=λl=>∀m,S3 z l->cu g l m->cu b _ m) (motive_3:=λl=>∀m,V.rec_2 U aaF aaF aaF (λ_ i=>i) (λ_ i=>i) (λ_ _ i=>i) aaF aaF aaF aaF aaF U J _ (λ_ _=>J) U aaE U (λ_ _ i j=>br i j J) U (λ_ _ i j=>br i j J) (λ_ _ i=>i) l=U->o6 g l m->o6 b _ m) (motive_4:=λp=>∀q,ug z p.2->AK p.1 _ q->AK p.1 _ q) (λ_ _=>id) (λ_ _ _=>id) (λ_ _ _=>id) (λ_ _ _=>id) (λ_ i w e h=>by obtain⟨n,q,r⟩:=h;exact⟨n,q,i n e r⟩) (λ_ i w e h=>by obtain⟨n,q,r⟩:=h;exact⟨n,q,i n e r⟩) (λ_ _ i w e h=>by obtain⟨n,q,r⟩:=h;exact⟨n,q,i n e r⟩) (λ_ _ _=>id) (λ_ _ _=>id) (λ_ _ _=>id) (λ_ _ _=>id) (λ_ _ _=>id) (λ_ _=>id) (λ_ _=>id) (λp w e h=>by obtain⟨x,q,r⟩:=h;rw[q];refine Sy.casesOn p (λk n e r=>?_) iz ao aV aV e r;refine ah V.int ?_;rw[r];refine nG e (λh e=>?_) λ_ e=>nG e (λh _=>?_) λb e=>?_;rw[aK h,c (by cases z<;>first|rfl|exact ao e)];rfl;rw[aK h,a];rfl;rw[aK e,d];rfl) pj (λ_ _=>id) iz (λ_ _=>id) (λv l i j w e h=>cp e λc d=>by obtain⟨b,m,q,a,f⟩:=h;exact⟨b,m,q,i b c a,j m d f⟩) (λ_ _=>id) (λv l i j w e h=>cp e λc d=>by obtain⟨b,m,q,a,f⟩:=h;exact⟨b,m,q,i b c a,j m d f⟩) (λa v i q e h=>⟨h.1,i q.2 e h.2⟩) v
def Vn{z:I}(c:z=J->g.base 0=R.ix-1)(d:g.base 1=R.ln)(e:g.base 3=R.cb){l:af}:∀{m:af},S3 z l->cu g l m->cu a (Gu R l) m:=by induction l with|nil=>exact λ_ h=>h|cons v l f=>exact λa h=>cp a λa g=>by obtain⟨b,m,q,i,j⟩:=h.un;exact⟨b,m,q,abi c d e v b a i,f g j⟩
def RP.fit{q:PG}{i:W->PA->PA->I}(h:RP A q g)(j:b.ll=A.ll)(o:b.dm=A.dm)(F:oJ i q.par d.par)(T:∀a x y e,A.ll a=J->aj a d.par=O y->i a x y->yp A x e->aj a g.par=O e->∃f,aj a c.par=O f/\yp b y f)(k:∀a,A.ll a=J->aj a g.par=C->aj a c.par=C)(l:b.J d.aG c)(m:c.bD=d.bD+b.δ)(n:c.par.length<=900000):RP b d c where
 tG:=λa b=>by
  rw[j]at b;refine(lV a F).elim (λz=>?_) λz=>?_
  ·exact(h.tG a b).elim (λy=>.inl ⟨z.2,k a b y.2⟩) λy=>by obtain⟨_,_,c,_⟩:=y;exact aa (il z.1 c)
  ·obtain⟨x,y,c,d,g⟩:=z
   obtain⟨e,i,k⟩:=(h.tG a b).ro x c;obtain⟨f,p,r⟩:=T a x y e b d g k i;exact .inr ⟨y,f,d,p,r⟩
 abs:=λa b=>(lV a F).elim (λz=>z.2) λz=>by obtain⟨x,_,c,_⟩:=z;exact aa (il (h.abs a (j▸b)) c)
 j:=l
 bD:=m
 len:=n
 zo:=λa=>by rw[o,<-h.zo a];exact(lV a F).elim (λz=>by rw[z.1,z.2]) λz=>by obtain⟨x,y,c,d,_⟩:=z;rw[c,d];rfl
def xt(g:Gb)(m:Mv)(n:W):Gb:={g with base:=λk=>gh k (g.base 4+m.lE-1) λk=>gh k (g.base 1+m.dl) λk=>gh k (g.base 2) λk=>gh k (br m.ci 0 (g.base 3)+m.dc) λk=>gh k (g.base 4+m.lE) λk=>gh k (g.base 2+n) λk=>gh k (n:D) λk=>g.base (k+7)}
def j6(k n s:D):k+(n+s)=k+s+n:=by rw[nU n s,ej]
def j7(a e:D):a+1+e-1=a+e:=by rw[TW,wS]
structure Yx(g:Gb)(m:Mv)(n:W):Prop where
 gw:dy g
 hi:m.bE->g.base 4=0
 hn:m.bE=J->g.base 4=g.base 0+1
 n6:m.old->m.new->(n:D)=g.base 6+m.c0
 n5:m.old=J->m.new->(n:D)=m.c0
 n1:1<=n
 d0:0<=m.dc
 l0:0<=m.dl
 e1:m.bE->1<=m.lE
 h0:0<=g.base 4
 h1:g.base 4+m.lE<=g.txt.length
 hl:g.txt.length<=800
section
variable{g:Gb}{m:Mv}{n:W}{z:D}{p q:Sy}
variable(H:Yx g m n)
def afr{s:D}:sh m k=O s->(xt g m n).base k=g.base k+s:=by
 cases k with
 |zero=>exact λe=>jj e bX λh e=>au e▸(show g.base 4+m.lE-1=_ by rw[H.hn h,j7])
 |succ k=>cases k with
  |zero=>exact λe=>au e▸Z
  |succ k=>cases k with
   |zero=>exact λe=>au e▸(aA _).symm
   |succ k=>cases k with
    |zero=>exact λe=>jj e bX λh e=>au e▸(show br m.ci 0 _+m.dc=g.base 3+m.dc by rw[h];rfl)
    |succ k=>cases k with
     |zero=>exact λe=>au e▸Z
     |succ k=>cases k with
      |zero=>exact λe=>jj e (λh e=>jj e (λa e=>au e▸(show g.base 2+(n)=g.base 5+_ by rw[H.n6 h a,H.gw.tp,ej])) λ_=>aa) λ_=>aa
      |succ k=>exact aa
def afs{s:D}:Ą m k=O s->(xt g m n).base k=s:=by
 cases k with
 |zero=>exact λe=>jj e (λh e=>au e▸(show g.base 4+m.lE-1=_ by rw[H.hi h,iQ])) λ_=>aa
 |succ k=>cases k with
  |zero=>exact aa
  |succ k=>cases k with
   |zero=>exact aa
   |succ k=>cases k with
    |zero=>exact λe=>jj e (λh e=>au e▸(show br m.ci 0 _+m.dc=m.dc by rw[h];exact iQ _)) λ_=>aa
    |succ k=>exact aa
def Pf:Dp m p q->CU g z p->CU (xt g m n) z q:=by refine Sy.casesOn q (λa b=>?_) (λa b=>?_) ?_ aV λ_=>ao;refine Sy.casesOn p (λk i e r=>?_) iz ao aV λ_=>ao;refine nG e (λh e=>jo e λs d e=>?_) λ_ e=>cp e λh e=>cp e λc e=>nG e aV λf e=>cp e λj e=>?_;show z=(xt g m n).base a+b;rw[<-aK h,afr H d,r,aO e];exact j6 _ _ _;show z=(xt g m n).base a+b;rw[aK c,r,aK h,aO e,show(xt g m n).base 5=g.base 2+(n)from Z,H.n5 f j];exact j6 _ _ _;refine λe=>cp e λh e=>cp e λc e=>?_;rw[aK h,aO c];refine Sy.casesOn p (λk i e r=>?_) (λk i e r=>cp e λh e=>?_) ao aV aV e;have r:=r;refine nG e (λh e=>?_) λ_ e=>cp e λh e=>?_;rw[r,aK h];exact yM (aO e) _;rw[r,aK h,H.gw.tp,ej];exact yM (gP H.gw.six (uj (aO e))) _;have r:=r;rw[aK h,aO e]at r;exact r;refine Sy.casesOn p (λk i e r=>cp e λh e=>?_) iz (λ_ h=>h) aV λ_=>ao;rw[r];exact qW (H.gw.pos k) (aO e)
def Vo:O7 m z q->CU (xt g m n) z q:=Sy.casesOn q (λk i e=>jo e λs a e=>(show z=(xt g m n).base k+i by rw[afs H a];exact aO e)) iz (λe=>(show 0<=z from aO e)) aV λ_=>ao
def afu:0<=g.base 4+m.lE-1:=by cases h:m.bE with|true=>rw[H.hi h,iQ];exact r6.mpr (jw.mpr (H.e1 h))|false=>rw[H.hn h,j7];exact qW (H.gw.pos 0) (eM _)
def Vp:dy (xt g m n)where
 pos:=λk=>by
  cases k with
  |zero=>exact afu H
  |succ k=>cases k with
   |zero=>exact qW (H.gw.pos 1) H.l0
   |succ k=>cases k with
    |zero=>exact H.gw.pos 2
    |succ k=>cases k with
     |zero=>
      refine qW ?_ H.d0;cases m.ci with
      |true=>exact pL _
      |false=>exact H.gw.pos 3
     |succ k=>cases k with
      |zero=>exact qW H.h0 (eM _)
      |succ k=>cases k with
       |zero=>exact qW (H.gw.pos 2) (eM _)
       |succ k=>cases k with
        |zero=>exact eM _
        |succ k=>exact H.gw.pos _
 le:=gP (q7 _ (aO Z)) (gP H.h1 (gP (jw.mpr H.hl) (aO Z)))
 lt:=H.gw.lt
 Yr:=H.gw.Yr
 tp:=Z
 six:=jw.mpr H.n1
def Pg:oK g (xt g m n) (Dp m) (O7 m)where
 sy:=λ_ _ _=>Pf H
 i:=λ_ _=>Vo H
 yr:=⟨qW H.h0 (eM _),(aA _).symm▸H.h1,Z,ao⟩
 txt:=Z
end
def ő(A:Ab)(c:Sy->Sy->I)(fi:D->Sy->I)(m:Mv)(b:af)(y d:PA):=∃a,(m.new->a.length=m.c0)/\(m.new->m.old=J->1<=m.c0)/\(m.new->cu A.g b a)/\∀b:Ab,oK A.g b.g c fi->b.pre=lu m A.pre a->yp b y d
def abj(b:0<=g.base 4)(a:g.base 4<=g.txt.length):oK g g LC SF where
 sy:=λp q z e r=>by refine Sy.casesOn q (λc c=>?_) iz ao aV aV e;exact Sy.casesOn p (λk n r e=>cp e λa c=>by rw[<-aK a,<-aO c];exact r) pj aV iz iz r
 i:=λ_ _=>ao
 yr:=⟨b,(aA _).symm▸a,Z,ao⟩
 txt:=Z
def Lg{b:Sy->Sy->I}{fi:D->Sy->I}(i:a.length=m.c0)(j:oK A.g A.g LC SF):O9 b fi m a x y->yp A x c->ő A b fi m a y c:=by have d:m.new=J->∀{P:Prop},m.new->P:=λh _ a=>ao (il h a);refine PA.casesOn x aV (λa=>?_) aV aV λa=>?_;refine PA.casesOn y aV (λus e h=>nG e aV λb e=>nG e aV λa e=>cp e λ_ e=>?_) aV aV λus e h=>nG e aV λb e=>cp e λa e=>cp e λg e=>cp e λc f=>?_;obtain⟨l,q,r⟩:=h;exact⟨[],d a,d a,d a,λn K _=>⟨l,q,kT K e r⟩⟩;obtain⟨l,q,r⟩:=h;have d:=(Dq c).trans i;refine⟨l.take m.c0,λ_=>il (cu.len r.take) d,λ_ _=>cw g,λ_=>kT j c r.take,λn K g=>⟨l,q,l.drop m.c0,?_,kT K f r.drop⟩⟩;rw[g];unfold lu;rw[a,b];exact(BR _ _).symm;refine PA.casesOn y aV aV aV aV λus e h=>cp e λb e=>cp e λa e=>cp e λc f=>?_;obtain⟨l,q,k,e,r⟩:=h;have d:=(Dq c).trans i;refine⟨k.take m.c0,λ_=>il (cu.len r.take) d,λ_ h=>ao (il h b),λ_=>kT j c r.take,λn K g=>⟨l,q,k.drop m.c0,?_,kT K f r.drop⟩⟩;rw[g];unfold lu;rw[a,b,e];exact(ah _ (BR m.c0 k).symm).trans (am _ _ _).symm
def Ph{r:W->N PA}{g:Gb}{k:dy g}{a:af}{l:(a.length:D)=g.base 6}{x:a.length<=100000}{t w:W}{q p:PG}{s:aC}{m:Mv}{j:af}{d:Rs}{f:I}
 (h:RP (oP r g k a l x t) q p)(F:Du q s m j)(v:m.bE=f)(R:f->g.base 4=0)(E:f=J->g.base 4=g.base 0+1)(A:g.txt.length<=800)(S:a.length+20*(w+1)<=5000)(n:0<=g.base 4)(u:g.base 4+m.lE<=g.txt.length)(T:g.txt.drop (g.base 4).toNat=d.t)(G:g.base 1=d.ln)(H:g.base 3=d.cb)(B:g.base 4=d.ix):
  ∃c,(∀g,cu g (br m.new (Gu d j) []) (br m.new c []))/\qI r w J s (d.mv m) (lu m a c) p:=
 ag F λF f7=>ag F λF f6=>ag F λF f5=>ag F λF f4=>ag F λF f3=>ag F λf1 V=>by
  have w:=il (aB j) (aK f4)
  have F:∃y f,aj aN p.par=O f/\ő (oP r g k a l x t) (Dp m) (O7 m) m j y f/\aj aN (lF s [] J).par=O y:=by
   refine(lV aN f1).elim (λz=>?_) λz=>?_
   ·exact ao (il (ah sw z.1) (h.zo aN))
   ·obtain⟨L,y,j,p,r⟩:=z
    obtain⟨f,s,x⟩:=(h.tG aN Z).ro L j;exact⟨y,f,s,Lg w (abj n (gP (uj (eM _)) u)) r x,p⟩
  obtain⟨y,f,X,⟨c,i,k2,k4,k3⟩,hy⟩:=F;have M:=jw.mp (l▸k.six)
  have P:Yx g m (lu m a c).length:=⟨k,λz=>R (v▸z),λz=>E (v▸z),λo f=>by unfold lu;rw[o,f];exact(ah wv aX).trans ((fP _ _).trans (by rw[l,i f])),λo f=>by unfold lu;rw[o,f];exact ah wv (i f),by
   unfold lu;cases b:m.new with
   |false=>exact aU 1
   |true=>cases Q:m.old with
    |true=>exact ay M (ay (gb _ _) (cZ aX.symm))
    |false=>exact(i b).symm▸k2 b Q,aO V,aO f6,λz=>nG f7 (λ_ e=>cw e) λe _=>ao (il e z),n,u,A⟩
  have pN:(lu m a c).length<=a.length+10:=by
   unfold lu;cases b:m.new with
   |false=>exact ay M (gb _ _)
   |true=>cases Q:m.old with
    |true=>exact ay (cZ aX) (d9 (i b▸cw f5) _)
    |false=>exact ay (i b▸cw f5) (nQ _ _)
  have f:=ay (dh pN _) (ay (by rw[fK,hO 10];exact d9 (d9 (aO Z) _) _) S);have K:=Pg P;have i:(lu m a c).length<=100000:=ay (gb _ _) (ay f (aO Z));refine⟨c,λj=>?_,xt g m (lu m a c).length,Vp P,Z,i,q.bD+t,?_,ao,λ_=>(qt _ _).symm,A,f,qW n (eM _),u,?_,(ah (·+m.dl) G),(ah (br m.ci 0 ·+m.dc) H),(ah (·+_) B)⟩
  ·cases b:m.new with
   |false=>exact Z
   |true=>exact Vn (λz=>by rw[<-B,E (v▸z)];exact(wS _ _).symm) G H f3 (k4 b)
  ·refine h.fit Z Z f1 (λo L a f a c e r a=>⟨f,a,nG e (λb _=>?_) λ_ e=>Dr K e r⟩) (λ_ _=>id) h.j (h.bD.trans (hM _).symm) h.len
   have b:=aK b;rw[b]at a c;rw[au (il a X),au (il c hy)];exact k3 _ K Z
  ·show g.txt.drop (g.base 4+m.lE).toNat=_
   show _=d.t.drop m.lE;rw[<-T,e8,Int.toNat_add n (eM _)];rfl
structure ahQ:Prop where
 rW:aH (λa=>!jE a&&(mM a).isNone&&!atS a&&fM a) y'=U
 xu:aH (λa=>!jE a&&(mM a).isNone&&!iY a&&fM a) Kn=U
 AS:Vl oO=U
def tP:ahQ:=⟨by kernel_rfl,by kernel_rfl,by kernel_rfl⟩
def yt{P:Prop}{h:W->I}{l:ae}(t:aH (λa=>!jE a&&(mM a).isNone&&!h a&&fM a) l=U)(e:aq l a)(k:jE a=J->mM a=C->h a=J->fM a->P):P:=ag (ai t (fU e)) λt d=>ag t λt b=>ag t λc f=>k (by cases z:jE a with|false=>rfl|true=>rw[z]at c;exact ao c) (vC.mp f) (by cases z:h a with|false=>rfl|true=>rw[z]at b;exact ao b) d
section
variable{Q:W->N PA}{g:Gb}{T:dy g}{pre:af}{pl:(pre.length:D)=g.base 6}{bY:pre.length<=100000}{R k d:W}{bE e:I}{b b':aC}{w:ae}{rest:Rs}{pg:PG}{m:Mv}{H:af}{bump a:W}
def I5:IZ (oP Q g T pre pl bY R) atS fM where
 mh:=λ_ h=>yt tP.rW h λa _ _ _=>a
 L8:=λ_ h=>yt tP.rW h λ_ a _ _=>a
 attr:=λ_ h=>yt tP.xu h λ_ _ a b=>⟨b,a,h⟩
def abk(c:9<=d):iB (oP Q g T pre pl bY R) aS (pS d):=I1 tP.AS I5 9 d c
def Pj{w:ae}:∀{rest:ae},dz w rest->lU w (rest.take w.length)/\w.length<=rest.length:=by induction w with|nil=>exact λ_=>⟨Z,eG _⟩|cons a x c=> intro rest h;refine Gr h λb y f h=>cp h λh i=>?_;obtain⟨j,i2⟩:=c i;rw[f];exact⟨⟨b,y.take x.length,Z,h,j⟩,eN i2⟩
def Gv(c:0<=g.base 4)(i:g.base 4<=g.txt.length)(f:g.txt.drop (g.base 4).toNat=rest.t)(h:cC w e rest):CV g w e:=ag h λh j=>by obtain⟨l,n⟩:=Pj h;(have h:g.base 4+(rest.t.length)=g.txt.length:=by rw[<-f,uh,Int.natCast_sub (jw.mp (by rw[yL c];exact i)),yL c,nU,qt]);refine⟨c,h▸yM (jw.mpr n) _,f.symm▸l,λc=>?_⟩;refine nG j (λ_ q=>?_) λq _=>ao (il q c);rw[<-h,<-aB w,<-aB rest.t,aK q]
def o8{w:ae}(h:a≠eA):aj a (lF b w e).par=aj a (lF b [] J).par:=by show br (ac lJ a) _ (br (ac eA a) _ _)=br (ac lJ a) _ (br (ac eA a) _ _);rw[jW h.symm];rfl
def RP.yr(h:RP (oP Q g T pre pl bY R) (lF b [] J) pg)(f:CV g w e):RP (oP Q g T pre pl bY R) (lF b w e) pg where
 tG:=λa c=>by
  by_cases q:a=eA
  ·have L:=h.tG a c
   rw[q]at L ⊢;obtain⟨y,i,v,j,l⟩:=L.ro (.val (.buf [] J)) Z;exact .inr ⟨.val (.buf w e),y,Z,i,v,j,l.1,f⟩
  ·rw[o8 q];exact h.tG a c
 abs:=λa c=>by
  by_cases q:a=eA
  ·exact ao (il (show iY eA=J from Z) (q▸c))
  ·rw[o8 q];exact h.abs a c
 j:=h.j
 bD:=h.bD
 len:=h.len
 zo:=λa=>by
  by_cases q:a=eA
  ·have L:=h.zo a;rw[q]at L ⊢;exact L
  ·rw[o8 q];exact h.zo a
variable(E:S! b w e b' m H)
def skE{P:Prop}(k:∀v p s,bd m.lE (ak w)->NM (lF b w e)=O (v,p)->eQ v=O U->p.bD=0->Hf p=O (.next,s)->Le s.loc->s.pg.bD=0->Du s.pg b' m H->P):P:=
 ag E λf E=>jo E λr h E=>cp E λi E=>cp E λj E=>jo E λq c E=>by obtain⟨l,s⟩:=q;refine Fl.casesOn l (λc E=>ag E λE l=>ag E λE4 n=>k r.1 r.2 s f h (jo i λb f e=>f.trans (ah O e)) (aK j) c E4 (aK n) l) aV iz c E
def rsE{P:Prop}(E:D! b w e b' m H bump)(k:∀f s,bd m.lE (ak w)->ì (lF b w e)=O (f,s)->s.pg.bD=bump->Du s.pg b' m H->P):P:=ag E λc E=>jo E λq f E=>ag E λE4 h=>k q.1 q.2 c f (aK E4) h
def AU(c:cz):=aj 0 c=O (.val .par)/\∀x,x≠0->aj x c=C
def I6{l:cz}(h:Le l)(r:Gh g l c):AU c:=Gr h λp t c h=>ag h λh f=>ag h λh i=>by rw[c,cO.mp f]at r;obtain⟨a,v⟩:=p;have c:a=0:=aK h;rw[c]at r;refine⟨?_,λx f=>?_⟩;obtain⟨w,e,q⟩:=(r 0).ro v Z;refine LV.casesOn v (λu h q=>?_) aV i q;rw[e];obtain⟨y,i,c⟩:=q;rw[rE h]at c;rw[i,show y=.par from c];have z:=r x;rw[show aj x [(0,v)]=C from bZ (l:=[]) f]at z;exact z.elim (λz=>z.2) λz=>by obtain⟨_,_,z,_⟩:=z;exact aa z
def AU.rel(h:AU c):Gh g I4 c:=λx=>by by_cases q:x=0;rw[q,h.1];exact .so ⟨_,Z,Z⟩;rw[h.2 x q,show aj x I4=C from bZ (l:=[]) q];exact .no
def m0{q:PG}{p:PG}(h:9<=d)(i:RP (oP Q g T pre pl bY R) q pg)(e:aS.av n [] [] q=O (v,p)):∃c f,(pS d).av n [] [] pg=O (c,f)/\Ga g v c/\RP (oP Q g T pre pl bY R) p f:=by obtain⟨r,c,f,j⟩:=(abk h).av n [] [] [] [] q pg Z Z i (v,p) e;exact⟨r.1,r.2,c,f,j⟩
def none_of{p:PG}(f:RP (oP Q g T pre pl bY R) p pg)(c:fM a=J):aj a pg.par=C:=by have h:=d8.mpr λq=>yt tP.xu q λ_ _ _ z=>ao (il c z);have i:=d8.mpr λq=>yt tP.rW q λ_ _ _ z=>ao (il c z);exact(f.tG a i).elim (λz=>z.2) λz=>by obtain⟨x,_,z,_⟩:=z;exact ao (il h (il (f.zo a) (ah sw z)))
def Gw(c:8<=d):iB (oP Q g T pre pl bY R) aF (gF d):=(I1 tP.AS I5 8 d c).OY bH
def Yy{pre:af}(r:m.bE=bE)(o:cC w e rest)(j:qI Q (k+1) bE b rest pre pg):
  ∀d,9<=d->∃v f,(pS d).av bt [] [] pg=O (v,f)/\eQ v=O U/\f.bD=pg.bD/\(∀a,fM a=J->aj a f.par=C)/\
   ∀l,8<=l->∃i h,pt (gF l) Pd 300 x4 ⟨I4,f⟩=O (.next,⟨i,h⟩)/\AU i/\h.bD=f.bD/\∃c,(∀g,cu g (br m.new (Gu rest H) []) (br m.new c []))/\qI Q k J b' (rest.mv m) (lu m pre c) h:=λd q=>by
 obtain⟨g,T,pl,bY,R,c⟩:=j;have n:=Gv c.h0 c.h1 c.hr o;refine skE E λv p s s t u o v x y z=>?_;obtain⟨A,f,B,F,j⟩:=m0 q (c.R.yr n) t;obtain⟨t,q,t⟩:=jZ F _ u;refine⟨A,f,B,q.trans (ah O t.symm),j.bD.trans (o▸c.R.bD.symm),λa q=>none_of j q,λl t=>?_⟩;obtain⟨⟨u,A⟩,q,B,l⟩:=AQ 300 x4 (Gw t) ⟨I4,p⟩ ⟨I4,f⟩ ⟨AU.rel ⟨Z,λf f=>bZ (l:=[]) f⟩,j⟩ _ v;obtain⟨i,h⟩:=A;have f:u=.next:=B;rw[f]at q;refine⟨i,h,q,I6 x l.loc,l.pg.bD.trans (by rw[j.bD,o];exact ah (·+R) y),Ph l.pg z r c.hi c.hn c.hl c.hk c.h0 ?_ c.hr c.b1 c.b3 c.b4⟩;exact gP (yM (jw.mpr (aB w▸cw s)) _) n.2
def RP.afw(h:RP (oP Q g T pre pl bY R) (lF b w e) pg)(f:CV g [] J):RP (oP Q g T pre pl bY R) (lF b [] J) pg where
 tG:=λa c=>by
  by_cases q:a=eA
  ·have L:=h.tG a c
   rw[q]at L ⊢;obtain⟨y,i,v,j,l⟩:=L.ro (.val (.buf w e)) Z;exact .inr ⟨.val (.buf [] J),y,Z,i,v,j,l.1,f⟩
  ·rw[<-o8 q];exact h.tG a c
 abs:=λa c=>by
  by_cases q:a=eA
  ·exact ao (il (show iY eA=J from Z) (q▸c))
  ·rw[<-o8 q];exact h.abs a c
 j:=h.j
 bD:=h.bD
 len:=h.len
 zo:=λa=>by
  by_cases q:a=eA
  ·have L:=h.zo a;rw[q]at L ⊢;exact L
  ·rw[<-o8 q];exact h.zo a
def Pk{pre:af}{s:St}(p:NM (lF b w e)=O r)(q:eQ r.1=O U)(n:r.2.bD=0)(t:Hf r.2=O (.next,s))(x:Le s.loc)(u:s.pg=lF b' w e)(o:cC w e rest)(j:qI Q k bE b rest pre pg):
  ∀d,9<=d->∃v f,(pS d).av bt [] [] pg=O (v,f)/\eQ v=O U/\f.bD=pg.bD/\(∀a,fM a=J->aj a f.par=C)/\
   ∀l,8<=l->∃i h,pt (gF l) Pd 300 x4 ⟨I4,f⟩=O (.next,⟨i,h⟩)/\AU i/\h.bD=f.bD/\qI Q k bE b' rest pre h:=λd s=>by
 obtain⟨g,T,pl,bY,R,c⟩:=j;have v:=Gv c.h0 c.h1 c.hr o;obtain⟨o,f,y,z,j⟩:=m0 s (c.R.yr v) (p);obtain⟨p,p,s⟩:=jZ z _ q;refine⟨o,f,y,p.trans (ah O s.symm),j.bD.trans (n▸c.R.bD.symm),λa o=>none_of j o,λl p=>?_⟩;obtain⟨⟨q,s⟩,l,v,o⟩:=AQ 300 x4 (Gw p) ⟨I4,r.2⟩ ⟨I4,f⟩ ⟨AU.rel ⟨Z,λf f=>bZ (l:=[]) f⟩,j⟩ _ t;obtain⟨i,h⟩:=s;have f:q=.next:=v;rw[f]at l;have f:=u▸o.pg;exact⟨i,h,l,I6 x o.loc,f.bD.trans (by rw[j.bD,n];rfl),g,T,pl,bY,R,f.afw ⟨c.h0,(aA _).symm▸c.h1,Z,ao⟩,c.hi,c.hn,c.hl,c.hk,c.h0,c.h1,c.hr,c.b1,c.b3,c.b4⟩
def afx{pre:af}(E:D! b w e b' m H bump)(n:m.bE=bE)(j:cC w e rest)(l:AU f)(i:qI Q (k+1) bE b rest pre pg):
  ∀d,8<=d->∃h s,pt (gF d) Pd 300 x! ⟨f,pg⟩=O (h,s)/\s.pg.bD=pg.bD+bump/\∃c,(∀g,cu g (br m.new (Gu rest H) []) (br m.new c []))/\qI Q k J b' (rest.mv m) (lu m pre c) s.pg:=λd o=>by
 obtain⟨g,T,pl,bY,R,c⟩:=i;have i:=Gv c.h0 c.h1 c.hr j;refine rsE E λh s j p q r=>?_;obtain⟨⟨s,t⟩,u,_,h⟩:=AQ 300 x! (Gw o) ⟨I4,lF b w e⟩ ⟨f,pg⟩ ⟨l.rel,c.R.yr i⟩ _ p;refine⟨s,t,u,h.pg.bD.trans (by rw[q,c.R.bD];exact(hO _ _).trans (by rw[show(lF b [] J).bD=0 from Z,hM])),Ph h.pg r n c.hi c.hn c.hl c.hk c.h0 ?_ c.hr c.b1 c.b3 c.b4⟩;exact gP (yM (jw.mpr (aB w▸cw j)) _) i.2
def Gx{P:Prop}{c f:St}(h:O (Fl.brk,c)=O (Fl.next,f)):P:=ao (ah (λo:q5=>oc o (λp=>vN p.1 U J λ_=>J) J) h)
def Gy{P:Prop}{v:V}{c f:St}(h:O (Fl.ret v,c)=O (Fl.next,f)):P:=ao (ah (λo:q5=>oc o (λp=>vN p.1 U J λ_=>J) J) h)
def abl{a b i:S}{s:St}(h:pt G c n (sq [a,b,i]) s=O (.next,j)):pt G c n (.cons a (.cons b (.cons i r))) s=pt G c n r j:=by refine aQ (show bh (pt G c n a) (pt G c n (sq [b,i])) s=O (.next,j)from h) λf q l h=>?_;refine Fl.casesOn f (λl h=>?_) (λ_ h=>Gx h) (λ_ _ h=>Gy h) l h;refine aQ (show bh (pt G c n b) (pt G c n (sq [i])) q=O (.next,j)from h) λf t o h=>?_;refine Fl.casesOn f (λo h=>?_) (λ_ h=>Gx h) (λ_ _ h=>Gy h) o h;refine aQ (show bh (pt G c n i) nx t=O (.next,j)from h) λf s3 p h=>?_;refine Fl.casesOn f (λp h=>?_) (λ_ h=>Gx h) (λ_ _ h=>Gy h) p h;have u:s3=j:=ah Fk (au h);show bh (pt G c n a) (bh (pt G c n b) (bh (pt G c n i) (pt G c n r))) s=_;unfold bh;rw[l];show(ax (pt G c n b q) λf s=>vN f (ax (pt G c n i s) λf s=>vN f (pt G c n r s) (O (Fl.brk,s)) λv=>O (Fl.ret v,s)) (O (Fl.brk,s)) λv=>O (Fl.ret v,s))=_;rw[o];show(ax (pt G c n i t) λf s=>vN f (pt G c n r s) (O (Fl.brk,s)) λv=>O (Fl.ret v,s))=_;rw[p,u];rfl
def Yz{h:cz}{i:PG}{s:St}(j:pt (gF d) Pd 300 x4 ⟨I4,c⟩=O (.next,⟨h,i⟩))(l:pt (gF d) Pd 300 x! ⟨h,i⟩=O (f,s)):(pS (d+1)).av bG [] [] c=O (ku f,s.pg):=by show ax (pt (gF d) Pd 300 cK ⟨I4,c⟩) (λf s=>O (ku f,s.pg))=_;rw[show pt (gF d) Pd 300 cK ⟨I4,c⟩=pt (gF d) Pd 300 x! ⟨h,i⟩from abl j,l];rfl
def kU{pre:af}(h:qI Q k bE b rest pre pg)(c:fM a=J):aj a pg.par=C:=by obtain⟨g,T,pl,bY,R,f⟩:=h;exact none_of f.R c
end
def L1(p q:Sy):I:=qv q J (off:=λa b=>qv p J (off:=λk n=>br (ac k a) (br (ac k 2) J (br (ac k 6) J (a? (n=b)))) J)) (nn:=qv p J (nn:=U))
def L3(p q:Sy):I:=qv q J (off:=λa b=>qv p J (off:=λk n=>br (ac k a) (br (ac k 2) J (br (ac k 5) J (br (ac k 6) J (a? (n=b))))) (br (ac k 5) (br (ac a 2) (a? (n=b)) J) J))) (nn:=qv p J (nn:=U))
def W?(x:PA):I:=oc (bn (Œ x) iK) (λp=>qv p J (off:=λk n=>br (ac k 2) (a? (n=0)) J)) J
def Õ(b:Sy->Sy->I)(a:W)(x y:PA):I:=br (ac a aN) U (br (ac a aI) (W? x&&W? y) (O8 b SF x y))
def Vq(q:PA):N (af):=x8 q aaM aaM aaM aaM O
def Ő(q:PA):N (af):=x8 q aaM O aaM aaM λ_=>C
def Gz(b:aC):I:=oJ (Õ L1) (lF b [] J).par (lF b [] J).par&&oc (bn (aj aN (lF b [] J).par) Vq) (λus=>xr L1 SF us us) J
def t2(b a:aC):I:=oJ (Õ L3) (lF b [] J).par (lF a [] J).par&&oc (bn (aj aN (lF b [] J).par) Vq) (λus=>oc (bn (aj aN (lF a [] J).par) Ő) (xr L3 SF us) J) J
def xv(T:D)(b:af)(a:PG):PG:={a with par:=put aN (.lst b) (put aI (.val (.int (T+1))) a.par)}
def Pm(g:Gb):Gb:={g with base:=λk=>br (ac k 2) (g.base 2+1) (br (ac k 6) (g.base 6-1) (g.base k))}
def Lh(g:Gb):Gb:={g with base:=λk=>br (ac k 2) (g.base 2+1) (br (ac k 5) (g.base 2+1+1) (br (ac k 6) 1 (g.base k)))}
section
variable{x:PA}{v:V}{l:af}
def Vr:Œ x=O v->x=.val v:=PA.casesOn x (λ_ e=>ah PA.val (au e)) bX bX bX λ_=>aa
def I7:Vq x=O l->x=.Hv l:=PA.casesOn x bX bX bX bX λ_ e=>ah PA.Hv (au e)
def Vs:Ő x=O l->x=.lst l:=PA.casesOn x bX (λ_ e=>ah PA.lst (au e)) bX bX λ_=>aa
def Pn(h:W? x):x=.val (.sym (.off 2 0)):=jo h λp a e=>bL a λv b a=>by rw[Vr b,CW a];exact Sy.casesOn p (λk n e=>cp e λh e=>by rw[aK h,aO e]) iz ao aV aV e
end
section
variable{B:W->N PA}{g g':Gb}{u:dy g}{A:dy g'}{pre pre':af}{pl:(pre.length:D)=g.base 6}{G:pre.length<=100000}{H:(pre'.length:D)=g'.base 6}{plen':pre'.length<=100000}{E k:W}{L:I}{b b2:aC}{rest:Rs}{pg:PG}{a:W}{fs:Sy->Sy->I}{v:af}{y0:PA}{Q c1:V}{z:D}{p q:Sy}
def lW(c:a≠aN)(d:a≠aI):aj a (xv T v pg).par=aj a pg.par:=(bZ c).trans (bZ d)
def YA(h:RP (oP B g u pre pl G E) (lF b [] J) pg)(K:oK g g' fs SF)(f:g'.base 2=g.base 2+1)(F:oJ (Õ fs) (lF b [] J).par (lF b2 [] J).par=U)(i:aj aN pg.par=O y0)(o:∀y,aj aN (lF b2 [] J).par=O y->yp (oP B g' A pre' H plen' E) y (.lst v)):
  ∃T,aj aI pg.par=O (.val (.int T))/\RP (oP B g' A pre' H plen' E) (lF b2 [] J) (xv T v pg):=by
 have j:aN≠aI:=by decide
 have c:∃T,aj aI pg.par=O (.val (.int T))/\T=g.base 2+0:=by refine(lV aI F).elim (λz=>ao (il (ah sw z.1) (h.zo aI))) λz=>?_;obtain⟨x,y,e,_,m⟩:=z;obtain⟨l,d,f⟩:=(h.tG aI Z).ro x e;rw[Pn (bO (m)).1]at f;obtain⟨w,e,t,m,r⟩:=f;exact⟨t,d.trans (by rw[e,m]),r⟩
 obtain⟨T,d,s⟩:=c;refine⟨T,d,h.fit Z Z F (λa x y l c m e r t=>?_) (λa c n=>?_) (λa c=>(lW (λq=>ao (il (show iY aN=J from Z) (q▸c))) λq=>ao (il (show iY aI=J from Z) (q▸c))).trans (h.j a c)) h.bD ?_⟩
 ·refine nG e (λq _=>?_) λq e=>nG e (λc e=>?_) λc e=>?_
  ·have q:=aK q
   rw[q]at m ⊢;exact⟨.lst v,dk,o y m⟩
  ·have c:=aK c
   rw[c];refine⟨.val _,(bZ j.symm).trans dk,?_⟩;rw[Pn (bO e).2];exact⟨_,Z,_,Z,show T+1=g'.base 2+0 by rw[f,s,aA,aA]⟩
  ·exact⟨l,(lW (hY q) (hY c)).trans t,Dr K e r⟩
 ·by_cases q:a=aN
  ·rw[q]at n;exact aa (il n i)
  ·by_cases c:a=aI
   ·rw[c]at n;exact aa (il n d)
   ·exact(lW q c).trans n
 ·exact ay (cZ ((kM ((bZ j).trans i)).trans (kM d))) h.len
def abn(e:L1 p q)(r:CU g z p):CU (Pm g) z q:=by refine Sy.casesOn q (λc d=>?_) iz ?_ aV aV e;refine Sy.casesOn p (λk n r e=>cp e λh e=>nG e aV λf e=>nG e aV λi e=>?_) pj aV iz iz r;show z=(Pm g).base c+d;rw[<-aK h,show(Pm g).base k=g.base k from(dw f).trans (dw i),<-aO e];exact r;exact Sy.casesOn p pj pj (λr _=>r) iz iz r
def abo(u:dy g)(one:g.base 6=1)(e:L3 p q)(r:CU g z p):CU (Lh g) z q:=by refine Sy.casesOn q (λd f=>?_) iz ?_ aV aV e;refine Sy.casesOn p (λk n r e=>nG e (λh e=>nG e aV λc e=>nG e aV λi e=>nG e aV λj e=>?_) λ_ e=>cp e λh e=>cp e λc e=>?_) pj aV iz iz r;show z=(Lh g).base d+f;rw[<-aK h,show(Lh g).base k=g.base k from(dw c).trans ((dw i).trans (dw j)),<-aO e];exact r;show z=(Lh g).base d+f;rw[aK c,<-aO e,r,aK h,u.tp,one];rfl;exact Sy.casesOn p pj pj (λr _=>r) iz iz r
def vh{a:D}(h:0<=a):0<=a+1:=gP h (uj (aO Z))
def wfT(u:dy g)(h:2<=g.base 6):dy (Pm g)where
 pos:=λk=>by
  show 0<=br _ _ _;cases ac k 2 with
  |true=>exact vh (u.pos 2)
  |false=>cases ac k 6 with
   |true=>exact r6.mpr (gP (aO Z) h)
   |false=>exact u.pos k
 le:=u.le
 lt:=u.lt
 Yr:=λj c=>h! (u.Yr j c) (I! _)
 tp:=show g.base 5=g.base 2+1+(g.base 6-1) by rw[u.tp,ej,nU 1,qt]
 six:=Int.le_sub_right_of_add_le h
def wfD(u:dy g):dy (Lh g)where
 pos:=λk=>by
  show 0<=br _ _ _;cases ac k 2 with
  |true=>exact vh (u.pos 2)
  |false=>cases ac k 5 with
   |true=>exact vh (vh (u.pos 2))
   |false=>cases ac k 6 with
    |true=>exact(show(0)<=1 by decide)
    |false=>exact u.pos k
 le:=u.le
 lt:=u.lt
 Yr:=λj c=>h! (u.Yr j c) (I! _)
 tp:=Z
 six:=pL _
def Dv(d:RP (oP B g u pre pl G E) (lF b [] J) pg){us:af}(e:bn (aj aN (lF b [] J).par) Vq=O us):∃c,aj aN pg.par=O (.lst (pre++c))/\cu g us c:=bL e λx f e=>by refine gq λP h=>?_;obtain⟨c,i,c⟩:=(d.tG aN Z).ro x f;rw[I7 e]at c;obtain⟨l,q,k,d,r⟩:=c;refine h ?_;exact⟨k,by rw[i,q,d];rfl,r⟩
def Vt{pre:af}(F:Gz b)(h:qI B k L b rest (Q::c1::pre) pg):∃T v,aj aI pg.par=O (.val (.int T))/\aj aN pg.par=O (.lst (Q::v))/\qI B k L b rest (c1::pre) (xv T v pg):=ag F λi e=>jo e λus d e=>by refine gq λP j=>?_;obtain⟨g,u,pl,G,E,c⟩:=h;obtain⟨h,f,r⟩:=Dv c.R d;have K:oK g _ L1 SF:=⟨λ_ _ _ l r=>abn l r,λ_ _=>ao,⟨c.h0,(aA _).symm▸c.h1,Z,ao⟩,Z⟩;have l:=il (wS ((c1::pre).length) 1) (ah (·-1) pl);have A:=wfT u (pl▸jw.mpr (nQ _ _));have m:=ay (iI _) G;(obtain⟨T,n,R⟩:=YA c.R K Z i f λy i=>bL d λx o d=>by rw[au (il i o),I7 d];exact⟨_,Z,h,Z,kT K e r⟩);refine j ?_;exact⟨T,_,n,f,Pm g,A,l,m,E,R,c.hi,c.hn,c.hl,ay (dh (iI _) _) c.hk,c.h0,c.h1,c.hr,c.b1,c.b3,c.b4⟩
def Vu(F:t2 b b2)(h:qI B k L b rest [Q] pg):∃T v,aj aI pg.par=O (.val (.int T))/\aj aN pg.par=O (.lst (Q::v))/\qI B k L b2 rest [.none] (xv T v pg):=ag F λi d=>jo d λus j d=>jo d λc e d=>by refine gq λP l=>?_;obtain⟨g,u,pl,G,E,c⟩:=h;obtain⟨h,f,r⟩:=Dv c.R j;have K:oK g _ L3 SF:=⟨λ_ _ _ j r=>abo u pl.symm j r,λ_ _=>ao,⟨c.h0,(aA _).symm▸c.h1,Z,ao⟩,Z⟩;(obtain⟨T,j,R⟩:=YA (pre':=[V.none]) (plen':=by decide) c.R K Z i f λy i=>bL e λx m e=>by rw[au (il i m),Vs e];exact⟨_,Z,kT K d r⟩);refine l ?_;exact⟨T,h,j,f,Lh g,wfD u,Z,by decide,E,R,c.hi,c.hn,c.hl,c.hk,c.h0,c.h1,c.hr,c.b1,c.b3,c.b4⟩
end
def Li(b a:aC):=∃v,NM (lF b [] J)=O (v,lF a [] J)/\eQ v=O J
abbrev yu(b:aC):Prop:=Li b b
def dA(v:V):I:=dP v J (ob:=λ_ _=>U)
abbrev MARK:V:=.none
def SkP(d:I)(b a:aC)(f:Rs)(m:Mv)(c:af):=∃w e,S! b w e a m c/\m.bE=d/\cC w e f=U
def RsP(f:I)(b a:aC)(g:Rs)(m:Mv)(c:af)(d:W):=∃w e,D! b w e a m c d/\m.bE=f/\cC w e g=U
def Ô(b a:aC)(c:Rs):=∃w e r s,NM (lF b w e)=O r/\eQ r.1=O U/\r.2.bD=0/\Hf r.2=O (.next,s)/\Le s.loc/\s.pg=lF a w e/\cC w e c=U
def P!(a:W)(L b:af):=(a=0/\b=L)∨(a=1/\b=MARK::L/\oc L.head? dA J=U)
def O!(b d:aC)(a c:af)(t:V):=yu b/\dA t/\((∃u r,a=t::u::r/\c=u::r/\Gz b/\d=b)∨(a=[t]/\c=[.none]/\t2 b d=U))
inductive Sn:W->I->I->aC->Rs->af->af->Prop
 |skip {k:W} {bE:I} {b b':aC} {rest:Rs} {m:Mv} {emit:af} {ZB L:af}:SkP bE b b' rest m emit->Sn k J U b' (rest.mv m) (lu m ZB (Gu rest emit)) L->Sn (k+1) bE J b rest ZB L
 |Lj {k:W} {bE:I} {b b':aC} {rest:Rs} {ZB L:af}:Ô b b' rest->Sn k bE U b' rest ZB L->Sn k bE J b rest ZB L
 |xw {k:W} {bE:I} {b b':aC} {rest:Rs} {m:Mv} {emit:af} {bump:W} {ZB L L':af}:RsP bE b b' rest m emit bump->P! bump L L'->Sn k J J b' (rest.mv m) (lu m ZB (Gu rest emit)) L->Sn (k+1) bE U b rest ZB L'
 |take {k:W} {bE:I} {b A':aC} {rest:Rs} {ZB pre2:af} {t:V} {L:af}:O! b A' ZB pre2 t->Sn k bE J A' rest pre2 L->Sn k bE J b rest ZB (t::L)
 |settle {k:W} {bE:I} {b G_:aC} {rest:Rs} {ZB L:af}:Li b G_->yu G_->Sn k bE J G_ rest ZB L->Sn k bE J b rest ZB L
 |fin {k:W} {bE:I} {b A':aC} {rest:Rs} {ZB pre2:af} {t:V}:O! b A' ZB pre2 t->Sn k bE J b rest ZB [t]
section
variable(f:W->N PA)(k:W)(L:af)(pg:PG)
def PQ:=L=[]∨∃a b c d e,qI f k a b c d pg/\(∀g,cu g e d)/\Sn k a J b c e L
def RQ:=∃a b c d e,qI f k a b c d pg/\(∀g,cu g e d)/\Sn k a J b c e L/\yu b
def FrQ:=∃t a c b T,L=t::a/\dA t/\(∀g,Ga g t c)/\aj aN pg.par=O (.lst (c::b))/\aj aI pg.par=O (.val (.int T))/\PQ f k a (xv T b pg)
end
abbrev pG(d:W)(gv:ae):cQ:={pS d with gl:=yg (pS d).gl gv}
section
variable{Fr:W->N PA}{k d n:W}{bE:I}{b b1:aC}{rest:Rs}{pre pre' L:af}{pg:PG}{c:V}{gv:ae}
def AV(h:qI Fr k bE b rest pre pg)(f:Li b b1)(g:9<=d):∃v e,(pS d).av bt [] [] pg=O (v,e)/\eQ v=O J/\e.bD=pg.bD/\qI Fr k bE b1 rest pre e:=by refine gq λP i=>?_;obtain⟨j,l,m,o,p,a⟩:=h;obtain⟨v,h,q⟩:=f;obtain⟨r,e,s,t,f⟩:=m0 g a.R h;obtain⟨g,g,h⟩:=jZ t _ q;refine i ?_;exact⟨r,e,s,g.trans (ah O h.symm),f.bD.trans a.R.bD.symm,j,l,m,o,p,f,a.hi,a.hn,a.hl,a.hk,a.h0,a.h1,a.hr,a.b1,a.b3,a.b4⟩
def set_same(h:Li b b1)(a:yu b):b1=b:=by obtain⟨v,e,_⟩:=h;obtain⟨f,f,_⟩:=a;exact ah (λo:N _=>oc o (λp=>p.2.par.tail.tail) []) (il e f)
def Lk(h:∀g,cu g [c] pre):∃u,pre=[u]/\∀g,Ga g c u:=by induction pre with|nil=>obtain⟨_,_,q,_⟩:=h ⟨λ_=>0,λ_=>0,0,[]⟩;exact ch q.symm (bN _ _)|cons u us _=> obtain⟨_,_,q,_,r⟩:=h ⟨λ_=>0,λ_=>0,0,[]⟩;have:us=[]:=(fw q).2.trans r;exact⟨u,by rw[this],λg=>by obtain⟨_,_,q,r,_⟩:=h g;exact(fw q).1▸r⟩
def Ll{t0 a:V}{l:af}(h:∀g,cu g (t0::a::l) pre):∃u v m,pre=u::v::m/\(∀g,Ga g t0 u)/\∀g,cu g (a::l) (v::m):=by refine gq λP a=>?_;obtain⟨u,m0,q,_,r⟩:=h ⟨λ_=>0,λ_=>0,0,[]⟩;obtain⟨v,m,e,_,_⟩:=(r);refine a ?_;rw[e]at q;refine⟨u,v,m,q,λg=>?_,λg=>?_⟩;obtain⟨_,_,a,e,_⟩:=h g;rw[q]at a;exact(fw a).1▸e;obtain⟨_,_,a,_,e⟩:=h g;rw[q]at a;exact(fw a).2▸e
def Po{e:aC}{m:Mv}{f:af}{P:Prop}(g:yu b)(E:SkP bE b e rest m f)(a:qI Fr (k+1) bE b rest pre pg):P:=by obtain⟨w,e,E,e,f⟩:=E;obtain⟨v,h,h,i,_⟩:=AV a g (aU 9);obtain⟨g,j,b1,j,_⟩:=Yy E e f a 9 (aU 9);have:v=g:=ah wf (au (il h b1));exact ao (au (il i (this▸j)))
def Pp{P:Prop}(f:yu b)(E:Ô b e rest)(a:qI Fr k bE b rest pre pg):P:=by obtain⟨w,e,r,s,e,g,h,i,j,l,m⟩:=E;obtain⟨v,o,o,p,_⟩:=AV a f (aU 9);obtain⟨f,q,b1,q,_⟩:=Pk e g h i j l m a 9 (aU 9);have:v=f:=ah wf (au (il o b1));exact ao (au (il p (this▸q)))
def Pq{i:aC}{t:V}(h:O! b i pre' j t)(f:qI Fr k bE b rest pre pg)(e:∀g,cu g pre' pre):∃c T a l,(∀g,Ga g t c)/\aj aI pg.par=O (.val (.int T))/\aj aN pg.par=O (.lst (c::a))/\qI Fr k bE i rest l (xv T a pg)/\∀g,cu g j l:=by obtain⟨_,_,h⟩:=h;refine h.elim (λh=>?_) λh=>?_;obtain⟨u,r,i,j,l,s⟩:=h;rw[i]at e;obtain⟨u,v,t,q,m,w⟩:=Ll e;rw[q]at f;obtain⟨T,a,o,p,r⟩:=Vt l f;exact⟨u,T,a,v::t,m,o,p,s▸r,j▸w⟩;obtain⟨i,j,l⟩:=h;rw[i]at e;obtain⟨u,q,m⟩:=Lk e;rw[q]at f;obtain⟨T,a,o,p,r⟩:=Vu l f;exact⟨u,T,a,_,m,o,p,r,λg=>by rw[j];exact⟨.none,[],Z,Z,Z⟩⟩
def Dw{z:I}(S:Sn k bE z b rest pre' L):∀{pre:af},z=J->yu b->qI Fr k bE b rest pre pg->(∀g,cu g pre' pre)->FrQ Fr k L pg:=by induction S with|skip E _ _=>exact λ_ a e _=>Po a E e|Lj E _ _=>exact λ_ a e _=>Pp a E e|xw _ _ _ _=>exact λg=>ao g.symm|settle i _ _ j=>exact λg a e f=>j g (set_same i a▸a) (set_same i a▸e) f|take h S _=> intro pre _ a e f;obtain⟨c,T,g,p,i,j,l,m,o⟩:=Pq h e f;exact⟨_,_,c,g,T,Z,h.2,i,l,j,.inr ⟨_,_,_,_,_,m,o,S⟩⟩|fin h=> intro pre _ a e f;obtain⟨c,T,g,p,i,j,l,m,o⟩:=Pq h e f;exact⟨_,_,c,g,T,Z,h.2,i,l,j,.inl Z⟩
def Pr(h:RQ Fr k L pg):FrQ Fr k L pg:=by obtain⟨bE,b,rest,pre,pre',a,e,f,g⟩:=h;exact Dw f Z g a e
def Dx{t:I}(h:aq e x)(i:aj x a=O (.val .par))(o:G.du m)(p:G.ro=J)(l:aj m pg.par=C)(j:BF G e g ⟨a,pg⟩=O (f,⟨a,pg⟩):=by rfl):ev G e t (.fy (.aR x) m g [] .nil) ⟨a,pg⟩=ax (G.av m f [] pg) λv pg=>fin t v ⟨a,pg⟩:=by(have q:gA G e ⟨a,pg⟩ (O (.loc x))=C:=by show mp (gd _ _) _=C;rw[h,i];rfl);(have r:BZ G e x J ⟨a,pg⟩=O (.par,⟨a,pg⟩):=by show ax (br _ _ _) _=_;rw[h,i];rfl);show oc (gA G e ⟨a,pg⟩ (O _)) _ (ax (BZ G e x J ⟨a,pg⟩) λy a=>ax (BF G e g a) λf s=>br _ _ _)=_;rw[q,r];show ax _ (λf s=>Hz G _ m _ f [] t s)=_;rw[j];show oc _ _ (gd _ (ax (br G.ro C _) _))=_;rw[l,o,p];cases G.av m f [] pg<;>rfl
def Vv:(pG d gv).du bt=U:=by cases d<;>rfl
def Pu:(pG d gv).du bG=U:=by cases d<;>rfl
def qc:(pG d gv).ro=J:=by cases d<;>rfl
def vi:fM bt=J:=Z
def Dy:fM bG=J:=Z
def uD:X:=.fy (.aR 0) bt .nil [] .nil
def Pw{c:fc}{b:gB}{s:St}(h:c U s=O (.bool U,a))(k:b a=O (.next,e)):uH c b (n+1) s=uH c b n e:=by show ax _ (λv s=>bn (gJ v) λx=>br x (ax (b s) λf s=>turn f s _) (nx s))=_;rw[h];show ax _ (λf s=>turn f s _)=_;rw[k];rfl
def Px{c:fc}{b:gB}{s:St}(h:c U s=O (.bool J,a)):uH c b (n+1) s=O (.next,a):=by show ax _ (λv s=>bn (gJ v) λx=>br x (ax (b s) λf s=>turn f s _) (nx s))=_;rw[h];rfl
def YB{s:St}{z:I}(h:eQ v=O z):fin U v s=O (.bool z,s):=ah _ h
def YC(Fr:W->N PA)(d:W)(gv h:ae)(f:cz)(c:gB)(k n:W)(L:af)(pg:PG):=∃g e a,uH (ev (pG d gv) h · uD) c n ⟨f,pg⟩=O (.next,⟨f,a⟩)/\g<=k/\RQ Fr g e a/\((L=MARK::e/\a.bD=pg.bD+1)∨(L=e/\a.bD=pg.bD))
variable{lv:ae}{loc:cz}{C:gB}
def vj{z:I}(e:aq lv 0)(f:aj 0 loc=O (.val .par))(g:aj bt pg.par=none)(h:(pS d).av bt [] [] pg=O (v,a))(t:eQ v=O z):ev (pG d gv) lv U uD ⟨loc,pg⟩=O (.bool z,⟨loc,a⟩):=by refine(Dx e f Vv qc g).trans ?_;rw[show(pG d gv).av bt [] [] pg=O _ from h];exact YB t
def xx(f:9<=d)(h:aq lv 0)(i:aj 0 loc=O (.val .par))(a:qI Fr k bE b rest pre pg)(j:∀g,cu g pre' pre)(e:Li b b1)(l:yu b1)(S:Sn k bE J b1 rest pre' L):YC Fr d gv lv loc C k (n+1) L pg:=by obtain⟨v,g,m,o,p,q⟩:=AV a e f;exact⟨k,L,g,Px (vj h i (kU a vi) m o),aU _,⟨bE,b1,rest,pre,pre',q,j,S,l⟩,.inr ⟨Z,p⟩⟩
def I8(i:∀g,cu g pre' pre)(f:∀g,cu g (br m.new a []) (br m.new e []))(g:Gb):cu g (lu m pre' a) (lu m pre e):=by unfold lu;have h:=f g;cases q:m.new with|false=>exact⟨.none,[],Z,Z,Z⟩|true=>rw[q]at h;cases m.old with|true=>exact(i g).app h|false=>exact h
def ŏ(d:W)(loc:cz)(C:gB):=∀v a e,aj bG a.par=none->(pS d).av bG [] [] a=O (v,e)->C ⟨loc,a⟩=O (.next,⟨loc,e⟩)
def afA(Fr:W->N PA)(d:W)(gv lv:ae)(loc:cz)(c:gB)(k n:W)(L:af)(pg:PG):=∀f,AU f->∃h s g e a,pt (gF d) Pd 300 x! ⟨f,pg⟩=O (h,s)/\uH (ev (pG (d+1) gv) lv · uD) c n ⟨loc,s.pg⟩=O (.next,⟨loc,a⟩)/\g<=k/\RQ Fr g e a/\((L=MARK::e/\a.bD=pg.bD+1)∨(L=e/\a.bD=pg.bD))
def Vw{p:I}(A:8<=d)(i:aq lv 0)(j:aj 0 loc=O (.val .par))(hC:ŏ (d+1) loc C)(S:Sn k bE p b rest pre' L):∀{pre:af}{pg:PG}{n:W},qI Fr k bE b rest pre pg->(∀B,cu B pre' pre)->k<=n->br p (afA Fr d gv lv loc C k n L pg) (YC Fr (d+1) gv lv loc C k (n+1) L pg):=by
 have m:=eN A
 induction S with
 |skip E _ o=> intro pre pg n a e g;obtain⟨a',b',E,F,p⟩:=E;obtain⟨c',G,H,K,M,P,Q⟩:=Yy E F p a _ m;obtain⟨B,pg2,c1,R,r,es,c3,t⟩:=Q d A;obtain⟨T,s,u,v,w,V,x,y,z,f⟩:=(o t (I8 e c3) (n4 g)) B R;refine⟨u,v,w,(Pw (vj i j (kU a vi) H K) (hC _ G s.pg (P _ Dy) (Yz c1 V))).trans x,vI y,z,?_⟩;rw[r,M]at f;exact f
 |Lj E _ o=> intro pre pg n a e g;obtain⟨a',b',d',s,X,h2,h3,h4,h5,h6,p⟩:=E;obtain⟨c',G,H,K,M,P,Q⟩:=Pk X h2 h3 h4 h5 h6 p a _ m;obtain⟨B,pg2,c1,R,r,t⟩:=Q d A;obtain⟨T,s,u,v,w,V,x,y,z,f⟩:=(o t e g) B R;refine⟨u,v,w,(Pw (vj i j (kU a vi) H K) (hC _ G s.pg (P _ Dy) (Yz c1 V))).trans x,y,z,?_⟩;rw[r,M]at f;exact f
 |xw E hm _ o=>
  intro pre pg n a e g B B;obtain⟨a',b',E,F,p⟩:=E;obtain⟨T,s,c1,r,es,c3,t⟩:=afx E F p B a d A
  induction n with
  |zero=>exact ch g (zV _)
  |succ n _=>
  obtain⟨u,v,w,x,y,z,f⟩:=(o t (I8 e c3) (vF g));refine⟨T,s,u,v,w,c1,x,vI y,z,?_⟩;rw[r]at f;refine hm.elim (λh=>?_) λh=>?_
  ·rw[h.2];rw[h.1]at f;exact f
  ·rw[h.2]
   rw[h.1]at f;exact f.elim (λq=>ao (il (ah (λl:af=>oc l.head? dA J) q.1) h.3)) λq=>.inl ⟨ah _ q.1,q.2⟩
 |settle X h2 S _=>exact λa e _=>xx m i j a e X h2 S
 |take h S _=>exact λa e _=>xx m i j a e h.1 h.1 (.take h S)
 |fin h=>exact λa e _=>xx m i j a e h.1 h.1 (.fin h)
end
section
variable{a b:gB}{c:fc}{s s1:St}{v:V}
def eB(h:a s=O (.next,s1)):bh a b s=b s1:=by show ax (a s) _=_;rw[h];rfl
def mN(h:a s=O (.ret v,s1)):bh a b s=O (.ret v,s1):=by show ax (a s) _=_;rw[h];rfl
def zt(h:c U s=O (.bool U,s1)):BH c a b s=a s1:=by show ax (c U s) _=_;rw[h];rfl
def I9(h:c U s=O (.bool J,s1)):BH c a b s=b s1:=by show ax (c U s) _=_;rw[h];rfl
def GA(h:c J s=O (v,s1)):sW J c s=O (.ret v,s1):=by show ax (c J s) (λv s=>O (Fl.ret v,s))=_;rw[h];rfl
end
section
variable{G:cQ}{lv:ae}{loc:cz}{pg:PG}{c:V}{b:af}
variable(d:aq lv 0)(h0:aj 0 loc=O (.val .par))(ht:aj aN pg.par=O (.lst b))
def xy:iS G lv ⟨loc,pg⟩ (.bU 44)=O (.lst b):=by show gd (br (aq lv 0) (oc (aj 0 loc) (λl=>Kb l jy λ_=>J) J) J) (oc (aj 44 pg.par) (Ms G) _)=_;rw[d,h0,show aj 44 pg.par=O (.lst b)from ht];rfl
def GB:gA G lv ⟨loc,pg⟩ (O (.bU 44))=O (.bU 44,.lst b):=ah (mp · λc=>(Pl.bU 44,c)) (xy d h0 ht)
def xA(ht:aj aN pg.par=O (.lst (c::b))):ev G lv U (.bU (.aR 0) 44) ⟨loc,pg⟩=O (.bool U,⟨loc,pg⟩):=by show oc (gA G lv ⟨loc,pg⟩ (O (.bU 44))) _ _=_;rw[GB d h0 ht];rfl
def zu{s:St}:calm s s:=cf _
def zv(ht:aj aN pg.par=O (.lst (c::b))):ev G lv J (.sub (.bU (.aR 0) 44) (.int 0)) ⟨loc,pg⟩=O (c,⟨loc,pg⟩):=by show oc (gA G lv ⟨loc,pg⟩ (O (.bU 44))) (λa=>gd (calm ⟨loc,pg⟩ ⟨loc,pg⟩) (bn (iS G lv ⟨loc,pg⟩ a.1) λc=>bn (qz c (.int 0)) λw=>fin J w ⟨loc,pg⟩)) _=_;rw[GB d h0 ht];show gd (calm ⟨loc,pg⟩ ⟨loc,pg⟩) (bn (iS G lv ⟨loc,pg⟩ (.bU 44)) _)=_;rw[zu,xy d h0 ht];rfl
end
section
variable{y:W->N PA}{k d:W}{L:af}{pg:PG}{u:V}{gv lv:ae}{loc:cz}
def ahR(b:aq lv 0)(c:aj 0 loc=O (.val .par)):ŏ d loc (pt (pG d gv) lv 300 (sq [.expr (.fy v0 52 .nil [] .nil)])):=λv a e f g=>by refine eB (a:=vW (ev (pG d gv) lv · (.fy (.aR 0) bG .nil [] .nil))) (b:=nx) ?_;show ax (ev (pG d gv) lv J (.fy (.aR 0) bG .nil [] .nil) ⟨loc,a⟩) _=_;rw[Dx b c Pu qc f,show(pG d gv).av bG [] [] a=O (v,e)from g];rfl
def Ja(y:W->N PA)(k:W)(L:af)(pg:PG)(c:W)(a:af)(b:PG)(e:V):=c<=k/\RQ y c a b/\((L=MARK::a/\b.bD=pg.bD+1)∨(L=a/\b.bD=pg.bD))/\∃t b,a=t::b/\dA t/\∀g,Ga g t e
def Jb(g:9<=d)(i:aq lv 0)(j:aj 0 loc=O (.val .par))(h:PQ y k L pg)(l:L≠[])(m:k<300):∃b e a c f,uH (ev (pG d gv) lv · uD) (pt (pG d gv) lv 300 (sq [.expr (.fy v0 52 .nil [] .nil)])) 300 ⟨loc,pg⟩=O (.next,⟨loc,a⟩)/\Ja y k L pg b e a c/\aj aN a.par=O (.lst (c::f)):=by
 refine h.elim (λh=>ch h l) λh=>?_;obtain⟨l,l,l,l,l,n,o,S⟩:=h
 induction d with
 |zero=>exact ch g (zV _)
 |succ d _=>
 obtain⟨b,e,a,l,p,h,q⟩:=(Vw (gv:=gv) (vF g) i j (ahR (gv:=gv) i j) S n o (sK m));obtain⟨t,g,c,f,T,i,j,m,n,_⟩:=Pr h;exact⟨b,e,a,c,f,l,⟨p,h,q,t,g,i,j,m⟩,n⟩
def Py(g:9<=d)(h:PQ y k L pg)(i:L≠[])(j:k<300):∃b e a c,(pS (d+1)).av mw [] [] pg=O (c,a)/\Ja y k L pg b e a c:=by obtain⟨b,e,a,c,f,w,H,f⟩:=Jb (gv:=[]) (lv:=[0]) (loc:=[(0,.val .par)]) g Z Z h i j;refine⟨b,e,a,c,?_,H⟩;show ax (bh (uH (ev (pG d []) [0] · uD) (pt (pG d []) [0] 300 (sq [.expr (.fy v0 52 .nil [] .nil)])) 300) (bh (BH (ev (pG d []) [0] · (.bU (.aR 0) 44)) (bh (sW J (ev (pG d []) [0] · (.sub (.bU (.aR 0) 44) (.int 0)))) nx) λ_=>C) nx) ⟨[(0,.val .par)],pg⟩) (λa s=>O (ku a,s.pg))=_;rw[eB w,mN ((zt (c:=(ev (pG d []) [0] · (.bU (.aR 0) 44))) (xA Z Z f)).trans (mN (GA (c:=(ev (pG d []) [0] · (.sub (.bU (.aR 0) 44) (.int 0)))) (zv Z Z f))))];rfl
def GC(G:cQ)(t u:V):fQ:=bn (jm G t Ų ⟨[],⟨[],[],0⟩⟩) λi=>ph .In i u
def Dz{t:V}{s:St}:dA t->jm G t a s=jm G t a s':=by refine V.casesOn (motive_1:=λt=>dA t=U->jm G t a s=jm G t a s') t ao aV aV aV aV aV (λ_ _ _=>Z) aV aV aV aV aV ao ao aV iz ao aV
def DA{t:V}(h:Ga g t c)(a:dA t):dA c:=by refine V.casesOn (motive_1:=λt=>dA t=U->Ga g t c->dA c=U) t ao aV aV aV aV aV (λ_ _ _ h=>?_) aV aV aV aV aV ao ao aV iz ao aV a h;obtain⟨l,q,_⟩:=h;rw[q];rfl
def Pz(h:aj x loc=O (.val u))(a:dZ u=J):gA G lv ⟨loc,pg⟩ (O (.loc x))=C:=by show mp (gd (aq lv x) (bn (aj x loc) _)) _=C;rw[h];show mp (gd (aq lv x) (gd (dZ u) _)) _=C;rw[a];cases aq lv x<;>rfl
def PB{t:I}(a:aq lv x)(h:aj x loc=O (.val u))(b:dZ u=J):ev G lv t (.aR x) ⟨loc,pg⟩=fin t u ⟨loc,pg⟩:=by(have k:ax (Kc G lv x ⟨loc,pg⟩) (λv s=>fin t v s)=fin t u ⟨loc,pg⟩:=by show ax (br (aq lv x) (bn (aj x loc) _) _) _=_;rw[a,h];rfl);show br t (oc (gA G lv ⟨loc,pg⟩ (O (.loc x))) _ _) _=_;rw[Pz h b,k];cases t<;>rfl
def Lm(i:9<=d)(j:PQ y k L pg)(l:L≠[])(m:k<300)(f:eQ u=O U):∃b g a c,Ja y k L pg b g a c/\∀e,GC (pG d []) c u=O e->(pS (d+1)).av k6 [u] [] pg=O (.bool e,a):=by
 obtain⟨b,g,a,c,h,w,H,h⟩:=Jb (gv:=[]) (lv:=[0,53]) (loc:=[(0,.val .par),(53,.val u)]) i Z Z j l m;refine⟨b,g,a,c,H,λe g=>bL g λi o g=>?_⟩;have j:dZ u=J:=d8.mpr λq=>by rw[sZ q]at f;exact aa f
 have p:dA c:=by obtain⟨_,_,_,t,_,_,q,r⟩:=H;exact DA (r ⟨λ_=>0,λ_=>0,0,[]⟩) q
 have l:aj 0 [(0,LV.val .par),(53,LV.val u)]=O (.val .par):=Z;have m:aj 53 [(0,LV.val .par),(53,LV.val u)]=O (.val u):=Z
 have r:ev (pG d []) [0,53] U (.nt (.aR 53)) ⟨[(0,.val .par),(53,.val u)],a⟩=O (.bool J,⟨[(0,.val .par),(53,.val u)],a⟩):=by show ax (ev (pG d []) [0,53] U (.aR 53) ⟨[(0,.val .par),(53,.val u)],a⟩) (λv s=>mp (eQ v) λb=>(V.bool !b,s))=_;rw[PB Z m j,YB f];rfl
 have f:ev (pG d []) [0,53] J (.bU (.sub (.bU (.aR 0) 44) (.int 0)) 54) ⟨[(0,.val .par),(53,.val u)],a⟩=O (i,⟨[(0,.val .par),(53,.val u)],a⟩):=by show ax (ev (pG d []) [0,53] J (.sub (.bU (.aR 0) 44) (.int 0)) _) (λv s=>bn (jm (pG d []) v 54 s) λv=>fin J v s)=_;rw[zv Z l h];show bn (jm (pG d []) c 54 _) _=_;rw[Dz (s':=⟨[],⟨[],[],0⟩⟩) p,show jm (pG d []) c 54 ⟨[],⟨[],[],0⟩⟩=O i from o];rfl
 have n3:ev (pG d []) [0,53] U (.cmp (.bU (.sub (.bU (.aR 0) 44) (.int 0)) 54) [.In] (.cons (.aR 53) .nil)) ⟨[(0,.val .par),(53,.val u)],a⟩=O (.bool e,⟨[(0,.val .par),(53,.val u)],a⟩):=by show ax (ev (pG d []) [0,53] J (.bU (.sub (.bU (.aR 0) 44) (.int 0)) 54) ⟨[(0,.val .par),(53,.val u)],a⟩) (λv s=>ax (oc (gA (pG d []) [0,53] s (O (.loc 53))) (λo=>gd U (mp (Fm .In (vR o.2 v)) λb=>(b,s))) (ax (ev (pG d []) [0,53] J (.aR 53) s) λw s=>bn (ph .In v w) λb=>O (b,s))) λb s=>O (V.bool b,s))=_;rw[f];show ax (oc (gA (pG d []) [0,53] ⟨[(0,.val .par),(53,.val u)],a⟩ (O (.loc 53))) _ (ax (ev (pG d []) [0,53] J (.aR 53) ⟨[(0,.val .par),(53,.val u)],a⟩) λw s=>bn (ph .In i w) λb=>O (b,s))) (λb s=>O (V.bool b,s))=_;rw[Pz m j];show ax (bn (ph .In i u) λb=>O (b,(⟨[(0,.val .par),(53,.val u)],a⟩:St))) (λb s=>O (V.bool b,s))=_;rw[g];rfl
 have n:BH (ev (pG d []) [0,53] · (.bU (.aR 0) 44)) (bh (BH (ev (pG d []) [0,53] · (.nt (.aR 53))) aaM nx) (bh (BH (ev (pG d []) [0,53] · (.cmp (.bU (.sub (.bU (.aR 0) 44) (.int 0)) 54) [.In] (.cons (.aR 53) .nil))) (bh (sW J (sU (.bool U))) nx) nx) nx)) nx ⟨[(0,.val .par),(53,.val u)],a⟩=O (br e (.ret (.bool U)) .next,⟨[(0,.val .par),(53,.val u)],a⟩):=by
  rw[zt (c:=(ev (pG d []) [0,53] · (.bU (.aR 0) 44))) (xA Z l h),eB (I9 (c:=(ev (pG d []) [0,53] · (.nt (.aR 53)))) r)]
  induction e with
  |true=>exact mN (zt n3)
  |false=>exact eB (I9 n3)
 show ax (bh (uH (ev (pG d []) [0,53] · uD) (pt (pG d []) [0,53] 300 (sq [.expr (.fy v0 52 .nil [] .nil)])) 300) (bh (BH (ev (pG d []) [0,53] · (.bU (.aR 0) 44)) (bh (BH (ev (pG d []) [0,53] · (.nt (.aR 53))) aaM nx) (bh (BH (ev (pG d []) [0,53] · (.cmp (.bU (.sub (.bU (.aR 0) 44) (.int 0)) 54) [.In] (.cons (.aR 53) .nil))) (bh (sW J (sU (.bool U))) nx) nx) nx)) nx) (bh (sW J (sU (.bool J))) nx)) ⟨[(0,.val .par),(53,.val u)],pg⟩) (λf s=>O (ku f,s.pg))=_;rw[eB w]
 induction e with
 |true=>rw[mN n];rfl
 |false=>rw[eB n];rfl
end
section
variable{A:W->N PA}{k d:W}{B:I}{b:aC}{rest:Rs}{pre L:af}{pg:PG}{c:V}{E:af}{T:D}
def qI.frame(h:qI A k B b rest pre pg):(∀a,iY a->aj a pg.par=A a)/\pg.par.length<=900000:=by obtain⟨g,a,a,a,a,a⟩:=h;exact⟨a.R.j,a.R.len⟩
def Vx(a:pg.par.length<=900000)(e:aj aI pg.par=O (.val (.int T))):pt (pG d []) [0] 300 (.J7 v0 46 .Add (.int 1)) ⟨[(0,.val .par)],pg⟩=O (.next,⟨[(0,.val .par)],{pg with par:=put aI (.val (.int (T+1))) pg.par}⟩):=by have e:aj 46 pg.par=O (.val (.int T)):=e;show bn (bn (aj 46 pg.par) pP) (λv=>bn (Ka .Add v (.int 1)) λu=>hV (pG d []).ro ⟨[(0,.val .par)],pg⟩ 46 (.val u))=_;rw[e];show br (pG d []).ro C (gd (bd (ak pg.par) 900000) (O (Fl.next,(⟨[(0,LV.val .par)],⟨put 46 (.val (.int (T+1))) pg.par,pg.aG,br (oc (aj 46 pg.par) Hx J) (pg.bD+1) pg.bD⟩⟩:St))))=_;rw[qc,aB,hH a,e];rfl
def Vy(e:aj aN pg.par=O (.lst (c::E))):ev (pG d []) [0] J (.fy (.bU (.aR 0) 44) 55 (.cons (.int 0) .nil) [] .nil) ⟨[(0,.val .par)],pg⟩=O (c,⟨[(0,.val .par)],{pg with par:=put aN (.lst E) pg.par}⟩):=by show oc (gA (pG d []) [0] ⟨[(0,.val .par)],pg⟩ (O (.bU 44))) (λf=>gd (vS f.2) (gd (calm ⟨[(0,.val .par)],pg⟩ ⟨[(0,.val .par)],pg⟩) (bn (iS (pG d []) [0] ⟨[(0,.val .par)],pg⟩ f.1) λc=>ax (cX (pG d []) c 55 [.int 0]) λv a=>bn (hU (pG d []).ro ⟨[(0,.val .par)],pg⟩ f.1 a) λs=>O (v,s)))) _=_;rw[GB Z Z e];show gd (calm ⟨[(0,.val .par)],pg⟩ ⟨[(0,.val .par)],pg⟩) (bn (iS (pG d []) [0] ⟨[(0,.val .par)],pg⟩ (.bU 44)) λc=>ax (cX (pG d []) c 55 [.int 0]) λv a=>bn (hU (pG d []).ro ⟨[(0,.val .par)],pg⟩ (.bU 44) a) λs=>O (v,s))=_;rw[zu,xy Z Z e];show ax (cX (pG d []) (.lst (c::E)) 55 [.int 0]) (λv a=>bn (hU (pG d []).ro ⟨[(0,.val .par)],pg⟩ (.bU 44) a) λs=>O (v,s))=_;rw[show cX (pG d []) (.lst (c::E)) 55 [.int 0]=O (c,.lst E) by cases d<;>rfl,qc];show bn (bn (aj 44 pg.par) λq=>gd (BW q) (O (Fg ⟨[(0,.val .par)],pg⟩ 44 (.lst E)))) (λs=>O (c,s))=_;rw[show aj 44 pg.par=O (.lst (c::E))from e];rfl
structure ahS(A:W->N PA)(k d:W)(L:af)(pg:PG)(t:V)(L':af)(c:V)(pg1:PG):Prop where
 L:L=t::L'
 o:dA t=U
 ga:∀g,Ga g t c
 run:(pS (d+1)).av om [] [] pg=O (c,pg1)
 q:PQ A k L' pg1
 bD:pg1.bD=pg.bD
 ll:∀a,iY a->aj a pg1.par=A a
 no:∀a,fM a=J->aj a pg1.par=C
 len:pg1.par.length<=900000
def Vz(i:9<=d)(h:RQ A k L pg):∃t e c a,ahS A k d L pg t e c a:=by
 refine gq λP n=>?_;obtain⟨B,b,rest,pre,a,j,o,p,a⟩:=h;obtain⟨v,f,r,s,u,g⟩:=AV j a i;obtain⟨t,e,c,E,T,v,w,y,l,m,z⟩:=Dw p Z a g o;refine n ?_;have F:=g.frame;have a:aN≠aI:=by decide
 have n:aj aN (put aI (PA.val (.int (T+1))) f.par)=O (.lst (c::E)):=(bZ a).trans l;have o:∀{a x},fM x->fM a=J->a≠x:=λh i q=>ao (il i (q▸h));have p:∀{a x},iY x=J->iY a->a≠x:=λh i q=>ao (il h (q▸i));refine⟨t,e,c,xv T E f,v,w,y,?_,z,u,λa e=>(lW (p Z e) (p Z e)).trans (F.1 a e),λa e=>(lW (o Z e) (o Z e)).trans (kU g e),ay (cZ ((kM n).trans (kM m))) F.2⟩;show ax (bh (uH (ev (pG d []) [0] · uD) aaM 300) (bh (BH (ev (pG d []) [0] · (.bU (.aR 0) 44)) (bh (pt (pG d []) [0] 300 (.J7 v0 46 .Add (.int 1))) (bh (sW J (ev (pG d []) [0] · (.fy (.bU (.aR 0) 44) 55 (.cons (.int 0) .nil) [] .nil))) nx)) nx) nx) ⟨[(0,.val .par)],pg⟩) (λa e=>O (ku a,e.pg))=_;have w:uH (ev (pG d []) [0] · uD) aaM 300 ⟨[(0,.val .par)],pg⟩=O (.next,⟨[(0,.val .par)],f⟩):=Px (vj Z Z (kU j vi) r s);rw[eB w,mN ((zt (c:=(ev (pG d []) [0] · (.bU (.aR 0) 44))) (xA Z Z l)).trans ((eB (Vx F.2 m)).trans (mN (GA (c:=(ev (pG d []) [0] · (.fy (.bU (.aR 0) 44) 55 (.cons (.int 0) .nil) [] .nil))) (Vy n)))))];rfl
def RQ.pq(h:RQ A k L pg):PQ A k L pg:=by obtain⟨B,b,rest,pre,a,e,f,g,_⟩:=h;exact .inr ⟨B,b,rest,pre,a,e,f,g⟩
def P?(A:W->N PA)(a:W)(x:PA)(c:W):N PA:=if c=a then O x else A c
def qI.put(h:qI A k B b rest pre pg){e:W}(g:iY e)(f:(aj e pg.par).isSome=U)(x:PA)(n:W):qI (P? A e x) k B b rest pre {pg with par:=put e x pg.par,bD:=n}:=by refine gq λP i=>?_;obtain⟨j,l,m,o,a,a⟩:=h;obtain⟨y,h⟩:=BM.mp f;refine i ?_;refine⟨j,l,m,o,n,⟨λc f=>?_,a.R.abs,λc f=>?_,(hM _).symm,ay (cZ (kM h)) a.R.len,a.R.zo⟩,a.hi,a.hn,a.hl,a.hk,a.h0,a.h1,a.hr,a.b1,a.b3,a.b4⟩;rw[show aj c (Ev.put e x pg.par)=aj c pg.par from bZ λq:c=e=>ao (il (f) (q▸g))];exact a.R.tG c f;by_cases q:c=e;rw[q];exact dk.trans (eP Z).symm;exact(bZ q).trans ((a.R.j c f).trans (eH q).symm)
def PQ.put(h:PQ A k L pg){a:W}(e:iY a)(f:(aj a pg.par).isSome=U)(x:PA)(n:W):PQ (P? A a x) k L {pg with par:=Ev.put a x pg.par,bD:=n}:=h.imp id λh=>by obtain⟨B,b,rest,pre,a,g,r,z⟩:=h;exact⟨B,b,rest,pre,a,g.put e f x n,r,z⟩
def RQ.put(h:RQ A k L pg){a:W}(e:iY a)(f:(aj a pg.par).isSome=U)(x:PA)(n:W):RQ (P? A a x) k L {pg with par:=Ev.put a x pg.par,bD:=n}:=by obtain⟨B,b,rest,pre,a,g,r,z,y⟩:=h;exact⟨B,b,rest,pre,a,g.put e f x n,r,z,y⟩
def JM(t:af)(pg:PG):=∃A k,k<=250/\((∃L,t=.bool U::L/\RQ A k L pg)∨PQ A k t pg)
def JT(t:af)(pg:PG):=(∀a,iY a->(aj a pg.par).isSome=U)/\JM t pg
def JT.put{t:af}(h:JT t pg){a:W}(e:iY a)(x:PA)(n:W):JT t {pg with par:=Ev.put a x pg.par,bD:=n}:=by obtain⟨f,A,k,g,i⟩:=h;refine⟨λc j=>?_,P? A a x,k,g,i.imp (λh=>by obtain⟨L,g,r⟩:=h;exact⟨L,g,r.put e (f a e) x n⟩) λh=>h.put e (f a e) x n⟩;by_cases q:c=a;rw[q];exact ah sw dk;exact(ah sw (bZ q)).trans (f c j)
def Sn.nb{z:I}(S:Sn k B z b rest f L):∀X,L≠.bool U::X:=by have e:∀{b f pre g t}{l X:af},O! b f pre g t->t::l≠.bool U::X:=λh q=>ao (il (ah dA (fw q).1) h.2);induction S with|skip _ _ a=>exact a|Lj _ _ a=>exact a|xw _ i _ a=>exact λX q=>i.elim (λh=>a X (h.2▸q)) λh=>ao (ah (λl:af=>oc l.head? (λv=>dP v J (bo:=id)) J) (il h.2 q))|settle _ _ _ a=>exact a|take h _ _=>exact λX=>e h|fin h=>exact λX=>e h
def PQ.nb{X:af}{P:Prop}(h:PQ A k (.bool U::X) pg):P:=h.elim (λq=>ch q (bN _ _)) λh=>by obtain⟨_,_,_,_,_,_,_,S⟩:=h;exact ch Z (S.nb X)
end
def AW(g:Gb)(b:dy g)(a:af)(c:(a.length:D)=g.base 6)(d:a.length<=100000)(e:W):Ab:={g:=g,gw:=b,ll:=atS,dm:=iY,pre:=a,pl:=c,bY:=d,J:=JT,î:=λ_ _ _ x k _ h j=>j.put h x k,δ:=e}
def Jc(x:V):I:=dP x J (bo:=id)
def PC(x:V):I:=dP x J (no:=U)
def Ó(l:af):N (W×V×af):=lc l C λx r=>br (Jc x) (lc r C λt L=>gd (dA t) (O (0,t,L))) (br (PC x) (lc r C λt L=>gd (dA t) (O (1,t,L))) (gd (dA x) (O (0,x,r))))
def YD(t a:V):fQ:=GC (O3 oO iY) t a
def S_(p:PG)(r:W×V×af):PG:={p with aG:=.bool U::r.2.1::r.2.2,bD:=p.bD+r.1}
def Ŭ(a:V)(p:PG):dR:=bn (Ó p.aG) λr=>gd (oc (eQ a) id J) (mp (YD r.2.1 a) λb=>(.bool b,S_ p r))
def ć(p:PG):dR:=mp (Ó p.aG) λr=>(r.2.1,S_ p r)
def ġ(p:PG):dR:=lc p.aG C λx r=>gd (Jc x) (lc r C λt L=>O (t,{p with aG:=L}))
def PD(c:yq):yq:=λm a b p=>br (ac m k6) (one a λd=>lc b (Ŭ d p) λ_ _=>C) (br (ac m mw) (lc a (lc b (ć p) λ_ _=>C) λ_ _=>C) (br (ac m om) (lc a (lc b (ġ p) λ_ _=>C) λ_ _=>C) (c m a b p)))
def GD(d:W):cQ:=ut (motive:=λ_=>cQ) (Gp oO iY (PD λ_ _ _ _=>C) λ_ _ _ _=>C) (λ_ G=>Gp oO iY (PD (Dm G)) (Dn oO G)) d
def DB:Jc x->x=.bool U:=V.casesOn x ao (λb h=>ah V.bool h) aV aV aV aV iz aV aV aV aV aV ao ao aV iz ao λ_=>ao
def DC:PC x->x=.none:=V.casesOn x (λ_=>Z) aV aV aV aV aV iz aV aV aV aV aV ao ao aV iz ao λ_=>ao
section
variable{g:Gb}{B:dy g}{pre:af}{pl:(pre.length:D)=g.base 6}{P:pre.length<=100000}{F d n k k':W}{p A w pg:PG}{t c Q H:V}{L E T t0:af}{y:W->N PA}{a:W}
def Jd:IZ (AW g B pre pl P F) iY fM where
 mh:=λ_ h=>yt tP.xu h λa _ _ _=>a
 L8:=λ_ h=>yt tP.xu h λ_ a _ _=>a
 attr:=λ_ h=>yt tP.rW h λ_ _ a b=>⟨b,a,h⟩
def abr(G:cQ)(h:G.cls=λc=>aj c yi)(e:dA t)(b:Ga g t c)(a:W)(s:St):RO (Ga g) (jm (O3 oO iY) t a s) (jm G c a s):=by refine V.casesOn t ao aV aV aV aV aV (λn l _ b=>?_) aV aV aV aV aV ao ao aV iz ao aV e b;obtain⟨m,q,r⟩:=b;rw[q];refine .oc (o6.lk a r) (λ_ _ q=>.so q) ?_;rw[h];exact λv e=>⟨v,e,bL e λb f e=>tw (C8 (bO (oG (f:=λb:XK=>Ys b.params&&u! b.consts) Ø.I0 f)).2 e)⟩
def VA(B:dy g)(e:dA t)(f:Ga g t c)(h:Ga g Q H){b:I}(i:YD t Q=O b):GC (pG d []) c H=O b:=by obtain⟨l,j,q⟩:=(RO.bn (abr (pG d []) (by cases d<;>rfl) e f Ų ⟨[],⟨[],[],0⟩⟩) λe e q=>IG B q h) b i;exact j.trans (ah O (J0 q))
def PF(h:JT t0 pg){r:W×V×af}(e:Ó t0=O r):∃y k E,k<=250/\PQ y k E pg/\dA r.2.1/\P! r.1 (r.2.1::r.2.2) E:=mZ e λx l b e=>by obtain⟨_,y,k,f,h⟩:=h;rw[b]at h;refine jj e (λj e=>mZ e λt L i e=>bW e λb e=>?_) λj e=>jj e (λm e=>mZ e λt L i e=>bW e λb e=>?_) λm e=>bW e λb e=>?_;rw[DB j,i]at h;rw[<-au e];refine h.elim (λh=>?_) λh=>h.nb;obtain⟨L,q,r⟩:=h;exact⟨y,k,_,f,r.pq,b,.inl ⟨Z,(fw q).2.symm⟩⟩;rw[DC m,i]at h;rw[<-au e];refine h.elim (λh=>?_) λh=>⟨y,k,_,f,h,b,.inr ⟨Z,Z,b⟩⟩;obtain⟨L,q,_⟩:=h;exact ao ((ah Jc (fw q).1));rw[<-au e];refine h.elim (λh=>?_) λh=>⟨y,k,_,f,h,b,.inl ⟨Z,Z⟩⟩;obtain⟨L,q,_⟩:=h;exact ao (il (ah dA (fw q).1) b)
def rX(h:atS a=J):iY a=U∨fM a=J:=(Bool.eq_false_or_eq_true _).imp id λb=>d8.mpr λq=>(gX.mp (fU q)).elim (λz=>ao (il h (o5 z))) λz=>ao (il b (o5 z))
variable(h:RP (AW g B pre pl P F) p A)
def RP.YE(e:∀a,atS a=J->aj a w.par=aj a A.par)(j:JM t0 w)(f:w.bD=n+F)(i:w.par.length<=900000):RP (AW g B pre pl P F) {p with aG:=t0,bD:=n} w where
 tG:=λa b=>(e a b).symm▸h.tG a b
 abs:=h.abs
 j:=⟨λa b=>(ah sw (e a (yt tP.rW b λ_ _ z _=>z))).trans (h.j.1 a b),j⟩
 bD:=f
 len:=i
 zo:=h.zo
def agree{f i2:I}{i:aC}{q:Rs}{l:af}(h:qI y e f i j l A)(b:qI y m i2 o q r w)(a:W)(s:atS a=J):aj a w.par=aj a A.par:=(rX s).elim (λz=>(b.frame.1 a z).trans (h.frame.1 a z).symm) λz=>(kU b z).trans (kU h z).symm
def zw(j:dA r.2.1)(f:P! r.1 (r.2.1::r.2.2) E)(o:k<=250)(l:PQ y k E A)(e:Ja y k E A k' T w c):RP (AW g B pre pl P F) (S_ p r) w/\∀g,Ga g r.2.1 c:=by obtain⟨s,R,b,i,i,i,u,v⟩:=e;(have e:T=r.2.1::r.2.2/\w.bD=A.bD+r.1:=by refine f.elim (λm=>?_) λm=>?_;rw[m.2]at b;rw[m.1];exact b.elim (λq=>ao (il (ah dA (fw q.1).1) j)) λq=>⟨q.1.symm,q.2⟩;rw[m.2]at b;rw[m.1];refine b.elim (λq=>⟨(fw q.1).2.symm,q.2⟩) λq=>?_;exact ao ((ah dA (fw (q.1.trans i)).1).trans u));have b:=f.elim (λm=>m.2▸bN _ _) λm=>m.2▸bN _ _;obtain⟨_,_,_,_,_,f,_⟩:=l.resolve_left b;have j:=R;obtain⟨_,_,_,_,_,b,_⟩:=j;refine⟨h.YE (agree f b) ⟨y,k',ay s o,.inl ⟨_,Z,e.1▸R⟩⟩ (e.2.trans (by rw[h.bD];exact jL _ _ _)) b.frame.2,?_⟩;exact(fw (il i e.1)).1▸v
end
section
variable{g:Gb}{gw:dy g}{pre:af}{pl:(pre.length:D)=g.base 6}{bY:pre.length<=100000}{δ d n:W}{p p' pg T:PG}{a:W}{v:V}{par:aC}{t:af}
def DD{n:W}{t:V}(c:P! n (t::L) b):b≠[]:=c.elim (λm=>m.2▸bN _ _) λm=>m.2▸bN _ _
def VB(h:oc (eQ b) id J=U):eQ b=O U:=jo h λb b e=>b.trans (ah O e)
def VC(k:9<=d){b c:V}(f:Ga g b c)(h:RP (AW g gw pre pl bY δ) p p'):RO (UT (AW g gw pre pl bY δ)) (Ŭ b p) ((pS (d+1)).av k6 [c] [] p'):=λz e=>bL e λr l e=>bW e λm e=>iJ e λo q e=>by obtain⟨b,b,b,b,c,i,j⟩:=PF h.j l;obtain⟨l,l,r⟩:=jZ f _ (VB m);obtain⟨m,m,T,m,m,R⟩:=Lm k c (DD j) (fR b (aO Z)) (l.trans (ah O (J0 r)));have k:=zw h i j b c m;exact⟨_,R o (VA gw i (k.2 g) f q),e▸⟨Z,k.1⟩⟩
def abt(i:9<=d)(h:RP (AW g gw pre pl bY δ) p p'):RO (UT (AW g gw pre pl bY δ)) (ć p) ((pS (d+1)).av mw [] [] p'):=λz e=>iJ e λr j e=>by obtain⟨b,k,b,b,c,k,f⟩:=PF h.j j;obtain⟨j,j,T,j,R,l⟩:=Py i c (DD f) (fR b (aO Z));have i:=zw h k f b c l;exact⟨(j,T),R,e▸⟨i.2 g,i.1⟩⟩
def abu(c:9<=d)(h:RP (AW g gw pre pl bY δ) p p'):RO (UT (AW g gw pre pl bY δ)) (ġ p) ((pS (d+1)).av om [] [] p'):=λz e=>mZ e λx r b e=>bW e λf e=>mZ e λt L i e=>by refine gq λP k=>?_;obtain⟨_,l,m,o,j⟩:=h.j;rw[b,DB f,i]at j;have j:=j.elim (λj=>by obtain⟨b,q,r⟩:=j;exact(fw q).2▸r) λj=>j.nb;obtain⟨f,b,b,T,b⟩:=Vz c j;obtain⟨_,_,_,_,_,c,_⟩:=j;refine k ?_;have q:=fw b.L;have R:=h.YE (λa f=>(rX f).elim (λz=>(b.ll a z).trans (c.frame.1 a z).symm) λz=>(b.no a z).trans (kU c z).symm) ⟨l,m,o,.inr (q.2▸b.q)⟩ (b.bD.trans h.bD) b.len;exact⟨_,b.run,au e▸⟨q.1▸b.ga g,R⟩⟩
def zx(k:9<=d){b:yq}(h:Gq (AW g gw pre pl bY δ) b (pS (d+1)).av):Gq (AW g gw pre pl bY δ) (PD b) (pS (d+1)).av:=λo r m s i p p' b c j z e=>by refine jj e (λf e=>?_) λ_ e=>jj e (λf e=>?_) λ_ e=>jj e (λf e=>?_) λ_ e=>h o r m s i p p' b c j z e;refine ym e λh o e=>lh e λh e=>?_;rw[o]at b;rw[h]at c;obtain⟨o,l,q,r,o⟩:=b.un;rw[q,show l=[]from o,show i=[]from c,aK f];exact VC k r j z e;refine lh e λo e=>lh e λh e=>?_;rw[o]at b;rw[h]at c;rw[show m=[]from b,show i=[]from c,aK f];exact abt k j z e;refine lh e λo e=>lh e λh e=>?_;rw[o]at b;rw[h]at c;rw[show m=[]from b,show i=[]from c,aK f];exact abu k j z e
def DE(k:W):∀d,k+10<=d->iB (AW g gw pre pl bY δ) (GD k) (pS d):=by induction k with|zero=>(intro d h;induction d with|zero=>exact ch h (aO Z)|succ d _=>exact oH Jd (zx (vF (show 10<=d+1 from(hM 10).symm▸h)) tM) tM)|succ k c=>intro d h;induction d with|zero=>exact ch h (zV _)|succ d _=> have h:=vF ((jL k 1 10).symm▸h);have b:=c d h;exact oH Jd (zx (ay (ay (aO Z) (nQ _ _)) h) (zq b)) (zr tP.AS b)
def EQ(par:aC)(t:af)(pg:PG):=∃g,∃gw,∃pre,∃pl,∃bY,∃δ,RP (AW g gw pre pl bY δ) ⟨par,t,0⟩ pg
def xB(p:PG):N (N V×PG):=ax ((GD 9).av bP [] [] p) λe b=>br (PC e) (O (C,b)) (gd (dA e) (ax ((GD 9).func gm [e] [] b) λt c=>bn (jm (GD 9) e 7 ⟨[],b⟩) λm1=>ax ((GD 9).func fA [m1] [] c) λc f=>bn (jm (GD 9) e 8 ⟨[],b⟩) λm2=>ax ((GD 9).func fA [m2] [] f) λe f=>gd (ac b.bD f.bD) (gd (dat 30 (.tup [t,.lst [c,e]])) (O (O (.tup [t,.lst [c,e]]),f)))))
def RP.afC(h:RP (AW g gw pre pl bY δ) p pg):EQ p.par p.aG pg:=⟨g,gw,pre,pl,bY,p.bD+δ,h.tG,h.abs,h.j,h.bD.trans (hM _).symm,h.len,h.zo⟩
def RP.no(h:RP (AW g gw pre pl bY δ) p pg)(b:atS a=J)(c:iY a=J):aj a pg.par=C:=(h.tG a b).elim (λz=>z.2) λz=>by obtain⟨x,_,z,_⟩:=z;exact ao (il c (il (h.zo a) (ah sw z)))
structure PH(d:W)(pg:PG)(v:V)(p':PG)(e:V)(T pg4:PG):Prop where
 ob:dA e=U
 gt:(pS d).av bP [] [] pg=O (e,T)
 td:∃t pg2 m1 u1,∃pg3 m2 u2,(pS d).func gm [e] [] T=O (t,pg2)/\jm (pS d) e 7 ⟨[],T⟩=O m1/\(pS d).func fA [m1] [] pg2=O (u1,pg3)/\jm (pS d) e 8 ⟨[],T⟩=O m2/\(pS d).func fA [m2] [] pg3=O (u2,pg4)/\v=.tup [t,.lst [u1,u2]]
 bD:pg4.bD=T.bD
 q:EQ p'.par p'.aG pg4
def F1{A:Ab}{v:V}(h:Ga A.g v w):cu A.g [v] [w]:=.mk h (Z)
def VD(c:19<=d)(h:EQ par t pg)(e:xB ⟨par,t,0⟩=O (O v,p')):∃e T f,PH d pg v p' e T f:=by obtain⟨g,gw,pre,pl,bY,δ,k⟩:=h;have b:iB (AW g gw pre pl bY δ) _ _:=DE 9 d c;refine aQ e λh l m e=>jj e (λ_ e=>iy e λq _=>aa q) λ_ e=>bW e λo e=>aQ e λt c r e=>bL e λm1 s e=>aQ e λi c u e=>bL e λm2 w e=>aQ e λj c x e=>bW e λy e=>bW e λz e=>iy e λA B=>?_;obtain⟨⟨E,T⟩,F,c,e⟩:=b.av _ [] [] [] [] _ _ Z Z k _ m;have k:RS _ ⟨[],l⟩ ⟨[],T⟩:=⟨λ_=>.no,e⟩;obtain⟨⟨l,m⟩,G,H,K⟩:=b.func _ _ _ [] [] _ _ (F1 c) Z e _ r;obtain⟨r,c1,L⟩:=xk b k 7 c _ s;obtain⟨⟨s,M⟩,P,Q,R⟩:=b.func _ _ _ [] [] _ _ (F1 L) Z K _ u;obtain⟨u,h,K⟩:=xk b k 8 c _ w;obtain⟨⟨k,f⟩,f1,w,f3⟩:=b.func _ _ _ [] [] _ _ (F1 K) Z R _ x;have b:Ga g (.tup [t,.lst [i,j]]) _:=⟨_,Z,cu.mk H (F1 (v:=.lst [i,j]) ⟨_,Z,cu.mk Q (F1 w)⟩)⟩;exact⟨E,T,f,DA c o,F,⟨l,m,r,s,M,u,k,G,c1,P,h,f1,il (au A) (tC 30 z b).symm⟩,f3.bD.trans ((ah (·+δ) (aK y).symm).trans e.bD.symm),B▸f3.afC⟩
def VE(b:19<=d)(h:EQ par t pg)(e:xB ⟨par,t,0⟩=O (C,p')):∃T,(pS d).av bP [] [] pg=O (.none,T):=by obtain⟨g,gw,pre,pl,bY,δ,c⟩:=h;have f:iB (AW g gw pre pl bY δ) _ _:=DE 9 d b;refine aQ e λb b h e=>jj e (λi _=>?_) λ_ e=>bW e λ_ e=>aQ e λq b _ e=>bL e λ_ _ e=>aQ e λ_ _ _ e=>bL e λ_ _ e=>aQ e λu b _ e=>bW e λ_ e=>bW e λ_ e=>iy e λq _=>aa q.symm;obtain⟨⟨b,T⟩,e,b,j⟩:=f.av _ [] [] [] [] _ _ Z Z c _ h;rw[DC i]at b;exact⟨T,(b)▸e⟩
end
def Pa(c:af):aC->af->Prop:=bm (motive:=λ_=>aC->af->Prop) (λb t=>∃a,xB ⟨b,t,0⟩=O (C,a)) (λv _ d b t=>∃a,xB ⟨b,t,0⟩=O (O v,a)/\d a.par a.aG) c
def Ln:X:=.fy (.aR 235) bP .nil [] .nil
def DF:X:=.cmp (.aR 171) [.IsNot] (xq [.pf])
def VF(a:W):X:=.bF fA (xq [.bU (.aR 171) a]) [] .nil
def VG:X:=.tup (xq [.bF gm (xq [.aR 171]) [] .nil,.yR (xq [VF 7,VF 8])])
def DG:S:=sq [.expr (.fy (.aR 238) jd (xq [VG]) [] .nil),.set [171] Ln]
def qe:ae:=[236,235,238,171]
abbrev pR(d:W):cQ:=pG d [237,241,260]
def fH(a:V)(b:af)(e:V):cz:=[(236,.val a),(235,.val .par),(238,.own b),(171,.val e)]
section
variable{G:cQ}{lv:ae}{d n H f:W}{s s1:St}{v w c:V}{pg y A E F:PG}{tx:V}{vs B t:af}{par:aC}{b:I}{x:X}
def PI{z:I}(a:aq lv f=J)(e:G.gl f=O (.fn f))(h:G.ro=J)(g:ev G lv J x s=O (v,s1))(i:G.func f [v] [] s1.pg=O (w,A)):ev G lv z (.bF f (xq [x]) [] .nil) s=fin z w ⟨s1.loc,A⟩:=by(have j:uL G lv f []=J:=by unfold uL;rw[a,e];rfl);show oc _ _ (ax (br _ _ _) λk s=>ax (ax (ev G lv J x s) λv s=>ax (yf s) λvs s=>O (v::vs,s)) λvs s=>ax _ λv s=>fin z v s)=_;rw[j,a,e];show ax _ (λvs s=>ax (br G.ro C (back s (G.func f vs [] s.pg))) λv s=>fin z v s)=_;rw[g];show ax _ (λv s=>fin z v s)=_;rw[h,i];rfl
def Lo{G:cQ}(h:e J s=O (v,s1))(a:ph .IsNot v .none=O b):Mw e (B3 G lv U C (sU .none) λ_ _ _=>C) [.IsNot] U s=O (.bool b,s1):=by show ax _ (λv s=>ax (bn _ λb=>O _) λb s=>O _)=_;rw[h];show ax _ (λb s=>O (V.bool b,s))=_;rw[a];rfl
def PJ:dA v->ph .IsNot v .none=O U:=V.casesOn v ao aV aV aV aV aV (λ_ _ _=>Z) aV aV aV aV aV ao ao aV iz ao λ_=>ao
def EQ.none(h:EQ par t pg){a:W}(e:atS a=J)(g:iY a=J):aj a pg.par=C:=by obtain⟨a,a,a,a,a,a,a⟩:=h;exact a.no e g
def PK:(pR d).du bP=U:=by cases d<;>rfl
def VH:(pR d).gl gm=O (.fn gm):=by cases d<;>rfl
def VI:(pR d).gl fA=O (.fn fA):=by cases d<;>rfl
variable{e z:V}
def Je(a:ph .IsNot e .none=O b):ev (pR d) qe U DF ⟨fH tx vs e,pg⟩=O (.bool b,⟨fH tx vs e,pg⟩):=Lo (G:=pR d) (lv:=qe) (s:=⟨fH tx vs e,pg⟩) (e:=(ev (pR d) qe · (.aR 171))) (Z) a
def abv(a:aj bP pg.par=C)(h:(pS d).av bP [] [] pg=O (v,y)):ev (pR d) qe J Ln ⟨fH tx vs e,pg⟩=O (v,⟨fH tx vs e,y⟩):=by unfold Ln;rw[Dx Z Z PK qc a,show(pR d).av bP [] [] pg=O _ from h];rfl
def Jf(h:dA e)(i:jm (pS d) e a ⟨[],pg⟩=O m)(g:(pS d).func fA [m] [] y=O (u,A)):ev (pR d) qe J (VF a) ⟨fH tx vs e,y⟩=O (u,⟨fH tx vs e,A⟩):=by refine PI (s1:=⟨fH tx vs e,y⟩) Z VI qc ?_ g;show bn _ (λv=>fin J v ⟨fH tx vs e,y⟩)=_;rw[show jm (pR d) e a ⟨fH tx vs e,y⟩=jm (pS d) e a ⟨fH tx vs e,y⟩from Z,Dz h,i];rfl
def abw(Q:PH d pg v F e y A):ev (pR d) qe J VG ⟨fH tx vs e,y⟩=O (v,⟨fH tx vs e,A⟩):=by obtain⟨t,a,m1,g,h,m2,h,i,j,k,l,m,o⟩:=Q.td;rw[o];have o:ev _ qe J (.bF gm (xq [.aR 171]) [] .nil) ⟨fH tx vs e,y⟩=O _:=PI (s1:=⟨fH tx vs e,y⟩) Z VH qc Z i;(have i:ev (pR d) qe J (.yR (xq [VF 7,VF 8])) ⟨fH tx vs e,a⟩=O (.lst [g,h],⟨fH tx vs e,A⟩):=by show ax (ax (ev _ qe J (VF 7) ⟨fH tx vs e,a⟩) λv s=>ax (ax (ev _ qe J (VF 8) s) λv s=>ax (yf s) λvs s=>O (v::vs,s)) λvs s=>O (v::vs,s)) (λvs s=>fin J (.lst vs) s)=_;rw[Jf Q.ob j k];show ax (ax _ λvs s=>O (g::vs,s)) (λvs s=>fin J _ s)=_;rw[Jf Q.ob l m];rfl);show ax (ax (ev _ qe J (.bF gm _ [] .nil) ⟨fH tx vs e,y⟩) λv s=>ax (ax (ev _ qe J (.yR (xq [VF 7,VF 8])) s) λv s=>ax (yf s) λvs s=>O (v::vs,s)) λvs s=>O (v::vs,s)) (λvs s=>fin J (.tup vs) s)=_;rw[o];show ax (ax _ λvs s=>O (t::vs,s)) (λvs s=>fin J _ s)=_;rw[i];rfl
def VJ(a:vs.length<=900000)(Q:PH d pg v F e y A)(h:aj bP A.par=C)(i:(pS d).av bP [] [] A=O (z,E)):pt (pR d) qe H DG ⟨fH tx vs e,y⟩=O (.next,⟨fH tx (vs++[v]) z,E⟩):=by
 have j:calm ⟨fH tx vs e,y⟩ ⟨fH tx vs e,A⟩:=by show ac y.bD A.bD=U;rw[Q.bD];exact cf _
 have k:cX (pR d) (.lst vs) jd [v]=O (.none,.lst (vs++[v])):=by
  have:cX (pR d) (.lst vs) jd [v]=gd (bd (ak vs) 900000) (O (.none,.lst (vs++[v]))):=by cases d<;>rfl
  rw[this,aB,hH a];rfl
 have l:ev (pR d) qe J (.fy (.aR 238) jd (xq [VG]) [] .nil) ⟨fH tx vs e,y⟩=O (.none,⟨fH tx (vs++[v]) e,A⟩):=by show ax (ax (ev _ qe J VG ⟨fH tx vs e,y⟩) λv s=>ax (yf s) λvs s=>O (v::vs,s)) (λg a=>gd (calm ⟨fH tx vs e,y⟩ a) (bn (iS _ qe a _) λc=>ax (cX _ c jd g) λv g=>bn (hU (pR d).ro a _ g) λs=>O (v,s)))=_;rw[abw Q];show gd _ (ax _ λv g=>bn (hU (pR d).ro ⟨fH tx vs e,A⟩ _ g) λs=>O (v,s))=_;rw[j,k,qc];rfl
 refine(eB (s1:=⟨fH tx (vs++[v]) e,A⟩) ?_).trans ?_
 ·show ax (ev _ qe J _ ⟨fH tx vs e,y⟩) (λ_ s=>nx s)=_
  rw[l];rfl
 ·refine eB ?_
  show ax (ev _ qe J Ln ⟨fH tx _ e,A⟩) (λv s=>nx (oX v [171] s))=_;rw[abv h i];rfl
def VK(m:19<=d)(B:af):∀{par:aC}{t:af}{pg:PG},Pa B par t->EQ par t pg->∃e y,(pS d).av bP [] [] pg=O (e,y)/\∀(vs:af)n,B.length<n->vs.length+B.length<=1000->∃g,uH (ev (pR d) qe · DF) (pt (pR d) qe H DG) n ⟨fH tx vs e,y⟩=O (.next,⟨fH tx (vs++B) .none,g⟩):=by
 induction B with
 |nil=>
  intro par t pg h i;obtain⟨F,e⟩:=h;obtain⟨y,j⟩:=VE m i e;refine⟨_,y,j,λvs n a k=>?_⟩
  induction n with
  |zero=>exact ch a (BN _)
  |succ n _=>rw[eq];exact⟨y,Px (Je Z)⟩
 |cons v B l=>
  intro par t pg h i;obtain⟨F,e,h⟩:=h;obtain⟨e,y,A,Q⟩:=VD m i e;obtain⟨z,E,j,l⟩:=l h Q.q;refine⟨e,y,Q.gt,λvs n a k=>?_⟩
  induction n with
  |zero=>exact ch a (BN _)
  |succ n _=> have h:=jL vs.length B.length 1▸k;obtain⟨g,r⟩:=l (vs++[v]) n (IR a) (by rw[aX];exact h);refine⟨g,(Pw (Je (PJ Q.ob)) (VJ (ay (ay (gb _ _) k) (aO Z)) Q (Q.q.none Z Z) j)).trans (r.trans ?_)⟩;rw[am];rfl
end
def alpha:ae:=[10,13,32,33,34,35,38,39,42,45,46,58,62,91,92,93,97,98,99,100,101,102,103,104,105,106,107,108,109,110,114,116,120,122,124,133]
def gH(t:ae):I:=aH (aq alpha) t
def abx(G:cQ)(a:PG):alpha.map (λc=>run G 300 jR [.str [c]] [] a)=alpha.map λ_=>O (.bool U,a):=by kernel_rfl
section
variable{d c:W}{s:St}{v:V}{pg:PG}{t x:ae}{f:W->W->gB}{l:ae}
def aby(h:aq alpha c):(pS (d+1)).func 37 [.str [c]] [] pg=O (.bool U,pg):=(Ix.mp (abx _ pg) c (fU h))
def PM(h:∀i c s,c∈l->∃a,f i c s=O (.next,a)/\a.pg=s.pg):∀i s,∃a,vY f l i s=O (.next,a)/\a.pg=s.pg:=by
 induction l with
 |nil=>exact λi s=>⟨s,Z,Z⟩
 |cons c l b=> intro i s;obtain⟨a,e,g⟩:=h i c s gY;obtain⟨j,k,m⟩:=b (λi c s b=>h i c s (.tail _ b)) _ a;refine⟨j,?_,m.trans g⟩;show ax _ (λa s=>turn a s _)=_;rw[e];exact k
abbrev SH:ae:=[36,37,271,272,30]
def VL:ae:=[0,35,33,34,270]
def afD:(pG d SH).gl 37=O (.fn 37):=by cases d<;>kernel_rfl
def PN(h:gH t):(pS (d+2)).av rA [.str t] [] pg=O (.none,pg):=by
 obtain⟨a,b,e⟩:=PM (f:=λi c s=>bh (BH (ev (pG (d+1) SH) VL · (.nt (.bF 37 (xq [.aR 34]) [] .nil))) aaM nx) nx (aE (aE s 33 (.val (.int i))) 34 (.val (.str [c])))) (λi c s m=>by refine⟨aE (aE s 33 (.val (.int i))) 34 (.val (.str [c])),eB (I9 ?_),Z⟩;have g:ev (pG (d+1) SH) VL J (.aR 34) (aE (aE s 33 (.val (.int i))) 34 (.val (.str [c])))=O (.str [c],aE (aE s 33 (.val (.int i))) 34 (.val (.str [c]))):=PB Z dk Z;show ax (ev (pG (d+1) SH) VL U (.bF 37 (xq [.aR 34]) [] .nil) _) (λv s=>mp (eQ v) λi=>(V.bool !i,s))=_;rw[PI Z afD qc g (aby (ai h m))];rfl) 0 ⟨[(0,.val .par),(35,.val (.str t))],pg⟩
 have g:q9 (pG (d+1) SH) VL (uu (.bF 36 (xq [.aR 35]) [] .nil))=O (4,.aR 35):=by kernel_rfl
 show ax (bh (rg (pG (d+1) SH) VL 33 34 (q9 (pG (d+1) SH) VL (uu (.bF 36 (xq [.aR 35]) [] .nil))) (bh (BH (ev (pG (d+1) SH) VL · (.nt (.bF 37 (xq [.aR 34]) [] .nil))) aaM nx) nx)) nx ⟨[(0,.val .par),(35,.val (.str t))],pg⟩) (λf s=>O (ku f,s.pg))=_;have h:rg (pG (d+1) SH) VL 33 34 (O (4,.aR 35)) (bh (BH (ev (pG (d+1) SH) VL · (.nt (.bF 37 (xq [.aR 34]) [] .nil))) aaM nx) nx) ⟨[(0,.val .par),(35,.val (.str t))],pg⟩=O (.next,a):=b;rw[g,eB h];show O (V.none,a.pg)=_;rw[e]
def oQ:ae:=[60,117,110,105,99,111,100,101,32,115,116,114,105,110,103,62]
def oR(a b:V):nW:=[(1,.val a),(21,.val .none),(22,.val (.int 0)),(23,.val (.bool U)),(5,.val b),(6,.val (.int 0)),(24,.val .none),(25,.val .none),(9,.val .none),(2,.val (.int 0)),(3,.val (.int 0)),(4,.val (.int 0))]
abbrev pI:cQ:=pG 20 [27,26]
def j9(t:ae):cz:=[(0,.val .par),(21,.val (.str t))]
abbrev sa(a:W)(x:X):gB:=pt pI [0,21] 300 (.Fe v0 a x)
def VM(t:ae)(k:gB):bh (sa 1 .pf) (bh (sa 21 .pf) (bh (sa 22 (.int 0)) (bh (sa 23 .yQ) (bh (sa 5 (.str [])) (bh (sa 6 (.int 0)) (bh (sa 24 .pf) (bh (sa 25 .pf) (bh (sa 9 .pf) (bh (sa 2 (.int 0)) (bh (sa 3 (.int 0)) (bh (sa 4 (.int 0)) k))))))))))) ⟨j9 t,⟨[],[],0⟩⟩=k ⟨j9 t,⟨oR .none (.str []),[],0⟩⟩:=by kernel_rfl
def abz(t:ae):ev pI [0,21] U (.bF 27 (xq [.aR 21,.aR 26]) [] .nil) ⟨j9 t,⟨oR .none (.str []),[],0⟩⟩=O (.bool U,⟨j9 t,⟨oR .none (.str []),[],0⟩⟩):=by kernel_rfl
def abA(t:ae):sa 1 (.str oQ) ⟨j9 t,⟨oR .none (.str []),[],0⟩⟩=O (.next,⟨j9 t,⟨oR (.str oQ) (.str []),[],0⟩⟩):=by kernel_rfl
def VN(t:ae)(l:ae):hV J ⟨j9 t,⟨oR (.str oQ) (.str []),[],0⟩⟩ 5 (.val (.str l))=O (.next,⟨j9 t,⟨oR (.str oQ) (.str l),[],0⟩⟩):=by kernel_rfl
def VO(h:t.length<=800):ev pI [0,21] J (.bin .Add (.aR 21) (.str [0])) ⟨j9 t,pg⟩=O (.str (t++[0]),⟨j9 t,pg⟩):=by show bn (gd (bd (ak t+1) 1000000) _) (λu=>O _)=_;rw[aB,hH (ay (eN h) (aO Z))];rfl
def Lp(a:gH t)(b:t.length<=800):run (pS 20) 300 kY [.par,.str t] [] ⟨[],[],0⟩=O (.none,⟨oR (.str oQ) (.str (t++[0])),[],0⟩):=by
 have e:vW (ev pI [0,21] · (.fy (.aR 0) 28 (xq [.aR 21]) [] .nil)) ⟨j9 t,⟨oR (.str oQ) (.str []),[],0⟩⟩=O (.next,⟨j9 t,⟨oR (.str oQ) (.str []),[],0⟩⟩):=by show ax (ev pI [0,21] J (.fy (.aR 0) 28 (xq [.aR 21]) [] .nil) _) (λ_ s=>nx s)=_;rw[Dx Z Z (by kernel_rfl) Z (by kernel_rfl),show pI.av 28 [.str t] [] ⟨oR (.str oQ) (.str []),[],0⟩=O (.none,⟨oR (.str oQ) (.str []),[],0⟩)from PN (d:=18) a];rfl
 have s3:sa 5 (.bin .Add (.aR 21) (.str [0])) ⟨j9 t,⟨oR (.str oQ) (.str []),[],0⟩⟩=O (.next,⟨j9 t,⟨oR (.str oQ) (.str (t++[0])),[],0⟩⟩):=by show gd (pI.bw 5) (ax (ev pI [0,21] J (.bin .Add (.aR 21) (.str [0])) _) λv s=>hV J s 5 (.val v))=_;rw[VO b];exact VN t _
 show ax (bh (sa 1 .pf) (bh (sa 21 .pf) (bh (sa 22 (.int 0)) (bh (sa 23 .yQ) (bh (sa 5 (.str [])) (bh (sa 6 (.int 0)) (bh (sa 24 .pf) (bh (sa 25 .pf) (bh (sa 9 .pf) (bh (sa 2 (.int 0)) (bh (sa 3 (.int 0)) (bh (sa 4 (.int 0)) (bh (BH (ev pI [0,21] · (.bF 27 (xq [.aR 21,.aR 26]) [] .nil)) (bh (sa 1 (.str oQ)) (bh (vW (ev pI [0,21] · (.fy (.aR 0) 28 (xq [.aR 21]) [] .nil))) (bh (sa 5 (.bin .Add (.aR 21) (.str [0]))) nx))) nx) nx)))))))))))) ⟨j9 t,⟨[],[],0⟩⟩) (λf s=>O (ku f,s.pg))=_;rw[VM,eB ((zt (c:=(ev pI [0,21] · (.bF 27 (xq [.aR 21,.aR 26]) [] .nil))) (abz t)).trans ((eB (abA t)).trans ((eB e).trans (eB s3))))];rfl
variable(b:V)
def ď:V:=.obj MG [(1,.str oQ),(2,.int 0),(3,.int 0),(4,.int 0),(5,b),(6,.int 0)]
def VP:V:=.obj qB [(7,ď b),(8,ď b),(9,.none)]
def PS:nW:=oR (.str oQ) b++[(42,.val (.bool J)),(43,.val (.int 0)),(44,.lst [VP b]),(46,.val (.int 0)),(47,.val (.int (-1))),(48,.lst []),(49,.val (.bool U)),(50,.kX [])]
def GF:nW:=PS b++[(162,.val .none),(163,.val .none),(164,.kX []),(165,.lst []),(166,.lst []),(167,.val (.av 168))]
end
structure Mk where
 n:D
 m:D
 s:I
 c:D
structure Em where
 k:W
 a:Mk
 b:Mk
abbrev aw:=D×D×D
structure Tk where
 k:W
 a:aw
 b:aw
def Wl(i l c:V):V:=.obj MG [(Fs,.Ht),(z9,i),(Ft,l),(wa,c),(eA,.Ht),(lJ,.Ht)]
structure Kd where
 c:W
 x:aY
 y:aY
def kS(c:W):Kd:=⟨c,[],[]⟩
def kV(c:W)(s:ae):Kd:=⟨c,[(10,.str s)],[]⟩
def kP(s:ae):Kd:=⟨151,[(10,.str s),(11,.bool U)],[(12,.none)]⟩
def kQ(s:ae)(q:W):Kd:=⟨151,[(10,.str s),(11,.bool J)],[(12,.str [q])]⟩
def ě:Y Kd:=[⟨95,[],[(9,.none)]⟩,kS 96,kS 97,kS 99,kS 93,kS 111,kS 115,kS 112,kS 113,kS 116,kS 102,kS 106,kV 117 [120],kV 119 [120],kV 119 [122],⟨134,[(10,.tup [.str [33],.str [116]])],[]⟩,kP [107],kP [97],kP [98,32,99],kP [100,32,101],kP [106],kQ [102,32,103] 39,kQ [104,105] 34,kQ [108,10] 124,kQ [109,32,110] 62]
def PT(k:W):Kd:=bm (motive:=λ_=>W->Kd) (λ_=>kS 96) (λa _ b n=>gh n a b) ě k
def zk(k:Kd)(a b:V):V:=.obj k.c (k.x++(7,a)::(8,b)::k.y)
def K?(z:I)(x:Mk):V:=Wl (br z (.int x.n) (.sym (.off 0 (x.n+1)))) (.sym (.off 1 x.m)) (br x.s (.sym (.off 3 x.c)) (.int x.c))
def Lq(z:I)(e:Em):V:=zk (PT e.k) (K? z e.a) (K? z e.b)
def qf(R:Rs)(x:Mk):aw:=(R.ix+x.n,R.ln+x.m,br x.s (R.cb+x.c) x.c)
def YF(R:Rs)(e:Em):Tk:=⟨e.k,qf R e.a,qf R e.b⟩
def tQ(p:aw):V:=Wl (.int p.1) (.int p.2.1) (.int p.2.2)
def aM(t:Tk):V:=zk (PT t.k) (tQ t.a) (tQ t.b)
def j8(a n:D):a-1+(n+1)=a+n:=by rw[nU n 1,<-ej,qt]
section
variable{R:Rs}{z:I}
def PU(a:z->R.ix=0)(x:Mk):ins R (K? z x)=tQ (qf R x):=by(have b:ins R (br z (.int x.n) (.sym (.off 0 (x.n+1))))=.int (R.ix+x.n):=by induction z with|true=>show V.int x.n=_;rw[a Z,iQ]|false=>exact ah V.int (j8 _ _));(have c:ins R (br x.s (.sym (.off 3 x.c)) (.int x.c))=.int (br x.s (R.cb+x.c) x.c):=by cases x.s<;>rfl);show Wl (ins R _) _ (ins R _)=_;rw[b,c];rfl
def tT(k:Kd):=∀(R:Rs)(a b:V),ins R (zk k a b)=zk k (ins R a) (ins R b)
def Lr:∀k,tT (PT k):=by
 have h:∀l:Y Kd,(∀k∈l,tT k)->∀n,tT (bm (λ_=>kS 96) (λa _ b n=>gh n a b) l n):=by
  intro l
  induction l with
  |nil=>exact λ_ _ _ _ _=>Z
  |cons a l b=>
   intro c n
   induction n with
   |zero=>exact c a gY
   |succ n _=>exact b (λk m=>c k (.tail _ m)) n
 refine h ě ?_
 have d:∀{a:Kd}{l:Y Kd},tT a->(∀k∈l,tT k)->∀k∈a::l,tT k:=λe f k m=>by
  cases m with
  |head=>exact e
  |tail _ m=>exact f k m
 iterate 25 refine d (λ_ _ _=>Z) ?_
 exact λk m=>nomatch m
def abB(a:z->R.ix=0)(e:Em):ins R (Lq z e)=aM (YF R e):=by show ins R (zk _ _ _)=_;rw[Lr e.k R,PU a,PU a];rfl
def AX(a:z->R.ix=0)(l:Y Em):Gu R (l.map (Lq z))=l.map λe=>aM (YF R e):=by show(l.map _).map _=_;rw[jx];exact k? λe _=>abB a e
def Jg(l:Y Tk):aH dA (l.map aM)=U:=by induction l with|nil=>rfl|cons b l a=>exact a
end
def eqB{a:Type}(f:a->a->I)(l:Y a):Y a->I:=bm (motive:=λ_=>Y a->I) tn (λa _ i=>tm (f a) i) l
def ū(p q:Sy):I:=qv p J (off:=λk n=>qv q J (off:=λa b=>ac k a&&a? (n=b))) (nn:=qv q J (nn:=U))
def GG(n:W):V->V->I:=ut (motive:=λ_=>V->V->I) (λ_ _=>J) (λ_ a v=>dP v aaE (no:=λw=>dP w J (no:=U)) (bo:=λb w=>dP w J (bo:=λc=>b==c)) (i:=λb w=>dP w J (i:=λc=>a? (b=c))) (s:=λs w=>dP w J (s:=cW s)) (tu:=λl w=>dP w J (tu:=eqB a l)) (ob:=λc l w=>dP w J (ob:=λd m=>br (ac c d) (eqB (λp q=>F_ p.1 (a p.2) q) l m) J)) (un:=λw=>dP w J (un:=U)) (sy:=λp w=>dP w J (sy:=ū p)) (bu:=λl e w=>dP w J (bu:=λm d=>cW l m&&(e==d)))) n
def eqQ(x y:PA):I:=x8 x (λv=>x8 y (GG 6 v) aaE aaE aaE λ_=>J) (λl=>x8 y aaE (eqB (GG 6) l) aaE aaE λ_=>J) (λl=>x8 y aaE aaE (eqB (λp q:D×V=>a? (p.1=q.1)&&GG 6 p.2 q.2) l) aaE λ_=>J) aaE λl=>x8 y aaE aaE aaE aaE (eqB (GG 6) l)
def Y?(p q:PG):I:=eqB (λa b:W×PA=>ac a.1 b.1&&eqQ a.2 b.2) p.par q.par&&p.aG.isEmpty&&q.aG.isEmpty&&ac p.bD q.bD
def setB(b a:aC):I:=oc (NM (lF b [] J)) (λr=>oc (eQ r.1) ü J&&Y? r.2 (lF a [] J)) J
def tU{a:Type}{f:a->a->I}(d:∀{b c},f b c->b=c){l:Y a}:∀{m:Y a},eqB f l m=U->l=m:=by induction l with|nil=>exact λh=>(Yw h).symm|cons b l e=>exact λh=>Gr h λc r a h=>cp h λb c=>by rw[a,d b,e c]
def VQ{p q:Sy}:ū p q->p=q:=Sy.casesOn p (λk n=>Sy.casesOn q (λa a e=>ag e λa b=>by rw[aK a,aO b]) iz ao aV λ_=>ao) iz (Sy.casesOn q iz iz (λ_=>Z) aV λ_=>ao) aV λ_=>ao
def AY(n:W):∀{v u:V},GG n v u->v=u:=by induction n with|zero=>exact ao|succ n d=>intro v u;exact Vc (M:=λv=>GG _ v u=U->v=u) v (no:=Vc (M:=λu=>GG _ .none u=U->V.none=u) u (no:=λ_=>Z)) (bo:=λb=>Vc (M:=λu=>GG _ _ u=U->V.bool b=u) u (bo:=λc e=>ah V.bool (gc.mp e))) (i:=λb=>Vc (M:=λu=>GG _ _ u=U->V.int b=u) u (i:=λc e=>ah V.int (aO e))) (s:=λs=>Vc (M:=λu=>GG _ _ u=U->V.str s=u) u (s:=λc e=>ah V.str (oM e))) (tu:=λl=>Vc (M:=λu=>GG _ _ u=U->V.tup l=u) u (tu:=λm e=>ah V.tup (tU d e))) (ob:=λc l=>Vc (M:=λu=>GG _ _ u=U->V.obj c l=u) u (ob:=λf m e=>cp e λa g=>by rw[aK a,tU (λ{p q}h=>cp h λa b=>?_) g];exact pu (aK a) (d b))) (un:=Vc (M:=λu=>GG _ .Ht u=U->V.Ht=u) u (un:=λ_=>Z)) (sy:=λp=>Vc (M:=λu=>GG _ _ u=U->V.sym p=u) u (sy:=λq e=>ah V.sym (VQ e))) (bu:=λl f=>Vc (M:=λu=>GG _ _ u=U->V.buf l f=u) u (bu:=λm c e=>ag e λa b=>by rw[oM a,gc.mp b]))
def abC:eqQ x y->x=y:=PA.casesOn x (λv=>PA.casesOn y (λu e=>ah PA.val (AY 6 e)) aV aV aV λ_=>ao) (λv=>PA.casesOn y aV (λu e=>ah PA.lst (tU (AY 6) e)) aV aV λ_=>ao) (λv=>PA.casesOn y aV aV (λu e=>ah PA.kX (tU (λ{p q}e=>ag e λa b=>pu (aO a) (AY 6 b)) e)) aV λ_=>ao) aV (λv=>PA.casesOn y aV aV aV aV (λu e=>ah PA.Hv (tU (AY 6) e)))
def PV{p q:PG}(e:Y? p q):p=q:=ag e λe c=>ag e λe d=>ag e λa b=>by obtain⟨f,g,h⟩:=p;obtain⟨i,j,k⟩:=q;rw[show f=i from tU (λ{p q}e=>ag e λa b=>pu (aK a) (abC b)) a,show g=[]from cO.mp b,show j=[]from cO.mp d,show h=k from aK c]
def rY(h:setB b a):Li b a:=jo h λr a h=>ag h λc d=>⟨r.1,by rw[a,<-PV d],jo c λb a e=>a.trans (ah O ((im _).mp e))⟩
structure Sp where
 kd:W
 b:aC
 m:Mv
 em:Y Em
def sb(m:Mv)(h:I)(a:Y Em):I:=(m.old==h)&&br m.new (m.old||!a.isEmpty) (a.isEmpty&&!m.old)
def ir(h:I)(a:af):af:=br h a []
def BJ(l:Y Sp):Rs->Y Tk:=bm (motive:=λ_=>Rs->Y Tk) (λ_=>[]) (λs _ a R=>gh s.kd (s.em.map (YF R)++a (R.mv s.m)) λk=>gh k (s.em.map (YF R)++a (R.mv s.m)) λ_=>a R) l
def VR(l:Y Sp):I:=aH (λs=>!ac s.kd 3) l
def Ū(b:aC)(w:ae)(e:I)(a:aC):I:=oc (NM (lF b w e)) (λr=>br (oc (eQ r.1) id J) (br (ac r.2.bD 0) (oc (Hf r.2) (λq=>vN q.1 (Le q.2.loc&&Y? q.2.pg (lF a w e)) J λ_=>J) J) J) J) J
def aZ(l:Y Sp):I->I->aC->ae->I->I->I:=bm (motive:=λ_=>I->I->aC->ae->I->I->I) (λ_ _ _ _ _ _=>U) (λs _ c z a b w e h=>gh s.kd (!z&&(s.m.bE==a)&&sb s.m h s.em&&S! b w e s.b s.m (s.em.map (Lq a))&&c U J s.b (w.drop s.m.lE) e s.m.new) λk=>gh k (z&&(s.m.bE==a)&&sb s.m h s.em&&D! b w e s.b s.m (s.em.map (Lq a)) 0&&c J J s.b (w.drop s.m.lE) e s.m.new) λk=>gh k (!z&&setB b s.b&&setB s.b s.b&&c J a s.b w e h) λk=>gh k (!z&&h&&setB b b&&Gz b&&t2 b s.b&&c J a s.b w e J) λ_=>!z&&Ū b w e s.b&&c U a s.b w e h) l
def F!(R:Rs)(l:Y Em):Y Tk:=l.map (YF R)
def AZ(R:Rs)(a:af)(s:Sp):af:=lu s.m a ((F! R s.em).map aM)
def DH(l:Y Sp):I->I:=bm (motive:=λ_=>I->I) (λz=>z) (λs _ a z=>a (gh s.kd U λk=>gh k J λk=>gh k J λk=>gh k J λ_=>U)) l
def DI(l:Y Sp):I->I:=bm (motive:=λ_=>I->I) (λz=>z) (λs _ a z=>a (gh s.kd J λk=>gh k J λ_=>z)) l
def DJ(l:Y Sp):aC->aC:=bm (motive:=λ_=>aC->aC) (λb=>b) (λs _ a _=>a s.b) l
def yw(l:Y Sp):I->I:=bm (motive:=λ_=>I->I) (λz=>z) (λs _ a z=>a (gh s.kd s.m.new λk=>gh k s.m.new λk=>gh k z λk=>gh k J λ_=>z)) l
def PW(l:Y Sp):Rs->Rs:=bm (motive:=λ_=>Rs->Rs) (λR=>R) (λs _ a R=>a (gh s.kd (R.mv s.m) λk=>gh k (R.mv s.m) λ_=>R)) l
def VS(l:Y Sp):Rs->af->af:=bm (motive:=λ_=>Rs->af->af) (λ_ p=>p) (λs _ a R p=>gh s.kd (a (R.mv s.m) (AZ R p s)) λk=>gh k (a (R.mv s.m) (AZ R p s)) λk=>gh k (a R p) λk=>gh k (a R [.none]) λ_=>a R p) l
def VT(l:Y Sp):Rs->af->af:=bm (motive:=λ_=>Rs->af->af) (λ_ _=>[]) (λs _ a R p=>gh s.kd (a (R.mv s.m) (AZ R p s)) λk=>gh k (a (R.mv s.m) (AZ R p s)) λk=>gh k (a R p) λk=>gh k (p++a R [.none]) λ_=>a R p) l
def qJ(h:I)(a:af):=br h (a≠[]/\aH dA a=U) (a=[.none])
section
variable{k:W}{G z h e:I}{b b2:aC}{R:Rs}{w:ae}{L pre:af}{m:Mv}
def Sn.drain(a:yu b)(f:Gz b)(d:t2 b b2)(S:Sn k G J b2 R [.none] L):∀{pre:af},pre≠[]->aH dA pre=U->Sn k G J b R pre (pre++L):=by intro pre;induction pre with|nil=>exact λh _=>ch Z h|cons t pre g=>refine λ_ i=>cp i λc j=>?_;cases pre with|nil=>exact .take ⟨a,c,.inr ⟨Z,Z,d⟩⟩ S|cons u pre=>exact .take ⟨a,c,.inl ⟨u,pre,Z,Z,f,Z⟩⟩ (g (bN _ _) j)
def Sn.done(a:yu b)(f:Gz b)(d:t2 b b2):∀{pre:af},pre≠[]->aH dA pre=U->Sn k G J b R pre pre:=by intro pre;induction pre with|nil=>exact λh _=>ch Z h|cons t pre g=>refine λ_ i=>cp i λc j=>?_;cases pre with|nil=>exact .fin ⟨a,c,.inr ⟨Z,Z,d⟩⟩|cons u pre=>exact .take ⟨a,c,.inl ⟨u,pre,Z,Z,f,Z⟩⟩ (g (bN _ _) j)
def fV{a:Type}{f:a->I}{l m:Y a}(d:aH f l=U)(c:aH f m=U):aH f (l++m)=U:=by induction l with|nil=>exact c|cons i l g=>exact cp d λa c=>(dM a).trans (g c)
def rZ{s:Sp}(g:sb s.m h s.em)(f:qJ h pre):qJ s.m.new (AZ R pre s)/\ir s.m.new (AZ R pre s)=ir h pre++(F! R s.em).map aM:=ag g λa c=>by have a:=gc.mp a;unfold AZ lu;cases g:s.m.new with|false=> rw[g]at c;refine ag (c) λi j=>?_;have d:=a▸(im _).mp j;rw[d,cO.mp i];exact⟨Z,Z⟩|true=>rw[g]at c;cases d:s.m.old with|true=> rw[d]at a;rw[<-a]at f;rw[<-a];exact⟨⟨λq=>f.1 (t3.mp q).1,fV f.2 (Jg _)⟩,Z⟩|false=>rw[d]at a c;rw[<-a];refine⟨⟨λq=>?_,Jg _⟩,Z⟩;cases a:s.em with|nil=>rw[a]at c;exact ao c|cons x l=>rw[a]at q;exact ch q (bN _ _)
def GH:∀{w t:ae},dz w t->dz (w.drop n) (t.drop n):=by induction n with|zero=>exact λh=>h|succ n a=>intro w t h;cases w with|nil=>rfl|cons c w=>exact Gr h λb y c h=>cp h λ_ h=>by rw[c];exact a h
def DK(a:bd m.lE (ak w))(h:cC w e R):cC (w.drop m.lE) e (R.mv m):=ag h λa c=>by have d:dz _ (R.mv m).t=U:=GH a;show(dz _ (R.mv m).t&&br e _ U)=U;rw[d];cases e with|false=>rfl|true=>(have q:w.length=R.t.length:=by rw[<-aB w,<-aB R.t];exact aK c);show ac _ (ak (R.t.drop m.lE))=U;rw[aB,aB,uh,uh,q];exact cf _
def Sn.bS(S:Sn k G z b R pre L):Sn (k+1) G z b R pre L:=by induction S with|skip E _ a=>exact .skip E a|Lj E _ a=>exact .Lj E a|xw E m _ a=>exact .xw E m a|take h _ a=>exact .take h a|settle c d _ a=>exact .settle c d a|fin h=>exact .fin h
def abD(H:Ū b w e b2)(c:cC w e R):Ô b b2 R:=jo H λr d H=>cp H λf H=>cp H λg H=>jo H λq a H=>by obtain⟨i,s⟩:=q;refine Fl.casesOn i (λa H=>ag H λi j=>⟨w,e,r,s,d,jo f λb d e=>d.trans (ah O e),aK g,a,i,PV j,c⟩) aV iz a H
def PX(l:Y Sp):∀{z G:I}{b:aC}{w:ae}{h:I}{R:Rs}{pre:af},aZ l z G b w e h->cC w e R->(G->R.ix=0)->qJ h pre->Sn k (DI l G) (DH l z) (DJ l b) (PW l R) (VS l R pre) L->Sn (k+l.length) G z b R pre (VT l R pre++L):=by
 induction l with
 |nil=>exact λ_ _ _ _ S=>S
 |cons u l o=>
  intro z G b w h R pre H f p i S;obtain⟨g,v,m,r⟩:=u;cases g with
  |zero=> refine ag H λH j=>ag H λH a=>ag H λH n=>ag H λc d=>?_;rw[(im _).mp c];have s:=a;refine ag s λt _=>?_;have X:=o j (DK t f) (λq=>ao q) (rZ n i).1 S;refine .skip ⟨w,e,a,gc.mp d,f⟩ ?_;rw[AX p];have q:(r.map λe=>aM _)=(F! R r).map aM:=(jx (g:=aM)).symm;rw[q];exact X
  |succ g=>cases g with
   |zero=> refine ag H λH j=>ag H λH a=>ag H λH n=>ag H λc d=>?_;rw[c];have s:=a;refine ag s λt _=>?_;have X:=o j (DK t f) (λq=>ao q) (rZ n i).1 S;refine .xw ⟨w,e,a,gc.mp d,f⟩ (.inl ⟨Z,Z⟩) ?_;rw[AX p];have q:(r.map λe=>aM _)=(F! R r).map aM:=(jx (g:=aM)).symm;rw[q];exact X
   |succ g=>cases g with
    |zero=> refine ag H λH j=>ag H λH a=>ag H λc d=>?_;rw[(im _).mp c];exact Sn.bS (.settle (rY d) (rY a) (o j f p i S))
    |succ g=>cases g with
     |zero=> refine ag H λH r=>ag H λH j=>ag H λH a=>ag H λH n=>ag H λc d=>?_;rw[(im _).mp c];rw[d]at i;have X:=o r f p Z S;have r:=Sn.bS (Sn.drain (rY n) a j X i.1 i.2);exact(am pre _ L).symm▸r
     |succ g=> refine ag H λH n=>ag H λc d=>?_;rw[(im _).mp c];exact Sn.bS (.Lj (abD d f) (o n f p i S))
def zy(l:Y Sp):∀{z G:I}{b:aC}{w:ae}{h:I}{R:Rs}{pre:af},aZ l z G b w e h->qJ h pre->qJ (yw l h) (VS l R pre)/\VT l R pre++ir (yw l h) (VS l R pre)=ir h pre++(BJ l R).map aM:=by
 induction l with
 |nil=>exact λ_ d=>⟨d,(eq _).symm⟩
 |cons s l f=>
  intro z G b w h R pre H d;obtain⟨a,j,m,j⟩:=s;have i:∀{j n:Y Tk}{A B:af},A=ir h pre++j.map aM->B=A++n.map aM->B=ir h pre++(j++n).map aM:=λj n=>by rw[n,j,mc,am]
  cases a with
  |zero=> refine ag H λH c=>ag H λH _=>ag H λ_ g=>?_;have P:=rZ (R:=R) g d;have Q:=f (R:=R.mv m) c P.1;exact⟨Q.1,i P.2 Q.2⟩
  |succ a=>cases a with
   |zero=> refine ag H λH c=>ag H λH _=>ag H λ_ g=>?_;have P:=rZ (R:=R) g d;have Q:=f (R:=R.mv m) c P.1;exact⟨Q.1,i P.2 Q.2⟩
   |succ a=>cases a with
    |zero=>exact ag H λ_ c=>f c d
    |succ a=>cases a with
     |zero=> refine ag H λH g=>ag H λH _=>ag H λH _=>ag H λH _=>ag H λ_ i=>?_;have Q:=f (R:=R) g Z;rw[i];refine⟨Q.1,?_⟩;show(pre++VT l R [.none])++ir (yw l J) (VS l R [.none])=pre++(BJ l R).map aM;rw[am,Q.2];rfl
     |succ a=>exact ag H λ_ c=>f c d
def PY(l:Y Sp):∀{R:Rs}{pre:af},VR l->VT l R pre=[]:=by
 induction l with
 |nil=>exact λ_=>Z
 |cons s l c=>
  intro R pre H;obtain⟨a,g,m,g⟩:=s;refine cp H λf d=>?_;cases a with
  |zero=>exact c d
  |succ a=>cases a with
   |zero=>exact c d
   |succ a=>cases a with
    |zero=>exact c d
    |succ a=>cases a with
     |zero=>exact ao f
     |succ a=>exact c d
def Go(k:W)(z G:I)(b:aC)(h:I)(R:Rs)(L:af):=∀pre,qJ h pre->Sn k G z b R pre (ir h pre++L)
def iZ(k:W)(z G:I)(b:aC)(h:I)(R:Rs)(L:af):=∀pre,qJ h pre->Sn k G z b R pre (MARK::(ir h pre++L))
def Go.link{l:Y Sp}(H:aZ l z G b w e h)(c:cC w e R)(d:G->R.ix=0)(S:Go k (DH l z) (DI l G) (DJ l b) (yw l h) (PW l R) L):Go (k+l.length) z G b h R ((BJ l R).map aM++L):=λpre a=>by have F:=zy (R:=R) l H a;have X:=PX l H c d a (S _ F.1);rw[<-am,F.2,am]at X;exact X
def iZ.link{l:Y Sp}(f:VR l)(H:aZ l z G b w e h)(c:cC w e R)(d:G->R.ix=0)(S:iZ k (DH l z) (DI l G) (DJ l b) (yw l h) (PW l R) L):iZ (k+l.length) z G b h R ((BJ l R).map aM++L):=λpre a=>by have F:=zy (R:=R) l H a;have X:=PX l H c d a (S _ F.1);rw[PY l f]at X F;have a:ir _ _=ir h pre++(BJ l R).map aM:=F.2;rw[a,am]at X;exact X
def VU(b:aC)(G h:I)(s:Sp)(b2:aC):I:=sb s.m h s.em&&s.m.new&&(s.m.bE==G)&&D! b [0] U s.b s.m (s.em.map (Lq G)) 1&&setB s.b s.b&&Gz s.b&&t2 s.b b2
def iZ.fin{s:Sp}{b2:aC}(H:VU b G h s b2)(f:cC [0] U R)(g:G->R.ix=0):iZ (k+1) U G b h R ((s.em.map (YF R)).map aM):=λpre i=>by
 refine ag H λH j=>ag H λH n=>ag H λH o=>ag H λH p=>ag H λH r=>ag H λt u=>?_;obtain⟨c,d,m,a⟩:=s;have P:=rZ (R:=R) t i;rw[u]at P;refine .xw ⟨[0],U,p,gc.mp r,f⟩ (.inr ⟨Z,ah _ P.2.symm,?_⟩) ?_
 ·show oc (AZ R pre ⟨c,d,m,a⟩).head? dA J=U
  cases f:AZ R pre ⟨c,d,m,a⟩with
  |nil=>exact ch f P.1.1
  |cons x l=>have z:=P.1.2;rw[f]at z;exact cp z λc _=>c
 ·rw[AX g]
  have q:(a.map λe=>aM _)=(F! R a).map aM:=(jx (g:=aM)).symm;rw[q];exact Sn.done (rY o) n j P.1.1 P.1.2
def iZ.go(S:iZ k z G b J R L):Go k z G b J R (MARK::L):=λpre a=>S pre a
end
def tl0:aC:=[(Cb,.val .none),(rj,.val .none),(Fs,.val (.str oQ)),(lK,.val (.int 0)),(XW,.val (.bool U)),(rt,.val .none),(wb,.val .none)]
def E6(a:Y D):PA:=.lst (lc a [] λ_ r=>((r++[-1]).reverse.map V.int))
def V!(b c:V)(d:D)(e:PA)(f:eu)(g h:I)(a:Y D):aC:=(z9,.val b)::(wa,.val c)::(Ft,.val (.sym (.off 1 0)))::(rB,.val (.int d))::(aN,e)::(hZ,.kX f)::(aI,.val (.sym (.off 2 0)))::(jT,.val (.bool g)):: (Cd,.val (.int (lc a (-1) λc _=>c)))::(MH,.val (.bool h))::(eR,E6 a)::tl0
def s3(n:D):V:=.sym (.off 3 n)
def nB(a:V)(c:PA)(d:eu)(e:I)(b:D)(f:Y D):aC:=V! (.sym (.off 0 1)) a b c d e J f
def top(a:Y D):D:=lc a (-1) λc _=>c
def lq(h:I):PA:=br h (.Hv []) (.lst [])
def W!(n:V)(r:I)(l:D)(c:V)(m:V):V:=.obj 92 [(38,n),(39,.bool r),(2,.sym .nn),(3,.sym (.off 1 l)),(4,c),(40,m)]
def ko(k:N D):eu:=oc k (λd=>[(0,W! (.sym (.off 2 0)) J (-d) .Ht .Ht)]) []
def nD(h:I)(a:Y D):aC:=nB (.int (top a+1)) (lq h) [] U 0 a
def nV(h:I)(a:Y D):aC:=nB (.int (top a+2)) (lq h) [] J 0 a
def nL(h b:I)(k:N D)(a:Y D):aC:=nB (s3 (top a+1)) (lq h) (ko k) b 0 a
def nR(h:I)(k:N D)(a:D)(b:Y D):aC:=nB (.int a) (lq h) (ko k) U 0 b
def sp(n:D):ae:=rep [32] n.toNat
def zA(c:W)(d:D)(a:I)(b:W)(e:I)(dc:D):Mv:=⟨c,J,d,a,br a U (!ac b 0),b,e,dc⟩
structure Lf where
 f:W
 e:W
 p:W
 z:W
def mt:Mv:=zA 0 0 J 0 U 0
def kA{a:Type}(n:W)(l:Y a)(d:a):a:=bm (motive:=λ_=>W->a) (λ_=>d) (λa _ b n=>gh n a b) l n
def DM(c:D)(l:Lf):ae:=sp (c+l.p)
def dv(c:D)(l:Lf):ae:=kA l.f [[97],[98,32,99],[100,10]++DM c l++[101],[39,102,10,103,39],[34,104,92,10,32,105,34],[42,120],[38,120,32,33,116,32,106],[91,107,93],[124,10]++DM c l++[108,10]++rep [10] l.z,[62,45,10]++DM c l++[109,10]++DM c l++[110,10],[106],[107]] []
def GI(e:W):ae:=kA e [[10],[13,10],[32,35,32,114,10],[133],[2097153],[]] []
def pH(l:Lf):I:=br (ac l.f 8) U (ac l.f 9)
def VV{M:W->Prop}(a:M 0)(b:M 1)(c:M 2)(d:M 3)(e:M 4)(f:M 5)(g:M 6)(h:M 7)(i:M 8)(j:M 9)(k:∀n,M (n+10)):∀n,M n
 |0=>a|1=>b|2=>c|3=>d|4=>e|5=>f|6=>g|7=>h|8=>i|9=>j|n+10=>k n
def A3(l:Lf):I:=br (bd l.f 2) U (bd 10 l.f)
def jF(l:Lf):ae:=br (pH l) [] (GI l.e)
def lX(l:Lf):I:=br (pH l) U (br (A3 l) (!(br (ac l.e 2) U (ac l.e 5))) J)
def half(l:Lf):W:=br (A3 l) (br (ac l.e 2) 1 0) 0
def A6(l:ae):D:=(ak l:W)
def rows(l:Lf):D:=kA l.f [0,0,1,1,1,0,0,0,(2+l.z:W),3] 0
def z0(l:Lf):W:=kA l.f [17,18,19,21,22,12,0,0,23,24,20,16] 0
def on(a:Y D)(n:D):Mk:=⟨n,0,U,top a+1+n⟩
def lfZ(a:Y D)(l:Lf):Mk:=kA l.f [on a 1,on a 3,⟨A6 (dv (top a) l),1,J,top a+l.p+1⟩,⟨5,1,J,2⟩,⟨7,1,J,3⟩,on a 2] (on a 1)
def nK(h:I)(k:N D)(a:Y D):aC:=nB (s3 0) (lq h) (ko k) J 0 a
def EF(b:Y D)(k:I)(l:Lf)(c:D)(a:D):aC:=br (lX l) (nR U (br (pH l) C (br k (O a) C)) c b) (nK U (br k (O a) C) b)
def iu(b:ae)(l:Lf)(a:D):W:=ak b+br (lX l) (ak (jF l)+a.toNat) (half l)
def qg(l:Lf):D:=br (lX l) (br (pH l) (rows l) (rows l+1)) (rows l)
def L9(l:Lf)(z:Mk):I×D:=br (lX l) (U,0) (!z.s,z.c+half l)
def blZ(a:Y D)(l:Lf):Mk:=⟨A6 (dv (top a) l),rows l,J,0⟩
def dB(a:Y D)(l:Lf):Mk:=br (pH l) (blZ a l) (lfZ a l)
def A7(h k:I)(a:Y D)(l:Lf)(b:D):Sp:=⟨1,EF a k l b (qg l),zA (iu (dv (top a) l) l b) (qg l) h 1 (L9 l (dB a l)).1 (L9 l (dB a l)).2,[⟨z0 l,on a 0,dB a l⟩]⟩
def YG(h:I)(a:Y D)(b:aC)(n k:W):Sp:=⟨1,b,zA n 0 h 1 J n,[⟨k,on a 0,on a n⟩]⟩
def dr(b:aC):Sp:=⟨3,b,mt,[]⟩
def se(b:aC):Sp:=⟨2,b,mt,[]⟩
def EG(b:aC):Sp:=⟨4,b,mt,[]⟩
def J!(h:I)(b:aC):Sp:=⟨0,b,zA 1 0 h 0 J 1,[]⟩
def k0(a:I):N D:=br a (O 0) C
def Z!(a:Y D)(b:I):Y Sp:=br b [YG J a (nL U J (O 0) a) 2 13,J! U (nL U J (O 0) a),YG U a (nL U J (O 0) a) 2 15,J! U (nL U J (O 0) a)] [YG J a (nL U J C a) 2 13,dr (nL J J C a),J! J (nL J J C a),YG J a (nL U J C a) 2 15,dr (nL J J C a),J! J (nL J J C a)]
def nF(h:I)(b:eu)(c:I)(a:Y D):aC:=nB (s3 (top a+1)) (lq h) b c 1 a
def kz(j:D)(n:V):D×V:=(j,W! n J 0 .Ht .Ht)
def Z?(a:Y D)(b:I):Y Sp:=let c:eu:=br b [kz 0 (.sym (.off 2 0)),kz 1 (.sym (.off 5 (-1)))] [kz 1 (.sym (.off 2 0))];YG J a (nF U (br b [kz 0 (.sym (.off 2 0))] []) U a) 1 10::(br b [] [dr (nF J [] U a)]++[EG (nF b (br b [kz 0 (.sym (.off 2 0))] []) U a),YG b a (nF U c J a) 1 16,EG (nF U c J a),⟨1,nK U (k0 b) a,zA 1 0 U 1 J (top a+2),[⟨11,on a 0,on a 1⟩]⟩])
def cJ(c:D)(a:Y D):W:=bm (motive:=λ_=>W) 0 (λb _ d=>br (a? (c<b)) (d+1) 0) a
def mO(c:D)(a:Y D):Y D:=a.drop (cJ c a)
def Ls{a:Type}(n:W)(b:a):Y a:=ut [] (λ_ r=>b::r) n
def iC(l:ae):D:=(bm (motive:=λ_=>W) 0 (λc _ a=>br (ac c 10) (a+1) (br (ac c 133) (a+1) (br (ac c 2097153) (a+1) a))) l:W)
def here(n m c:D):Mk:=⟨n,m,J,c⟩
def at2(k:W)(n m c:D):Em:=⟨k,here n m c,here n m c⟩
def nz(n:W):I:=!ac n 0
def gap(h:I)(g:ae)(c:D)(a:Y D):Sp:=⟨0,nR (br h U (nz (cJ c a))) C c (mO c a),zA (ak g) (iC g) h (cJ c a) U 0,Ls (cJ c a) (at2 4 (A6 g) (iC g) c)⟩
def A8(k:N D)(g:ae)(c:D)(a:Y D):Y Sp:=oc k (λd=>br (a? (d=0)) [gap U g c a] [se (nK U C a),dr (nK J C a),gap J g c a]) [dr (nK J C a),gap J g c a]
def P4(k:N D)(g:ae)(b c:D)(a:Y D):Y Sp:=oc k (λ_=>[se (nR U C b a)]) []++dr (nR J C b a)::br (br g.isEmpty (!nz (cJ c a)) J) [EG (nR J C b a)] [gap J g c a]
def K_(z:I)(m:Mv):Mv:=⟨m.lE,z,m.dl,m.old,m.new,m.c0,m.ci,m.dc⟩
def J?(z h:I)(c:D)(a:Y D):Y Sp:=br (a? (top a<c)) [⟨1,nD U (c::a),K_ z (zA 1 0 h 2 U 0),[at2 5 0 0 c,⟨7,here 0 0 c,here 1 0 (c+1)⟩]⟩,dr (nD J (c::a))] [⟨1,nD U a,K_ z (zA 1 0 h 1 U 0),[⟨7,here 0 0 c,here 1 0 (c+1)⟩]⟩,dr (nD J a)]
def nY(h:I)(c:D)(a:Y D):aC:=nB (.int (c+1)) (br h PA.Hv PA.lst [Lq J ⟨16,here (-1) 0 c,here 0 0 (c+1)⟩]) [(0,W! (br h (.sym (.off 5 0)) (.sym (.off 2 0))) (a? (top a=c)) 0 (.int c) (K? J (here (-1) 0 c)))] J 0 a
def S?(z h:I)(c:D)(a:Y D):Y Sp:=⟨1,nY h c a,K_ z (zA 1 0 h 0 U 0),[]⟩::(br h [dr (nY J c a)] []++[EG (nY J c a)]++br (a? (top a<c)) [⟨1,nV U (c::a),zA 1 0 J 4 U 0,[at2 6 (-1) 0 c,at2 8 (-1) 0 c,⟨16,here (-1) 0 c,here 0 0 (c+1)⟩,⟨9,here 0 0 (c+1),here 1 0 (c+2)⟩]⟩,dr (nV J (c::a))] [⟨1,nV U a,zA 1 0 J 3 U 0,[at2 8 (-1) 0 c,⟨16,here (-1) 0 c,here 0 0 (c+1)⟩,⟨9,here 0 0 (c+1),here 1 0 (c+2)⟩]⟩,dr (nV J a)])
def nI(h:I):aC:=V! (.int 0) (.int 0) 0 (lq h) [] U J []
def nS(h:I):aC:=nB (.int 3) (lq h) [] J 0 []
def kb:W->ae:=λn=>kA n [[],[45,45,45,10],[35,32,114,10],[45,45,45,32,35,32,114,10]] []
def Lu(a:W)(b:D)(c:I)(d:W)(dc:D):Mv:=⟨a,U,b,J,c,d,U,dc⟩
def G1(a:W)(c:D):Y Sp:=dr (nI J)::br (aq [1,3] a) [EG (nI J),⟨1,nS U,Lu 3 0 U 1 0,[⟨2,here 0 0 0,here 3 0 3⟩]⟩,dr (nS J),gap J ((kb a).drop 3++sp c) c []] (br (br (ac a 0) (a? (c=0)) J) [EG (nI J)] [⟨0,nR J C c [],Lu (ak (kb a++sp c)) (iC (kb a)) J 0 0,[]⟩])
def à(a:W)(c:D):I:=br (ac a 0) (a? (c=0)) J
def E_(x:D)(b:I)(g:ae)(a:Y D):Sp:=let c:=br (ac (ak g) 1) (x+1) (A6 g-1);⟨0,nL J b C a,zA (ak g) (iC g) J 0 U (c-(top a+1)),[]⟩
def jG:Y (Y D):=[[0],[1],[2],[3],[4],[1,0],[2,0],[2,1],[3,1],[3,2],[4,2]]
abbrev Ctx:=D×ae×I
def z!(c:D):Y Ctx:=br (a? (c=0)) [(0,[2097154,2097155,anyS,anyS],J),(0,[45,10,0],U)] [(c,[2097154,anyS,anyS],J)]
def z?(a:Y D):Y Ctx:=(0,[46,46,46,10,0],U)::(0,[35,32,114,10,0],U)::(0,[0],U)::br (a? (a.length=1)) (br (a? (1<top a)) [(1,[0],U)] []++br (a? (2<top a)) [(2,[0],U)] []) []
def cx(a:Y D):Y Ctx:=(a.map z!).flatten++z? a
def P5:Y Lf:=[⟨0,4,1,0⟩,⟨0,1,1,0⟩,⟨1,4,1,0⟩,⟨1,1,1,0⟩,⟨2,4,1,0⟩,⟨2,1,1,0⟩,⟨2,4,2,0⟩,⟨2,1,2,0⟩,⟨8,0,1,0⟩,⟨8,0,2,0⟩,⟨8,0,1,1⟩,⟨8,0,2,1⟩,⟨9,0,1,0⟩,⟨9,0,2,0⟩]
def W':Y Lf:=[⟨10,4,1,0⟩,⟨10,1,1,0⟩]
def ß(h b:I)(a:Y D):aC:=br h (nL U J (O 0) a) (nL J b C a)
def N3(h a:I)(b:Y D)(l:Lf)(c:D)(w:ae)(e:I):I:=aZ [A7 h (br h U a) b l c] U J (ß h a b) w e h
def W_:ae:=[32,35,anyS]
def Ė:ae:=[anyS,anyS]
def DN:Y Lf:=[⟨0,2,1,0⟩,⟨1,2,1,0⟩,⟨2,2,1,0⟩,⟨2,2,2,0⟩]
def Ē:Y (I×Lf×ae):=(J,⟨4,0,1,0⟩,Ė)::(U,⟨10,2,1,0⟩,W_)::(DN.map (λl=>(J,l,W_))++([10,13,32,133].map (λc=>(J,⟨3,0,1,0⟩,[c,anyS]))++[10,13,32,133].map λc=>(J,⟨5,0,1,0⟩,[c,anyS])))
abbrev Ck:=I×I×Lf×D×ae×I
def us(c:D):Y D:=c::kA c.toNat [[],[0],[0,1],[1,2],[2]] []
def NW(a:I)(b:Y D)(j:I)(l:Lf)(x:Ctx):Ck:=(br j a J,br j J a,l,x.1,dv (top b) l++jF l++sp x.1++x.2.1,x.2.2)
def į(a:I)(b:Y D)(t:I×Lf×ae):Ck:=(br t.1 a J,br t.1 J a,t.2.1,0,dv (top b) t.2.1++t.2.2,J)
def Z_(b:I)(a:Y D):Y Ck:=(((us (top a)).map z!).flatten++z? [top a]).flatMap (λx=>P5.map (NW b a J · x)++W'.map (NW b a U · x))++Ē.map (į b a)
def r7(l:nW):Y PA:=bm [] (λp _ a=>br (ac p.1 eR) (p.2::a) a) l
def X2(f:W->PA->PA->I)(a:W)(x y:PA):I:=br (ac a eR) U (f a x y)
def ą(b:aC)(w:ae)(e:I)(c:aC)(m:Mv)(a:Y Em)(h:I):I×Y PA:=oc (ì (lF b w e)) (λq=>((m.bE==J)&&sb m h a&&(bd m.lE (ak w)&&(ac q.2.pg.bD 0&&I3 (X2 (Pb m (a.map (Lq J)))) q.2.pg c m (a.map (Lq J)))),r7 q.2.pg.par)) (J,[])
def ckS(h a:I)(b:Y D)(l:Lf)(c:D)(w:ae)(e:I)(s:Sp):I×Y PA:=ą (ß h a b) w e s.b s.m s.em h
def ckW(a:Y D)(t:Ck):I×Y PA:=ckS t.1 t.2.1 a t.2.2.1 t.2.2.2.1 t.2.2.2.2.1 t.2.2.2.2.2 (A7 t.1 (br t.1 U t.2.1) a t.2.2.1 t.2.2.2.1)
def E0{a b:Type}(f:a->b)(l:Y a):Y b:=bm [] (λa _ b=>f a::b) l
abbrev GJ(al:I)(st:Y D):Prop:=(Z_ al st).map (ckW st)=E0 (λ_=>(U,[E6 st])) (Z_ al st)
def U!(a:I)(b:Y D):I:=aZ (Z! b a) U J (nL J a C b) [38,120,32,33,116,32,106,anyS] J J&&aZ (Z? b a) U J (nL J a C b) [91,107,93,anyS,anyS] J J
def nE(h:I)(c:V):aC:=V! (.sym (.off 0 1)) c 0 (lq h) [] J U []
def ahT(l:Lf):I:=aZ [A7 J U [] l 0] U J (nL J U C []) (dv (-1) l++[0]) U J
def ĩ(s:N D)(r:I)(h:I):Sp:=⟨1,nE U (br r (.int 0) (s3 0)),zA 0 0 h 1 r 0,[⟨1,⟨0,0,!r,0⟩,⟨0,0,!r,0⟩⟩]⟩
def E?:uI:=[[2097153],[13,10],[32,35,32,114,10],[35,32,114,10]]
def cg:ae:=[35,32,114,10]
def gx(a:Y D):Y Ctx:=(a.map λc=>((c,[2097154,anyS],J):Ctx))++(0,[46,anyS],J)::(0,[0],U)::br (a? (a.length=1)) (br (a? (1<top a)) [(1,[0],U)] []++br (a? (2<top a)) [(2,[0],U)] []) []
def ckK(a:Y D)(k:N D)(g:ae)(x:Ctx):I:=aZ (A8 k (g++sp x.1) x.1 a) J J (nK U k a) (g++sp x.1++x.2.1) x.2.2 U
def ahU(a:Y D)(k:N D)(g:ae):I:=aZ (A8 k (g++cg) 0 a) J J (nK U k a) (g++cg++[0]) U U
def ckQ(a:Y D)(k:N D)(x:Ctx):I:=aZ (P4 k [] x.1 x.1 a) J J (nR U k x.1 a) x.2.1 x.2.2 U
def ahV(a:Y D)(k:N D):I:=aZ (P4 k cg 0 0 a) J J (nR U k 0 a) (cg++[0]) U U
def s_:Y (N D):=[C,O 0,O 1]
def zi:Y (N D):=[C,O 1,O 2]
def Ma(a:Y D):I:=aH (λk=>aH (λg=>aH (ckK a k g) (gx a)&&ahU a k g) E?) s_&&aH (λk=>aH (ckQ a k) (gx a)&&ahV a k) zi
def sgX:Y (ae×ae×I):=[([45],[2097156,anyS,anyS],J),([45],[10,0],U)]
def N2(z h:I)(c:D)(a:Y D):I:=aH (λx=>aZ (J? z h c a) U z (br z (nI J) (nR h C c a)) (x.1++x.2.1) x.2.2 h) sgX
def M?(z h:I)(c:D)(a:Y D):I:=aZ (S? z h c a) U z (br z (nI J) (nR h C c a)) [107,58,2097156,anyS] J h
def Lv(h:I)(c:D)(a:Y D):I:=N2 J h c a&&M? J h c a
def ahW(a:Y D):I:=Lv U (top a) a&&Lv J (top a) a
def ahX:I:=aH (λc=>aH (λh=>Lv h c []) [J,U]) [0,1,2,3,4]&&N2 U J 0 []&&M? U J 0 []&&aH (λr=>aH (λb=>aH (λh=>Lv h (r+b) [r]) [J,U]) [1,2]) [0,1,2]
def N0(v:I)(a:Y D)(g:ae)(b:W):I:=aZ [E_ (top a+br v 2 1) (br v (bd 2 (ak g)) U) g a] J J (br v (nV J a) (nD J a)) (g++[b,anyS]) J J
def YH(v:I)(a:Y D)(x:Ctx):I:=aZ [gap J ([10]++sp x.1) x.1 a] J J (br v (nV J a) (nD J a)) ([10]++sp x.1++x.2.1) x.2.2 J
def Þ(v:I)(a:Y D):I:=aZ [gap J ([10]++cg) 0 a] J J (br v (nV J a) (nD J a)) ([10]++cg++[0]) U J
def ı(a:Y D):I:=aZ [gap J [32] (top a+2) a] J J (nD J a) [32,2097154,anyS] J J
def chA(c:I)(b:D)(a:Y D):Y Sp:=br c [YG J a (nL U J (O 0) a) 2 14,gap U ([10]++sp b) b a] [YG J a (nL U J C a) 2 14,dr (nL J J C a),gap J ([10]++sp b) b a]
def VW(a:I)(c:D)(b:Y D):I:=aZ (chA a c b) U J (nL J a C b) ([38,122,10]++sp c++[2097154,anyS]) J J
def okI(a:Y D):I:=aH (λv=>aH (λg=>N0 v a g 2097157) [[32],[10]++sp (top a+1),[10]++sp (top a+2)]&&aH (YH v a) (gx a)&&Þ v a) [J,U]
def ũ(a:Y D):I:=ı a&&aH (λv=>aH (λb=>YH v a (top a+b,[2097154,anyS],J)&&VW (!v) (top a+b) a) [1,2]) [J,U]&&VW J (top a) a
def Av(a:W)(c:D)(b:ae):I:=aZ (G1 a c) J U (nI U) (kb a++sp c++b) J U
def okH:I:=aH (λa=>aH (λc=>Av a c [2097154,anyS,anyS,anyS]) [1,2]) [0,1,2,3]&&aH (λa=>Av a 0 [2097154,anyS,anyS,anyS]) [2,3]&&aH (λa=>Av a 0 [2097154,2097155,anyS,anyS]) [0,1]&&aH (λc=>Av 0 c [2097154,anyS,anyS,anyS]) [3,4]
def eoS(h:I)(t:D)(a:Y D):Sp:=⟨1,nE U (.int t),zA 0 0 h (a.length+1) U 0,Ls a.length (at2 4 0 0 t)++[at2 1 0 0 t]⟩
def A0(h:I)(t:D)(a:Y D):I:=VU (nR h C t a) J h (eoS h t a) (nE J (.int t))
def Ĳ(h:I)(a:Y D):Y Sp:=[⟨1,nS U,zA 3 0 h (a.length+1) U 0,Ls a.length (at2 4 0 0 0)++[⟨3,here 0 0 0,here 3 0 3⟩]⟩,dr (nS J),gap J [10] 0 []]
def İ(h:I)(a:Y D):I:=aZ (Ĳ h a) U J (nR h C 0 a) [46,46,46,10,0] U h
def okF:I:=aH (λh=>aH (İ h) [[],[0]]&&aH (λt=>A0 h t []) [0,1,2]&&aH (λa=>A0 h (top a) a) [[0],[1],[2]]) [J,U]
def ahY:aH Ma (jG.take 6)=U:=by kernel_rfl
def ahZ:aH Ma (jG.drop 6)=U:=by kernel_rfl
def VX:aH okI jG=U:=by kernel_rfl
structure ah0:Prop where
 P6:aH ahW jG=U
 xC:ahX=U
 A9:aH ũ [[0],[1],[2]]=U
 ahs:okH=U
 VY:okF=U
def DO:ah0:=⟨by kernel_rfl,by kernel_rfl,by kernel_rfl,by kernel_rfl,by kernel_rfl⟩
def Ba{b c:Type}{f g:b->c}{l:Y b}(h:l.map f=E0 g l):∀a∈l,f a=g a:=by induction l with|nil=>exact λ_ m=>nomatch m|cons e l d=>refine λa m=>?_;cases m with|head=>exact(fw h).1|tail _ m=>exact d (fw h).2 a m
section
variable{f:W->PA->PA->I}{l m:nW}{b b':aC}{w:ae}{e h v:I}{u:Y Em}{x:PA}{s:Mv}{st:Y D}{t:Ck}
def abI:∀{m},oJ (X2 f) l m->(∀x∈r7 l,∀y∈r7 m,f eR x y=U)->oJ f l m:=by induction l with|nil=>exact λe _=>e|cons p l d=>intro m e H;refine Gr e λq r g e=>cp e λc e=>cp e λi j=>?_;rw[g]at H ⊢;(have a:∀{p:W×PA}{l:nW}{x},x∈r7 l->x∈r7 (p::l):=λ{p}{l}{x}h=>by show x∈br (ac p.1 eR) (p.2::r7 l) (r7 l);cases ac p.1 eR with|true=>exact .tail _ h|false=>exact h);refine(dM c).trans ((dM ?_).trans (d j λx d y g=>H x (a d) y (a g)));refine nG i (λa _=>?_) λ_ e=>e;(have d:∀{p:W×PA}{l:nW},ac p.1 eR->p.2∈r7 (p::l):=λ{p}{l}h=>by show p.2∈br (ac p.1 eR) (p.2::r7 l) (r7 l);rw[h];exact .head _);have:=H p.2 (d a) q.2 (d (aK c▸a));rw[aK a];exact this
def abJ(H:ą b w e b' s u h=(U,[x]))(g:r7 (lF b' [] J).par=[x])(i:Pb s (u.map (Lq J)) eR x x):aZ [⟨1,b',s,u⟩] U J b w e h:=by(have K:∀o:q5,oc o (λq=>((s.bE==J)&&sb s h u&&(bd s.lE (ak w)&&(ac q.2.pg.bD 0&&I3 (X2 (Pb s (u.map (Lq J)))) q.2.pg b' s (u.map (Lq J)))),r7 q.2.pg.par)) (J,[])=(U,[x])->(U&&(s.bE==J)&&sb s h u&&(bd s.lE (ak w)&&oc o (λq=>ac q.2.pg.bD 0&&Du q.2.pg b' s (u.map (Lq J))) J)&&U):=λo=>by cases o with|none=>exact λH=>ao (ah wf H)|some q=>refine λH=>ag (ah wf H:(_&&_)) λa h=>ag a λa j=>ag h λk h=>ag h λn c=>?_;(have F:Du q.2.pg b' s (u.map (Lq J)):=ag c λF f7=>ag F λF f6=>ag F λF f5=>ag F λF f4=>ag F λF f3=>ag F λf1 o=>by(have f1:=abI f1 λx c y d=>by rw[show r7 q.2.pg.par=_ from ah Fk H]at c;rw[g]at d;rw[eC.mp c,eC.mp d];exact i);unfold Du I3;rw[f1,o,f3,f4,f5,f6,f7];rfl);rw[a,j,k];show(U&&(U&&(_&&_))&&U)=U;rw[n,F];rfl);exact K _ H
def abK(m:Mv)(u:af):aH (λst=>Pb m u eR (E6 st) (E6 st)) jG=U:=by kernel_rfl
def afH{k:I}{l:Lf}:r7 (lF (EF st k l c d) [] J).par=[E6 st]:=by unfold EF;cases lX l<;>rfl
def GK(c:st∈jG)(H:GJ v st)(a:t∈Z_ v st):N3 t.1 t.2.1 st t.2.2.1 t.2.2.2.1 t.2.2.2.2.1 t.2.2.2.2.2:=abJ (Ba H t a) afH (ai (abK _ _) c)
end
def Ý:(∀r,GJ U (0::r))/\∀r,GJ U (1::r):=⟨λr=>by kernel_rfl,λr=>by kernel_rfl⟩
def VZ:(∀r,GJ U (2::r))/\aH (U! U) jG=U:=⟨λr=>by kernel_rfl,by kernel_rfl⟩
def Ü(r:Y D):GJ U (3::r):=by kernel_rfl
def Ũ(r:Y D):GJ U (4::r):=by kernel_rfl
def Û:(∀r,GJ J (0::r))/\∀r,GJ J (1::r):=⟨λr=>by kernel_rfl,λr=>by kernel_rfl⟩
def V0:(∀r,GJ J (2::r))/\aH (U! J) jG=U:=⟨λr=>by kernel_rfl,by kernel_rfl⟩
def Ú(r:Y D):GJ J (3::r):=by kernel_rfl
def ŧ(r:Y D):GJ J (4::r):=by kernel_rfl
def v_all(a:I):∀b∈jG,GJ a b:=by(have c:∀{b:Y D}{l:Y (Y D)},GJ a b->(∀k∈l,GJ a k)->∀k∈b::l,GJ a k:=λd e k m=>by cases m with|head=>exact d|tail _ m=>exact e k m);cases a with|true=>exact c (Ý.1 []) (c (Ý.2 []) (c (VZ.1 []) (c (Ü []) (c (Ũ []) (c (Ý.2 [0]) (c (VZ.1 [0]) (c (VZ.1 [1]) (c (Ü [1]) (c (Ü [2]) (c (Ũ [2]) (λk m=>nomatch m)))))))))))|false=>exact c (Û.1 []) (c (Û.2 []) (c (V0.1 []) (c (Ú []) (c (ŧ []) (c (Û.2 [0]) (c (V0.1 [0]) (c (V0.1 [1]) (c (Ú [1]) (c (Ú [2]) (c (ŧ [2]) (λk m=>nomatch m)))))))))))
def afK:∀a∈jG,∀c∈a,c∈us (top a):=by decide
def YI(b:a∈jG){x:Ctx}(h:x∈cx a):x∈((us (top a)).map z!).flatten++z? [top a]:=by
 refine(gX.mp h).elim (λh=>?_) λh=>db _ ?_
 ·obtain⟨_,d,e⟩:=AC.mp h
  obtain⟨c,f,g⟩:=eO.mp d;exact h? _ (AC.mpr ⟨_,eO.mpr ⟨c,afK a b c f,Z⟩,g▸e⟩)
 ·unfold z? at h
  cases q:a? (a.length=1)with
  |true=>rw[q]at h;exact h
  |false=>rw[q]at h;exact h? (as:=[_,_,_]) _ h
def Ŧ{l:Lf}(c:a∈jG)(b:I)(e:x∈cx a):(l∈P5->N3 J b a l x.1 (dv (top a) l++jF l++sp x.1++x.2.1) x.2.2=U)/\(l∈W'->N3 b J a l x.1 (dv (top a) l++jF l++sp x.1++x.2.1) x.2.2=U):=⟨λd=>GK (t:=NW b a J l x) c (v_all b a c) (h? _ (n8.mpr ⟨x,YI c e,h? _ (fq d)⟩)),λd=>GK (t:=NW b a U l x) c (v_all b a c) (h? _ (n8.mpr ⟨x,YI c e,db _ (fq d)⟩))⟩
def P7{l:Lf}(c:a∈jG)(b j:I)(d:(j,l,la)∈Ē):N3 (br j b J) (br j J b) a l 0 (dv (top a) l++la) J:=GK (t:=į b a (j,l,la)) c (v_all b a c) (db _ (fq d))
def vk(c:a∈jG)(b:I):U! b a:=by cases b with|true=>exact ai VZ.2 c|false=>exact ai V0.2 c
def Bb(l:Y Sp):W:=bm (motive:=λ_=>W) 0 (λs _ a=>gh s.kd (s.m.lE+a) λk=>gh k (s.m.lE+a) λ_=>a) l
def YJ(l:Y Sp):D:=bm (motive:=λ_=>D) 0 (λs _ a=>gh s.kd (s.m.dl+a) λk=>gh k (s.m.dl+a) λ_=>a) l
def t_(l:Y Sp):D->D:=bm (motive:=λ_=>D->D) (λc=>c) (λs _ a c=>gh s.kd (a (br s.m.ci 0 c+s.m.dc)) λk=>gh k (a (br s.m.ci 0 c+s.m.dc)) λ_=>a c) l
section
variable{k n:W}{F z h e:I}{b:aC}{R:Rs}{w t:ae}{L pre:af}{m:Mv}{p:aw}{cb:D}{l:Y Sp}
def vl(l:Y Sp):∀R:Rs,PW l R=⟨R.t.drop (Bb l),R.ix+(Bb l:W),R.ln+YJ l,t_ l R.cb⟩:=by
 induction l with
 |nil=>intro R;exact vy (vy (vy (ah Rs.mk Z) (aA _).symm) (aA _).symm) Z
 |cons s l c=>
  intro R;obtain⟨a,d,m,d⟩:=s
  have H:PW l (R.mv m)=⟨R.t.drop (m.lE+Bb l),R.ix+((m.lE+Bb l)),R.ln+(m.dl+YJ l),t_ l (br m.ci 0 R.cb+m.dc)⟩:=by rw[c];show Rs.mk ((R.t.drop m.lE).drop _) (R.ix+m.lE+_) (R.ln+m.dl+YJ l) _=_;rw[e8,ej,ej];rfl
  induction a with
  |zero=>exact H
  |succ a=>induction a with
   |zero=>exact H
   |succ a _=>exact c R
def At(k:W)(z:I)(b:aC)(h:I)(t:ae)(p:aw)(L:af):=∀cb,Go k z J b h ⟨t,p.1,p.2.1,cb⟩ L
def AtE(k:W)(z:I)(b:aC)(h:I)(t:ae)(p:aw)(L:af):=∀cb,iZ k z J b h ⟨t,p.1,p.2.1,cb⟩ L
def Go.bS(S:Go k z F b h R L)(j:W):Go (k+j) z F b h R L:=by induction j with|zero=>exact S|succ j a=>exact λpre c=>Sn.bS (a pre c)
def iZ.bS(S:iZ k z F b h R L)(j:W):iZ (k+j) z F b h R L:=by induction j with|zero=>exact S|succ j a=>exact λpre c=>Sn.bS (a pre c)
def Go.le{k':W}(S:Go k z F b h R L)(q:k<=k'):Go k' z F b h R L:=by obtain⟨j,a⟩:=hh q;exact a▸S.bS j
def iZ.le{k':W}(S:iZ k z F b h R L)(q:k<=k'):iZ k' z F b h R L:=by obtain⟨j,a⟩:=hh q;exact a▸S.bS j
def aW(p:aw)(n:W)(d:D)(c:D):aw:=(p.1+(n:D),p.2.1+d,c)
def fW{a f:I}{n:W}{i:D}(H:aZ l z J b w e h)(o:cC w e ⟨t,p.1,p.2.1,cb⟩)
 (r:DH l z=a)(s:DI l J=J)(u:DJ l b=c)(v:yw l h=f)(en:Bb l=n)(x:YJ l=d)(A:t.drop n=g)(y:t_ l cb=i)(j:BJ l ⟨t,p.1,p.2.1,cb⟩=T)
 (S:Go k a J c f ⟨g,(aW p n d c').1,(aW p n d c').2.1,i⟩ L):Go (k+l.length) z J b h ⟨t,p.1,p.2.1,cb⟩ (T.map aM++L):=by
 rw[<-j];refine Go.link H o (λq=>ao q) ?_;rw[vl,r,s,u,v,en,x,y];rw[A];exact S
def ke{i:D}{a f:I}{n:W}(r:VR l)(H:aZ l z J b w e h)(s:cC w e ⟨t,p.1,p.2.1,cb⟩)
 (u:DH l z=a)(v:DI l J=J)(x:DJ l b=c)(y:yw l h=f)(en:Bb l=n)(A:YJ l=d)(E:t.drop n=g)(B:t_ l cb=j)(o:BJ l ⟨t,p.1,p.2.1,cb⟩=T)
 (S:iZ k a J c f ⟨g,(aW p n d i).1,(aW p n d i).2.1,j⟩ L):iZ (k+l.length) z J b h ⟨t,p.1,p.2.1,cb⟩ (T.map aM++L):=by
 rw[<-o];refine iZ.link r H s (λq=>ao q) ?_;rw[vl,u,v,x,y,en,A,B];rw[E];exact S
end
section
variable{k:W}{h:I}{t:ae}{L:af}{p:aw}{c:D}{st:Y D}
def GN(t:ae):=t=[10,0]∨∃a b c r,t=a::b::c::r/\yc 2097156 a=U
def GO(t:ae):=∃a b r,t=a::b::r/\yc 2097156 a=U
def ť(h:p.2.2=c):aW p 0 0 c=p:=by obtain⟨a,b,d⟩:=p;show(a+_,b+0,c)=_;rw[<-h,aA];exact pu (aA _) Z
def V1:aW (aW p n d x) m e y=aW p (n+m) (d+e) y:=by show(p.1+_+_,p.2.1+d+e,y)=_;rw[ej,ej];rfl
def stI(c:D)(st:Y D):Y D:=br (a? (top st<c)) (c::st) st
def Dt(c:D)(st:Y D)(p:aw):Y Tk:=br (a? (top st<c)) [⟨5,p,p⟩,⟨7,p,aW p 1 0 (c+1)⟩] [⟨7,p,aW p 1 0 (c+1)⟩]
def J_(c:D)(st:Y D)(p:aw):Y Tk:=br (a? (top st<c)) [⟨6,p,p⟩,⟨8,p,p⟩,⟨16,p,aW p 1 0 (c+1)⟩,⟨9,aW p 1 0 (c+1),aW p 2 0 (c+2)⟩] [⟨8,p,p⟩,⟨16,p,aW p 1 0 (c+1)⟩,⟨9,aW p 1 0 (c+1),aW p 2 0 (c+2)⟩]
def GP{a:Type}{f:a->I}{b d:a}(H:aH f [b,d]=U):f b/\f d:=cp H λa H=>cp H λb _=>⟨a,b⟩
def mP(h:dz w R.t):cC w J R:=by show(dz w R.t&&U)=U;rw[h];rfl
def bK{x y:W}(h:yc x y)(k:dz w r):dz (x::w) (y::r):=(dM h).trans k
def xD:yc anyS y:=Z
def ah1(h:y<2097152):yc y y:=by have z:bd anyS y=J:=d8.mpr λq=>ch (cw q) (Nat.not_le_of_lt h);show br _ _ _=U;rw[z];exact cf y
def ah2(F:N2 J h c st)(f:GN t)(e:p.2.2=c)(S:At k J (nD J (stI c st)) J t (aW p 1 0 (c+1)) L):At (k+2) U (nR h C c st) h (45::t) p ((Dt c st p).map aM++L):=λa=>by
 obtain⟨g,i⟩:=GP F;have b:=ť e
 have K:∀{w e},aZ (J? J h c st) U J (nR h C c st) w e h->cC w e ⟨45::t,p.1,p.2.1,a⟩->Go (k+2) U J _ h ⟨45::t,p.1,p.2.1,a⟩ ((Dt c st p).map aM++L):=λ{w e}H d=>by
  unfold J? at H;unfold stI at S;unfold Dt;cases q:a? (top st<c)with
  |true=>
   rw[q]at H S
   exact fW H d Z Z Z Z Z Z Z Z (by show[Tk.mk 5 (aW p 0 0 c) (aW p 0 0 c),Tk.mk 7 (aW p 0 0 c) _]=_;rw[b];rfl) (S _)
  |false=>
   rw[q]at H S
   exact fW H d Z Z Z Z Z Z Z Z (by show[Tk.mk 7 (aW p 0 0 c) _]=_;rw[b];rfl) (S _)
 refine f.elim (λq=>K i (by rw[q];rfl)) λq=>?_;obtain⟨a,b,d,r,q,a⟩:=q;exact K g (mP (by rw[q];exact bK Z (bK a (bK xD (bK xD Z)))))
def ah3(F:M? J h c st)(f:GO t)(g:p.2.2=c)(S:At k J (nV J (stI c st)) J t (aW p 2 0 (c+2)) L):At (k+5) U (nR h C c st) h (107::58::t) p ((J_ c st p).map aM++L):=λi=>by obtain⟨j,j,r,q,j⟩:=f;have a:cC [107,58,2097156,anyS] J ⟨107::58::t,p.1,p.2.1,i⟩:=mP (by rw[q];exact bK Z (bK Z (bK j (bK xD Z))));have F:aZ (S? J h c st) U J (nR h C c st) [107,58,2097156,anyS] J h:=F;unfold stI at S;unfold J_;unfold S? at F;(have b:(p.1+((1:W):D)+(-1:D),p.2.1+0+0,c)=p:=by obtain⟨x,y,z⟩:=p;rw[aA,aA];exact pu (wS x 1) (pu Z g.symm));(have d:(p.1+((1:W):D)+(0:D),p.2.1+0+0,c+1)=aW p 1 0 (c+1):=by rw[aA];exact pu Z (pu (aA _) Z));(have e:(p.1+((1:W):D)+(1:D),p.2.1+0+0,c+2)=aW p 2 0 (c+2):=by rw[ej,ej];rfl);cases q:a? (top st<c)with|true=>(rw[q]at F S;induction h with|true=>exact(fW (n:=2) (d:=0) (c':=c+2) F a Z Z Z Z Z Z Z Z (by show[Tk.mk 6 (p.1+((1:W):D)+(-1:D),p.2.1+0+0,c) (p.1+((1:W):D)+(-1:D),p.2.1+0+0,c),Tk.mk 8 (p.1+((1:W):D)+(-1:D),p.2.1+0+0,c) (p.1+((1:W):D)+(-1:D),p.2.1+0+0,c),Tk.mk 16 (p.1+((1:W):D)+(-1:D),p.2.1+0+0,c) (p.1+((1:W):D)+(0:D),p.2.1+0+0,c+1),Tk.mk 9 (p.1+((1:W):D)+(0:D),p.2.1+0+0,c+1) (p.1+((1:W):D)+(1:D),p.2.1+0+0,c+2)]=_;rw[b,d,e];rfl) (S _))|false=>exact(fW F a Z Z Z Z Z Z Z Z (by show[Tk.mk 6 (p.1+((1:W))+(-1),p.2.1+0+0,c) (p.1+((1:W))+(-1),p.2.1+0+0,c),Tk.mk 8 (p.1+((1:W))+(-1),p.2.1+0+0,c) (p.1+((1:W))+(-1),p.2.1+0+0,c),Tk.mk 16 (p.1+((1:W))+(-1),p.2.1+0+0,c) (p.1+((1:W))+(0),p.2.1+0+0,c+1),Tk.mk 9 (p.1+((1:W))+(0),p.2.1+0+0,c+1) (p.1+((1:W))+(1),p.2.1+0+0,c+2)]=_;rw[b,d,e];rfl) (S _)).le (iI _))|false=>rw[q]at F S;induction h with|true=>exact(fW F a Z Z Z Z Z Z Z Z (by show[Tk.mk 8 (p.1+((1:W))+(-1),p.2.1+0+0,c) (p.1+((1:W))+(-1),p.2.1+0+0,c),Tk.mk 16 (p.1+((1:W))+(-1),p.2.1+0+0,c) (p.1+((1:W))+(0),p.2.1+0+0,c+1),Tk.mk 9 (p.1+((1:W))+(0),p.2.1+0+0,c+1) (p.1+((1:W))+(1),p.2.1+0+0,c+2)]=_;rw[b,d,e];rfl) (S _))|false=>exact(fW F a Z Z Z Z Z Z Z Z (by show[Tk.mk 8 (p.1+((1:W))+(-1),p.2.1+0+0,c) (p.1+((1:W))+(-1),p.2.1+0+0,c),Tk.mk 16 (p.1+((1:W))+(-1),p.2.1+0+0,c) (p.1+((1:W))+(0),p.2.1+0+0,c+1),Tk.mk 9 (p.1+((1:W))+(0),p.2.1+0+0,c+1) (p.1+((1:W))+(1),p.2.1+0+0,c+2)]=_;rw[b,d,e];rfl) (S _)).le (iI _)
end
section
variable{k:W}{h e:I}{t w g:ae}{L:af}{p:aw}{c cb:D}{st:Y D}{b:aC}{ky:N D}
def o9(n:W)(p:aw):Y Tk:=Ls n ⟨4,p,p⟩
def Jh{a i:Type}(f:a->i)(d:a)(n:W):(Ls n d).map f=Ls n (f d):=by induction n with|zero=>rfl|succ n j=>exact ah _ j
def gu:(g++t).drop (ak g)=t:=by rw[aB];exact q6
def tV(p:aw)(g:ae)(c:D):aw:=aW p (ak g) (iC g) c
def P8{cb:D}:BJ [gap h g c st] ⟨g++t,p.1,p.2.1,cb⟩=o9 (cJ c st) (tV p g c):=by show(Ls _ _).map _++[]=_;rw[Jh,eq];rfl
abbrev Arr(k:W)(c:D)(st:Y D)(t:ae)(p:aw)(L:af):Prop:=∀h,At k U (nR h C c st) h t p L
abbrev qK(k:W)(c:D)(st:Y D)(t:ae)(p:aw)(L:af):Prop:=∀h,AtE k U (nR h C c st) h t p L
def xE(H:aZ [gap h g c st] J J b w e h)(a:cC w e ⟨g++t,p.1,p.2.1,cb⟩)(S:Arr k c (mO c st) t (tV p g c) L):Go (k+1) J J b h ⟨g++t,p.1,p.2.1,cb⟩ ((o9 (cJ c st) (tV p g c)).map aM++L):=fW H a Z Z Z Z Z (aA _) gu Z P8 (S _ _)
def pb(H:aZ [gap h g c st] J J b w e h)(a:cC w e ⟨g++t,p.1,p.2.1,cb⟩)(S:qK k c (mO c st) t (tV p g c) L):iZ (k+1) J J b h ⟨g++t,p.1,p.2.1,cb⟩ ((o9 (cJ c st) (tV p g c)).map aM++L):=ke Z H a Z Z Z Z Z (aA _) gu Z P8 (S _ _)
def fO{l:Y Sp}{s:Sp}{z d:I}(f:s.kd=2∨s.kd=3)(H:aZ (s::l) z d b w e h):z=J/\aZ [s] J d b w e h/\aZ l J d s.b w e (br (ac s.kd 3) J h):=by obtain⟨m,a,i,j⟩:=s;refine f.elim (λq=>?_) λq=>?_;have q:m=2:=q;rw[q]at H ⊢;refine ag H λH d=>ag H λH f=>ag H λi j=>⟨(im _).mp i,?_,d⟩;show(!J&&setB b a&&setB a a&&U)=U;rw[j,f];rfl;have q:m=3:=q;rw[q]at H ⊢;refine ag H λH m=>ag H λH n=>ag H λH d=>ag H λH f=>ag H λi j=>⟨(im _).mp i,?_,m⟩;show(!J&&h&&setB b b&&Gz b&&t2 b a&&U)=U;rw[j,f,d,n];rfl
def DP{z:I}{l:Y Sp}(H:aZ (se a::l) z J b w e h)(d:cC w e ⟨t,p.1,p.2.1,cb⟩)(S:Go k J J a h ⟨t,p.1,p.2.1,cb⟩ L):Go (k+1) J J b h ⟨t,p.1,p.2.1,cb⟩ L:=Go.link (fO (.inl Z) H).2 d (λq=>ao q) S
def DQ{z:I}{l:Y Sp}(H:aZ (dr a::l) z J b w e h)(d:cC w e ⟨t,p.1,p.2.1,cb⟩)(S:Go k J J a J ⟨t,p.1,p.2.1,cb⟩ L):Go (k+1) J J b h ⟨t,p.1,p.2.1,cb⟩ L:=Go.link (fO (.inr Z) H).2 d (λq=>ao q) S
def V2(H:aZ (A8 ky g c st) J J (nK U ky st) w e U)(a:cC w e ⟨g++t,p.1,p.2.1,cb⟩)(S:Arr k c (mO c st) t (tV p g c) L):Go (k+3) J J (nK U ky st) U ⟨g++t,p.1,p.2.1,cb⟩ ((o9 (cJ c st) (tV p g c)).map aM++L):=by have d:∀{b},aZ [dr (nK J C st),gap J g c st] J J b w e U->Go _ J J b U ⟨g++t,p.1,p.2.1,cb⟩ _:=λH=>DQ H a (xE (fO (.inr Z) H).3 a S);induction ky with|none=>exact(d H).le (iI _)|some f=>have H:aZ (br _ [gap U g c st] [se _,dr _,gap J g c st]) J J _ w e U:=H;cases q:a? (f=0)with|true=>rw[q]at H;exact(xE H a S).le (gb _ 2)|false=>rw[q]at H;exact DP H a (d (fO (.inl Z) H).3)
def nH(ky:N D):I:=oc ky (λd=>a? (d=0)) J
def DS(H:aZ (A8 ky g c st) J J (nK U ky st) w e U)(a:cC w e ⟨g++t,p.1,p.2.1,cb⟩)(S:qK k c (mO c st) t (tV p g c) L):br (nH ky) (iZ (k+3) J J (nK U ky st) U ⟨g++t,p.1,p.2.1,cb⟩ ((o9 (cJ c st) (tV p g c)).map aM++L)) (Go (k+3) J J (nK U ky st) U ⟨g++t,p.1,p.2.1,cb⟩ (MARK::((o9 (cJ c st) (tV p g c)).map aM++L))):=by have d:∀{b},aZ [dr (nK J C st),gap J g c st] J J b w e U->Go _ J J b U ⟨g++t,p.1,p.2.1,cb⟩ _:=λH=>DQ H a (pb (fO (.inr Z) H).3 a S).go;induction ky with|none=>exact(d H).le (iI _)|some f=>have H:aZ (br _ [gap U g c st] [se _,dr _,gap J g c st]) J J _ w e U:=H;show br (a? _) _ _;cases q:a? (f=0)with|true=>rw[q]at H;exact(pb H a S).le (gb _ 2)|false=>rw[q]at H;exact DP H a (d (fO (.inl Z) H).3)
def Ť(h:nz (cJ c st)=J):mO c st=st/\cJ c st=0:=by(have z:cJ c st=0:=by cases q:cJ c st with|zero=>rfl|succ n=>rw[q]at h;exact ao h.symm);exact⟨by unfold mO;rw[z];rfl,z⟩
def V3{g:ae}(a:g=[])(d:p.2.2=c):tV p g c=p:=by rw[a];exact ť d
def afO{h:I}(H:aZ [EG a] J J b w e h)(d:cC w e ⟨t,p.1,p.2.1,cb⟩)(S:Go k U J a h ⟨t,p.1,p.2.1,cb⟩ L):Go (k+1) J J b h ⟨t,p.1,p.2.1,cb⟩ L:=Go.link H d (λq=>ao q) S
def abP{h:I}(H:aZ [EG a] J J b w e h)(d:cC w e ⟨t,p.1,p.2.1,cb⟩)(S:iZ k U J a h ⟨t,p.1,p.2.1,cb⟩ L):iZ (k+1) J J b h ⟨t,p.1,p.2.1,cb⟩ L:=iZ.link Z H d (λq=>ao q) S
def V4(H:aZ (P4 ky [] c c st) J J (nR U ky c st) w e U)(a:cC w e ⟨t,p.1,p.2.1,cb⟩)(d:p.2.2=c)(S:Arr k c (mO c st) t p L):Go (k+3) J J (nR U ky c st) U ⟨t,p.1,p.2.1,cb⟩ ((o9 (cJ c st) p).map aM++L):=by(have s0:nz _=J->aZ [EG _] J J (nR J C c st) w e J->Go _ J J _ J ⟨t,p.1,p.2.1,cb⟩ ((o9 (cJ c st) p).map aM++L):=λq H=>by obtain⟨u,z⟩:=Ť q;rw[z];rw[u]at S;exact afO H a (S J cb));(have f:aZ [gap J [] c st] J J (nR J C c st) w e J->Go _ J J _ J ⟨t,p.1,p.2.1,cb⟩ _:=λH=>by have X:=xE H a (by rw[V3 Z d];exact S);rw[V3 Z d]at X;exact X);(have A:∀{b},aZ (dr _::br (br U (!nz _) J) [EG _] [gap J [] c st]) J J b w e U->Go (k+2) J J b U ⟨t,p.1,p.2.1,cb⟩ _:=λ{b}H=>by have T:=(fO (.inr Z) H).3;refine DQ H a ?_;cases q:nz _ with|false=>rw[q]at T;exact s0 q T|true=>rw[q]at T;exact f T);induction ky with|none=>exact(A H).le (iI _)|some i=>exact DP H a (A (fO (.inl Z) H).3)
def P9(H:aZ (P4 ky [] c c st) J J (nR U ky c st) w e U)(a:cC w e ⟨t,p.1,p.2.1,cb⟩)(d:p.2.2=c)(S:qK k c (mO c st) t p L):Go (k+3) J J (nR U ky c st) U ⟨t,p.1,p.2.1,cb⟩ (MARK::((o9 (cJ c st) p).map aM++L)):=by(have s0:nz _=J->aZ [EG _] J J (nR J C c st) w e J->Go _ J J _ J ⟨t,p.1,p.2.1,cb⟩ (MARK::((o9 (cJ c st) p).map aM++L)):=λq H=>by obtain⟨u,z⟩:=Ť q;rw[z];rw[u]at S;exact(abP H a (S J cb)).go);(have f:aZ [gap J [] c st] J J (nR J C c st) w e J->Go _ J J _ J ⟨t,p.1,p.2.1,cb⟩ _:=λH=>by have X:=pb H a (by rw[V3 Z d];exact S);rw[V3 Z d]at X;exact X.go);(have A:∀{b},aZ (dr _::br (br U (!nz _) J) [EG _] [gap J [] c st]) J J b w e U->Go (k+2) J J b U ⟨t,p.1,p.2.1,cb⟩ _:=λ{b}H=>by have T:=(fO (.inr Z) H).3;refine DQ H a ?_;cases q:nz _ with|false=>rw[q]at T;exact s0 q T|true=>rw[q]at T;exact f T);induction ky with|none=>exact(A H).le (iI _)|some i=>exact DP H a (A (fO (.inl Z) H).3)
def Qa(H:aZ (P4 ky cg a c st) J J (nR U ky a st) w e U)(d:cC w e ⟨cg++t,p.1,p.2.1,cb⟩)(S:qK k c (mO c st) t (tV p cg c) L):Go (k+3) J J (nR U ky a st) U ⟨cg++t,p.1,p.2.1,cb⟩ (MARK::((o9 (cJ c st) (tV p cg c)).map aM++L)):=by have A:∀{b},aZ (dr (nR J C a st)::[gap J cg c st]) J J b w e U->Go _ J J b U ⟨cg++t,p.1,p.2.1,cb⟩ _:=λ{b}H=>DQ H d (pb (fO (.inr Z) H).3 d S).go;induction ky with|none=>exact(A H).le (iI _)|some f=>exact DP H d (A (fO (.inl Z) H).3)
end
section
variable{k:W}{h e q:I}{t w x y r:ae}{L:af}{p:aw}{c cb c2:D}{st:Y D}{b:aC}{l:Lf}{f j:W}
def small(l:ae):I:=aH (λc=>jp c 2097152) l
def pre_app(h:small x)(k:dz w r):dz (x++w) (x++r):=by induction x with|nil=>exact k|cons d x a=>exact cp h λd g=>bK (ah1 (cw d)) (a g)
def eW(h:small x)(k:small y):small (x++y):=fV h k
def gy:small (sp c):=by unfold sp;induction c.toNat with|zero=>rfl|succ n a=>exact a
def mQ:ak (sp c)=c.toNat:=by unfold sp;induction c.toNat with|zero=>rfl|succ n a=>exact ah pp a
def len_app{a:Type}{x y:Y a}:ak (x++y)=ak x+ak y:=by rw[aB,aB,aB];exact aX
def Qb:small (rep [10] n):=by induction n with|zero=>rfl|succ n a=>exact a
def kg:small (dv c l):=by
 obtain⟨f,e,j,z⟩:=l;have a:small (DM c ⟨f,e,j,z⟩):=gy;revert a
 induction f using VV<;>first|exact λ_=>Z|exact λa=>eW (eW Z a) Z|exact λa=>eW (eW (eW Z a) Z) Qb|exact λa=>eW (eW (eW (eW Z a) Z) a) Z|skip
 rename_i f;intro _
 iterate 2 (cases f with
  |zero=>rfl
  |succ f=>?_)
 rfl
def cls(l:Lf):Lf:=⟨l.f,br (pH l) l.e (br (ac l.e 0) 4 (br (ac l.e 3) 4 l.e)),l.p,l.z⟩
def dC(st:Y D)(l:Lf)(p:aw):aw:=(p.1+(dB st l).n,p.2.1+(dB st l).m,br (dB st l).s (p.2.2+((dB st l).c-(top st+1))) (dB st l).c)
def V5(a:l.e≠4)(h:dz w r):dz (jF (cls l)++w) (jF l++r):=by
 obtain⟨f,e,j,z⟩:=l;show dz (br (pH ⟨f,0,j,z⟩) [] (GI (br (pH ⟨f,0,j,z⟩) e _))++w) (br (pH ⟨f,0,j,z⟩) [] _++r)=U;cases pH ⟨f,0,j,z⟩with
 |true=>exact h
 |false=>
  cases e with
  |zero=>exact bK Z h
  |succ e=>
  cases e with
  |zero=>exact bK Z (bK Z h)
  |succ e=>cases e with
   |zero=>exact bK Z (bK Z (bK Z (bK Z (bK Z h))))
   |succ e=>cases e with
    |zero=>exact bK Z h
    |succ e=>cases e with
     |zero=>exact ch Z a
     |succ e=>cases e with
      |zero=>exact h
      |succ e=>exact h
def Ji:ak (jF (cls l))=ak (jF l)/\lX (cls l)=lX l/\half (cls l)=half l:=by
 obtain⟨f,e,j,z⟩:=l
 have E:∀c q:I,ak (br c [] (GI (br c e (br (ac e 0) 4 (br (ac e 3) 4 e)))))=ak (br c [] _)/\br c U (br q (!(br (ac (br c e (br (ac e 0) 4 (br (ac e 3) 4 e))) 2) U (ac (br c e (br (ac e 0) 4 (br (ac e 3) 4 e))) 5))) J)=br c U (br q _ J)/\br q (br (ac (br c e (br (ac e 0) 4 (br (ac e 3) 4 e))) 2) 1 0) 0=br q _ 0:=λc q=>by
  cases c with
  |true=>exact⟨Z,Z,Z⟩
  |false=>
   cases e with
   |zero=>exact⟨Z,Z,Z⟩
   |succ e=>cases e with
    |zero=>exact⟨Z,Z,Z⟩
    |succ e=>cases e with
     |zero=>exact⟨Z,Z,Z⟩
     |succ e=>cases e with
      |zero=>exact⟨Z,Z,Z⟩
      |succ e=>exact⟨Z,Z,Z⟩
 exact E _ _
def Qc(a d:I):A7 a d st (cls l) c2=A7 a d st l c2:=by unfold A7 EF iu qg L9;rw[Ji.1,Ji.2,Ji.3];rfl
def iw(st:Y D)(l:Lf)(p:aw):Tk:=⟨z0 l,p,dC st l p⟩
def xF(a:p.2.2=cb+(top st+1)):BJ [A7 h q st l c2] ⟨t,p.1,p.2.1,cb⟩=[iw st l p]:=by(have d:qf ⟨t,p.1,p.2.1,cb⟩ (on st 0)=p:=by obtain⟨g,b,i⟩:=p;show(g+0,b+0,cb+(top st+1+0))=_;rw[aA,aA,aA];exact pu Z (pu Z a.symm));(have g:qf ⟨t,p.1,p.2.1,cb⟩ (dB st l)=dC st l p:=by refine pu Z (pu Z ?_);show br (dB st l).s _ (dB st l).c=br (dB st l).s _ (dB st l).c;rw[a,show cb+_+_=cb+(dB st l).c by rw[ej,nU (top st+1),qt]]);show[Tk.mk _ _ _]=_;rw[d,g];rfl
variable(H:aZ [A7 h q st l c2] U J b w e h)(i:cC w e ⟨t,p.1,p.2.1,cb⟩)(m:p.2.2=cb+(top st+1))
def tW(g:t.drop (iu (dv (top st) l) l c2)=a){c':D}
 (S:∀d,Go k J J (EF st q l c2 (qg l)) U ⟨a,(aW p (iu (dv (top st) l) l c2) (qg l) c').1,(aW p (iu (dv (top st) l) l c2) (qg l) c').2.1,d⟩ L):Go (k+1) U J b h ⟨t,p.1,p.2.1,cb⟩ (aM (iw st l p)::L):=by
 refine fW H i Z Z Z ?_ Z (aA _) g Z (xF m) (S _);cases h<;>rfl
def Jj(g:t.drop (iu (dv (top st) l) l c2)=a){c':D}
 (S:∀d,iZ k J J (EF st q l c2 (qg l)) U ⟨a,(aW p (iu (dv (top st) l) l c2) (qg l) c').1,(aW p (iu (dv (top st) l) l c2) (qg l) c').2.1,d⟩ L):iZ (k+1) U J b h ⟨t,p.1,p.2.1,cb⟩ (aM (iw st l p)::L):=by
 refine ke Z H i Z Z Z ?_ Z (aA _) g Z (xF m) (S _);cases h<;>rfl
end
def ţ(a b:Lf):I:=ac a.f b.f&&ac a.e b.e&&ac a.p b.p&&ac a.z b.z
def V6(a:Lf)(l:Y Lf):I:=bm (motive:=λ_=>I) J (λb _ c=>br (ţ b a) U c) l
def GQ:Y Lf:=[⟨0,0,1,0⟩,⟨0,1,1,0⟩,⟨0,3,1,0⟩,⟨1,0,1,0⟩,⟨1,1,1,0⟩,⟨1,3,1,0⟩,⟨2,0,1,0⟩,⟨2,1,1,0⟩,⟨2,3,1,0⟩,⟨2,0,2,0⟩,⟨2,1,2,0⟩,⟨2,3,2,0⟩,⟨8,0,1,0⟩,⟨8,0,2,0⟩,⟨8,0,1,1⟩,⟨8,0,2,1⟩,⟨9,0,1,0⟩,⟨9,0,2,0⟩]
def DT:Y Lf:=[⟨3,0,1,0⟩,⟨3,1,1,0⟩,⟨3,2,1,0⟩,⟨3,3,1,0⟩,⟨4,0,1,0⟩,⟨4,1,1,0⟩,⟨4,2,1,0⟩,⟨4,3,1,0⟩,⟨5,0,1,0⟩,⟨5,1,1,0⟩,⟨5,2,1,0⟩,⟨5,3,1,0⟩]
def X1(k:N D)(l:Y (N D)):I:=bm (motive:=λ_=>I) J (λb _ a=>br (oc b (λx=>oc k (λy=>a? (x=y)) J) (oc k aaE U)) U a) l
def gV(l:Lf):D:=br (pH l) (rows l) (rows l+1)
def s?(q:I)(l:Lf):N D:=br (pH l) C (br q (O (qg l)) C)
def Qd:Y I:=[J,U]
def ah4(l:Lf):I:=V6 (cls l) P5&&lX l&&!ac l.e 4&&aH (λq=>X1 (s? q l) zi) Qd
def V7(h:ţ a b):a=b:=ag h λh c=>ag h λh d=>ag h λe f=>by obtain⟨g,i,j,k⟩:=a;obtain⟨l,m,n,o⟩:=b;rw[show g=l from aK e,show i=m from aK f,show j=n from aK d,show k=o from aK c]
def vm{l:Y Lf}(h:V6 a l):a∈l:=by induction l with|nil=>exact ao h|cons c l b=>exact nG h (λh _=>V7 h▸.head _) λ_ h=>.tail _ (b h)
def Qe{l:Y (N D)}(h:X1 a l):a∈l:=by
 induction l with
 |nil=>exact ao h
 |cons b l c=>
  refine nG h (λh _=>?_) λ_ h=>.tail _ (c h)
  have:b=a:=by
   induction b with
   |none=>induction a with
    |none=>rfl
    |some _=>exact ao h
   |some x=>induction a with
    |none=>exact ao h
    |some y=>exact ah O (aO h)
  exact this▸.head _
def Qf:aH ah4 GQ=U:=by kernel_rfl
section
variable{k:W}{h e q:I}{t w x la:ae}{L:af}{p:aw}{cb c2:D}{st:Y D}{b:aC}{l:Lf}
def kB(la:ae)(e:I)(t:ae):=dz la t=U/\(e->ak la=ak t)
def kB.yr(h:kB la e R.t):cC la e R:=by show(dz la R.t&&br e _ U)=U;rw[h.1];induction e with|false=>rfl|true=>rw[h.2 Z];exact cf _
def kB.app(a:small x)(h:kB la e t):kB (x++la) e (x++t):=⟨pre_app a h.1,λq=>by rw[len_app,len_app,h.2 q]⟩
def kB.cls(a:l.e≠4)(h:kB la e t):kB (jF (Ev.cls l)++la) e (jF l++t):=⟨V5 a h.1,λq=>by rw[len_app,len_app,h.2 q,Ji.1]⟩
structure YK(st:Y D)(c2:D)(t:ae):Prop where
 l:∃la e,(c2,la,e)∈cx st/\kB la e t
 g:∃la e,(c2,la,e)∈gx st/\kB la e t
def eI(st:Y D)(l:Lf)(p:aw)(c2:D):aw:=(p.1+(ak (dv (top st) l++(jF l++sp c2)):W),p.2.1+gV l,c2)
def Jk(h:lX l):aW p (iu (dv (top st) l) l c2) (qg l) c2=eI st l p c2/\(dv (top st) l++(jF l++(sp c2++t))).drop (iu (dv (top st) l) l c2)=t:=by
 have E:iu (dv (top st) l) l c2=ak (dv (top st) l++(jF l++sp c2)):=by unfold iu;rw[h,len_app,len_app,mQ];rfl
 have a:qg l=gV l:=by unfold qg gV;rw[h];rfl
 refine⟨by rw[E,a];rfl,?_⟩;rw[E];have:dv (top st) l++(jF l++(sp c2++t))=(dv (top st) l++(jF l++sp c2))++t:=by rw[am,am]
 rw[this];exact gu
def YL(h:lX l):EF st q l c2 (qg l)=nR U (s? q l) c2 st:=by unfold EF s?;rw[h];rfl
variable(m:Ma st)
def YM(c:lX l)(j:s? q l∈zi)(H:aZ [A7 h q st l c2] U J b w e h)(d:cC w e ⟨dv (top st) l++(jF l++(sp c2++t)),p.1,p.2.1,cb⟩)(X:YK st c2 t)(f:p.2.2=cb+(top st+1)):
  (∀{k L},Arr k c2 (mO c2 st) t (eI st l p c2) L->Go (k+4) U J b h ⟨dv (top st) l++(jF l++(sp c2++t)),p.1,p.2.1,cb⟩ (aM (iw st l p)::((o9 (cJ c2 st) (eI st l p c2)).map aM++L)))/\
  (∀{k L},qK k c2 (mO c2 st) t (eI st l p c2) L->Go (k+4) U J b h ⟨dv (top st) l++(jF l++(sp c2++t)),p.1,p.2.1,cb⟩ (aM (iw st l p)::MARK::((o9 (cJ c2 st) (eI st l p c2)).map aM++L))):=by
 refine gq λP a=>?_;obtain⟨g,g,m2,g⟩:=X.g;obtain⟨P,i⟩:=Jk c;refine a ?_;have m:=ag (m) λ_ a=>a;have G:=ai (ag (ai m j) λa _=>a) m2;have a:=YL (st:=st) (q:=q) (c2:=c2) c;refine⟨λ{k L}S=>?_,λ{k L}S=>?_⟩
 ·refine tW (c':=c2) H d f i λc=>?_
  rw[a,P];exact V4 G g.yr Z S
 ·refine tW (c':=c2) H d f i λc=>?_
  rw[a,P];exact P9 G g.yr Z S
def V8(c:lX l)(d:s? q l∈zi)(H:aZ [A7 h q st l 0] U J b w e h)(f:cC w e ⟨dv (top st) l++(jF l++(sp 0++(cg++[0]))),p.1,p.2.1,cb⟩)(g:p.2.2=cb+(top st+1)){k:W}{L:af}(S:qK k 0 (mO 0 st) [0] (tV (eI st l p 0) cg 0) L):
  Go (k+4) U J b h ⟨dv (top st) l++(jF l++(sp 0++(cg++[0]))),p.1,p.2.1,cb⟩ (aM (iw st l p)::MARK::((o9 (cJ 0 st) (tV (eI st l p 0) cg 0)).map aM++L)):=by
 obtain⟨P,i⟩:=Jk c;have m:=ag (m) λ_ a=>a;have G:=ag (ai m d) λ_ a=>a;have a:=YL (st:=st) (q:=q) (c2:=0) c;refine tW (c':=0) H f g i λc=>?_;rw[a,P];exact Qa G (kB.yr ⟨Z,λ_=>Z⟩) S
def Ù(a:l.e≠4)(A:kB la e t):cC (dv (top st) (cls l)++jF (cls l)++sp c2++la) e ⟨dv (top st) l++(jF l++(sp c2++t)),p.1,p.2.1,cb⟩:=by rw[am,am];exact kB.yr ((((A.app gy).cls a)).app kg)
end
section
variable{k:W}{h e q:I}{t w x y la g g':ae}{L:af}{p:aw}{c cb c2:D}{st:Y D}{b:aC}{l:Lf}{ky:N D}
def mR(l:ae):W:=bm (motive:=λ_=>W) 0 (λc _ a=>br (ac c 10) (a+1) (br (ac c 133) (a+1) (br (ac c 2097153) (a+1) a))) l
def bA:mR (x++y)=mR x+mR y:=by
 induction x with
 |nil=>exact(hM _).symm
 |cons a x d=>
  show br (ac a 10) (mR (x++y)+1) (br (ac a 133) (mR (x++y)+1) (br (ac a 2097153) (mR (x++y)+1) (mR (x++y))))=br (ac a 10) (mR x+1) (br (ac a 133) (mR x+1) (br (ac a 2097153) (mR x+1) (mR x)))+mR y;rw[d];cases ac a 10 with
  |true=>exact jL _ _ _
  |false=>cases ac a 133 with
   |true=>exact jL _ _ _
   |false=>cases ac a 2097153 with
    |true=>exact jL _ _ _
    |false=>rfl
def kh:mR (sp c)=0:=by unfold sp;induction c.toNat with|zero=>rfl|succ n a=>exact a
def Bc:iC (x++sp c)=iC x:=by show((mR (x++sp c)):D)=(mR x);rw[bA,kh];rfl
def Jl(a:ak g'=ak g)(d:iC g'=iC g)(h:I)(c2 c:D)(st:Y D):gap h (g'++sp c2) c st=gap h (g++sp c2) c st:=by unfold gap A6;rw[Bc,Bc,len_app,len_app,a,d]
def DU(a:ak g'=ak g)(d:iC g'=iC g):A8 ky (g'++sp c2) c st=A8 ky (g++sp c2) c st:=by unfold A8;rw[Jl a d,Jl a d]
def Jm(p:aw)(g:ae)(c2:D):aw:=(p.1+(ak (g++sp c2):W),p.2.1+iC g,c2)
def Qg(a:Ma st)(f:ky∈s_)(i:g'∈E?)(j:ak g'=ak g)(m:iC g'=iC g)(n:∀{la e t},kB la e t->kB (g'++la) e (g++t))(X:YK st c2 t)(cb:D):
  (∀{k L},Arr k c2 (mO c2 st) t (Jm p g c2) L->Go (k+3) J J (nK U ky st) U ⟨g++(sp c2++t),p.1,p.2.1,cb⟩ ((o9 (cJ c2 st) (Jm p g c2)).map aM++L))/\
  (∀{k L},qK k c2 (mO c2 st) t (Jm p g c2) L->br (nH ky) (iZ (k+3) J J (nK U ky st) U ⟨g++(sp c2++t),p.1,p.2.1,cb⟩ ((o9 (cJ c2 st) (Jm p g c2)).map aM++L)) (Go (k+3) J J (nK U ky st) U ⟨g++(sp c2++t),p.1,p.2.1,cb⟩ (MARK::((o9 (cJ c2 st) (Jm p g c2)).map aM++L)))):=by
 obtain⟨la,e,o,A⟩:=X.g;have a:=ag (a) λd _=>d;have H:=ai (ag (ai (ai a f) i) λd _=>d) o;have H:aZ (A8 ky (g'++sp c2) c2 st) J J (nK U ky st) (g'++sp c2++la) e U:=H;rw[DU j m]at H
 have a:cC (g'++sp c2++la) e ⟨(g++sp c2)++t,p.1,p.2.1,cb⟩:=by rw[am,am];exact kB.yr (n (A.app gy))
 have P:tV p (g++sp c2) c2=Jm p g c2:=by show(p.1+((ak (g++sp c2))),p.2.1+iC (g++sp c2),c2)=_;rw[Bc];rfl
 rw[<-am];refine⟨λ{k L}S=>?_,λ{k L}S=>?_⟩
 ·have X:=V2 (p:=p) (cb:=cb) (k:=k) (L:=L) H a (P▸S)
  rw[P]at X;exact X
 ·have X:=DS (p:=p) (cb:=cb) (k:=k) (L:=L) H a (P▸S)
  rw[P]at X;exact X
def Qh(a:Ma st)(f:ky∈s_)(i:g'∈E?)(j:ak g'=ak g)(m:iC g'=iC g)(n:∀{la e t},kB la e t->kB (g'++la) e (g++t)){k:W}{L:af}(S:qK k 0 (mO 0 st) [0] (Jm p (g++cg) 0) L):
  br (nH ky) (iZ (k+3) J J (nK U ky st) U ⟨g++(cg++[0]),p.1,p.2.1,cb⟩ ((o9 (cJ 0 st) (Jm p (g++cg) 0)).map aM++L)) (Go (k+3) J J (nK U ky st) U ⟨g++(cg++[0]),p.1,p.2.1,cb⟩ (MARK::((o9 (cJ 0 st) (Jm p (g++cg) 0)).map aM++L))):=by
 have a:=ag (a) λd _=>d;have H:=ag (ai (ai a f) i) λ_ d=>d;have H:aZ (A8 ky (g'++cg) 0 st) J J (nK U ky st) (g'++cg++[0]) U U:=H;have a:sp 0=[]:=Z
 have d:=by
  have z:=DU (ky:=ky) (c:=0) (st:=st) (c2:=0) (g':=g'++cg) (g:=g++cg) (by rw[len_app,len_app,j]) (by show((mR (g'++cg)):D)=(mR (g++cg));have q:mR g'=mR g:=w_ (m);rw[bA,bA,q])
  rw[a,eq,eq]at z;exact z
 rw[d]at H;have d:kB [0] U [0]:=⟨Z,λ_=>Z⟩
 have f:cC (g'++cg++[0]) U ⟨(g++cg)++[0],p.1,p.2.1,cb⟩:=by rw[am,am];exact kB.yr (n (d.app (x:=cg) Z))
 have P:tV p (g++cg) 0=Jm p (g++cg) 0:=by show _=(p.1+(ak ((g++cg)++sp 0)),_,_);rw[a,eq];rfl
 rw[<-am];have X:=DS (p:=p) (cb:=cb) (k:=k) (L:=L) H f (P▸S);rw[P]at X;exact X
def kK(q:I)(l:Lf):N D:=br q (O (rows l)) C
def DV(l:Lf):ae:=br (A3 l) cg (GI l.e)
def GR(l:Lf):I:=!lX l&&ac (half l) (br (A3 l) 1 0)&&!pH l&&aH (λq=>X1 (kK q l) s_) Qd&&br (A3 l) (ac l.e 2) (jp l.e 4)
def M!(e:W):ae:=GI (br (ac e 0) 4 (br (ac e 3) 4 e))
def Qi:aH GR (DN++DT)=U:=by kernel_rfl
def Qj{e:W}(a:jp e 4):M! e∈E?/\ak (M! e)=ak (GI e)/\iC (M! e)=iC (GI e)/\∀{la:ae}{f:I}{t:ae},kB la f t->kB (M! e++la) f (GI e++t):=by
 cases e with
 |zero=>exact⟨.head _,Z,Z,λh=>⟨bK Z h.1,λq=>ah pp (h.2 q)⟩⟩
 |succ e=>cases e with
  |zero=>exact⟨.tail _ gY,Z,Z,λh=>h.app (x:=[13,10]) Z⟩
  |succ e=>cases e with
   |zero=>exact⟨.tail _ aaz,Z,Z,λh=>h.app (x:=[32,35,32,114,10]) Z⟩
   |succ e=>cases e with
    |zero=>exact⟨.head _,Z,Z,λh=>⟨bK Z h.1,λq=>ah pp (h.2 q)⟩⟩
    |succ e=>exact ao a
def YN(d:GR l):∃g',g'∈E?/\ak g'=ak (DV l)/\iC g'=iC (DV l)/\∀{la:ae}{f:I}{t:ae},kB la f t->kB (g'++la) f (DV l++t):=ag d λ_ a=>by unfold DV;cases q:A3 l with|true=>exact⟨cg,.tail _ aaA,Z,Z,λh=>h.app Z⟩|false=> rw[q]at a;obtain⟨d,b,c,f⟩:=Qj a;exact⟨_,d,b,c,f⟩
structure KF0(q:I)(st:Y D)(l:Lf)(p:aw)(y:ae):Prop where
 K:kK q l∈s_
 AF:EF st q l 0 (qg l)=nK U (kK q l) st
 DR:(dv (top st) l++(jF l++y)).drop (iu (dv (top st) l) l 0)=DV l++y
 PO:∀c2:D,Jm (aW p (iu (dv (top st) l) l 0) (qg l) 0) (DV l) c2=eI st l p c2
 PR:Jm (aW p (iu (dv (top st) l) l 0) (qg l) 0) (DV l++cg) 0=tV (eI st l p 0) cg 0
def Be{a:Type}{d:a}:ak (Ls n d)=n:=by induction n with|zero=>rfl|succ n f=>exact ah pp f
def ah5(e:W)(h:jp e 4):iC (GI e)=1:=by
 iterate 4 (cases e with
  |zero=>rfl
  |succ e=>?_)
 exact ao h
def ah6(h:br (A3 l) (ac l.e 2) (jp l.e 4)=U):iC (DV l)=1:=by unfold DV;cases q:A3 l with|true=>rfl|false=>rw[q]at h;exact ah5 _ h
def Ě(a:GR l):KF0 q st l p y:=by refine ag a λa d=>ag a λa o=>ag a λa r=>ag a λa s=>?_;have E:=(im _).mp a;have B:=(im _).mp r;have a:=aK s;(have f:∀y,jF l++y=Ls (half l) 32++(DV l++y):=λy=>by unfold jF DV;rw[B,a];cases a:A3 l with|true=>rw[a]at d;rw[(aK d)];rfl|false=>rfl);(have i:iu (dv (top st) l) l 0=ak (dv (top st) l++Ls (half l) 32):=by unfold iu;rw[E,len_app,Be];rfl);(have j:qg l=rows l:=by unfold qg;rw[E];rfl);(have a:=by have z:=ah ak (f []);rw[eq,eq,len_app,Be]at z;exact z);have r:=ah6 d;(have m:∀g:ae,p.1+((iu (dv (top st) l) l 0))+((ak (DV l++g)))=p.1+((ak (dv (top st) l++(jF l++g)))):=λg=>by rw[i,ej,<-fP,len_app,len_app,len_app,len_app,Be,a,fK,fK]);(have n:p.2.1+qg l+iC (DV l)=p.2.1+gV l:=by unfold gV;rw[j,r,B,ej];rfl);refine⟨Qe (ai o (by cases q;exact .head _;exact .tail _ gY)),by unfold EF kK;rw[E,j];rfl,by rw[f,i,<-am];exact gu,λc2=>pu (m _) (pu n Z),pu ?_ (pu ?_ Z)⟩;show p.1+((iu (dv (top st) l) l 0))+((ak ((DV l++cg)++sp 0)))=p.1+((ak (dv (top st) l++(jF l++sp 0))))+((ak cg));rw[show((DV l++cg)++sp 0)=DV l++cg from eq _,m,show jF l++sp 0=jF l from eq _,<-am,len_app,fP,ej];show p.2.1+qg l+((mR (DV l++cg)))=p.2.1+gV l+iC cg;rw[bA,fP,<-ej];exact ah (·+iC cg) n
def YO(m:Ma st)(j:GR l)(H:aZ [A7 h q st l 0] U J b w e h)(f:cC w e ⟨dv (top st) l++(jF l++(sp c2++t)),p.1,p.2.1,cb⟩)(X:YK st c2 t)(i:p.2.2=cb+(top st+1)):
  (∀{k L},Arr k c2 (mO c2 st) t (eI st l p c2) L->Go (k+4) U J b h ⟨dv (top st) l++(jF l++(sp c2++t)),p.1,p.2.1,cb⟩ (aM (iw st l p)::((o9 (cJ c2 st) (eI st l p c2)).map aM++L)))/\
   (∀{k L},qK k c2 (mO c2 st) t (eI st l p c2) L->br (nH (kK q l)) (iZ (k+4) U J b h ⟨dv (top st) l++(jF l++(sp c2++t)),p.1,p.2.1,cb⟩ (aM (iw st l p)::((o9 (cJ c2 st) (eI st l p c2)).map aM++L))) (Go (k+4) U J b h ⟨dv (top st) l++(jF l++(sp c2++t)),p.1,p.2.1,cb⟩ (aM (iw st l p)::MARK::((o9 (cJ c2 st) (eI st l p c2)).map aM++L)))):=by
 have F:=Ě (q:=q) (st:=st) (p:=p) (y:=sp c2++t) j;obtain⟨g',n,o,r,s⟩:=YN j;have G:=Qg (p:=aW p (iu (dv (top st) l) l 0) (qg l) 0) (c2:=c2) (t:=t) m F.K n o r s X;refine⟨λ{k L}S=>?_,λ{k L}S=>?_⟩
 ·refine tW (k:=k+3) (c':=0) H f i F.DR λd=>?_
  rw[F.AF];have a:=(G d).1 (k:=k) (L:=L) (by rw[F.PO];exact S);rw[F.PO]at a;exact a
 ·have a:=λd=>(G d).2 (k:=k) (L:=L) (by rw[F.PO];exact S)
  rw[F.PO]at a;cases j:nH (kK q l)with
  |true=> rw[j]at a;exact Jj (k:=k+3) (c':=0) H f i F.DR λd=>by rw[F.AF];exact a d
  |false=> rw[j]at a;exact tW (k:=k+3) (c':=0) H f i F.DR λd=>by rw[F.AF];exact a d
def V9(m:Ma st)(f:GR l)(H:aZ [A7 h q st l 0] U J b w e h)(i:cC w e ⟨dv (top st) l++(jF l++(cg++[0])),p.1,p.2.1,cb⟩)(j:p.2.2=cb+(top st+1)){k:W}{L:af}(S:qK k 0 (mO 0 st) [0] (tV (eI st l p 0) cg 0) L):
  br (nH (kK q l)) (iZ (k+4) U J b h ⟨dv (top st) l++(jF l++(cg++[0])),p.1,p.2.1,cb⟩ (aM (iw st l p)::((o9 (cJ 0 st) (tV (eI st l p 0) cg 0)).map aM++L))) (Go (k+4) U J b h ⟨dv (top st) l++(jF l++(cg++[0])),p.1,p.2.1,cb⟩ (aM (iw st l p)::MARK::((o9 (cJ 0 st) (tV (eI st l p 0) cg 0)).map aM++L))):=by
 have F:=Ě (q:=q) (st:=st) (p:=p) (y:=cg++[0]) f;obtain⟨g',n,o,r,s⟩:=YN f;have a:=λd=>Qh (p:=aW p (iu (dv (top st) l) l 0) (qg l) 0) (cb:=d) m F.K n o r s (k:=k) (L:=L) (by rw[F.PR];exact S);rw[F.PR]at a;cases f:nH (kK q l)with
 |true=> rw[f]at a;exact Jj (k:=k+3) (c':=0) H i j F.DR λd=>by rw[F.AF];exact a d
 |false=> rw[f]at a;exact tW (k:=k+3) (c':=0) H i j F.DR λd=>by rw[F.AF];exact a d
end
section
variable{k:W}{h e q m:I}{t w x y r la g:ae}{L:af}{p:aw}{cb c2:D}{st:Y D}{b:aC}{l:Lf}{T:Y Tk}
def i8(st:Y D)(l:Lf)(p:aw):Y Tk:=br (ac l.f 6) [⟨13,p,aW p 2 0 (p.2.2+2)⟩,⟨15,aW p 3 0 (p.2.2+3),aW p 5 0 (p.2.2+5)⟩,⟨20,aW p 6 0 (p.2.2+6),aW p 7 0 (p.2.2+7)⟩] (br (ac l.f 7) [⟨10,p,aW p 1 0 (p.2.2+1)⟩,⟨16,aW p 1 0 (p.2.2+1),aW p 2 0 (p.2.2+2)⟩,⟨11,aW p 2 0 (p.2.2+2),aW p 3 0 (p.2.2+3)⟩] [iw st l p])
structure jg(z:I)(b:aC)(h:I)(st:Y D)(l:Lf)(p:aw)(cb:D)(T:Y Tk)(X:ae)(P:aw)(m:I):Prop where
 a:∀{c2 t k L},YK st c2 t->t≠[]->Arr k c2 (mO c2 st) t (eI st l p c2) L->Go (k+12) z J b h ⟨X++(jF l++(sp c2++t)),P.1,P.2.1,cb⟩ (T.map aM++((o9 (cJ c2 st) (eI st l p c2)).map aM++L))
 e:∀{c2 t k L},YK st c2 t->t≠[]->qK k c2 (mO c2 st) t (eI st l p c2) L->br m (iZ (k+12) z J b h ⟨X++(jF l++(sp c2++t)),P.1,P.2.1,cb⟩ (T.map aM++((o9 (cJ c2 st) (eI st l p c2)).map aM++L))) (Go (k+12) z J b h ⟨X++(jF l++(sp c2++t)),P.1,P.2.1,cb⟩ (T.map aM++(MARK::((o9 (cJ c2 st) (eI st l p c2)).map aM++L))))
 r:∀{k L},qK k 0 (mO 0 st) [0] (tV (eI st l p 0) cg 0) L->br m (iZ (k+12) z J b h ⟨X++(jF l++(cg++[0])),P.1,P.2.1,cb⟩ (T.map aM++((o9 (cJ 0 st) (tV (eI st l p 0) cg 0)).map aM++L))) (Go (k+12) z J b h ⟨X++(jF l++(cg++[0])),P.1,P.2.1,cb⟩ (T.map aM++(MARK::((o9 (cJ 0 st) (tV (eI st l p 0) cg 0)).map aM++L))))
def DW{k:W}:k+4<=k+12:=d9 (aO Z) k
def Qk{m:I}{A B a c:Prop}(h:br m A B)(f:A->a)(g:B->c):br m a c:=by induction m with|true=>exact f h|false=>exact g h
variable(j:Ma st)
def jg.lE(c:lX l)(d:s? q l∈zi)(H:∀x∈cx st,aZ [A7 h q st l x.1] U J b (dv (top st) (cls l)++jF (cls l)++sp x.1++x.2.1) x.2.2 h)(a:l.e≠4)(f:p.2.2=cb+(top st+1)):jg U b h st l p cb [iw st l p] (dv (top st) l) p J where
 a:=λ{c2 t k L}X _ S=>by obtain⟨la,e,m,A⟩:=X.l;exact((YM j c d (H _ m) (Ù a A) X f).1 S).le DW
 e:=λ{c2 t k L}X _ S=>by obtain⟨la,e,m,A⟩:=X.l;exact((YM j c d (H _ m) (Ù a A) X f).2 S).le DW
 r:=λ{k L}S=>by have m:_∈cx st:=db _ aaz;have i:=Ù (st:=st) (c2:=0) (p:=p) (cb:=cb) (t:=cg++[0]) (e:=U) a ⟨Z,λ_=>Z⟩;exact(V8 j c d (H _ m) i f S).le DW
def jg.row(c:GR l)(H:∀y,y≠[]->∃w e,aZ [A7 h q st l 0] U J b w e h/\cC w e ⟨dv (top st) l++(jF l++y),p.1,p.2.1,cb⟩)(d:p.2.2=cb+(top st+1)):jg U b h st l p cb [iw st l p] (dv (top st) l) p (nH (kK q l))where
 a:=λ{c2 t k L}X n S=>by obtain⟨w,e,H,a⟩:=H _ λz=>n (t3.mp z).2;exact((YO j c H a X d).1 S).le DW
 e:=λ{c2 t k L}X n S=>by obtain⟨w,e,H,a⟩:=H _ λz=>n (t3.mp z).2;exact Qk ((YO j c H a X d).2 S) (λz=>z.le DW) λz=>z.le DW
 r:=λ{k L}S=>by obtain⟨w,e,H,a⟩:=H _ (λz=>ch z (bN _ _));exact Qk (V9 j c H a d S) (λz=>z.le DW) λz=>z.le DW
end
section
variable{n:W}{h e m:I}{t g:ae}{p:aw}{c cb:D}{st:Y D}{b:aC}
def eq3{b c i:D}(j:a=d)(k:b=f)(l:c=i):(a,b,c)=(d,f,i):=by rw[j,k,l]
def d!{b c:D}(h:b+c=d):a+b+c=a+d:=by rw[ej,h]
def Mb{b:D}(d:c=cb+(top st+1))(n:D):qf ⟨t,a,b,cb⟩ (on st n)=(a+n,b,c+n):=eq3 Z (aA _) (by rw[d];exact(ej _ _ _).symm)
def GU(a:p.2.2=cb+(top st+1))(m:I):BJ (Z! st m) ⟨t,p.1,p.2.1,cb⟩=[⟨13,p,aW p 2 0 (p.2.2+2)⟩,⟨15,aW p 3 0 (p.2.2+3),aW p 5 0 (p.2.2+5)⟩]:=by(have d:p.2.2+3=cb+2+1+(top st+1):=by rw[a,d! (show _+1=3 from Z),TW]);(have f:qf ⟨t,p.1,p.2.1,cb⟩ _=p:=(Mb a 0).trans (eq3 (aA _) Z (aA _));have i:qf ⟨t,p.1,p.2.1,cb⟩ _=aW p 2 0 _:=(Mb a 2).trans (eq3 Z (aA _).symm Z);have z:p.2.1+0+0=p.2.1+0:=aA _;have a:∀t,qf ⟨t,p.1+2+1,p.2.1+0+0,cb+2+1⟩ _=aW p 3 0 _:=λt=>(Mb d 0).trans (eq3 ((aA _).trans (d! Z)) z (aA _));have j:∀t,qf ⟨t,p.1+2+1,p.2.1+0+0,cb+2+1⟩ _=aW p 5 0 _:=λt=>(Mb d 2).trans (eq3 ((d! Z).trans (d! Z)) z (d! Z));have g:∀R,R=[Tk.mk 13 (qf ⟨t,p.1,p.2.1,cb⟩ _) (qf ⟨t,p.1,p.2.1,cb⟩ (on st 2)),Tk.mk 15 (qf ⟨(t.drop 2).drop 1,p.1+2+1,p.2.1+0+0,cb+2+1⟩ _) (qf ⟨(t.drop 2).drop 1,p.1+2+1,p.2.1+0+0,cb+2+1⟩ (on st 2))]->R=[⟨13,p,aW p 2 0 _⟩,⟨15,aW p 3 0 _,aW p 5 0 _⟩]:=λR e=>by rw[e,f,i,a,j]);induction m with|true=>exact g _ Z|false=>exact g _ Z
end
section
variable{k n K:W}{h e v q m z:I}{t w x y r la X:ae}{L:af}{p:aw}{c d cb c2:D}{st:Y D}{b:aC}{l:Lf}{T:Y Tk}
inductive P'(st:Y D):I->ae->W->D->D->ae->Prop
 |nx {e:I} {c2:D} {t:ae}:YK st c2 t->t≠[]->P' st e (sp c2++t) c2.toNat 0 c2 t
 |re:P' st U (cg++[0]) 4 1 0 [0]
def fh(p:aw)(x:ae)(n:W)(d c2:D):aw:=(p.1+((ak x+n:W):D),p.2.1+(iC x+d),c2)
def DX(e:I)(k:W)(c:D)(st:Y D)(t:ae)(p:aw)(L:af):=br e (qK k c st t p L) (Arr k c st t p L)
def DY(c:D)(st:Y D)(P:aw):af:=(o9 (cJ c st) P).map aM
def r8(c:D)(l:Lf):ae:=dv c l++jF l
structure jA(K:W)(z:I)(b:aC)(h:I)(st:Y D)(X:ae)(p:aw)(cb:D)(T:Y Tk)(m:I):Prop where
 go:∀{e:I}{y:ae}{n:W}{d c2:D}{t:ae}{k:W}{L:af},P' st e y n d c2 t->DX e k c2 (mO c2 st) t (fh p X n d c2) L->
 br (br e m J) (iZ (k+K) z J b h ⟨X++y,p.1,p.2.1,cb⟩ (T.map aM++(DY c2 st (fh p X n d c2)++L))) (Go (k+K) z J b h ⟨X++y,p.1,p.2.1,cb⟩ (T.map aM++br e (MARK::(DY c2 st (fh p X n d c2)++L)) (DY c2 st (fh p X n d c2)++L)))
def Ql:fh p X c2.toNat 0 c2=(p.1+((ak (X++sp c2):W):D),p.2.1+iC X,c2):=by rw[len_app,mQ];exact eq3 Z (ah _ (aA _)) Z
def Qm(a:gV l=iC (r8 (top st) l)):eI st l p c2=fh p (r8 (top st) l) c2.toNat 0 c2:=by rw[Ql];unfold eI r8;rw[a,am];rfl
def abR(a:gV l=iC (r8 (top st) l)):tV (eI st l p 0) cg 0=fh p (r8 (top st) l) 4 1 0:=by rw[Qm a];exact eq3 ((d! (fP _ _).symm)) (d! (ah (·+1) (aA _))) Z
def jg.toN(G:jg z b h st l p cb T (dv (top st) l) p m)(f:gV l=iC (r8 (top st) l)):jA 12 z b h st (r8 (top st) l) p cb T m:=by refine⟨λ{e y n d c2 t k L}j A=>?_⟩;cases j with|nx g i=>(rw[<-Qm f]at A ⊢;rw[show r8 _ l++_=dv _ l++_ from am _ _ _];induction e with|false=>exact G.a g i A|true=>have a:=G.e g i A;induction m with|true=>exact a|false=>exact a)|re=>rw[<-abR f]at A ⊢;rw[show r8 _ l++_=dv _ l++_ from am _ _ _];have a:=G.r A;induction m with|true=>exact a|false=>exact a
def tY(a:st∈jG):Ma st:=(gX.mp (BR 6 jG▸a)).elim (λm=>ai ahY m) λm=>ai ahZ m
def jB(q:I):q∈Qd:=by cases q;exact .head _;exact .tail _ gY
def abS(f:st∈jG)(g:l∈GQ)(v:I)(i:p.2.2=cb+(top st+1)):jg U (nL J v C st) J st l p cb [iw st l p] (dv (top st) l) p J:=by have a:=ai Qf g;refine ag a λa j=>ag a λa g=>ag a λa o=>?_;refine jg.lE (q:=v) ((tY f)) o (Qe (ai j (jB _))) (λx j=>?_) (λe=>by rw[e]at g;exact ao g) i;rw[<-Qc];exact(Ŧ f v j).1 (vm a)
def abT(f:st∈jG)(a:l∈DN)(v:I)(g:p.2.2=cb+(top st+1)):jg U (nL J v C st) J st l p cb [iw st l p] (dv (top st) l) p (nH (kK v l)):=by
 refine jg.row (tY f) (ai Qi (h? _ a)) (λy i=>⟨_,_,P7 f v J (.tail _ (.tail _ (h? _ (fq a)))),mP (pre_app kg ?_)⟩) g
 have E:jF l=[32,35,32,114,10]:=by
  cases a with
  |head=>rfl
  |tail _ a=>cases a with
   |head=>rfl
   |tail _ a=>cases a with
    |head=>rfl
    |tail _ a=>cases a with
     |head=>rfl
     |tail _ a=>exact nomatch a
 rw[E];exact bK Z (bK Z (bK xD Z))
def tZ{e:W}(a:jp e 4):∃c r,GI e=c::r/\c∈[10,13,32,133]/\yc c c:=by
 iterate 4 (induction e with
  |zero=>exact⟨_,_,Z,by decide,Z⟩
  |succ e _=>?_)
 exact ao a
def vn{x y:ae}(a:y≠[])(c:W)(r:ae)(w:W)(h:yc w c)(e:x=c::r):dz [w,anyS] (x++y):=by
 rw[e]
 induction r with
 |cons b r _=>exact bK h (bK xD Z)
 |nil=>induction y with
  |nil=>exact ch Z a
  |cons b y _=>exact bK h (bK xD Z)
def abU(a:st∈jG){f e:W}(i:f=3∨f=4∨f=5)(g:jp e 4)(v:I)(s:p.2.2=cb+(top st+1)):jg U (nL J v C st) J st ⟨f,e,1,0⟩ p cb [iw st ⟨f,e,1,0⟩ p] (dv (top st) ⟨f,e,1,0⟩) p (nH (kK v ⟨f,e,1,0⟩)):=by
 have u:∀{f:W},(f=3∨f=4∨f=5)->GR ⟨f,e,1,0⟩:=λ{f}h=>by
  iterate 4 (induction e with
   |zero=>exact h.elim (λh=>by rw[h];rfl) λh=>h.elim (λh=>by rw[h];rfl) λh=>by rw[h];rfl
   |succ e _=>?_)
  exact ao g
 obtain⟨c,r,E,j,o⟩:=tZ g;refine jg.row (tY a) (u i) (λy f=>?_) s;refine i.elim (λh=>?_) λh=>h.elim (λh=>?_) λh=>?_
 ·rw[h];exact⟨_,_,(P7 (l:=⟨3,0,1,0⟩) (la:=[c,anyS]) a v J (.tail _ (.tail _ (db _ (h? _ (fq j))))):),mP (pre_app (kg) (vn f c r c o E))⟩
 ·rw[h];exact⟨_,_,(P7 (l:=⟨4,0,1,0⟩) (la:=Ė) a v J gY:),mP (pre_app (kg) (vn f c r anyS Z E))⟩
 ·rw[h];exact⟨_,_,(P7 (l:=⟨5,0,1,0⟩) (la:=[c,anyS]) a v J (.tail _ (.tail _ (db _ (db _ (fq j))))):),mP (pre_app (kg) (vn f c r c o E))⟩
end
section
variable{k n K:W}{h al q m z:I}{t w x y r la g X:ae}{L:af}{p:aw}{c d cb c2:D}{st:Y D}{b:aC}{l:Lf}{ky:N D}{T:Y Tk}
def Ĭ{P:W->Prop}(o:jp e 4)(a:P 0)(f:P 1)(i:P 2)(j:P 3):P e:=by
 induction e with
 |zero=>exact a
 |succ e=>induction e with
  |zero=>exact f
  |succ e=>induction e with
   |zero=>exact i
   |succ e=>induction e with
    |zero=>exact j
    |succ e _=>exact ao o
def jK(al:I)(e:W):I:=br al (ac e 2) J
def abV(a:st∈jG){e:W}(i:jp e 4)(al:I)(j:p.2.2=cb+(top st+1)):jg U (ß al J st) al st ⟨10,e,1,0⟩ p cb [iw st ⟨10,e,1,0⟩ p] [106] p (jK al e):=by(have E:∀{e:W},e≠4->lX ⟨10,e,1,0⟩->cls ⟨10,e,1,0⟩∈W'->s? _ ⟨10,e,1,0⟩∈zi->jg U _ al st ⟨10,e,1,0⟩ p cb [iw st ⟨10,e,1,0⟩ p] [106] p J:=λ{e}o i s u=>jg.lE (tY a) i u (λx u=>by rw[<-Qc];exact(Ŧ a al u).2 s) o j;have f:jK al 0=J/\jK al 1=J/\jK al 3=J/\jK al 2=nH (kK (br al U J) ⟨10,2,1,0⟩):=by cases al<;>exact⟨Z,Z,Z,Z⟩);refine Ĭ (P:=λe=>jg U _ al st ⟨10,e,1,0⟩ p cb [iw st ⟨10,e,1,0⟩ p] [106] p _) i ?_ ?_ ?_ ?_;rw[f.1];exact E (aO Z) Z gY (by cases al;exact .head _;exact .tail _ gY);rw[f.2];exact E (aO Z) Z aaz (by cases al;exact .head _;exact .tail _ gY);rw[f.4];refine jg.row (tY a) (by rfl) (λy e=>⟨_,_,(P7 (l:=⟨10,2,1,0⟩) (la:=W_) a al U aaz:),mP ?_⟩) j;exact pre_app (kg) (bK Z (bK Z (bK xD Z)));rw[f.3];exact E (aO Z) Z gY (by cases al;exact .head _;exact .tail _ gY)
def jA.le(e:jA K z b h st X p cb T m)(q:K<=a):jA a z b h st X p cb T m where
 go:=λa A=>Qk (e.go a A) (λG=>G.le (d9 q _)) λG=>G.le (d9 q _)
def jA.pre{l:Y Sp}{w:ae}{s:Y Tk}{i:aC}{j:I}(a':jA K z i j st X ((aW p e 0 c')) o T m)(H:aZ l U J b w J h)(hw:∀y,y≠[]->dz w (a++(X++y)))
 (v:DH l U=z)(A:DI l J=J)(B:DJ l b=i)(E:yw l h=j)(en:Bb l=e)(F:YJ l=0)(u:ak a=e)(V:iC a=0)(G:t_ l cb=o)(M:∀t,BJ l ⟨t,p.1,p.2.1,cb⟩=s)(hd:m->VR l):
  jA (K+l.length) U b h st (a++X) p cb (s++T) m:=by
 refine⟨λ{P y n d c2 t k L}Q d'=>?_⟩
 have hy:y≠[]:=by
  induction Q with
  |nx _ hn=>exact λz=>hn (t3.mp z).2
  |re=>exact bN _ _
 have i:fh (aW p e 0 c') X n d c2=fh p (a++X) n d c2:=by
  refine eq3 ?_ ?_ Z
  ·show p.1+_+_=_
   rw[d! (fP _ _).symm,len_app,u,fK]
  ·show p.2.1+0+_=p.2.1+(((mR _))+d)
   have:mR a=0:=w_ V;rw[aA,bA,this,hM];rfl
 have f:=a'.go Q (i▸d');rw[i]at f;have R:cC w J ⟨a++_,p.1,p.2.1,cb⟩:=mP (hw y hy);have S:(a++_).drop e=X++y:=u▸gu;rw[am,mc,am,am,<-fK];cases q:br P m J with
 |true=>
  rw[q]at f
  have hm:=by
   induction P with
   |true=>exact q
   |false=>exact ao q
  exact ke (hd hm) H R v A B E en F S G (M _) f
 |false=> rw[q]at f;exact fW H R v A B E en F S G (M _) f
def abW(f:Ma st)(i:ky∈s_){e:W}(v:jp e 4):jA 3 J (nK U ky st) U st (GI e) p cb [] (nH ky):=by obtain⟨j,o,s,u⟩:=Qj v;refine⟨λ{B y n d c2 t k L}E A=>?_⟩;cases E with|nx F H=>(have G:=Qg (p:=p) f i j o s u F cb;rw[show Jm p _ c2=fh p _ c2.toNat 0 c2 from Ql.symm]at G;induction B with|false=>exact G.1 A|true=>have a:=G.2 A;cases q:nH ky with|true=>rw[q]at a;exact a|false=>rw[q]at a;exact a)|re=>(have E:Jm p (GI e++cg) 0=fh p (GI e) 4 1 0:=by refine eq3 ?_ ?_ Z;rw[len_app,len_app];rfl;show p.2.1+((mR _))=_;rw[bA];rfl);have a:=Qh (cb:=cb) f i j o s u (E▸A);rw[E]at a;cases q:nH ky with|true=>rw[q]at a;exact a|false=>rw[q]at a;exact a
theorem abX(f:st∈jG){e:W}(a:jp e 4)(al:I)(j:p.2.2=cb+(top st+1)):jA 18 U (nL J al C st) J st (r8 (top st) ⟨6,e,1,0⟩) p cb (i8 st ⟨6,e,1,0⟩ p) (jK al e):=by(have s:p.2.2+6=cb+2+1+2+1+(top st+1):=by lia);have i:=(abV f a al (p:=aW p 6 0 _) s).toN (by exact Ĭ (P:=λe=>gV ⟨10,e,1,0⟩=iC (r8 _ ⟨10,e,1,0⟩)) a Z Z Z Z);(have s:iw st ⟨10,e,1,0⟩ (aW p 6 0 (p.2.2+6))=⟨20,aW p 6 0 (p.2.2+6),aW p 7 0 (p.2.2+7)⟩:=by refine ah _ (eq3 (d! Z) (aA _) ?_);show p.2.2+6+(top st+1+1-_)=p.2.2+7;rw[show top st+1+1-_=1 by rw[nU _];exact wS 1 _,d! (show _+1=7 from Z)]);rw[s]at i;(have o:∀y:ae,y≠[]->dz [38,120,32,33,116,32,106,anyS] ([38,120,32,33,116,32]++(r8 (top st) ⟨10,e,1,0⟩++y)):=λy _=>by obtain⟨c,r,E,_,_⟩:=tZ a;refine bK Z (bK Z (bK Z (bK Z (bK Z (bK Z (bK Z ?_))))));show dz [anyS] (GI e++y)=U;rw[E];rfl);induction al with|true=>exact(jA.pre i (bO (vk f U)).1 o Z Z Z Z Z Z Z Z Z (λt=>GU j U) (λ_=>Z)).le (cw Z)|false=>exact jA.pre i (bO (vk f J)).1 o Z Z Z Z Z Z Z Z Z (λt=>GU j J) (λq=>ao q)
theorem GV(a:p.2.2=cb+(top st+1))(al:I):BJ (Z? st al) ⟨t,p.1,p.2.1,cb⟩=[⟨10,p,aW p 1 0 (p.2.2+1)⟩,⟨16,aW p 1 0 (p.2.2+1),aW p 2 0 (p.2.2+2)⟩,⟨11,aW p 2 0 (p.2.2+2),aW p 3 0 (p.2.2+3)⟩]:=by(have e:p.2.2+1=cb+1+(top st+1):=by lia);(have f:p.2.2+2=cb+1+1+(top st+1):=by lia);(have z:p.2.1+0=p.2.1:=aA _;have i:∀t,qf ⟨t,p.1,p.2.1,cb⟩ _=p:=λt=>(Mb a 0).trans (eq3 (aA _) Z (aA _));have j:∀t,qf ⟨t,p.1,p.2.1,cb⟩ _=aW p 1 0 _:=λt=>(Mb a 1).trans (eq3 Z z.symm Z);have o:∀t,qf ⟨t,p.1+1,p.2.1+0,cb+1⟩ _=aW p 1 0 _:=λt=>(Mb e 0).trans (eq3 (aA _) Z (aA _));have s:∀t,qf ⟨t,p.1+1,p.2.1+0,cb+1⟩ _=aW p 2 0 _:=λt=>(Mb e 1).trans (eq3 (d! Z) Z (d! Z));have u:∀t,qf ⟨t,p.1+1+1,p.2.1+0+0,cb+1+1⟩ _=aW p 2 0 _:=λt=>(Mb f 0).trans (eq3 ((aA _).trans (d! Z)) (aA _) (aA _));have v:∀t,qf ⟨t,p.1+1+1,p.2.1+0+0,cb+1+1⟩ _=aW p 3 0 _:=λt=>(Mb f 1).trans (eq3 ((d! Z).trans (d! Z)) (aA _) (d! Z));have g:∀R a e,R=[Tk.mk 10 (qf ⟨t,p.1,p.2.1,cb⟩ _) (qf ⟨t,p.1,p.2.1,cb⟩ (on st 1)),Tk.mk 16 (qf ⟨a,p.1+1,p.2.1+0,cb+1⟩ _) (qf ⟨a,p.1+1,p.2.1+0,cb+1⟩ (on st 1)),Tk.mk 11 (qf ⟨e,p.1+1+1,p.2.1+0+0,cb+1+1⟩ _) (qf ⟨e,p.1+1+1,p.2.1+0+0,cb+1+1⟩ (on st 1))]->R=[⟨10,p,aW p 1 0 _⟩,⟨16,aW p 1 0 _,aW p 2 0 _⟩,⟨11,aW p 2 0 _,aW p 3 0 _⟩]:=λR a e e=>by rw[e,i,j,o,s,u,v]);induction al with|true=>exact g _ _ _ Z|false=>exact g _ _ _ Z
def afQ(al:I):k0 al∈s_:=by cases al;exact .head _;exact .tail _ gY
def abY(a:st∈jG){e:W}(f:jp e 4)(al:I)(i:p.2.2=cb+(top st+1)):jA 10 U (nL J al C st) J st (r8 (top st) ⟨7,e,1,0⟩) p cb (i8 st ⟨7,e,1,0⟩ p) (nH (k0 al)):=by(have j:∀y:ae,y≠[]->dz [91,107,93,anyS,anyS] ([91,107,93]++(GI e++y)):=λy e=>by obtain⟨c,r,E,_,_⟩:=tZ f;exact bK Z (bK Z (bK Z (vn e c r anyS Z E))));have E:∀{c' e},jA 3 J _ U st _ (aW p 3 0 c') e [] _:=λ{c' e}=>abW (tY a) (afQ al) f;induction al with|true=>exact(jA.pre (c':=0) E (bO (vk a U)).2 j Z Z Z Z Z Z Z Z Z (λt=>GV i U) (λ_=>Z)).le (cw Z)|false=>exact(jA.pre (c':=0) E (bO (vk a J)).2 j Z Z Z Z Z Z Z Z Z (λt=>GV i J) (λq=>ao q)).le (cw Z)
end
def Ţ:Y Lf:=[⟨6,0,1,0⟩,⟨6,1,1,0⟩,⟨6,2,1,0⟩,⟨6,3,1,0⟩]
def š:Y Lf:=[⟨7,0,1,0⟩,⟨7,1,1,0⟩,⟨7,2,1,0⟩,⟨7,3,1,0⟩]
def Lw:Y Lf:=GQ++(DN++(DT++(Ţ++š)))
def mL(a:I)(l:Lf):I:=br a (br (ac l.f 6) (ac l.e 2) (br (ac l.f 7) U (br (lX l) J (a? (rows l=0))))) J
def ah7(l:Lf):I:=aH (λa=>(mL a l)==(nH (kK a l))) Qd&&a? (gV l=iC (r8 0 l))
def ah8(l:Lf):I:=aH (λa=>(mL a l)==J) Qd&&a? (gV l=iC (r8 0 l))
def afT(l:Lf):I:=br (ac l.f 3) U (br (ac l.f 4) U (ac l.f 5))&&jp l.e 4&&ac l.p 1&&ac l.z 0
def afU(l:Lf):I:=!(br (ac l.f 6) U (ac l.f 7))
section
variable{n:W}{e h r q m z:I}{p:aw}{c d cb:D}{st:Y D}{b:aC}{l:Lf}
def Qn:aH ah7 (DN++DT)=U:=by kernel_rfl
def Lx:aH afT DT=U:=by kernel_rfl
def Ly:aH afU (GQ++(DN++DT))=U:=by kernel_rfl
def Qo:aH ah8 GQ=U:=by kernel_rfl
def Qp(h:gV l=iC (r8 0 l))(c:D):gV l=iC (r8 c l):=by rw[h];show((mR _):D)=(mR _);refine ah (λn:W=>_) ?_;obtain⟨f,e,a,z⟩:=l;unfold r8;rw[bA,bA];refine ah (·+_) ?_;(induction f using VV<;>first|rfl|skip);show mR ([100,10]++sp _++[101])=mR ([100,10]++sp _++[101]);rw[bA,bA,kh,bA,bA,kh];show mR ([124,10]++sp _++[108,10]++rep [10] z)=mR ([124,10]++sp _++[108,10]++rep [10] z);rw[bA,bA,bA,kh,bA,bA,bA,kh];show mR ([62,45,10]++sp _++[109,10]++sp _++[110,10])=mR ([62,45,10]++sp _++[109,10]++sp _++[110,10]);rw[bA,bA,bA,bA,kh,bA,bA,bA,bA,kh]
def afV{l:Lf}(h:l∈DT):∃f e,l=⟨f,e,1,0⟩/\(f=3∨f=4∨f=5)/\jp e 4:=by refine ag (ai Lx h) λa g=>ag a λa i=>ag a λj k=>?_;obtain⟨f,e,o,z⟩:=l;refine⟨f,e,?_,nG j (λh _=>.inl (aK h)) λ_ h=>.inr (nG h (λh _=>.inl (aK h)) λ_ h=>.inr (aK h)),k⟩;rw[show o=1 from aK i,show z=0 from aK g]
def ý{l:Lf}(h:l∈[(⟨f,0,1,0⟩:Lf),⟨f,1,1,0⟩,⟨f,2,1,0⟩,⟨f,3,1,0⟩]):∃e,l=⟨f,e,1,0⟩/\jp e 4:=(c?.mp h).elim (λq=>⟨0,q,Z⟩) λh=>(c?.mp h).elim (λq=>⟨1,q,Z⟩) λh=>(c?.mp h).elim (λq=>⟨2,q,Z⟩) λh=>⟨3,eC.mp h,Z⟩
def LA{l:Lf}{M:Prop}(h:l∈Lw)(a:l∈GQ->M)(b:l∈DN->M)(c:l∈DT->M)(d:l∈Ţ->M)(e:l∈š->M):M:=(gX.mp h).elim a λh=>(gX.mp h).elim b λh=>(gX.mp h).elim c λh=>(gX.mp h).elim d e
def Bf(h:(br (ac l.f 6) U (ac l.f 7))=J):i8 st l p=[iw st l p]:=by unfold i8;cases a:ac l.f 6 with|true=>rw[a]at h;exact ao h.symm|false=> rw[a]at h;rw[show ac l.f 7=J from h];rfl
def Qq(a:st∈jG)(o:l∈Lw)(r:I)(f:p.2.2=cb+(top st+1)):jA 18 U (nL J r C st) J st (r8 (top st) l) p cb (i8 st l p) (mL r l):=by have i:∀{l:Lf},l∈GQ++_->_=J:=λ{l}m=>(im _).mp (ai Ly m);have k:∀{l:Lf},l∈DN++DT->mL r l=nH _/\gV l=iC (r8 (top st) l):=λ{l}m=>ag (ai Qn m) λj b=>⟨gc.mp (ai j (jB r)),Qp (aO b) _⟩;refine LA o (λh=>?_) (λh=>?_) (λh=>?_) (λh=>?_) λh=>?_;refine ag (ai Qo h) λj b=>?_;rw[Bf (i (h? _ h)),show mL r l=J from gc.mp (ai j (jB r))];exact((abS a h r f).toN (Qp (aO b) _)).le (cw Z);have R:=k (h? _ h);rw[Bf (i (db _ (h? _ h))),R.1];exact((abT a h r f).toN R.2).le (cw Z);have R:=k (db _ h);rw[Bf (i (db _ (db _ h))),R.1];obtain⟨i,e,q,i,g⟩:=afV h;rw[q]at R ⊢;exact((abU a i g r f).toN R.2).le (cw Z);obtain⟨e,q,g⟩:=ý h;rw[q];exact abX a g r f;obtain⟨e,q,g⟩:=ý h;rw[q,show mL r ⟨7,e,1,0⟩=nH (k0 r) by generalize r=u;cases u<;>rfl];exact(abY a g r f).le (cw Z)
end
section
variable{k n:W}{e h q z tr:I}{t w x y r la:ae}{c d c2:D}{s:Y D}{b:aC}{l:Lf}
def u?(t:ae):=(∃x,t=45::x/\GN x)∨∃x,t=107::58::x/\GO x
def J'(tr:I)(s:Y D)(c2:D):I:=br (a? (c2=0)) U (tr&&a? (s.length=1)&&br (a? (c2=1)) (a? (1<top s)) (a? (c2=2)&&a? (2<top s)))
inductive Nk(tr:I)(s:Y D):I->ae->W->D->D->ae->Prop
 |sg {c2:D} {t:ae}:c2∈s->u? t->Nk tr s J (sp c2++t) c2.toNat 0 c2 t
 |dt:Nk tr s J [46,46,46,10,0] 0 0 0 [46,46,46,10,0]
 |en {c2:D}:J' tr s c2->Nk tr s U (sp c2++[0]) c2.toNat 0 c2 [0]
 |re:Nk tr s U (cg++[0]) 4 1 0 [0]
def kB.self(h:small t):kB t U t:=⟨by have:=pre_app (w:=[]) (r:=[]) h Z;rwa [eq]at this,λ_=>Z⟩
def r9(h:dz la t):kB la J t:=⟨h,ao⟩
def Jn{x:Ctx}(a:c2∈s)(h:x∈z! c2):x∈cx s:=h? _ (AC.mpr ⟨_,eO.mpr ⟨c2,a,Z⟩,h⟩)
def DZ{M:Prop}(h:yc 2097156 a)(f:a=32->M)(g:a=10->M):M:=by(have e:yc 2097156 a=br (ac 32 a) U (br (ac 10 a) U J):=by kernel_rfl);rw[e]at h;exact nG h (λh _=>f (aK h).symm) λ_ h=>cp h λh _=>g (aK h).symm
def afW(a:c2∈s)(h:u? t):YK s c2 t:=by
 have G:dz [2097154,anyS] t->∃la e,(c2,la,e)∈gx s/\kB la e t:=λh=>⟨_,_,h? _ (eO.mpr ⟨c2,a,Z⟩),r9 h⟩
 have g:dz [2097154,2097155,anyS,anyS] t->∃la e,(c2,la,e)∈cx s/\kB la e t:=λh=>by
  cases q:a? (c2=0)with
  |true=> have q:=aO q;rw[q]at a ⊢;exact⟨_,_,Jn a gY,r9 h⟩
  |false=>
   refine⟨_,_,Jn a (x:=(c2,[2097154,anyS,anyS],J)) ?_,r9 ?_⟩
   ·unfold z!
    rw[q];exact .head _
   ·exact Gr h λb r e h=>cp h λj h=>Gr h λm m m h=>cp h λ_ h=>Gr h λo o o h=>by rw[e,m,o];exact bK j (bK xD (bK xD Z))
 refine h.elim (λh=>?_) λh=>?_
 ·obtain⟨x,e,f⟩:=h
  refine f.elim (λf=>?_) λf=>?_
  ·rw[f]at e
   rw[e]at G ⊢;refine⟨?_,G Z⟩;cases q:a? (c2=0)with
   |true=> have q:=aO q;rw[q]at a ⊢;exact⟨_,_,Jn a aaz,kB.self Z⟩
   |false=> refine⟨_,_,Jn a (x:=(c2,[2097154,anyS,anyS],J)) ?_,r9 Z⟩;unfold z!;rw[q];exact .head _
  ·obtain⟨p,b,c,r,q,i⟩:=f
   rw[e,q]at G g ⊢;exact⟨g (DZ i (λh=>by rw[h];rfl) λh=>by rw[h];rfl),G Z⟩
 ·obtain⟨x,e,p,b,r,q,i⟩:=h
  rw[e,q]at G g ⊢;exact⟨g Z,G Z⟩
def D0{M:Prop}(h:J' tr s c2)(a:c2=0->M)(f:c2=1->a? (s.length=1)->a? (1<top s)->M)(g:c2=2->a? (s.length=1)->a? (2<top s)->M):M:=by refine nG h (λh _=>a (aO h)) λ_ h=>ag h λh k=>ag h λ_ h=>nG k (λk a=>f (aO k) h a) λ_ k=>ag k λk a=>g (aO k) h a
def afX(h:J' tr s c2):YK s c2 [0]:=by have M:∀{x},x∈z? s->x∈cx s:=λh=>db _ h;(have g:∀{A:Ctx},a? _->A∈br _ [_] []++br _ [_] []->A∈cx s/\A∈gx s:=λ{A}l h=>by refine⟨M ?_,db _ ?_⟩;unfold z?;rw[l];exact .tail _ (.tail _ (.tail _ h));rw[l];exact .tail _ (.tail _ h));have a:kB [0] U [0]:=⟨Z,λ_=>Z⟩;refine D0 h (λq=>?_) (λq l k=>?_) λq l k=>?_;rw[q];exact⟨⟨_,_,M aaA,a⟩,_,_,db _ aaz,a⟩;rw[q];have f:=g l (h? _ (by rw[k];exact .head _));exact⟨⟨_,_,f.1,a⟩,_,_,f.2,a⟩;rw[q];have f:=g l (db _ (by rw[k];exact .head _));exact⟨⟨_,_,f.1,a⟩,_,_,f.2,a⟩
def u?.ne(h:u? t):t≠[]:=h.elim (λh=>by obtain⟨x,e,_⟩:=h;rw[e];exact bN _ _) λh=>by obtain⟨x,e,_⟩:=h;rw[e];exact bN _ _
def Nk.nx{y:ae}(f:Nk tr s e y n d c2 t):P' s e y n d c2 t:=by induction f with|sg g a=>exact .nx (afW g a) a.ne|dt=>exact .nx ⟨⟨_,_,db _ gY,kB.self Z⟩,⟨_,_,db _ gY,r9 Z⟩⟩ (bN _ _)|en h=>exact .nx (afX h) (bN _ _)|re=>exact .re
def Nk.two{y:ae}(i:Nk tr s e y n d c2 t):y=[0]∨∃a b r,y=a::b::r:=by
 have S:∀{t:ae}{c:D},t≠[]->sp c++t=[0]∨(∃a b r,sp c++t=a::b::r)∨t=sp c++t:=λ{t c}h=>by
  unfold sp;cases c.toNat with
  |zero=>exact .inr (.inr Z)
  |succ n=>
   refine .inr (.inl ?_)
   induction n with
   |zero=>induction t with
    |nil=>exact ch Z h
    |cons a t _=>exact⟨_,_,_,Z⟩
   |succ n _=>exact⟨_,_,_,Z⟩
 have j:∀{t:ae},u? t->∃a b r,t=a::b::r:=λ{t}h=>h.elim (λh=>by
  obtain⟨x,e,f⟩:=h;rw[e];refine f.elim (λf=>?_) λf=>?_
  ·rw[f];exact⟨_,_,_,Z⟩
  ·obtain⟨a,b,c,r,q,_⟩:=f
   rw[q];exact⟨_,_,_,Z⟩) λh=>by obtain⟨x,e,_⟩:=h;rw[e];exact⟨_,_,_,Z⟩
 induction i with
 |sg m g=>exact(S g.ne).elim .inl λz=>z.elim .inr λz=>z▸.inr (j g)
 |dt=>exact .inr ⟨_,_,_,Z⟩
 |en h=>exact(S (bN _ _)).elim .inl λz=>z.elim .inr λz=>z▸.inl Z
 |re=>exact .inr ⟨_,_,_,Z⟩
def Nk.ne{y:ae}(a:Nk tr s e y n d c2 t):y≠[]:=a.two.elim (λh=>by rw[h];exact bN _ _) λh=>by obtain⟨_,_,_,h⟩:=h;rw[h];exact bN _ _
end
def nX(v h:I)(s:Y D):aC:=br v (nV h s) (nD h s)
def wX(v:I):D:=br v 2 1
def gT(c:D)(g:W):ae:=br (ac g 0) [32] (10::sp (c+g))
def gC(v:I)(c:D)(g:W):D:=br (ac g 0) (c+wX v+1) (c+g)
def G?(v:I)(g:W):I:=br v (bd 1 g) U
def y!(e m:I)(T:af):af:=br e (br m (MARK::T) (T++[MARK])) T
def qh(p:aw)(x:ae)(c:D):aw:=(p.1+(ak x:W),p.2.1+iC x,c)
def Wa(v:I)(s:Y D)(g:W)(p:aw):aw:=qh p (gT (top s) g) (gC v (top s) g)
def E1(v:I)(s:Y D)(g:W)(l:Lf)(e:I)(p a:aw):af:=y! e (mL (G? v g) l) ((i8 s l (Wa v s g p)).map aM)
def V'(e:I)(a b:aw):af:=br e [MARK] []
def stP(a:Y D):I:=a? (0<=top a)
def ĕ(l:Lf):I:=jp l.f 10
section
variable{k n K g:W}{e h q m z v tr:I}{t w x y r la X:ae}{L:af}{p P:aw}{c d cb c2:D}{s:Y D}{b:aC}{l:Lf}
def Wb:aH stP jG=U:=by kernel_rfl
def Wd:aH ĕ Lw=U:=by kernel_rfl
def kj(a:s∈jG):0<=top s:=aO (ai Wb a)
def D3(h:ĕ l):∃a r,dv c l=a::r/\yc 2097157 a:=by obtain⟨f,e,i,z⟩:=l;revert h;induction f using VV<;>first|exact λ_=>⟨_,_,Z,Z⟩|exact ao
structure gQ(tr v:I)(s:Y D)(K:W)(x:ae)(tk:I->aw->aw->af):Prop where
 go:∀{e:I}{y:ae}{n:W}{d c2:D}{t:ae}{k:W}{L:af}{p:aw},Nk tr s e y n d c2 t->p.2.2=top s+wX v->DX e k c2 (mO c2 s) t (fh p x n d c2) L->∀cb,Go (k+K) J J (nX v J s) J ⟨x++y,p.1,p.2.1,cb⟩ (tk e p (fh p x n d c2)++(DY c2 s (fh p x n d c2)++L))
 L5:∃a r,x=a::r/\yc 2097156 a/\(r≠[]∨a=10)
def gQ.fd{A:I->aw->aw->af}(E:gQ tr v s K x A)(j:y=[0]∨∃i b r,y=i::b::r):GN (x++y):=by(obtain⟨i,r,q,a,h⟩:=E.L5;rw[q];have o:∃b f,y=b::f:=j.elim (λh=>⟨_,_,h⟩) λh=>by obtain⟨_,_,_,h⟩:=h;exact⟨_,_,h⟩);refine h.elim (λh=>?_) λB=>?_;(cases r with|nil=>exact ch Z h|cons b r=>obtain⟨F,f,e⟩:=o;rw[e];generalize r=u;cases u with|nil=>exact .inr ⟨_,_,_,_,Z,a⟩|cons _ r=>exact .inr ⟨_,_,_,_,Z,a⟩);generalize r=u;cases u with|nil=>refine j.elim (λe=>.inl (by rw[e,B];rfl)) λe=>by obtain⟨_,_,_,e⟩:=e;rw[e];exact .inr ⟨_,_,_,_,Z,a⟩|cons b r=>obtain⟨F,f,e⟩:=o;rw[e];cases r with|nil=>exact .inr ⟨_,_,_,_,Z,a⟩|cons _ r=>exact .inr ⟨_,_,_,_,Z,a⟩
def gQ.fv{f:I->aw->aw->af}(E:gQ tr v s K x f)(i:y≠[]):GO (x++y):=by
 obtain⟨f,r,q,a,h⟩:=E.L5;rw[q];generalize r=u;cases u with
 |cons b r=>exact⟨_,_,_,Z,a⟩
 |nil=>cases y with
  |nil=>exact ch Z i
  |cons b y=>exact⟨_,_,_,Z,a⟩
def Bg(a:s∈jG)(v:I):(∀g∈[[32],[10]++sp (top s+1),[10]++sp (top s+2)],N0 v s g 2097157=U)/\(∀x∈gx s,YH v s x=U)/\Þ v s:=ag (ai (ai VX a) (by cases v;exact .head _;exact .tail _ gY)) λA c=>ag A λa b=>⟨λg h=>ai a h,λx h=>ai b h,c⟩
structure Š(v:I)(c:D)(g:W):Prop where
 a:br (ac (ak (gT c g)) 1) (c+wX v+1) (A6 (gT c g)-1)=gC v c g
 b:br v (bd 2 (ak (gT c g))) U=G? v g
 i:gT c g∈[[32],[10]++sp (c+1),[10]++sp (c+2)]
 s:small (gT c g)=U
def ah9(a:0<=c)(j:g=0∨g=1∨g=2):Š v c g:=by(have F:∀{n:W},n=1∨n=2->_∈[[32],[10]++sp _,[10]++sp _]->Š v c n:=λ{n}f A=>by(have z:ac n 0=J:=f.elim (λh=>by rw[h];rfl) λh=>by rw[h];rfl);(have o:bd 1 n:=f.elim (λh=>by rw[h];rfl) λh=>by rw[h];rfl);(have E:gT c n=10::sp (c+n):=by unfold gT;rw[z];rfl);(have l:ak (gT c n)=(c+n).toNat+1:=by rw[E];exact ah pp mQ);have B:=cw o;have f:=yL (qW a (eM n));have i:=jw.mp (f.symm▸gP (jw.mpr B) (gg a));refine⟨?_,?_,by rw[E];exact A,by rw[E];exact gy⟩;unfold gC A6;rw[l,z,show ac _ 1=J from d8.mpr λq=>ch (Nat.succ.inj (aK q)) (ed i),fP,f];exact wS _ _;rw[l,show bd 2 _ from hH (eN i)];unfold G?;rw[o]);refine j.elim (λh=>?_) λh=>h.elim (λh=>?_) λh=>?_;rw[h];exact⟨Z,by generalize v=u;cases u<;>rfl,.head _,Z⟩;rw[h];exact F (.inl Z) aaz;rw[h];exact F (.inr Z) aaA
def Jo:fh (qh p x c) X n d c2=fh p (x++X) n d c2:=by refine eq3 ?_ ?_ Z;show p.1+_+_=_;rw[d! (fP _ _).symm,len_app,fK];show p.2.1+iC x+_=p.2.1+(((mR _))+d);rw[bA,ej,<-ej (iC x)];rfl
def YP{dc:D}(H:aZ [⟨0,a,zA (ak x) (iC x) J 0 U dc,[]⟩] J J f w e J)(i:cC w e ⟨x++y,p.1,p.2.1,cb⟩)(S:Go k U J a J ⟨y,(qh p x c).1,(qh p x c).2.1,0+dc⟩ L):Go (k+1) J J f J ⟨x++y,p.1,p.2.1,cb⟩ L:=fW H i Z Z Z Z Z (aA _) gu Z Z S
def abZ(a:s∈jG)(i:l∈Lw)(j:g=0∨g=1∨g=2):gQ tr v s 19 (gT (top s) g++r8 (top s) l) (E1 v s g l):=by
 have F:=ah9 (v:=v) (kj a) j;obtain⟨B,r,E,f⟩:=D3 (ai Wd i);refine⟨λ{e y n d c2 t k L p}o B A cb=>?_,?_⟩
 ·have B:E_ (top s+wX v) (br v (bd 2 (ak (gT (top s) g))) U) (gT (top s) g) s=⟨0,nL J (G? v g) C s,zA (ak (gT (top s) g)) (iC (gT (top s) g)) J 0 U (gC v (top s) g-(top s+1)),[]⟩:=by rw[F.b,<-F.a];rfl
  have H:aZ [E_ (top s+wX v) _ _ s] J J _ _ J J:=show N0 v s _ 2097157 from(Bg a v).1 _ F.i;rw[B]at H
  have M:cC (gT _ g++[2097157,anyS]) J ⟨gT _ g++(r8 (top s) l++y),p.1,p.2.1,cb⟩:=mP (pre_app F.s (by
   show dz _ (dv _ l++jF l++y)=U;rw[E];have Q:=o.ne;generalize r=u;cases u with
   |cons b r=>exact bK f (bK xD Z)
   |nil=>cases jF l with
    |cons b r=>exact bK f (bK xD Z)
    |nil=>cases y with
     |nil=>exact ch Z Q
     |cons b r=>exact bK f (bK xD Z)))
  have G:=(Qq (p:=Wa v s g p) (cb:=0+_) a i (G? v g) (by
   show gC v _ g=_;rw[iQ,qt])).go o.nx (by
   rw[show fh (Wa v s g p) _ n d c2=_ from Jo];exact A)
  rw[show fh (Wa v s g p) _ n d c2=_ from Jo]at G;rw[am];have K:∀{a},Go (k+18) U J _ J ⟨r8 _ l++y,(Wa v s g p).1,(Wa v s g p).2.1,0+_⟩ a->Go _ J J _ J ⟨gT _ g++_,p.1,p.2.1,cb⟩ a:=λ{a}G=>YP H M G;unfold E1 y!;cases e with
  |false=>exact K G
  |true=>
   cases a:mL _ l with
   |true=>rw[a]at G;exact K (iZ.go G)
   |false=> rw[a]at G;show Go _ _ _ _ _ _ (((i8 s l _).map aM++[MARK])++_);rw[am];exact K G
 ·refine j.elim (λh=>?_) λh=>h.elim (λh=>?_) λh=>?_
  ·rw[h];exact⟨32,_,Z,Z,.inl (by unfold r8;rw[E];exact bN _ _)⟩
  ·rw[h];exact⟨10,_,Z,Z,.inr Z⟩
  ·rw[h];exact⟨10,_,Z,Z,.inr Z⟩
def ab0(j:s∈jG):gQ tr v s 19 [10] V':=by have i:=Bg j v;refine⟨λ{e y n d c2 t k L p}a j A cb=>?_,⟨10,_,Z,Z,.inr Z⟩⟩;have a:=a.nx;cases a with|nx o u=>(obtain⟨la,a,m,j⟩:=o.g;have H:=show YH v s _ from i.2 _ m;have f:cC ([10]++sp c2++la) a ⟨_++t,p.1,p.2.1,cb⟩:=kB.yr (j.app gy);(have P:tV p ([10]++sp c2) c2=fh p [10] c2.toNat 0 c2:=by rw[Ql];show(_,p.2.1+iC _,_)=_;rw[Bc]);cases e with|false=> have a:=(xE H f (by rw[P];exact A)).le (k':=k+19) (d9 (aO Z) k);rw[P]at a;exact a|true=> have a:=((pb H f (by rw[P];exact A)).go).le (k':=k+19) (d9 (aO Z) k);rw[P]at a;exact a)|re=> have H:=show Þ v s from i.3;have f:cC ([10]++cg++[0]) U ⟨_++[0],p.1,p.2.1,cb⟩:=kB.yr (kB.self Z);have P:tV p ([10]++cg) 0=fh p [10] 4 1 0:=Z;have a:=((pb H f (by rw[P];exact A)).go).le (k':=k+19) (d9 (aO Z) k);rw[P]at a;exact a
end
structure gR where
 x:ae
 tk:I->aw->aw->af
 ev:aw->aw->af
def sgn(v:I):ae:=br v [107,58] [45]
def Qr(v:I)(c:D)(a:Y D)(p:aw):af:=(br v (J_ c a p) (Dt c a p)).map aM
def qL(v:I)(p:aw):aw:=aW p (br v 2 1) 0 (p.2.2+wX v)
def Qs(v:I)(c:D)(a:Y gR):ae:=bm [] (λE _ b=>sp c++(sgn v++(E.x++b))) a
def dX(v:I)(c:D)(E:gR)(a:Y gR):ae:=sgn v++(E.x++Qs v c a)
def uX(v:I)(c:D)(E:gR)(a:Y gR)(p b:aw):aw:=br a.isEmpty b (fh (qL v p) E.x c.toNat 0 c)
def YQ(e v:I)(c:D)(s:Y D)(a:Y gR):aw->aw->af:=bm (motive:=λ_=>aw->aw->af) (λ_ _=>[]) (λE a d p b=>Qr v c s p++(E.tk (br a.isEmpty e J) (qL v p) (uX v c E a p b)++d (uX v c E a p b) b)) a
def D4(e v:I)(c:D)(d s:Y D)(E:gR)(a:Y gR)(p b:aw):af:=Qr v c d p++(E.tk (br a.isEmpty e J) (qL v p) (uX v c E a p b)++YQ e v c s a (uX v c E a p b) b)
section
variable{k n K:W}{e h q m v tr:I}{t x y r X:ae}{L:af}{p P:aw}{c d cb c2:D}{st s:Y D}{b:aC}{E:gR}{Es:Y gR}
def We(f:p.2.2=c)(a:top s=c):(qL v p).2.2=top s+wX v:=by rw[a,<-f];rfl
def Jp(a:x2=sgn v++x):fh (qL v p) x n d c2=fh p x2 n d c2:=by rw[a];refine eq3 ?_ ?_ Z;(show p.1+_+_=p.1+_;rw[d! (fP _ _).symm,len_app,fK];cases v<;>rfl);show p.2.1+0+(((mR x))+d)=p.2.1+(((mR _))+d);rw[aA,bA,show mR (sgn v)=0 by generalize v=u;cases u<;>rfl,hM]
def YR:fh (fh p x c.toNat 0 c) X n d c2=fh p (x++(sp c++X)) n d c2:=by refine eq3 ?_ ?_ Z;show p.1+_+_=_;rw[d! (fP _ _).symm,len_app,len_app,mQ,fK,fK,fK];show p.2.1+_+_=p.2.1+(((mR _))+d);rw[aA,bA,bA,kh,hM,ej,<-ej (iC x)];rfl
def Qt(a:top s=c)(f:s≠[]):cJ c s=0:=by induction s with|nil=>exact ch Z f|cons g s _=> have a:g=c:=a;rw[a];show br _ _ 0=0;rw[show a? _=J from dQ (FM c)];rfl
def aia(h:cJ c s=0):DY c s P=[]:=by unfold DY;rw[h];rfl
def ã(h:cJ c s=0):mO c s=s:=by unfold mO;rw[h];rfl
def â{h:I}(F:Lv h c st)(f:v=J->GN t)(g:v->GO t)(a:p.2.2=c)(S:∀cb,Go k J J (nX v J (stI c st)) J ⟨t,(qL v p).1,(qL v p).2.1,cb⟩ L):At (k+5) U (nR h C c st) h (sgn v++t) p (Qr v c st p++L):=ag F λi j=>by induction v with|false=>exact λcb=>(ah2 i (f Z) a S cb).le (d9 (aO Z) k)|true=>exact ah3 j (g Z) a S
def Wf(h:∃a b r,t=a::b::r):∃a b r,x++t=a::b::r:=by
 obtain⟨a,b,r,h⟩:=h;rw[h]
 induction x with
 |nil=>exact⟨_,_,_,Z⟩
 |cons c x=>induction x with
  |nil=>exact⟨_,_,_,Z⟩
  |cons d x _=>exact⟨_,_,_,Z⟩
def Qu(f:gQ tr v s K E.x E.tk):∃a b r,sgn v++(E.x++t)=a::b::r:=by obtain⟨a,r,q,_⟩:=f.L5;rw[q];induction v with|true=>exact⟨_,_,_,Z⟩|false=>exact⟨_,_,_,Z⟩
def ab3(g:∀E∈Es,gQ tr v s K E.x E.tk){y:ae}(f:y=[0]∨∃a b r,y=a::b::r):Qs v c Es++y=[0]∨∃a b r,Qs v c Es++y=a::b::r:=by induction Es with|nil=>exact f|cons E Es _=> refine .inr ?_;show∃a b r,(sp c++_)++y=a::b::r;rw[am,am,am];exact Wf (Qu (g E gY))
def Jq(a:gQ tr v s K E.x E.tk)(i:∀E∈Es,gQ tr v s K E.x E.tk){y:ae}(j:y=[0]∨∃g b r,y=g::b::r):u? (dX v c E Es++y):=by have f:=ab3 (c:=c) i j;(have X:dX v c E Es++y=sgn v++(E.x++(Qs v c Es++y)):=by show(sgn v++_)++y=_;rw[am,am]);rw[X];induction v with|false=>exact .inl ⟨_,Z,a.fd f⟩|true=>exact .inr ⟨_,Z,a.fv (f.elim (λh=>by rw[h];exact bN _ _) λh=>by obtain⟨_,_,_,h⟩:=h;rw[h];exact bN _ _)⟩
def ab4(a:top s=c):stI c s=s:=by unfold stI;rw[a,show a? _=J from dQ (FM c)];rfl
def ab5(f:top s=c)(a:s≠[]):c∈s:=by induction s with|nil=>exact ch Z a|cons g s _=>exact(f)▸.head _
def Jr(f:top s=c)(u:s≠[])(F:∀h,Lv h c s){y:ae}(j:Nk tr s e y n d c2 t):∀(Es:Y gR){E:gR}{p:aw}{k:W}{L:af},gQ tr v s K E.x E.tk->(∀E∈Es,gQ tr v s K E.x E.tk)->p.2.2=c->DX e k c2 (mO c2 s) t (fh p (dX v c E Es) n d c2) L->
  (∃g c3 i l,Nk tr s (br Es.isEmpty e J) (Qs v c Es++y) l g c3 i)/\∀cb,Go (k+(K+5)*Es.length+K) J J (nX v J s) J ⟨E.x++(Qs v c Es++y),(qL v p).1,(qL v p).2.1,cb⟩ (E.tk (br Es.isEmpty e J) (qL v p) (uX v c E Es p (fh p (dX v c E Es) n d c2))++(YQ e v c s Es (uX v c E Es p (fh p (dX v c E Es) n d c2)) (fh p (dX v c E Es) n d c2)++(DY c2 s (fh p (dX v c E Es) n d c2)++L))):=by
 intro Es
 induction Es with
 |nil=> intro E p k L l _ o A;have Q:=Jp (p:=p) (x:=E.x++[]) (n:=n) (d:=d) (c2:=c2) (x2:=dX v c E []) Z;rw[eq]at Q;have S:=λcb=>l.go j (We o f) (by rw[Q];exact A) cb;rw[Q]at S;exact⟨⟨_,_,_,_,j⟩,S⟩
 |cons a Es z=>
  intro E p k L l i o A
  have Q:fh (fh (qL v p) E.x c.toNat 0 c) (dX v c a Es) n d c2=fh p (dX v c E (a::Es)) n d c2:=by rw[YR];exact Jp Z
  have g:=i _ gY;have w:=λE m=>i E (.tail _ m);have i:=z g w Z (by rw[Q];exact A);rw[Q]at i;have z:=Qt f u
  have B:dX v c a Es++y=sgn v++(a.x++(Qs v c Es++y)):=by show(sgn v++_)++y=_;rw[am,am]
  have X:Qs v c (a::Es)++y=sp c++(dX v c a Es++y):=by show(sp c++dX v c a Es)++y=_;rw[am]
  have A:Nk tr s J (sp c++(dX v c a Es++y)) c.toNat 0 c _:=.sg (ab5 f u) (Jq g w j.two);rw[X];obtain⟨⟨_,_,_,_,j⟩,i⟩:=i
  have u:Arr (k+(K+5)*(Es.length+1)) c s (dX v c a Es++y) _ _:=λh cb=>by rw[B];refine(â (F h) (λ_=>g.fd j.two) (λ_=>g.fv j.ne) Z (by rw[ab4 f];exact i) cb).le ?_;show _<=k+(_*Es.length+_);rw[<-fK];exact aU _
  have S:=λcb=>l.go A (We o f) (by rw[ã z];exact u) cb;rw[aia z]at S;refine⟨⟨_,_,_,_,A⟩,λcb=>?_⟩;have T:=S cb;show Go _ _ _ _ _ _ (_++((Qr v c s _++_)++_));rw[am,am];exact T
def Js(i:top s=c)(j:s≠[])(F:∀h,Lv h c s){y:ae}(l:Nk tr s e y n d c2 t)(Es:Y gR){E:gR}{st:Y D}{p:aw}{k:W}{L:af}(a:gQ tr v s K E.x E.tk)(o:∀E∈Es,gQ tr v s K E.x E.tk)(w:stI c st=s)(u:∀h,Lv h c st)(f:p.2.2=c)(A:DX e k c2 (mO c2 s) t (fh p (dX v c E Es) n d c2) L):
  Arr (k+(K+5)*(1+Es.length)) c st (dX v c E Es++y) p (D4 e v c st s E Es p (fh p (dX v c E Es) n d c2)++(DY c2 s (fh p (dX v c E Es) n d c2)++L)):=λh cb=>by
 obtain⟨⟨_,_,_,_,g⟩,z⟩:=Jr i j F l Es a o f A
 have i:dX v c E Es++y=sgn v++(E.x++(Qs v c Es++y)):=by show(sgn v++_)++y=_;rw[am,am]
 rw[i];unfold D4;rw[am,am];refine(â (u h) (λ_=>a.fd g.two) (λ_=>a.fv g.ne) f (by rw[w];exact z) cb).le ?_;rw[hO 1];show _<=k+(_*Es.length+_);rw[<-fK];exact aU _
end
section
variable{k n K:W}{e h Q q m z v an:I}{t w x y r:ae}{L:af}{p P:aw}{c d cb c2:D}{st s:Y D}{b:D}{E:gR}{Es:Y gR}
def Qv(h:u? t):dz [2097154,anyS] t:=h.elim (λh=>by obtain⟨x,e,f⟩:=h;rw[e];exact f.elim (λf=>by rw[f];rfl) λf=>by obtain⟨_,_,_,_,q,_⟩:=f;rw[q];rfl) λh=>by obtain⟨x,e,_⟩:=h;rw[e];rfl
def Qw(H:VW Q b st)(a:p.2.2=cb+(top st+1))(g:cJ b st=0)(f:dz [2097154,anyS] t)(S:Arr k b st t (qh p ([38,122,10]++sp b) b) L):Go (k+3) U J (nL J Q C st) J ⟨[38,122,10]++(sp b++t),p.1,p.2.1,cb⟩ (aM ⟨14,p,aW p 2 0 (p.2.2+2)⟩::L):=by have i:qf ⟨[38,122,10]++(sp b++t),p.1,p.2.1,cb⟩ (on st 0)=p:=(Mb a 0).trans (eq3 (aA _) Z (aA _));have j:qf ⟨[38,122,10]++(sp b++t),p.1,p.2.1,cb⟩ (on st 2)=aW p 2 0 (p.2.2+2):=(Mb a 2).trans (eq3 Z (aA _).symm Z);have l:cC ([38,122,10]++sp b++[2097154,anyS]) J ⟨[38,122,10]++(sp b++t),p.1,p.2.1,cb⟩:=mP (by rw[am];exact pre_app Z (pre_app gy f));(have o:([38,122,10]++(sp b++t)).drop (2+(ak ([10]++sp b)+0))=t:=by rw[hO 2];exact gu);have A:=ã g;(have P:∀a,aW p (2+(ak ([10]++sp b)+0)) (0+(iC ([10]++sp b)+0)) a=(p.1+(ak ([38,122,10]++sp b)),p.2.1+iC ([38,122,10]++sp b),a):=λa=>by refine eq3 ?_ ?_ Z;rw[hO 2];rfl;rw[iQ];rfl);(have T:∀f,BJ [gap f ([10]++sp b) b st]=λ_=>[]:=λf=>by show(λR=>(Ls (cJ b st) _).map (YF R)++[])=_;rw[g];rfl);(have u:∀f a,Go k U J (nR f C b (mO b st)) f ⟨t,(aW p (2+(ak ([10]++sp b)+0)) (0+(iC ([10]++sp b)+0)) b).1,(aW p (2+(ak ([10]++sp b)+0)) (0+(iC ([10]++sp b)+0)) b).2.1,a⟩ L:=λf a=>by rw[A,P];exact S f a);induction Q with|true=>refine(fW (T:=[⟨14,p,aW p 2 0 (p.2.2+2)⟩]) H l Z Z Z ?_ Z Z o Z ?_ (u U _)).le (iI _);show br U U (nz (cJ b st))=U;rfl;show Tk.mk 14 (qf _ (on st 0)) (qf _ (on st 2))::BJ [gap U ([10]++sp b) b st] _=_;rw[T,i,j]|false=>(have a:nR (br J U (nz (cJ b st))) C b (mO b st)=nR J C b (mO b st):=by rw[g];rfl);refine fW (T:=[⟨14,p,aW p 2 0 (p.2.2+2)⟩]) H l Z Z a ?_ Z Z o Z ?_ (u J _);show br J U (!ac (cJ b st) 0)=J;rw[g];rfl;show Tk.mk 14 (qf _ (on st 0)) (qf _ (on st 2))::BJ [gap J ([10]++sp b) b st] _=_;rw[T,i,j]
structure Mc where
 w:W
 an:I
 v:I
 E:gR
 Es:Y gR
def pd(r:D)(w:W):D:=br (ac w 0) (r+2) (br (ac w 3) r (r+w))
def Qx(r:D)(w:W)(an:I):ae:=br (ac w 0) [32] (br an ([32,38,122,10]++sp (pd r w)) (10::sp (pd r w)))
def GY(r:D)(w:W):Y D:=br (ac w 3) [r] [pd r w,r]
def x_(r:D)(S:Mc):ae:=Qx r S.w S.an++dX S.v (pd r S.w) S.E S.Es
def D5(p:aw):aw:=qh p [32] (p.2.2+1)
def BK(r:D)(S:Mc)(p:aw):aw:=qh p (Qx r S.w S.an) (pd r S.w)
def D'(r:D)(S:Mc)(e:I)(p P:aw):af:=br S.an [aM ⟨14,D5 p,aW (D5 p) 2 0 ((D5 p).2.2+2)⟩] []++(D4 e S.v (pd r S.w) [r] (GY r S.w) S.E S.Es (BK r S p) P++br (ac S.w 3) [] [aM ⟨4,P,P⟩])
def uE(v:I)(w:W)(an:I):I:=br (ac w 0) (!v&&!an) (br (ac w 3) v (br (ac w 1) U (ac w 2)))
structure InS(r b:D)(s:Y D):Prop where
 m:s∈jG
 t:top s=b
 i:stI b [r]=s
 f:∀h,Lv h b [r]=U
 g:∀h,Lv h b s=U
def rS:Y D:=[0,1,2]
def t5(a:s∈jG)(h:I):Lv h (top s) s:=ag (ai DO.P6 a) λf c=>by induction h with|true=>exact f|false=>exact c
def Qy{r b:D}(a:r∈rS)(f:b=1∨b=2)(h:I):Lv h (r+b) [r]:=by have g:=ag (DO.xC) λ_ i=>i;exact ai (ai (ai g a) (f.elim (λh=>h▸.head _) λh=>h▸.tail _ gY)) (jB h)
def xG{r:D}{M:D->Prop}(h:r∈rS)(a:M 0)(f:M 1)(g:M 2):M r:=by
 cases h with
 |head=>exact a
 |tail _ h=>cases h with
  |head=>exact f
  |tail _ h=>cases h with
   |head=>exact g
   |tail _ h=>exact nomatch h
def qM{r:D}(h:r∈rS):[r]∈jG/\([r+1,r]∈jG/\[r+2,r]∈jG):=xG (M:=λr=>[r]∈jG/\([r+1,r]∈jG/\[r+2,r]∈jG)) h (aO Z) (aO Z) (aO Z)
def Wg{r:D}(a:r∈rS){w:W}(i:w=0∨w=1∨w=2∨w=3):InS r (pd r w) (GY r w):=by obtain⟨m0,m1,m2⟩:=qM a;(have f:∀{b:D},0<b->stI _ [r]=[r+b,r]:=λ{b}h=>by show br (a? (r<r+b)) _ _=_;rw[cF (o0 r h)];rfl);have g:InS r _ [r+2,r]:=⟨m2,Z,f (aO Z),Qy a (.inr Z),t5 m2⟩;refine i.elim (λh=>?_) λh=>h.elim (λh=>?_) λh=>h.elim (λh=>?_) λh=>?_;rw[h];exact g;rw[h];exact⟨m1,Z,f (aO Z),Qy a (.inl Z),t5 m1⟩;rw[h];exact g;rw[h];refine⟨m0,Z,?_,t5 m0,t5 m0⟩;show br (a? (r<r)) _ _=_;rw[dQ (FM r)];rfl
def Bh{r:D}(f:r∈rS):ı [r]/\(∀v,∀b,b=1∨b=2->YH v [r] (r+b,[2097154,anyS],J)/\VW (!v) (r+b) [r]=U)/\VW J r [r]:=by have a:=xG (M:=λr=>ũ [r]=U) f (ai DO.A9 gY) (ai DO.A9 aaz) (ai DO.A9 aaA);refine ag (a) λa c=>ag a λf a=>⟨f,λv b g=>?_,c⟩;exact ag (ai (ai a (jB v)) (g.elim (λh=>h▸.head _) λh=>h▸.tail _ gY)) λf b=>⟨f,b⟩
def YS{w:ae}(H:aZ [gap J x b st] J J B w e J)(g:cC w e ⟨x++t,p.1,p.2.1,cb⟩)(a:cJ b st=0)(S:Arr k b st t (qh p x b) L):Go (k+1) J J B J ⟨x++t,p.1,p.2.1,cb⟩ L:=by have f:=xE H g (by rw[ã a];exact S);rw[a]at f;exact f
def Wh(h:c<=b):cJ b [c]=0:=by show br _ _ 0=0;rw[dQ (qZ.mpr h)];rfl
def Nk.le{y:ae}{r:D}(a:0<=r)(f:Nk J [r] e y n d c2 t):c2<=r:=by induction f with|sg h _=>exact(eC.mp h)▸pL _|dt=>exact a|en h=> refine nG h (λh _=>?_) λ_ h=>ao h;rw[aO h];exact a|re=>exact a
def Nk.sub{y:ae}(g:∀c∈s,c∈a)(f:Nk J s e y n d c2 t):Nk J a e y n d c2 t:=by induction f with|sg h i=>exact .sg (g _ h) i|dt=>exact .dt|en h=>exact .en h|re=>exact .re
def GZ{w:W}(a:uE v w an):w=0∨w=1∨w=2∨w=3:=nG a (λh _=>.inl (aK h)) λ_ h=>.inr (nG h (λh _=>.inr (.inr (aK h))) λ_ h=>nG h (λh _=>.inl (aK h)) λ_ h=>.inr (.inl (aK h)))
def wC{w:W}{M:W->Prop}(a:w=0∨w=1∨w=2∨w=3)(f:M 0)(g:M 1)(i:M 2)(j:M 3):M w:=a.elim (λh=>h▸f) λh=>h.elim (λh=>h▸g) λh=>h.elim (λh=>h▸i) λh=>h▸j
section
variable{r:D}{w o:W}{Y:ae}{A:af}
def afZ(a:w=0∨w=1∨w=2∨w=3):r<=pd r w:=wC (M:=λw=>r<=pd r w) a (uj (aO Z)) (uj (aO Z)) (uj (aO Z)) (pL _)
def af0(a:w=0∨w=1∨w=2∨w=3):ac w 3=J->r<pd r w:=wC (M:=λw=>ac w 3=J->r<pd r w) a (λ_=>o0 r (aO Z)) (λ_=>o0 r (aO Z)) (λ_=>o0 r (aO Z)) λh=>ao h.symm
def ab6:∀c∈[r],c∈GY r w:=λc h=>by rw[eC.mp h];unfold GY;induction ac w 3 with|true=>exact .head _|false=>exact .tail _ gY
def af1(f:w=0∨w=1∨w=2∨w=3)(h:c2<=r):mO c2 (GY r w)=mO c2 [r]/\∀P,DY c2 (GY r w) P=br (ac w 3) [] [aM ⟨4,P,P⟩]++DY c2 [r] P:=by have a:=af0 (r:=r) f;unfold GY;revert a;induction ac w 3 with|true=>exact λ_=>⟨Z,λP=>Z⟩|false=>intro a;(have E:cJ c2 [pd r w,r]=cJ c2 [r]+1:=by show br _ _ _=_;rw[cF (FS h (a Z))];rfl);exact⟨by show[pd r w,r].drop (cJ c2 [pd r w,r])=_;rw[E];rfl,λP=>by show((o9 (cJ c2 [pd r w,r]) P)).map aM=_;rw[E];rfl⟩
def af2(H:YH v [r] (b,[2097154,anyS],J))(a:dz [2097154,anyS] Y)(f:cJ b [r]=0)(R:Arr o b [r] Y (qh p ([10]++sp b) b) A):Go (o+4) J J (nX v J [r]) J ⟨[10]++sp b++Y,p.1,p.2.1,cb⟩ A:=(YS (H) (mP (pre_app (eW Z gy) a)) f R).le (d9 (aO Z) o)
variable(B:r∈rS)
def af3(H:VW (!v) b [r])(i:p.2.2=r+wX v)(g:dz [2097154,anyS] Y)(f:cJ b [r]=0)(R:Arr o b [r] Y (qh p ([32]++([38,122,10]++sp b)) b) A):Go (o+4) J J (nX v J [r]) J ⟨[32]++([38,122,10]++sp b)++Y,p.1,p.2.1,cb⟩ (aM ⟨14,D5 p,aW (D5 p) 2 0 ((D5 p).2.2+2)⟩::A):=by(have j:E_ (r+wX v) (br v (bd 2 (ak [32])) U) [32] [r]=⟨0,nL J (!v) C [r],zA (ak [32]) (iC [32]) J 0 U (r+wX v+1-(r+1)),[]⟩:=by generalize v=u;cases u<;>rfl);have a:aZ [E_ (r+wX v) _ [32] [r]] J J _ _ J J:=show N0 v [r] [32] 2097157 from(Bg (qM B).1 v).1 _ gY;rw[j]at a;rw[am];refine YP (c:=p.2.2+1) a (mP (bK Z (bK Z (bK xD Z)))) ?_;refine(Qw H ?_ f g ?_);show p.2.2+1=0+_+(r+1);rw[i,iQ,qt];(have:qh (qh p [32] (p.2.2+1)) ([38,122,10]++sp b) b=qh p ([32]++([38,122,10]++sp b)) b:=by refine eq3 ?_ ?_ Z;show p.1+_+_=_;rw[d! (fP _ _).symm,len_app (x:=[32])];show p.2.1+0+_=_;rw[aA];rfl);rw[this];exact R
variable(u:uE v w an)
def af4:ac w 0=J->YH v [r] (pd r w,[2097154,anyS],J)/\VW (!v) (pd r w) [r]:=wC (M:=λw=>uE v w an=U->ac w 0=J->YH v [r] (pd r w,[2097154,anyS],J)/\VW (!v) _ [r]=U) (GZ u) (λ_ h=>ao h.symm) (λ_ _=>(Bh B).2 v 1 (.inl Z)) (λ_ _=>(Bh B).2 v 2 (.inr Z)) (λh _=>by rw[show v from h];exact⟨(Bg (qM B).1 U).2 _ (h? _ (eO.mpr ⟨r,.head _,Z⟩)),(Bh B).3⟩) u
def ab7(i:p.2.2=r+wX v)(g:dz [2097154,anyS] Y)(R:Arr o (pd r w) [r] Y (qh p (Qx r w an) (pd r w)) A):Go (o+4) J J (nX v J [r]) J ⟨Qx r w an++Y,p.1,p.2.1,cb⟩ (br an [aM ⟨14,D5 p,aW (D5 p) 2 0 ((D5 p).2.2+2)⟩] []++A):=by have f:cJ _ [r]=0:=Wh (afZ (GZ u));have a:=af4 B u;revert u R a;unfold Qx uE;cases q:ac w 0 with|true=> rw[aK q]at f ⊢;intro u R _;refine ag u λj l=>?_;rw[(im _).mp j,(im _).mp l];exact(YS ((Bh B).1) (mP (bK Z g)) f R).le (d9 (aO Z) o)|false=>induction an with|false=>exact λ_ R a=>af2 (a Z).1 g f R|true=>exact λ_ R a=>af3 B (a Z).2 i g f R
end
def ab8{r:D}{S:Mc}(f:r∈rS)(j:uE v S.w S.an)(g:gQ J S.v (GY r S.w) K S.E.x S.E.tk)(l:∀E∈S.Es,gQ J S.v (GY r S.w) K E.x E.tk):gQ J v [r] ((K+5)*(1+S.Es.length)+4) (x_ r S) (D' r S):=by
 have o:=GZ j;have a:=Wg f o;refine⟨λ{e y n d c2 t k L p}i u A cb=>?_,?_⟩
 ·have B:GY r S.w≠[]:=λz=>by have:=a.m;rw[z]at this;exact ch this (aO Z)
  obtain⟨F,G⟩:=af1 (r:=r) o (i.le (kj (qM f).1));have o:fh (BK r S p) (dX S.v (pd r S.w) S.E S.Es) n d c2=fh p _ n d c2:=Jo;have R:=Js a.t B a.g (i.sub ab6) S.Es g l a.i a.f Z (by rw[o,F];exact A);rw[o,G,am]at R;have a:=ab7 (cb:=cb) f j u (Qv (Jq g l i.two)) R;rw[<-am]at a;unfold D';rw[am,am];exact a
 ·obtain⟨a,a,a,q⟩:=Qu g
  show∃a f,Qx r S.w S.an++(sgn S.v++_)=a::f/\_/\_;unfold Qx
  induction ac S.w 0 with
  |true=>exact⟨32,_,Z,Z,.inl (by rw[q];exact bN _ _)⟩
  |false=>induction S.an with
   |true=>exact⟨32,_,Z,Z,.inl (bN _ _)⟩
   |false=>exact⟨10,_,Z,Z,.inr Z⟩
end
def aib(a:W)(c:D):I:=aZ (G1 a c) J U (nI U) (kb a++sp c++[45,10,0]) U U
def G0:Y (W×D):=[(0,0),(0,1),(0,2),(0,3),(0,4),(1,0),(1,1),(1,2),(2,0),(2,1),(2,2),(3,0),(3,1),(3,2)]
def aic(a:W)(c:D):ae:=br (a? (c=0)&&jp a 2) [2097154,2097155,anyS,anyS] [2097154,anyS,anyS,anyS]
def aid(x:W×D):I:=Av x.1 x.2 (aic x.1 x.2)&&aib x.1 x.2
def ă(c:D):Y Sp:=[dr (nI J),⟨0,nL J U C [],⟨ak (sp c),U,0,J,J,0,U,c⟩,[]⟩]
def aie(c:D):I:=aH (λa=>aZ (ă c) J U (nI U) (sp c++[a,anyS]) J U) [2097157,107]
def aif:I:=aH aie [1,2,3,4,5,6,7,8]
def aih:I:=aH (λb=>VW U b []) [1,2,3,4]
def Lc:Y Lf:=([2,3,4,5,6,7].map λp=>[⟨2,5,p,0⟩,⟨8,5,p,0⟩,⟨8,5,p,1⟩,⟨9,5,p,0⟩]).flatten++[⟨0,5,1,0⟩,⟨1,5,1,0⟩,⟨3,5,1,0⟩,⟨4,5,1,0⟩,⟨5,5,1,0⟩,⟨11,5,1,0⟩]
def aii:I:=aH ahT Lc
def Ů(h:I)(k:N D):Sp:=⟨0,nK h k [],zA 0 0 h 0 J 0,[]⟩
def á:Y Sp:=[Ů U (O 0)]
def ŭ:Y Sp:=[se (nK U C []),dr (nK J C []),Ů J C]
def Ì:Y Sp:=[dr (nR J C 0 []),EG (nR J C 0 [])]
def G3(h:I)(k:N D):I:=VU (nK h k []) J h (ĩ C J h) (nE J (s3 0))
def aij:I:=aZ á J J (nK U (O 0) []) [0] U U&&G3 U (O 0)&&aZ ŭ J J (nK U (O 1) []) [0] U U&&G3 J C&&aZ Ì J J (nR U C 0 []) [0] U U&&A0 J 0 []
def aik:I:=aZ (Z! [] U) U J (nL J U C []) [38,120,32,33,116,32,106,anyS] J J&&aZ [A7 U U [] ⟨10,5,1,0⟩ 0] U J (nL U J (O 0) []) [106,0] U U&&aZ (Z? [] U) U J (nL J U C []) [91,107,93,0] U J
structure ail:Prop where
 Qz:aH aid G0=U
 QA:aif=U
 QB:aih=U
 QC:aii=U
 xH:aij=U
 QD:aik=U
def D6:ail:=⟨by kernel_rfl,by kernel_rfl,by kernel_rfl,by kernel_rfl,by kernel_rfl,by kernel_rfl⟩
section
variable{k n K hd:W}{e h q m z v tr:I}{t t' w x y r la:ae}{L:af}{p P:aw}{c d cb c2:D}{st s:Y D}{b:D}{E:gR}{Es:Y gR}
def iZ.ku{a:I}{s:Sp}(H:VU B J a s f)(g:s.em.map (YF ⟨[0],p.1,p.2.1,cb⟩)=T):iZ (k+1) U J B a ⟨[0],p.1,p.2.1,cb⟩ (T.map aM):=by rw[<-g];exact(iZ.fin H Z (λq=>ao q)).le (eN (eG _))
def G5(h:I):(∀st∈[[],[0]],İ h st=U)/\(∀t∈[0,1,2],A0 h t []=U)/\∀st∈[[0],[1],[2]],A0 h (top st) st:=ag (ai (DO.VY) (jB h)) λA c=>ag A λa b=>⟨λ_ m=>ai a m,λ_ m=>ai b m,λ_ m=>ai c m⟩
def Bi(a:P.2.2=c2)(f:c2∈([0,1,2]:Y D)):qK (k+1) c2 [] [0] P [aM ⟨1,P,P⟩]:=λh cb=>by have g:_=P:=eq3 (aA _) (aA _) a.symm;refine iZ.ku (T:=[⟨1,P,P⟩]) ((G5 h).2 _ f) ?_;show[Tk.mk 1 (P.1+0,P.2.1+0,c2) (P.1+0,P.2.1+0,c2)]=_;rw[g]
def Wi(a:P.2.2=0):qK (k+1) 0 [0] [0] P [aM ⟨4,P,P⟩,aM ⟨1,P,P⟩]:=λh cb=>by have f:_=P:=eq3 (aA _) (aA _) a.symm;refine iZ.ku (T:=[⟨4,P,P⟩,⟨1,P,P⟩]) ((G5 h).3 _ gY) ?_;show[Tk.mk 4 (P.1+0,P.2.1+0,0) (P.1+0,P.2.1+0,0),Tk.mk 1 (P.1+0,P.2.1+0,0) (P.1+0,P.2.1+0,0)]=_;rw[f]
def QE{st:Y D}(a:st∈[[],[(0:D)]])(f:P.2.2=0):Arr (k+5) 0 st [46,46,46,10,0] P ((o9 st.length P).map aM++(aM ⟨3,P,aW P 3 0 3⟩::MARK::[aM ⟨1,aW P 4 1 0,aW P 4 1 0⟩])):=λh cb=>by have H:=(G5 h).1 _ a;have g:_=P:=eq3 (aA _) (aA _) f.symm;have E:∀a,Go (k+1) U J _ J ⟨[0],(aW P 4 1 0).1,(aW P 4 1 0).2.1,a⟩ _:=λa=>iZ.go (Bi (P:=aW P 4 1 0) Z gY J a);(have T:BJ (Ĳ h st) ⟨[46,46,46,10,0],P.1,P.2.1,cb⟩=o9 st.length P++[⟨3,P,aW P 3 0 3⟩]:=by show(Ls st.length _++[_]).map _++[]=_;rw[eq,mc,Jh];show Ls st.length (Tk.mk 4 (P.1+0,P.2.1+0,0) (P.1+0,P.2.1+0,0))++[Tk.mk 3 (P.1+0,P.2.1+0,0) _]=_;rw[g];rfl);have a:=fW H (kB.yr (kB.self Z)) Z Z Z Z Z Z Z Z T (E 0);rw[mc,am]at a;exact a.le (iI _)
def sf{l:Y Sp}{a f i:I}(H:aZ l J U (nI U) w e U)(u:cC w e ⟨t,0,0,0⟩)(A:DH l J=a)(B:DI l U=f)(F:DJ l (nI U)=g)(G:yw l U=i)(en:Bb l=n)(M:YJ l=d)(R:t.drop n=t')(Q:t_ l 0=j)(o:BJ l ⟨t,0,0,0⟩=T)
 (S:Go k a f g i ⟨t',0+(n:W),0+d,j⟩ L):Go (k+l.length) J U (nI U) U ⟨t,0,0,0⟩ (T.map aM++L):=by
 rw[<-o];refine Go.link H u (λ_=>Z) ?_;rw[vl,A,B,F,G,en,M,Q];rw[R];exact S
def dU:aw:=(0,0,0)
def YT(hd:W):af:=br (aq [1,3] hd) [aM ⟨2,dU,(3,0,3)⟩] []
def i9(hd:W)(c:D):aw:=qh dU (kb hd++sp c) c
def Jt(a:c∈([0,1,2,3,4]:Y D))(h:I):Lv h c []:=ag (DO.xC) λA _=>ag A λA _=>ag A λA _=>ai (ai A a) (jB h)
def af7:N2 U J 0 []/\M? U J 0 []:=ag (DO.xC) λA _=>ag A λA c=>ag A λ_ b=>⟨b,c⟩
variable(fd:v=J->GN t)(fv:v->GO t)
def QF(S:∀cb,Go k J J (nX v J [0]) J ⟨t,(qL v dU).1,(qL v dU).2.1,cb⟩ L):Go (k+4) U U (nI J) J ⟨sgn v++t,0,0,0⟩ (Qr v 0 [] dU++L):=by obtain⟨o,u⟩:=af7;(have j:∀{l:Y Sp}{w:ae}{e:I}{T:Y Tk}{f:aC}{n:W}{g:D},aZ l U U (nI J) w e J->cC w e ⟨sgn v++t,0,0,0⟩->DH l U=J->DI l U=J->DJ l _=f->yw l J=J->Bb l=n->YJ l=0->(sgn v++t).drop n=t->t_ l 0=g->BJ l ⟨sgn v++t,0,0,0⟩=T->Go k J J f J ⟨t,0+_,0+0,g⟩ L->Go (k+l.length) U U _ J ⟨sgn v++t,0,0,0⟩ (T.map aM++L):=λ{l w e T f n g}H a f g A B en F G M Q S=>by rw[<-Q];refine Go.link H a (λ_=>Z) ?_;rw[vl,f,g,A,B,en,F,M];rw[G];exact S);induction v with|false=> obtain⟨R,f⟩:=GP o;have K:∀{w:ae}{e:I},aZ (J? U J 0 []) U U _ w e J->cC w e ⟨45::t,0,0,0⟩->Go (k+4) U U _ J ⟨45::t,0,0,0⟩ _:=λH a=>(j H a Z Z Z Z Z Z Z Z Z (S 0)).le (d9 (aO Z) k);refine(fd Z).elim (λq=>K f (by rw[q];rfl)) λq=>?_;obtain⟨V,b,d,r,q,i⟩:=q;exact K R (mP (by rw[q];exact bK Z (bK i (bK xD (bK xD Z)))))|true=> obtain⟨V,b,r,q,i⟩:=fv Z;have a:cC [107,58,2097156,anyS] J ⟨107::58::t,0,0,0⟩:=mP (by rw[q];exact bK Z (bK Z (bK i (bK xD Z))));exact(j u a Z Z Z Z Z Z Z Z Z (S 0)).le (d9 (aO Z) k)
variable(B:(hd,c)∈G0)
def acb:∃w e,aZ (G1 hd c) J U (nI U) w e U/\cC w e ⟨kb hd++(sp c++(sgn v++t)),0,0,0⟩:=by
 refine ag (ai D6.Qz B) λj l=>?_
 have sh:small (kb hd):=by
  generalize hd=u
  induction u with
  |zero=>rfl
  |succ hd=>induction hd with
   |zero=>rfl
   |succ hd=>induction hd with
    |zero=>rfl
    |succ hd=>induction hd with
     |zero=>rfl
     |succ hd _=>rfl
 have G:∀{la:ae},Av hd c la->dz la (sgn v++t)->∃w e,aZ _ J U _ w e U/\cC w e ⟨kb hd++_,0,0,0⟩:=λ{la}H h=>⟨kb hd++sp c++la,J,H,mP (by rw[am];exact pre_app sh (pre_app gy h))⟩
 have i:∀{a b:W}{x:ae},sgn v++t=a::b::x->yc 2097154 a->yc 2097155 b->(∃c d r,x=c::d::r)->∃w e,aZ _ J U _ w e U/\cC w e ⟨kb hd++_,0,0,0⟩:=λ{a b x}q f o g=>by
  obtain⟨A,A,r,g⟩:=g;refine G j ?_;rw[q,g];show dz (br _ [2097154,2097155,anyS,anyS] [2097154,anyS,anyS,anyS]) _=U;cases(a? (c=0)&&jp hd 2)with
  |true=>exact bK f (bK o (bK xD (bK xD Z)))
  |false=>exact bK f (bK xD (bK xD (bK xD Z)))
 induction v with
 |false=>
  refine(fd Z).elim (λq=>?_) λq=>?_
  ·rw[q]
   exact⟨kb hd++sp c++[45,10,0],U,l,kB.yr (by rw[am];exact(((kB.self Z).app gy).app sh))⟩
  ·obtain⟨a,b,d,r,q,f⟩:=q
   exact i (by rw[q];rfl) Z (DZ f (λh=>by rw[h];rfl) λh=>by rw[h];rfl) ⟨_,_,_,Z⟩
 |true=> obtain⟨a,b,r,q,f⟩:=fv Z;exact i (by rw[q];rfl) Z Z ⟨_,_,_,Z⟩
def l13(x:ae)(c:D):Y Sp:=[dr (nI J),EG (nI J),⟨1,nS U,Lu 3 0 U 1 0,[⟨2,here 0 0 0,here 3 0 3⟩]⟩,dr (nS J),gap J (x++sp c) c []]
def acd{x y:ae}(f:y=[45,45,45]++x)(H:aZ (l13 x c) J U (nI U) w e U)(a:cC w e ⟨y++(sp c++t),0,0,0⟩)(S:At k U (nR J C c []) J t (qh dU (y++sp c) c) L):Go (k+5) J U (nI U) U ⟨y++(sp c++t),0,0,0⟩ (aM ⟨2,dU,(3,0,3)⟩::L):=by rw[f]at a S ⊢;refine sf (t':=t) (n:=3+_) (d:=0+(iC _+0)) H a Z Z Z Z Z Z ?_ Z Z ?_;rw[hO 3];rw[<-am];exact gu;rw[hO 3,iQ (iC _+0)];exact S _
def l02(x:ae)(c:D):Y Sp:=[dr (nI J),⟨0,nR J C c [],Lu (ak (x++sp c)) (iC x) J 0 0,[]⟩]
def ace{y:ae}(H:aZ (l02 y c) J U (nI U) w e U)(a:cC w e ⟨y++(sp c++t),0,0,0⟩)(S:At k U (nR J C c []) J t (qh dU (y++sp c) c) L):Go (k+2) J U (nI U) U ⟨y++(sp c++t),0,0,0⟩ L:=by refine sf (t':=t) (d:=iC y+0) H a Z Z Z Z Z Z ?_ Z Z ?_;rw[<-am];exact gu;(have z:iC y=iC (y++sp c):=by show(_:D)=(mR _);rw[bA,kh];rfl);rw[z];exact S _
def Wj(S:∀cb,Go k J J (nX v J [c]) J ⟨t,(qL v (i9 hd c)).1,(qL v (i9 hd c)).2.1,cb⟩ L):Go (k+10) J U (nI U) U ⟨kb hd++(sp c++(sgn v++t)),0,0,0⟩ (YT hd++(Qr v c [] (i9 hd c)++L)):=by refine gq λP a=>?_;obtain⟨w,e,H,f⟩:=acb fd fv B;obtain⟨g,i,j,o⟩:=(by decide:∀x∈G0,x.2∈([0,1,2,3,4])/\(stI x.2 []=[x.2]/\((aq [1,3] x.1->kb x.1=[45,45,45]++(kb x.1).drop 3)/\(à x.1 x.2->kb x.1=[]/\x.2=0)))) _ B;refine a ?_;have A:=â (Jt g J) fd fv Z (by rw[show stI c []=[c]from i];exact S);have E:∀{l},br _ [EG _,⟨1,nS U,Lu 3 0 U 1 0,[⟨2,here 0 0 0,here 3 0 3⟩]⟩,dr _,gap J _ c []] (br (à hd c) [EG _] [⟨0,nR J C c [],Lu _ _ J 0 0,[]⟩])=l->aZ (dr (nI J)::l) J U (nI U) w e U:=λq=>q▸H;unfold YT;cases a:aq [1,3] hd with|true=> rw[a]at E;exact(acd (j a) (E Z) f A).le (aU _)|false=>rw[a]at E;cases g:à hd c with|true=>(rw[g]at E;obtain⟨i,a⟩:=o g;have a:c=0:=a;have o:=by rw[i,a]at f;exact f);(have j:i9 hd c=dU:=by unfold i9;rw[i,a];rfl);rw[j,a]at S;rw[i,j,a];exact(sf (E Z) o Z Z Z Z Z Z Z Z Z (QF fd fv S)).le (by rw[fK];exact d9 (cw Z) k)|false=> rw[g]at E;exact(ace (E Z) f A).le (d9 (cw Z:5+2<=10) k)
def QG(g:[c]∈jG){y:ae}(i:Nk tr [c] e y n d c2 t)(a:gQ tr v [c] K E.x E.tk)(j:∀E∈Es,gQ tr v [c] K E.x E.tk)(A:DX e k c2 (mO c2 [c]) t (fh (i9 hd c) (dX v c E Es) n d c2) L):
  Go (k+(K+5)*Es.length+K+10) J U (nI U) U ⟨kb hd++(sp c++(dX v c E Es++y)),0,0,0⟩ (YT hd++(D4 e v c [] [c] E Es (i9 hd c) (fh (i9 hd c) (dX v c E Es) n d c2)++(DY c2 [c] (fh (i9 hd c) (dX v c E Es) n d c2)++L))):=by
 obtain⟨⟨_,_,_,_,f⟩,l⟩:=Jr Z (bN _ _) (t5 g) i Es a j Z A
 have g:dX v c E Es++y=sgn v++(E.x++(Qs v c Es++y)):=by show(sgn v++_)++y=_;rw[am,am]
 rw[g];unfold D4;rw[am,am];exact Wj (λ_=>a.fd f.two) (λ_=>a.fv f.ne) B l
end
def zB:W->ae:=λn=>kA n [[],[46,46,46,10],[35,32,114,10]] []
def r!(p:aw)(x:ae)(a:W):aw:=br (ac a 2) (fh p x 4 1 0) (fh p x 0 0 0)
def yx(P:aw):af:=[aM ⟨1,P,P⟩]
def ÿ(a:W)(P:aw):af:=aM ⟨4,P,P⟩::br (ac a 1) (aM ⟨3,P,aW P 3 0 3⟩::MARK::yx (aW P 4 1 0)) (yx P)
section
variable{k n K j:W}{h q m v tr:I}{t w x y r:ae}{L:af}{P:aw}{c d c2:D}{E:gR}{Es:Y gR}
def QH(h:c2<c):mO c2 [c]=[]/\∀P,DY c2 [c] P=[aM ⟨4,P,P⟩]:=by(have E:cJ c2 [c]=1:=by show br _ _ 0=1;rw[cF h];rfl);exact⟨by show[c].drop _=[];rw[E];rfl,λP=>by show(o9 _ P).map aM=_;rw[E];rfl⟩
def QI{y:ae}(f:Nk tr [c] U y n d c2 t)(e:0<=c)(a:P.2.2=c2):t=[0]/\∃L,DX U (k+1) c2 (mO c2 [c]) t P L/\DY c2 [c] P++L=aM ⟨4,P,P⟩::yx P:=by(have G:c2<c->c2∈_->∃L,DX U (k+1) c2 (mO c2 [c]) [0] P L/\DY c2 [c] P++L=aM ⟨4,P,P⟩::yx P:=λg m=>by obtain⟨i,B⟩:=QH g;rw[i,B];exact⟨_,Bi a m,Z⟩);(have b:c2=0->∃L,DX U (k+1) c2 (mO c2 [c]) [0] P L/\DY c2 [c] P++L=aM ⟨4,P,P⟩::yx P:=λh=>by(subst h;rcases nh e with l|l);exact G l (aO Z);subst l;exact⟨_,Wi a,Z⟩);cases f with|en h=>exact⟨Z,D0 h b (λh _ l=>G (by rw[h];exact aO l) (by rw[h];decide)) λh _ l=>G (by rw[h];exact aO l) (by rw[h];decide)⟩|re=>exact⟨Z,b Z⟩
variable(o:(j,c)∈G0)(i:[c]∈jG)
def acf{y:ae}(a:Nk tr [c] U y n d c2 t)(e:gQ tr v [c] K E.x E.tk)(f:∀E∈Es,gQ tr v [c] K E.x E.tk):
  Go (1+(K+5)*Es.length+K+10) J U (nI U) U ⟨kb j++(sp c++(dX v c E Es++y)),0,0,0⟩ (YT j++(D4 U v c [] [c] E Es (i9 j c) (fh (i9 j c) (dX v c E Es) n d c2)++(aM ⟨4,fh (i9 j c) (dX v c E Es) n d c2,fh (i9 j c) (dX v c E Es) n d c2⟩::yx (fh (i9 j c) (dX v c E Es) n d c2)))):=by
 obtain⟨_,L,A,q⟩:=QI (P:=fh _ _ n d c2) a (kj i) Z;have b:=QG o i a e f A;rw[q]at b;exact b.le (cZ (by rw[hM]))
def acg(b:gQ tr v [c] K E.x E.tk)(e:∀E∈Es,gQ tr v [c] K E.x E.tk):
  Go (5+(K+5)*Es.length+K+10) J U (nI U) U ⟨kb j++(sp c++(dX v c E Es++[46,46,46,10,0])),0,0,0⟩ (YT j++(D4 J v c [] [c] E Es (i9 j c) (r! (i9 j c) (dX v c E Es) 1)++ÿ 1 (r! (i9 j c) (dX v c E Es) 1))):=by
 have G:∃L,Arr 5 0 (mO 0 [c]) [46,46,46,10,0] (r! (i9 j c) (dX v c E Es) 1) L/\DY 0 [c] (r! (i9 j c) (dX v c E Es) 1)++L=ÿ 1 (r! (i9 j c) (dX v c E Es) 1):=by
  rcases nh (show _<=c from kj i)with l|l
  ·obtain⟨a,B⟩:=QH l
   rw[a,B];exact⟨_,(QE gY Z),Z⟩
  ·subst l
   exact⟨_,(QE aaz Z),Z⟩
 obtain⟨L,A,q⟩:=G;have a:=QG o i .dt b e A;have a:Go _ J U _ U ⟨kb j++_,0,0,0⟩ (YT j++(D4 J v c [] [c] E Es _ _++(DY 0 [c] (r! _ _ 1)++L))):=a;rw[q]at a;exact a
def QJ(g:c∈([1,2,3,4,5,6,7,8]:Y D)){b:W}(a:yc 2097157 b=U∨b=107){f:W}{r:ae}(e:x=b::f::r)(S:Go k U J (nL J U C []) J ⟨x,(qh dU (sp c) c).1,(qh dU (sp c) c).2.1,0+c⟩ L):Go (k+2) J U (nI U) U ⟨sp c++x,0,0,0⟩ L:=by have H:=ai D6.QA g;obtain⟨b,f⟩:=GP (H);(have K:∀{w:ae},aZ (ă c) J U _ w J U->cC w J ⟨sp c++x,0,0,0⟩->Go (k+2) J U _ U ⟨sp c++x,0,0,0⟩ L:=λ{w}H g=>by refine sf H g Z Z Z Z Z Z gu Z Z ?_;(have E:(qh dU (sp c) c).2.1=0+0:=by show 0+((mR _):D)=_;rw[kh];rfl);rw[E]at S;exact S);refine a.elim (λa=>K b (mP (pre_app gy (by rw[e];exact bK a (bK xD Z))))) λa=>K f (mP (pre_app gy (by rw[e,a];exact bK Z (bK xD Z))))
end
def aim(l:Lf):I:=ac (iu (dv (-1) l) l 0) (ak (dv (-1) l))&&a? ((dB [] l).n=A6 (dv (-1) l))&&a? (qg l=(dB [] l).m)&&br (pH l) (!(dB [] l).s&&a? ((dB [] l).c=0)) (!lX l&&ac (half l) 0&&br (a? (rows l=0)) U (a? (rows l=1)))&&!(br (ac l.f 6) U (ac l.f 7))
def G!(l:Lf):I:=br (pH l) J (a? (rows l=0))
section
variable{k n K:W}{e h q m v tr:I}{t y:ae}{L:af}{p P Pe:aw}{c d cb c2:D}{s:Y D}{b:D}{E:gR}{Es:Y gR}{l:Lf}{T:Y Tk}
def D7:aH aim Lc=U:=by kernel_rfl
def Wk(x:a∈([1,2,3,4,5,6,7,8]:Y D))(r:b∈([1,2,3,4]:Y D))(f:[b]∈jG){y:ae}(i:Nk tr [b] U y n d c2 t)(u:gQ tr v [b] K E.x E.tk)(w:∀E∈Es,gQ tr v [b] K E.x E.tk)(j:p=qh dU (sp a) a)(o:P=qh p ([38,122,10]++sp b) b)(g:Pe=fh P (dX v b E Es) n d c2):
  Go (1+(K+5)*(1+Es.length)+5) J U (nI U) U ⟨sp a++([38,122,10]++(sp b++(dX v b E Es++y))),0,0,0⟩ (aM ⟨14,p,aW p 2 0 (p.2.2+2)⟩::(D4 U v b [] [b] E Es P Pe++(aM ⟨4,Pe,Pe⟩::yx Pe))):=by
 obtain⟨_,L,A,q⟩:=QI (P:=Pe) i (kj f) (by rw[g];rfl);have z:b∈([0,1,2,3,4]):=.tail _ r;have B:_<=b:=kj f
 have R:=Js (c:=b) (p:=P) Z (bN _ _) (t5 f) i Es u w (by show br _ [b] []=_;rw[cF (um (aO Z) B)];rfl) (Jt z) (by rw[o];rfl) (by rw[<-g];exact A)
 rw[<-g,q,o]at R;have G:=Qw (ai D6.QB r) (by rw[j];show a=0+a+_;rw[iQ];exact(aA _).symm) Z (Qv (Jq u w i.two)) R;rw[j]at G;have S:=QJ x (.inl Z) Z G;rw[<-j]at S;rw[o];exact S.le (cZ (by rw[hM]))
def QK(f:l∈Lc)(r:p.2.2=cb+(top []+1)):Go 10 U J (nL J U C []) J ⟨dv (-1) l++[0],p.1,p.2.1,cb⟩ (y! U (G! l) [aM (iw [] l p)]++yx (dC [] l p)):=by(have a:=ai D7 f;refine ag a λa _=>ag a λa j=>ag a λa w=>ag a λz G=>?_;have a:iu (dv (-1) l) l 0=ak (dv (-1) l):=aK z;have M:(dB [] l).n=((iu (dv (top []) l) l 0:W):D):=(aO G).trans (by rw[show iu (dv (top []) l) l 0=ak (dv (-1) l)from a];rfl);have G:=aO w;have H:aZ [A7 J U [] l 0] U J (nL J U C []) (dv (-1) l++[0]) U J:=ai D6.QC f;have w:cC (dv (-1) l++[0]) U ⟨dv (-1) l++[0],p.1,p.2.1,cb⟩:=kB.yr (kB.self (eW (kg (c:=-1) (l:=l)) Z));have z:(dv (-1) l++[0]).drop (iu (dv (top []) l) l 0)=[0]:=by rw[show iu (dv (top []) l) l 0=ak (dv (-1) l)from a];exact gu);(have f:(aW p (iu (dv (top []) l) l 0) (qg l) 0).1=(dC [] l p).1/\(aW p (iu (dv (top []) l) l 0) (qg l) 0).2.1=(dC [] l p).2.1:=by refine⟨?_,?_⟩;show p.1+_=p.1+(dB [] l).n;rw[M];show p.2.1+_=p.2.1+(dB [] l).m;rw[G]);have a:((((((aZ á J J (nK U (O 0) []) [0] U U&&G3 U (O 0))&&aZ ŭ J J (nK U (O 1) []) [0] U U)&&G3 J C)&&aZ Ì J J (nR U C 0 []) [0] U U)&&A0 J 0 [])):=D6.xH;refine ag a λa G=>ag a λa Q=>ag a λa R=>ag a λa V=>ag a λX a2'=>?_;(have g:∀{k:W}{L:af},Go k J J (EF [] U l 0 (qg l)) U ⟨[0],(dC [] l p).1,(dC [] l p).2.1,br (L9 l (dB [] l)).1 0 cb+(L9 l (dB [] l)).2⟩ L->Go (k+1) U J (nL J U C []) J ⟨dv (-1) l++[0],p.1,p.2.1,cb⟩ (aM (iw [] l p)::L):=λ{k L}S=>by rw[<-f.1,<-f.2]at S;exact fW (l:=[A7 J U [] l 0]) (T:=[iw [] l p]) H w Z Z Z Z Z (aA _) z Z (xF r) S);(have u:∀{k:W}{L:af},iZ k J J (EF [] U l 0 (qg l)) U ⟨[0],(dC [] l p).1,(dC [] l p).2.1,br (L9 l (dB [] l)).1 0 cb+(L9 l (dB [] l)).2⟩ L->iZ (k+1) U J (nL J U C []) J ⟨dv (-1) l++[0],p.1,p.2.1,cb⟩ (aM (iw [] l p)::L):=λ{k L}S=>by rw[<-f.1,<-f.2]at S;exact ke (l:=[A7 J U [] l 0]) (T:=[iw [] l p]) Z H w Z Z Z Z Z (aA _) z Z (xF r) S);(have A:∀{h:I}{f:N D}{P:aw}{a:D},G3 h f->P.2.2=a->iZ 1 U J (nK h f []) h ⟨[0],P.1,P.2.1,a⟩ (yx P):=λ{h f P a}w e=>by have z:(P.1+0,P.2.1+0,a+0)=P:=eq3 (aA _) (aA _) ((aA _).trans e.symm);refine iZ.ku (k:=0) (T:=[⟨1,P,P⟩]) (s:=ĩ C J h) w ?_;show[Tk.mk 1 (P.1+0,P.2.1+0,a+0) (P.1+0,P.2.1+0,a+0)]=_;rw[z]);(have B:∀{h:I}{f:N D}{L:af}{w b a:D},(iZ 1 U J (nK h f []) h ⟨[0],w,b,a⟩ L->iZ 1 U J (nK h f []) h ⟨[0],w+0,b+0,a+0⟩ L):=λ{h f L w b a}G=>by rw[aA,aA,aA];exact G);unfold G!;cases f:pH l with|true=>(rw[f]at j;refine ag (show(!(dB [] l).s&&a? ((dB [] l).c=0))from j) λa o=>?_;have a:(dB [] l).s=J:=(im _).mp a;have x:EF [] U l 0 (qg l)=nR U C 0 []:=by unfold EF lX;rw[f];rfl);(have w:(dC [] l p).2.2=0:=by show br (dB [] l).s _ (dB [] l).c=0;rw[a];exact aO o);rw[x]at g;refine(g (k:=3) (L:=MARK::yx (dC [] l p)) ?_).le (aO Z);have i:iZ 1 U J (nR J C 0 []) J ⟨[0],(dC [] l p).1,(dC [] l p).2.1,br (L9 l (dB [] l)).1 0 cb+(L9 l (dB [] l)).2⟩ (yx (dC [] l p)):=Bi (k:=0) (P:=dC [] l p) w gY J _;exact Go.link (l:=Ì) Q Z (λq=>ao q) (i.go)|false=>(rw[f]at j;refine ag (show(!lX l&&ac (half l) 0&&br (a? (rows l=0)) U (a? (rows l=1)))from j) λa o=>ag a λc3 a=>?_;have c3:lX l=J:=(im _).mp c3;have a:=aK a;have f:qg l=rows l:=by unfold qg;rw[c3];rfl);(have x:EF [] U l 0 (qg l)=nK U (O (rows l)) []:=by unfold EF;rw[c3,f];rfl);(have F:(dC [] l p).2.2=br (L9 l (dB [] l)).1 0 cb+(L9 l (dB [] l)).2:=by unfold L9;rw[c3,a];show br (dB [] l).s (p.2.2+((dB [] l).c-(-1+1))) (dB [] l).c=br (!(dB [] l).s) 0 cb+((dB [] l).c+0);rw[r];cases(dB [] l).s with|true=> show cb+(-1+1)+((dB [] l).c-(-1+1))=cb+((dB [] l).c+0);rw[show(-1+1)=0 from Z,aA,aA,Int.sub_zero]|false=>show(dB [] l).c=0+((dB [] l).c+0);rw[iQ,aA]);rw[x]at g u;cases a:a? (rows l=0)with|true=> rw[show rows l=0 from aO a]at u;have i:=A a2' F;exact((u (iZ.link Z X Z (λq=>ao q) (B i))).go).le (aO Z)|false=> rw[a]at o;rw[show rows l=1 from aO o]at g;have i:=(B (A R F)).go;exact(g (Go.link V Z (λq=>ao q) i)).le (aO Z)
end
def yy:Y Lf:=Lc++[⟨6,5,1,0⟩,⟨7,5,1,0⟩]
def kC(a:Y D)(l:Lf)(p:aw):aw:=br (ac l.f 6) (aW p 7 0 (p.2.2+7)) (br (ac l.f 7) (aW p 3 0 (p.2.2+3)) (dC a l p))
def ain(l:Lf):I:=br (jp l.f 10) U (ac l.f 11)
section
variable{e h q z:I}{t r:ae}{L:af}{p P:aw}{c cb:D}{b:D}{l:Lf}{T:Y Tk}
def QL:aH ain yy=U:=by kernel_rfl
def af8{h:I}{b:D}(G:iZ 1 U J (nK h a []) h ⟨[0],d,b,f⟩ L):iZ 1 U J (nK h a []) h ⟨[0],d+0,b+0,f+0⟩ L:=by rw[aA,aA,aA];exact G
def af9{h:I}(F:G3 h d)(e:P.2.2=a):iZ 1 U J (nK h d []) h ⟨[0],P.1,P.2.1,a⟩ (yx P):=by have d:_=P:=eq3 (aA _) (aA _) ((aA _).trans e.symm);refine iZ.ku (T:=[⟨1,P,P⟩]) F ?_;show[Tk.mk 1 (P.1+0,P.2.1+0,a+0) (P.1+0,P.2.1+0,a+0)]=_;rw[d]
def G6(a:aZ á J J (nK U (O 0) []) [0] U U)(F:G3 U (O 0))(e:P.2.2=cb'):iZ 2 J J (nK U (O 0) []) U ⟨[0],P.1,P.2.1,cb'⟩ (yx P):=iZ.link Z a Z (λq=>ao q) (af8 (af9 F e))
theorem LB(m:l∈yy)(f:p.2.2=cb+(top []+1)):Go 20 U J (nL J U C []) J ⟨dv (-1) l++[0],p.1,p.2.1,cb⟩ (y! U (G! l) ((i8 [] l p).map aM)++yx (kC [] l p)):=by
 have a:=D6.xH;have g:=D6.QD;refine ag a λa _=>ag a λa _=>ag a λa _=>ag a λa _=>ag a λj k=>ag g λg n=>ag g λs u=>?_;have a:=f.trans (aA _);refine(gX.mp m).elim (λh=>?_) λh=>?_
 ·have a:=ai D7 h
  refine ag a λ_ a=>?_;have o:=(im _).mp a
  have E:kC [] l p=dC [] l p:=by
   unfold kC;cases a:ac l.f 6 with
   |true=>rw[a]at o;exact ao o.symm
   |false=> rw[a]at o;rw[show ac l.f 7=J from o];rfl
  rw[Bf o,E];exact(QK h f).le (aO Z)
 ·cases h with
  |head=>
   have P:∀a,aW (aW p 6 0 (p.2.2+6)) 1 0 a=aW p 7 0 a:=λa=>V1;have a:=by show p.2.2+6=cb+2+1+2+1+0;lia
   have d:=G6 (P:=aW p 7 0 _) (cb':=cb+2+1+2+1+1) j k (by show p.2.2+7=_;lia);have d:iZ 2 J J (nK U (O 0) []) U ⟨[0],(aW (aW p 6 0 (p.2.2+6)) 1 0 (p.2.2+7)).1,(aW (aW p 6 0 (p.2.2+6)) 1 0 (p.2.2+7)).2.1,cb+2+1+2+1+1⟩ (yx (aW p 7 0 (p.2.2+7))):=by rw[P];exact d
   have g:iw [] ⟨10,5,1,0⟩ (aW p 6 0 (p.2.2+6))=⟨20,aW p 6 0 (p.2.2+6),aW p 7 0 (p.2.2+7)⟩:=by refine ah _ (eq3 (d! Z) (aA _) ?_);exact d! Z
   have m:=ke Z u (kB.yr (kB.self Z)) Z Z Z Z Z Z Z Z ((xF a).trans (ah (·::[]) g)) d;have i:=ke (t:=[38,120,32,33,116,32,106,0]) Z s (mP Z) Z Z Z Z Z Z Z Z (GU f U) m;exact(i.go).le (aO Z)
  |tail _ h=>cases h with
   |head=> have d:=G6 (P:=aW p 3 0 _) (cb':=cb+1+1+(-1+2)) j k (by show p.2.2+3=_;lia);have i:=ke Z n (kB.yr (kB.self Z)) Z Z Z Z Z Z Z Z (GV f U) d;exact(i.go).le (aO Z)
   |tail _ h=>exact nomatch h
def QM(f:l∈yy)(g:c∈([1,2,3,4,5,6,7,8]:Y D)):Go 22 J U (nI U) U ⟨sp c++(dv (-1) l++[0]),0,0,0⟩ (y! U (G! l) ((i8 [] l (qh dU (sp c) c)).map aM)++yx (kC [] l (qh dU (sp c) c))):=by(have F:∃a b r,dv (-1) l++[0]=a::b::r/\(yc 2097157 a=U∨a=107):=by refine nG (ai QL f) (λh _=>?_) λ_ h=>?_;(obtain⟨a,r,E,d⟩:=D3 h;rw[E];generalize r=u;induction u with|nil=>exact⟨_,_,_,Z,.inl d⟩|cons b r _=>exact⟨_,_,_,Z,.inl d⟩);obtain⟨i,e,j,z⟩:=l;rw[show i=11 from aK h];exact⟨_,_,_,Z,.inr Z⟩);obtain⟨a,b,r,E,d⟩:=F;exact QJ g d E (LB f (by show c=0+c+_;rw[iQ];exact(aA _).symm))
end
def pB(s:V)(a:ae)(b:af)(c:PA):aC:=[(167,.val s),(165,.lst (a.map V.av)),(166,.lst b),(162,.val .none),(164,c),(163,.val .none)]
def b8(p:aw):V:=.tup [.int p.1,.int p.2.1,.int p.2.2]
def bB(t:V)(a b:aw):V:=.tup [t,.lst [b8 a,b8 b]]
def sj:PA:=.val (.cd 176)
def SI:PA:=.vL Dl
def yes:V:=.str [121,101,115]
def iN:V:=.str [110,111]
def qN(a b:V)(c d:V)(s:ae)(q:V):V:=.tup [.str [118,97,108,117,101],a,b,c,d,.str s,q]
def QN(s:ae):V:=.tup [.str [97,108,105,97,115],.str s]
def Bj(a:V)(b:V):V:=.tup [.str [114,111,119],a,.none,yes,b]
def aio(a:V):V:=.tup [.str [109,97,112],a,.none,yes,iN]
def nj:V:=.tup [.str [114,111,119,32,101,110,100]]
def D8:V:=.tup [.str [109,97,112,32,101,110,100]]
def ja(x:V):V:=.tup [.str [100,111,99,117,109,101,110,116],x,.none,.none]
def iO(x:V):V:=.tup [.str [100,111,99,117,109,101,110,116,32,101,110,100],x]
def iF:V:=.tup [.str [115,116,114,101,97,109]]
def km:V:=.tup [.str [115,116,114,101,97,109,32,101,110,100]]
def quest:V:=.str [63]
structure Fz where
 m:W->aw
 s:ae
 q:W
 th:PA
 ms:af
 R:af
 x:W->V
def t6(k:Kd)(a b:aw):V:=zk k (tQ a) (tQ b)
def Fz.t(z:Fz)(k:Kd)(j:W):V:=t6 k (z.m (2*j)) (z.m (2*j+1))
structure Lz where
 ts:af
 v:V
 a:W
 b:W
def W2(z:Fz)(j:W):Lz:=⟨[z.t (kP z.s) j],qN .none .none yes iN z.s .none,2*j,2*j+1⟩
def lzQ(z:Fz)(j:W):Lz:=⟨[z.t (kQ z.s z.q) j],qN .none .none iN yes z.s (.str [z.q]),2*j,2*j+1⟩
def lzA(z:Fz)(j:W):Lz:=⟨[z.t (kV 117 z.s) j],QN z.s,2*j,2*j+1⟩
def YU(z:Fz)(j:W):Lz:=⟨[z.t (kV 119 [120]) j,z.t ⟨134,[(10,.tup [.str [33],.str [116]])],[]⟩ (j+1),z.t (kP z.s) (j+2)],qN (.str [120]) (.str [33,116]) iN iN z.s .none,2*j,2*(j+2)+1⟩
def lA(b:I)(l:af):af:=br b (MARK::l) l
def shw(o:N (N V×PG)):N (N V×aC×af):=mp o λr=>(r.1,r.2.par,r.2.aG)
def dY(z:Fz)(s:V)(a:ae)(b:I)(t:af):N (N V×aC×af):=shw (xB ⟨pB s a z.ms z.th,br b (.bool U::(t++z.R)) (t++z.R),0⟩)
def fY(z:Fz)(v:V)(a b:aw)(s:V)(c:ae)(d:af)(e:I)(t:af):N (N V×aC×af):=O (O (bB v a b),pB s c d z.th,br e (.bool U::(t++z.R)) (t++z.R))
def zC(z:Fz)(n:W):af:=ut [] (λk r=>r++[z.x k]) n
def cj(z:Fz)(n:W):Fz:={z with ms:=zC z n}
def SJ(s:W)(z:Fz):af:=br (ac s 197) [z.t (kS 111) 0,z.t (kS 112) 1] (br (ac s 203) [z.t (kS 116) 0] [z.t (kS 112) 0])
def g8(s:W):W:=br (ac s 197) 2 1
def qS(s:W):W:=br (ac s 197) 199 (br (ac s 203) 202 s)
def Md(s:W)(z:Fz):af:=br (ac s 197) (z.ms++[tQ (z.m 0)]) z.ms
def r?:uI:=[[179],[179,199],[179,202]]
structure Pc where
 s:W
 st:ae
 pre:I
def Bk:Y Pc:=(r?.map λa=>[⟨197,a,U⟩,⟨199,a,J⟩,⟨199,a,U⟩,⟨203,a,J⟩]).flatten++[⟨192,[179,202],U⟩,⟨192,[179,202],J⟩]
def jk(c:Pc):W:=br (ac c.s 192) 1 (br (ac c.s 197) (c.st.length-1) c.st.length)
def D9(z:Fz)(c:Pc)(a:af):N (N V×aC×af):=dY z (.av c.s) c.st c.pre (SJ c.s z++a)
def BL(k:W)(z:Fz)(j:W):Lz:=gh k (W2 z j) λk=>gh k (lzQ z j) λ_=>lzA z j
def lfF(z:Fz)(x:Pc×I×W):N (N V×aC×af):=D9 z x.1 (lA x.2.1 (BL x.2.2 z (g8 x.1.s)).ts)
def lfG(z:Fz)(x:Pc×I×W):N (N V×aC×af):=fY z (BL x.2.2 z (g8 x.1.s)).v (z.m (BL x.2.2 z (g8 x.1.s)).a) (z.m (BL x.2.2 z (g8 x.1.s)).b) (.av (qS x.1.s)) x.1.st (Md x.1.s z) J []
def Bl{a b:Type}(l:Y a)(m:Y b):Y (a×b):=(l.map λa=>m.map λb=>(a,b)).flatten
def t!:Y I:=[J,U]
def Ĕ:Y (Pc×I×W):=Bl Bk (Bl t! [0,1,2])
def ā(z:Fz)(a:PA)(x:Pc×I):N (N V×aC×af):=D9 {z with th:=a} x.1 (lA x.2 (YU z (g8 x.1.s)).ts)
def Ā(z:Fz)(a:PA)(x:Pc×I):N (N V×aC×af):=fY {z with th:=a} (YU z (g8 x.1.s)).v (z.m (YU z (g8 x.1.s)).a) (z.m (YU z (g8 x.1.s)).b) (.av (qS x.1.s)) x.1.st (Md x.1.s z) J []
def w!:Y (Pc×I):=Bl Bk t!
def flF(z:Fz)(x:Pc×I):N (N V×aC×af):=D9 z x.1 (lA x.2 [z.t (kS 102) (g8 x.1.s)])
def flG(z:Fz)(x:Pc×I):N (N V×aC×af):=fY z (Bj .none yes) (z.m (2*g8 x.1.s)) (z.m (2*g8 x.1.s+1)) (.av 194) (x.1.st++[qS x.1.s]) (Md x.1.s z) U [z.t (kS 102) (g8 x.1.s)]
def L!(s:W):Y (I×W):=(J,93)::(U,93)::br (ac s 203) [(J,113)] (br (ac s 192) [(J,112),(J,113)] [(J,112)])
def Ī:Y (Pc×I×W):=(Bk.map λc=>(L! c.s).map λx=>(c,x)).flatten
def emF(z:Fz)(x:Pc×I×W):N (N V×aC×af):=D9 z x.1 (lA x.2.1 [z.t (kS x.2.2) (g8 x.1.s)])
def emG(z:Fz)(x:Pc×I×W):N (N V×aC×af):=fY z (qN .none .none yes iN [] .none) (z.m (2*g8 x.1.s-1)) (z.m (2*g8 x.1.s-1)) (.av (qS x.1.s)) x.1.st (Md x.1.s z) U [z.t (kS x.2.2) (g8 x.1.s)]
def u':Y (Pc×I×W):=Bl [⟨197,[179],U⟩,⟨199,[179],J⟩,⟨199,[179],U⟩,⟨203,[179],J⟩] (Bl t! [111,115])++Bl [⟨203,[179],J⟩] (Bl t! [112])
def ĵ(z:Fz)(a:I)(j:W):af:=br a [z.t (kV 119 [122]) j] []
def A4(a:I)(j:W):W:=br a (j+1) j
def bkF(z:Fz)(x:Pc×I×W):N (N V×aC×af):=D9 z x.1 (ĵ z x.2.1 (g8 x.1.s)++[z.t (kS x.2.2) (A4 x.2.1 (g8 x.1.s))])
def À(a:I):V:=br a (.str [122]) .none
def EH(k:W)(a:I):V:=br (ac k 111) (Bj (À a) iN) (br (ac k 115) (aio (À a)) (Bj (À a) quest))
def Wm(k:W):W:=br (ac k 111) 197 (br (ac k 115) 198 192)
def bkG(z:Fz)(x:Pc×I×W):N (N V×aC×af):=fY z (EH x.2.2 x.2.1) (z.m (2*g8 x.1.s)) (z.m (2*A4 x.2.1 (g8 x.1.s)+br (ac x.2.2 112) 1 0)) (.av (Wm x.2.2)) (x.1.st++[qS x.1.s]) (Md x.1.s z) U [z.t (kS x.2.2) (A4 x.2.1 (g8 x.1.s))]
def ę:Y (I×I×ae):=Bl [(U,U),(J,J),(J,U)] r?|>.map λx=>(x.1.1,x.1.2,x.2)
def Ę(z:Fz)(x:I×I×ae):N (N V×aC×af):=dY z (.av (br x.1 198 202)) x.2.2 x.2.1 (br x.1 [z.t (kS 115) 0,z.t (kS 113) 1,z.t (kP z.s) 2] [z.t (kS 113) 0,z.t (kP z.s) 1])
def ė(z:Fz)(x:I×I×ae):N (N V×aC×af):=fY z (W2 z (br x.1 2 1)).v (z.m (br x.1 4 2)) (z.m (br x.1 5 3)) (.av 203) x.2.2 (br x.1 (z.ms++[tQ (z.m 0)]) z.ms) J []
def z3:Y (ae×W):=[([179,199],1),([179,199,199],2),([179,202,199],2),([179,202,192],1),([179,202],1),([179,199,202],2),([179,202,202],2),([179],0)]
def fwF(z:Fz)(x:ae×W):N (N V×aC×af):=dY z (.av 194) x.1 U [z.t (kS 102) 0,z.t (kP z.s) 1]
def fwG(z:Fz)(x:ae×W):N (N V×aC×af):=fY z (W2 z 1).v (z.m 2) (z.m 3) (.av 207) x.1 (z.ms++[tQ (z.m 0)]) J []
def xI(l:ae):W:=bm 0 (λa r b=>lc r a λ_ _=>b) l
def xJ(l:ae):ae:=bm [] (λa r b=>lc r [] λ_ _=>a::b) l
def feF(z:Fz)(x:ae×W):N (N V×aC×af):=dY {z with ms:=zC z (x.2+1)} (.av 207) x.1 J [z.t (kS 106) 0]
def feG(z:Fz)(x:ae×W):N (N V×aC×af):=fY z nj (z.m 0) (z.m 1) (.av (xI x.1)) (xJ x.1) (zC z x.2) J []
def Ķ:Y ((W×ae×W)×I×I):=Bl (Bl [199,202] [([179],0),([179,199],1),([179,202],1)]) [(J,J),(U,J),(J,U)]
def beF(z:Fz)(x:(W×ae×W)×I×I):N (N V×aC×af):=dY {z with ms:=zC z (x.1.2.2+1)} (.av x.1.1) x.1.2.1 x.2.1 (lA x.2.2 [z.t (kS 93) 0])
def beG(z:Fz)(x:(W×ae×W)×I×I):N (N V×aC×af):=fY z (br (ac x.1.1 199) nj D8) (z.m 0) (z.m 1) (.av (xI x.1.2.1)) (xJ x.1.2.1) (zC z x.1.2.2) J []
def ğ:Y (W×I×I):=[(93,J,J),(93,U,J),(93,J,U),(113,J,J),(113,U,J)]
def ieF(z:Fz)(x:W×I×I):N (N V×aC×af):=dY z (.av 192) [179,202] x.2.1 (lA x.2.2 [z.t (kS x.1) 0])
def ieG(z:Fz)(x:W×I×I):N (N V×aC×af):=fY z nj (z.m 0) (z.m 0) (.av 202) [179] z.ms U [z.t (kS x.1) 0]
def ĭ:Y (I×W):=Bl t! [0,1,2,3,4,5,6,7]
def M_(z:Fz)(k:W):Kd:=gh k (kS 111) λk=>gh k (kS 115) λk=>gh k (kP z.s) λk=>gh k (kQ z.s z.q) λk=>gh k (kV 117 z.s) λk=>gh k (kV 119 [120]) λk=>gh k (kV 119 [122]) λ_=>kS 102
def d1F(z:Fz)(x:I×W):N (N V×aC×af):=dY {z with th:=.kX [],ms:=[]} (.av 173) [] J (lA x.1 [z.t (M_ z x.2) 0])
def d1G(z:Fz)(x:I×W):N (N V×aC×af):=fY {z with th:=sj} (ja iN) (z.m 0) (z.m 0) (.av 180) [179] [] U [z.t (M_ z x.2) 0]
def T1:Y (W×I×W):=[(180,J,111),(180,J,115),(180,U,111),(180,U,115),(183,J,111),(183,J,115)]
def rtF(z:Fz)(x:W×I×W):N (N V×aC×af):=dY z (.av x.1) [179] (ac x.1 180) (ĵ z x.2.1 0++[z.t (kS x.2.2) (A4 x.2.1 0)])
def rtG(z:Fz)(x:W×I×W):N (N V×aC×af):=fY z (EH x.2.2 x.2.1) (z.m 0) (z.m (2*A4 x.2.1 0)) (.av (Wm x.2.2)) [179] z.ms U [z.t (kS x.2.2) (A4 x.2.1 0)]
def raF(z:Fz)(k:W):N (N V×aC×af):=dY z (.av 180) [179] U (BL k z 0).ts
def raG(z:Fz)(k:W):N (N V×aC×af):=fY z (BL k z 0).v (z.m 0) (z.m 1) (.av 179) [] z.ms J []
structure aga:Prop where
 Wn:∀(z:Fz),Ĕ.map (λx=>lfF (cj z (jk x.1)) x)=Ĕ.map λx=>lfG (cj z (jk x.1)) x
 QO:∀(z:Fz),w!.map (λx=>ā (cj z (jk x.1)) sj x)=w!.map λx=>Ā (cj z (jk x.1)) sj x
 QP:∀(z:Fz),w!.map (λx=>ā (cj z (jk x.1)) SI x)=w!.map λx=>Ā (cj z (jk x.1)) SI x
 Wo:∀(z:Fz),w!.map (λx=>flF (cj z (jk x.1)) x)=w!.map λx=>flG (cj z (jk x.1)) x
 Wq:∀(z:Fz),Ī.map (λx=>emF (cj z (jk x.1)) x)=Ī.map λx=>emG (cj z (jk x.1)) x
 Ju:∀(z:Fz),u'.map (λx=>bkF (cj z (jk x.1)) x)=u'.map λx=>bkG (cj z (jk x.1)) x
 Wr:∀(z:Fz),ę.map (λx=>Ę (cj z (x.2.2.length-br x.1 1 0)) x)=ę.map λx=>ė (cj z (x.2.2.length-br x.1 1 0)) x
 Ws:∀(z:Fz),z3.map (λx=>fwF (cj z x.2) x)=z3.map λx=>fwG (cj z x.2) x
 Wt:∀(z:Fz),z3.map (feF z)=z3.map (feG z)
 Wu:∀(z:Fz),Ķ.map (beF z)=Ķ.map (beG z)
 Wv:∀(z:Fz),ğ.map (ieF z)=ğ.map (ieG z)
 Ww:∀(z:Fz),ĭ.map (d1F z)=ĭ.map (d1G z)
 Jv:∀(z:Fz),T1.map (rtF z)=T1.map (rtG z)
 Wx:∀(z:Fz),[0,1,2].map (raF z)=[0,1,2].map (raG z)
 ach:∀(z:Fz),dY {z with th:=sj} (.av 180) [179] U (YU z 0).ts=fY {z with th:=sj} (YU z 0).v (z.m 0) (z.m 5) (.av 179) [] z.ms J []
 aci:∀(z:Fz),dY z (.av 180) [179] U [z.t (kS 102) 0]=fY z (Bj .none yes) (z.m 0) (z.m 1) (.av 194) [179] z.ms U [z.t (kS 102) 0]
 acj:∀(z:Fz),dY {z with th:=.kX []} (.av 168) [] U [z.t ⟨95,[],[(9,.none)]⟩ 0]=fY {z with th:=.kX []} iF (z.m 0) (z.m 1) (.av 173) [] z.ms J []
 ack:∀(z:Fz),dY {z with th:=.kX [],ms:=[]} (.av 173) [] J [z.t (kS 97) 0]=fY {z with th:=SI} (ja yes) (z.m 0) (z.m 1) (.av 183) [179] [] J []
 Wy:∀(z:Fz),t!.map (λb=>dY z (.av 179) [] J (lA b [z.t (kS 96) 0]))=t!.map λ_=>fY z (iO iN) (z.m 0) (z.m 0) (.av 181) [] z.ms U [z.t (kS 96) 0]
 acm:∀(z:Fz),dY z (.av 179) [] J [z.t (kS 99) 0]=fY z (iO yes) (z.m 0) (z.m 1) (.av 181) [] z.ms J []
 Wz:∀(z:Fz),[(U,J),(J,J),(J,U)].map (λb:I×I=>dY {z with ms:=[]} (.av 181) [] b.1 (lA b.2 [z.t (kS 96) 0]))=[(U,J),(J,J),(J,U)].map λ_=>fY {z with ms:=[]} km (z.m 0) (z.m 1) .none [] [] J []
 acn:∀(z:Fz),mp (xB ⟨pB .none [] z.ms z.th,z.R,0⟩) (·.1)=O C
def fX:aga:=⟨λ_=>by kernel_rfl,λ_=>by kernel_rfl,λ_=>by kernel_rfl,λ_=>by kernel_rfl,λ_=>by kernel_rfl,λ_=>by kernel_rfl,λ_=>by kernel_rfl,λ_=>by kernel_rfl,λ_=>by kernel_rfl,λ_=>by kernel_rfl,λ_=>by kernel_rfl,λ_=>by kernel_rfl,λ_=>by kernel_rfl,λ_=>by kernel_rfl,λ_=>by kernel_rfl,λ_=>by kernel_rfl,λ_=>by kernel_rfl,λ_=>by kernel_rfl,λ_=>by kernel_rfl,λ_=>by kernel_rfl,λ_=>by kernel_rfl,λ_=>by kernel_rfl⟩
def PP(s:V)(b:ae)(c:af)(d:PA)(e:I)(R a:af):=Pa a (pB s b c d) (br e (.bool U::R) R)
structure SK(e:I)(s:V)(sts:ae)(ms:af)(th:PA)(R told:af):Prop where
 a:∀pre,PP s sts ms th pre R told
 b:e->PP s sts ms th J (MARK::R) told
def fZ(s:W)(p:aw):Y aw:=br (ac s 197) [p,p,p,aW p 1 0 (p.2.2+1)] (br (ac s 203) [aW p 1 0 (p.2.2+1),aW p 2 0 (p.2.2+2)] [p,aW p 1 0 (p.2.2+1)])
def Ea(s:W)(p:aw):af:=br (ac s 197) [aM ⟨5,p,p⟩,aM ⟨7,p,aW p 1 0 (p.2.2+1)⟩] (br (ac s 203) [aM ⟨9,aW p 1 0 (p.2.2+1),aW p 2 0 (p.2.2+2)⟩] [aM ⟨7,p,aW p 1 0 (p.2.2+1)⟩])
def vp(s:W)(p:aw):aw:=qL (ac s 203) p
def t7(s:W)(a:af)(p:aw):af:=br (ac s 197) (a++[tQ p]) a
def zz(M:Y aw)(s:ae)(q:W)(a:PA)(b R:af):Fz:=⟨λj=>kA j M dU,s,q,a,[],R,λk=>kA k b .none⟩
def ok2(c:Pc):I:=bd (jk c) 2
section
variable{z:Fz}{s s' v:V}{sts sts':ae}{pre pre' mk:I}{t t' R A ms ms':af}{a b p q P:aw}{th:PA}{c:Pc}{n:W}{M:Y aw}{sx:ae}{qx B:W}
def WA:aH ok2 Bk=U:=by kernel_rfl
def Jw(d:bd n 2)(h:ms.length=n):zC (zz M sx qx th ms R) n=ms:=by
 cases n with
 |zero=>rw[wE h];rfl
 |succ n=>cases n with
  |zero=>cases ms with
   |nil=>exact nomatch h
   |cons a ms=>cases ms with
    |nil=>rfl
    |cons b ms=>exact nomatch h
  |succ n=>cases n with
   |zero=>cases ms with
    |nil=>exact nomatch h
    |cons a ms=>cases ms with
     |nil=>exact nomatch h
     |cons b ms=>cases ms with
      |nil=>rfl
      |cons c ms=>exact nomatch h
   |succ n=>exact ao d
def xK(h:dY z s sts pre t=fY d v a b s' sts' ms' pre' t')(K:PP s' sts' ms' d.th pre' (t'++d.R) A):PP s sts z.ms z.th pre (t++z.R) (bB v a b::A):=by refine iJ h λr g e=>?_;obtain⟨h,f⟩:=r;have i:h=O _:=ah (·.1) e;have h:f.par=pB s' sts' ms' d.th:=ah (·.2.1) e;have d:f.aG=br pre' _ _:=ah (·.2.2) e;refine⟨f,by rw[g,i],?_⟩;rw[h,d];exact K
def fJ(h:dY z s sts pre t=fY z v a b s' sts' ms' pre' t')(K:PP s' sts' ms' z.th pre' (t'++z.R) A):PP s sts z.ms z.th pre (t++z.R) (bB v a b::A):=xK h K
def d6{d e:Type}{f g:d->e}{l:Y d}(h:l.map f=l.map g){x:d}(m:x∈l):f x=g x:=Ix.mp h x m
def eY{d e:Type}{l:Y d}{m:Y e}{x:d}{y:e}(h:x∈l)(k:y∈m):(x,y)∈Bl l m:=AC.mpr ⟨_,eO.mpr ⟨x,h,Z⟩,eO.mpr ⟨y,k,Z⟩⟩
def agb{X:Y aw}:SJ c.s (zz (fZ c.s p++X) sx qx th ms R)=Ea c.s p:=by
 unfold SJ fZ Ea;cases ac c.s 197 with
 |true=>rfl
 |false=>cases ac c.s 203 with
  |true=>rfl
  |false=>rfl
def Eb{X:Y aw}(i:W):(zz (fZ c.s p++X) sx qx th ms R).m (2*g8 c.s+i)=kA i X dU:=by unfold g8 fZ;cases ac c.s 197 with|true=>rw[hO _];rfl|false=>rw[hO _];cases ac c.s 203<;>rfl
def zD{X:Y aw}(j:W)(k:Kd):(zz (fZ c.s p++X) sx qx th ms R).t k (g8 c.s+j)=t6 k (kA (2*j) X dU) (kA (2*j+1) X dU):=by show t6 k _ _=_;rw[I_,fK,Eb,Eb]
def agc{X:Y aw}(d:zC (zz (fZ c.s p++X) sx qx th ms R) n=ms):Md c.s (cj (zz (fZ c.s p++X) sx qx th ms R) n)=t7 c.s ms p:=by show br _ (zC _ n++[tQ _]) (zC _ n)=_;rw[d];unfold t7 fZ;cases ac c.s 197<;>rfl
def t8{X:Y aw}{t':af}{s':V}{sts':ae}{pre':I}(f:c∈Bk)(g:ms.length=jk c)
 (r:dY (cj (zz (fZ c.s p++X) sx qx th ms R) (jk c)) (.av c.s) c.st c.pre (SJ c.s (zz (fZ c.s p++X) sx qx th ms R)++d)=fY (cj (zz (fZ c.s p++X) sx qx th ms R) (jk c)) v a b s' sts' (Md c.s (cj (zz (fZ c.s p++X) sx qx th ms R) (jk c))) pre' t')
 (K:PP s' sts' (t7 c.s ms p) th pre' (t'++R) A):PP (.av c.s) c.st ms th c.pre (Ea c.s p++(d++R)) (bB v a b::A):=by
 have e:=Jw (M:=fZ c.s p++X) (sx:=sx) (qx:=qx) (th:=th) (R:=R) (ai WA f) g;rw[agb,agc e]at r;have d:=fJ r K;rw[am]at d;have d:PP _ c.st (zC _ _) th c.pre _ _:=d;rw[e]at d;exact d
def aco{v:V}(f:c∈Bk)(g:ms.length=jk c)(i:(PT k=kP sx/\v=qN .none .none yes iN sx .none)∨(PT k=kQ sx qx/\v=qN .none .none iN yes sx (.str [qx]))∨(PT k=kV 117 sx/\v=QN sx))
 (K:PP (.av (qS c.s)) c.st (t7 c.s ms p) th J R A):PP (.av c.s) c.st ms th c.pre (Ea c.s p++(lA mk [aM ⟨k,a,b⟩]++R)) (bB v a b::A):=by
 have h:=Eb (c:=c) (p:=p) (X:=[a,b]) (sx:=sx) (qx:=qx) (th:=th) (ms:=ms) (R:=R) 0;have j:=Eb (c:=c) (p:=p) (X:=[a,b]) (sx:=sx) (qx:=qx) (th:=th) (ms:=ms) (R:=R) 1;have d:=zD (c:=c) (p:=p) (X:=[a,b]) (sx:=sx) (qx:=qx) (th:=th) (ms:=ms) (R:=R) 0
 have e:∀B,B∈[0,1,2]->(BL B (zz (fZ c.s p++[a,b]) sx qx th ms R) (g8 c.s)).ts=[aM ⟨k,a,b⟩]->(BL B (zz (fZ c.s p++[a,b]) sx qx th ms R) (g8 c.s)).v=v->(BL B (zz (fZ c.s p++[a,b]) sx qx th ms R) (g8 c.s)).a=2*g8 c.s->(BL B (zz (fZ c.s p++[a,b]) sx qx th ms R) (g8 c.s)).b=2*g8 c.s+1->PP (.av c.s) c.st ms th c.pre (Ea c.s p++(lA mk [aM ⟨k,a,b⟩]++R)) (bB v a b::A):=λB m l o u w=>by have r:dY (cj (zz (fZ c.s p++[a,b]) sx qx th ms R) (jk c)) (.av c.s) c.st c.pre (SJ c.s (zz (fZ c.s p++[a,b]) sx qx th ms R)++lA mk (BL B (zz (fZ c.s p++[a,b]) sx qx th ms R) (g8 c.s)).ts)=fY (cj (zz (fZ c.s p++[a,b]) sx qx th ms R) (jk c)) (BL B (zz (fZ c.s p++[a,b]) sx qx th ms R) (g8 c.s)).v ((zz (fZ c.s p++[a,b]) sx qx th ms R).m (BL B (zz (fZ c.s p++[a,b]) sx qx th ms R) (g8 c.s)).a) ((zz (fZ c.s p++[a,b]) sx qx th ms R).m (BL B (zz (fZ c.s p++[a,b]) sx qx th ms R) (g8 c.s)).b) (.av (qS c.s)) c.st (Md c.s (cj (zz (fZ c.s p++[a,b]) sx qx th ms R) (jk c))) J []:=d6 (fX.Wn (zz (fZ c.s p++[a,b]) sx qx th ms R)) (x:=(c,mk,B)) (eY f (eY (jB mk) m));rw[l,o,u,w,j,show(zz (fZ c.s p++[a,b]) sx qx th ms R).m (2*g8 c.s)=a from h]at r;exact t8 f g r K
 have f:∀g,PT k=g->[aM ⟨k,a,b⟩]=[t6 g a b]:=λg h=>by rw[<-h];rfl
 refine i.elim (λh=>e 0 gY ?_ h.2.symm Z Z) λh=>h.elim (λh=>e 1 aaz ?_ h.2.symm Z Z) λh=>e 2 aaA ?_ h.2.symm Z Z
 ·rw[f _ h.1];exact ah (·::[]) (d _)
 ·rw[f _ h.1];exact ah (·::[]) (d _)
 ·rw[f _ h.1];exact ah (·::[]) (d _)
def l3{a b c:V}(g:a=d)(h:b=e)(i:c=f):[a,b,c]=[d,e,f]:=by rw[g,h,i]
def QR:V:=qN (.str [120]) (.str [33,116]) iN iN [106] .none
def agd{c1:aw}(h:th=sj∨th=SI)(f:c∈Bk)(k:ms.length=jk c)(K:PP (.av (qS c.s)) c.st (t7 c.s ms p) th J R A):PP (.av c.s) c.st ms th c.pre (Ea c.s p++(lA mk [aM ⟨13,a,b⟩,aM ⟨15,c1,d⟩,aM ⟨20,e,q⟩]++R)) (bB QR a q::A):=by have i:=λg=>Eb (c:=c) (p:=p) (X:=[a,b,c1,d,e,q]) (sx:=[106]) (qx:=0) (th:=th) (ms:=ms) (R:=R) g;have g:=λj l=>zD (c:=c) (p:=p) (X:=[a,b,c1,d,e,q]) (sx:=[106]) (qx:=0) (th:=th) (ms:=ms) (R:=R) j l;(have j:dY (cj (zz (fZ c.s p++[a,b,c1,d,e,q]) [106] 0 th ms R) (jk c)) (.av c.s) c.st c.pre (SJ c.s (zz (fZ c.s p++[a,b,c1,d,e,q]) [106] 0 th ms R)++lA mk (YU (zz (fZ c.s p++[a,b,c1,d,e,q]) [106] 0 th ms R) (g8 c.s)).ts)=fY (cj (zz (fZ c.s p++[a,b,c1,d,e,q]) [106] 0 th ms R) (jk c)) QR ((zz (fZ c.s p++[a,b,c1,d,e,q]) [106] 0 th ms R).m (2*g8 c.s+0)) ((zz (fZ c.s p++[a,b,c1,d,e,q]) [106] 0 th ms R).m (2*g8 c.s+5)) (.av (qS c.s)) c.st (Md c.s (cj (zz (fZ c.s p++[a,b,c1,d,e,q]) [106] 0 th ms R) (jk c))) J []:=by exact h.elim (λh=>by rw[h];exact d6 (fX.QO (zz (fZ c.s p++[a,b,c1,d,e,q]) [106] 0 sj ms R)) (x:=(c,mk)) (eY f (jB mk))) λh=>by rw[h];exact d6 (fX.QP (zz (fZ c.s p++[a,b,c1,d,e,q]) [106] 0 SI ms R)) (x:=(c,mk)) (eY f (jB mk)));(have E:(YU (zz (fZ c.s p++[a,b,c1,d,e,q]) [106] 0 th ms R) (g8 c.s)).ts=[aM ⟨13,a,b⟩,aM ⟨15,c1,d⟩,aM ⟨20,e,q⟩]:=by exact l3 (g 0 _) (g 1 ⟨134,[_],[]⟩) (g 2 _));rw[E,i,i]at j;exact t8 f k j K
def acp:∀c∈Bk,(c.st++[qS c.s],br (ac c.s 197) (jk c+1) (jk c))∈z3/\(xI (c.st++[qS c.s])=qS c.s/\(xJ (c.st++[qS c.s])=c.st/\bd (br (ac c.s 197) (jk c+1) (jk c)) 2=U)):=by decide
def Ec(d:ms.length=jk c):(t7 c.s ms p).length=br (ac c.s 197) (jk c+1) (jk c):=by unfold t7;cases ac c.s 197 with|true=>show(ms++[_]).length=jk c+1;rw[aX,d];rfl|false=>exact d
def QS(d:bd n 2)(h:ms.length=n):zC (zz M sx qx th (ms++[x]) R) (n+1)=ms++[x]/\zC (zz M sx qx th (ms++[x]) R) n=ms:=by
 cases n with
 |zero=>rw[wE h];exact⟨Z,Z⟩
 |succ n=>cases n with
  |zero=>cases ms with
   |nil=>exact nomatch h
   |cons a ms=>cases ms with
    |nil=>exact⟨Z,Z⟩
    |cons b ms=>exact nomatch h
  |succ n=>cases n with
   |zero=>cases ms with
    |nil=>exact nomatch h
    |cons a ms=>cases ms with
     |nil=>exact nomatch h
     |cons b ms=>cases ms with
      |nil=>exact⟨Z,Z⟩
      |cons c ms=>exact nomatch h
   |succ n=>exact ao d
def qi:V:=qN .none .none yes iN [107] .none
def Ed{sts:ae}(f:(sts,n)∈z3)(d:bd n 2)(e:ms.length=n)(K:PP (.av (xI sts)) (xJ sts) ms th J R A):PP (.av 194) sts ms th U (aM ⟨10,a1,b1⟩::aM ⟨16,a2,b2⟩::aM ⟨11,a3,b3⟩::R) (bB qi a2 b2::bB nj a3 b3::A):=by obtain⟨h,i⟩:=QS d e;have g:dY {zz [a3,b3] [] 0 th (ms++[tQ a1]) R with ms:=zC (zz [a3,b3] [] 0 th (ms++[tQ a1]) R) (n+1)} (.av 207) sts J [aM ⟨11,a3,b3⟩]=fY {zz [a3,b3] [] 0 th (ms++[tQ a1]) R with ms:=zC (zz [a3,b3] [] 0 th (ms++[tQ a1]) R) (n+1)} nj a3 b3 (.av (xI sts)) (xJ sts) (zC (zz [a3,b3] [] 0 th (ms++[tQ a1]) R) n) J []:=d6 (fX.Wt (zz [a3,b3] [] 0 th (ms++[tQ a1]) R)) (x:=(sts,n)) f;rw[h,i]at g;have h:=fJ g K;have g:=Jw (M:=[a1,b1,a2,b2]) (sx:=[107]) (qx:=0) (th:=th) (R:=aM ⟨11,a3,b3⟩::R) d e;have f1:dY (cj (zz [a1,b1,a2,b2] [107] 0 th ms (aM ⟨11,a3,b3⟩::R)) n) _ sts U [aM ⟨10,a1,b1⟩,aM ⟨16,a2,b2⟩]=fY _ qi a2 b2 _ sts (zC _ n++[tQ a1]) J []:=d6 (fX.Ws _) (x:=(sts,n)) f;rw[g]at f1;have d:=fJ f1 h;have d:PP _ sts (zC _ n) th U _ _:=d;rw[g]at d;exact d
def acq(d:c∈Bk)(e:ms.length=jk c)(K:PP (.av (qS c.s)) c.st (t7 c.s ms p) th J R A):PP (.av c.s) c.st ms th c.pre (Ea c.s p++(lA mk [aM ⟨10,a1,b1⟩,aM ⟨16,a2,b2⟩,aM ⟨11,a3,b3⟩]++R)) (bB (Bj .none yes) a1 b1::bB qi a2 b2::bB nj a3 b3::A):=by(obtain⟨m,f,g,h⟩:=acp c d;have i:=Ed (a1:=a1) (b1:=b1) (a2:=a2) (b2:=b2) (a3:=a3) (b3:=b3) m h (Ec e) (by rw[f,g];exact K);have f:=λg=>Eb (c:=c) (p:=p) (X:=[a1,b1]) (sx:=[]) (qx:=0) (th:=th) (ms:=ms) (R:=aM ⟨16,a2,b2⟩::aM ⟨11,a3,b3⟩::R) g;have g:=λj k=>zD (c:=c) (p:=p) (X:=[a1,b1]) (sx:=[]) (qx:=0) (th:=th) (ms:=ms) (R:=aM ⟨16,a2,b2⟩::aM ⟨11,a3,b3⟩::R) j k;have r:dY (cj (zz (fZ c.s p++[a1,b1]) [] 0 th ms (aM ⟨16,a2,b2⟩::aM ⟨11,a3,b3⟩::R)) (jk c)) (.av c.s) c.st c.pre (SJ c.s (zz (fZ c.s p++[a1,b1]) [] 0 th ms (aM ⟨16,a2,b2⟩::aM ⟨11,a3,b3⟩::R))++lA mk [(zz (fZ c.s p++[a1,b1]) [] 0 th ms (aM ⟨16,a2,b2⟩::aM ⟨11,a3,b3⟩::R)).t (kS 102) (g8 c.s+0)])=fY (cj (zz (fZ c.s p++[a1,b1]) [] 0 th ms (aM ⟨16,a2,b2⟩::aM ⟨11,a3,b3⟩::R)) (jk c)) (Bj .none yes) ((zz (fZ c.s p++[a1,b1]) [] 0 th ms (aM ⟨16,a2,b2⟩::aM ⟨11,a3,b3⟩::R)).m (2*g8 c.s+0)) ((zz (fZ c.s p++[a1,b1]) [] 0 th ms (aM ⟨16,a2,b2⟩::aM ⟨11,a3,b3⟩::R)).m (2*g8 c.s+1)) (.av 194) (c.st++[qS c.s]) (Md c.s (cj (zz (fZ c.s p++[a1,b1]) [] 0 th ms (aM ⟨16,a2,b2⟩::aM ⟨11,a3,b3⟩::R)) (jk c))) U [(zz (fZ c.s p++[a1,b1]) [] 0 th ms (aM ⟨16,a2,b2⟩::aM ⟨11,a3,b3⟩::R)).t (kS 102) (g8 c.s+0)]:=d6 (fX.Wo (zz (fZ c.s p++[a1,b1]) [] 0 th ms (aM ⟨16,a2,b2⟩::aM ⟨11,a3,b3⟩::R))) (x:=(c,mk)) (eY d (jB mk));rw[g,f,f]at r;have Q:=t8 d e r i;have X:lA mk [t6 (kS 102) (kA (2*0) [a1,b1] dU) (kA (2*0+1) [a1,b1] dU)]++(aM ⟨16,a2,b2⟩::aM ⟨11,a3,b3⟩::R)=lA mk [aM ⟨10,a1,b1⟩,aM ⟨16,a2,b2⟩,aM ⟨11,a3,b3⟩]++R:=by generalize mk=u;cases u<;>rfl);rw[X]at Q;exact Q
def acr(f:c∈Bk)(h:ms.length=jk c)(g:(mk,e)∈L! c.s)(K:PP (.av (qS c.s)) c.st (t7 c.s ms p) th U (t6 (kS e) P d::R) A):PP (.av c.s) c.st ms th c.pre (Ea c.s p++(lA mk []++(t6 (kS e) P d::R))) (bB (qN .none .none yes iN [] .none) (vp c.s p) (vp c.s p)::A):=by(have i:(zz (fZ c.s p++[P,d]) [] 0 th ms R).m (2*g8 c.s-1)=vp c.s p:=by unfold g8 fZ vp;cases q:ac c.s 197 with|true=> rw[show c.s=197 from aK q];rfl|false=>cases ac c.s 203<;>rfl);(have j:=zD (c:=c) (p:=p) (X:=[P,d]) (sx:=[]) (qx:=0) (th:=th) (ms:=ms) (R:=R) 0 (kS e);have r:dY (cj (zz (fZ c.s p++[P,d]) [] 0 th ms R) (jk c)) (.av c.s) c.st c.pre (SJ c.s (zz (fZ c.s p++[P,d]) [] 0 th ms R)++lA mk [(zz (fZ c.s p++[P,d]) [] 0 th ms R).t (kS e) (g8 c.s+0)])=fY (cj (zz (fZ c.s p++[P,d]) [] 0 th ms R) (jk c)) (qN .none .none yes iN [] .none) ((zz (fZ c.s p++[P,d]) [] 0 th ms R).m (2*g8 c.s-1)) ((zz (fZ c.s p++[P,d]) [] 0 th ms R).m (2*g8 c.s-1)) (.av (qS c.s)) c.st (Md c.s (cj (zz (fZ c.s p++[P,d]) [] 0 th ms R) (jk c))) U [(zz (fZ c.s p++[P,d]) [] 0 th ms R).t (kS e) (g8 c.s+0)]:=d6 (fX.Wq (zz _ [] 0 th ms R)) (x:=(c,mk,e)) (AC.mpr ⟨_,eO.mpr ⟨c,f,Z⟩,eO.mpr ⟨_,g,Z⟩⟩);rw[j,i]at r;have Q:=t8 f h r K;have X:lA mk [t6 (kS e) (kA (2*0) [P,d] dU) (kA (2*0+1) [P,d] dU)]++R=lA mk []++(t6 (kS e) P d::R):=by generalize mk=u;cases u<;>rfl);rw[X]at Q;exact Q
end
def vo(e:I)(s:W)(P:aw)(R:af):=∃K b a,R=t6 (kS K) P b::a/\(e,K)∈L! s
structure t9(th:PA)(L:Y Pc)(tk:I->aw->aw->af)(ev:aw->aw->af):Prop where
 go:∀{c:Pc}{e:I}{ms:af}{p P:aw}{R told:af},c∈L->ms.length=jk c->vo e c.s P R->SK e (.av (qS c.s)) c.st (t7 c.s ms p) th R told->PP (.av c.s) c.st ms th c.pre (Ea c.s p++(tk e (vp c.s p) P++R)) (ev (vp c.s p) P++told)
def SM(s:ae):V:=qN .none .none yes iN s .none
def YV(s:ae)(q:W):V:=qN .none .none iN yes s (.str [q])
def Ee(f:W):V:=kA f [SM [97],SM [98,32,99],SM [100,32,101],YV [102,32,103] 39,YV [104,105] 34,QN [120],.none,.none,YV [108,10] 124,YV [109,32,110] 62,SM [106]] (SM [107])
def ji(a:Y D)(l:Lf)(p:aw):af:=br (ac l.f 6) [bB QR p (aW p 7 0 (p.2.2+7))] (br (ac l.f 7) [bB (Bj .none yes) p (aW p 1 0 (p.2.2+1)),bB qi (aW p 1 0 (p.2.2+1)) (aW p 2 0 (p.2.2+2)),bB nj (aW p 2 0 (p.2.2+2)) (aW p 3 0 (p.2.2+3))] [bB (Ee l.f) p (dC a l p)])
def Ë(a b:Pc):I:=ac a.s b.s&&cW a.st b.st&&(a.pre==b.pre)
def WB(a:Pc)(l:Y Pc):I:=bm (motive:=λ_=>I) J (λb _ c=>br (Ë b a) U c) l
def bkP(x:Pc×I×W):I:=WB x.1 Bk
def QT(v:I)(s:Y D)(g:W)(l:Lf)(p a:aw):af:=ji s l (Wa v s g p)
def Ê(p a:aw):af:=[bB (qN .none .none yes iN [] .none) p p]
section
variable{z:Fz}{s v:V}{mk e m:I}{t R u ms:af}{a b p q P:aw}{th:PA}{c:Pc}{sx:ae}{qx:W}{L:Y Pc}{l:Lf}{st:Y D}
def YW:y! e m T++R=lA (br e m J) T++br e (br m R (MARK::R)) R:=by
 cases e with
 |false=>rfl
 |true=>cases m with
  |true=>rfl
  |false=>show(T++[MARK])++R=T++_;rw[am];rfl
def YX(d:jp l.f 12)(h:(br (ac l.f 6) U (ac l.f 7))=J):∃sx qx,(PT (z0 l)=kP sx/\Ee l.f=qN .none .none yes iN sx .none)∨(PT (z0 l)=kQ sx qx/\Ee l.f=qN .none .none iN yes sx (.str [qx]))∨(PT (z0 l)=kV 117 sx/\Ee l.f=QN sx):=by
 obtain⟨f,e,g,z⟩:=l;revert d h
 induction f using VV
 ·exact λ_ _=>⟨[97],0,.inl ⟨Z,Z⟩⟩
 ·exact λ_ _=>⟨[98,32,99],0,.inl ⟨Z,Z⟩⟩
 ·exact λ_ _=>⟨[100,32,101],0,.inl ⟨Z,Z⟩⟩
 ·exact λ_ _=>⟨[102,32,103],39,.inr (.inl ⟨Z,Z⟩)⟩
 ·exact λ_ _=>⟨[104,105],34,.inr (.inl ⟨Z,Z⟩)⟩
 ·exact λ_ _=>⟨[120],0,.inr (.inr ⟨Z,Z⟩)⟩
 ·exact λ_ h=>ao h.symm
 ·exact λ_ h=>ao h.symm
 ·exact λ_ _=>⟨[108,10],124,.inr (.inl ⟨Z,Z⟩)⟩
 ·exact λ_ _=>⟨[109,32,110],62,.inr (.inl ⟨Z,Z⟩)⟩
 ·rename_i f
  intro d _;cases f with
  |zero=>exact⟨[106],0,.inl ⟨Z,Z⟩⟩
  |succ f=>cases f with
   |zero=>exact⟨[107],0,.inl ⟨Z,Z⟩⟩
   |succ f=>exact ao d
def QU(g:th=sj∨th=SI)(h:jp l.f 12)(d:c∈Bk)(f:ms.length=jk c)(K:PP (.av (qS c.s)) c.st (t7 c.s ms p) th J R u):PP (.av c.s) c.st ms th c.pre (Ea c.s p++(lA mk ((i8 st l q).map aM)++R)) (ji st l q++u):=by
 unfold i8 ji;cases i:ac l.f 6 with
 |true=>exact agd g d f K
 |false=>cases g:ac l.f 7 with
  |true=>exact acq d f K
  |false=> obtain⟨sx,qx,j⟩:=YX h (by rw[i,g];rfl);exact aco d f j K
def acv{v:I}{s:Y D}(d:th=sj∨th=SI)(f:jp l.f 12)(h:∀c∈L,c∈Bk):t9 th L (E1 v s g l) (QT v s g l)where
 go:=λ{c e ms p P R u}g i _ K=>by
  unfold E1 QT;rw[YW];refine QU d f (h c g) i ?_;cases e with
  |false=>exact K.a J
  |true=>cases mL _ l with
   |true=>exact K.a J
   |false=>exact K.b Z
def acw(d:∀c∈L,c∈Bk):t9 th L V' Ê where
 go:=λ{c e ms p P R u}f g H K=>by obtain⟨h,b,h,q,h⟩:=H;rw[q]at K ⊢;have i:=acr (d c f) g h (K.a U);exact i
def Jx{a b:Pc}(h:Ë a b):a=b:=ag h λh d=>ag h λf g=>by obtain⟨i,j,k⟩:=a;obtain⟨n,o,r⟩:=b;rw[show i=n from aK f,show j=o from oM g,show k=r from gc.mp d]
def Bm{a:Pc}{l:Y Pc}(h:WB a l):a∈l:=by induction l with|nil=>exact ao h|cons b l d=>exact nG h (λh _=>Jx h▸.head _) λ_ h=>.tail _ (d h)
def WC:aH bkP u'=U:=by kernel_rfl
def age(x:Pc×I×W)(h:x∈u'):x.1∈Bk:=Bm (ai WC h)
def WD{an:I}(g:(c,an,k)∈u')(h:ms.length=jk c)(K:PP (.av (Wm k)) (c.st++[qS c.s]) (t7 c.s ms p) th U (t6 (kS k) a b::R) u):PP (.av c.s) c.st ms th c.pre (Ea c.s p++(br an [aM ⟨14,a0,b0⟩] []++(t6 (kS k) a b::R))) (bB (EH k an) (br an a0 a) (br (ac k 112) b a)::u):=by have n:=age _ g;cases an with|true=>(have d:=λi=>Eb (c:=c) (p:=p) (X:=[a0,b0,a,b]) (sx:=[]) (qx:=0) (th:=th) (ms:=ms) (R:=R) i;have f:=λj k=>zD (c:=c) (p:=p) (X:=[a0,b0,a,b]) (sx:=[]) (qx:=0) (th:=th) (ms:=ms) (R:=R) j k;have o:2*(g8 c.s+1)+br (ac k 112) 1 0=2*g8 c.s+(2+br (ac k 112) 1 0):=by rw[I_,fK]);(have r:dY (cj (zz (fZ c.s p++[a0,b0,a,b]) [] 0 th ms R) (jk c)) (.av c.s) c.st c.pre (SJ c.s (zz (fZ c.s p++[a0,b0,a,b]) [] 0 th ms R)++[(zz (fZ c.s p++[a0,b0,a,b]) [] 0 th ms R).t (kV 119 [122]) (g8 c.s+0),(zz (fZ c.s p++[a0,b0,a,b]) [] 0 th ms R).t (kS k) (g8 c.s+1)])=fY (cj (zz (fZ c.s p++[a0,b0,a,b]) [] 0 th ms R) (jk c)) (EH k U) ((zz (fZ c.s p++[a0,b0,a,b]) [] 0 th ms R).m (2*g8 c.s+0)) ((zz (fZ c.s p++[a0,b0,a,b]) [] 0 th ms R).m (2*(g8 c.s+1)+br (ac k 112) 1 0)) (.av (Wm k)) (c.st++[qS c.s]) (Md c.s (cj (zz (fZ c.s p++[a0,b0,a,b]) [] 0 th ms R) (jk c))) U [(zz (fZ c.s p++[a0,b0,a,b]) [] 0 th ms R).t (kS k) (g8 c.s+1)]:=d6 (fX.Ju (zz (fZ c.s p++[a0,b0,a,b]) [] 0 th ms R)) (x:=(c,U,k)) g;rw[o,f,f,d,d]at r;have Q:=t8 n h r K;have X:kA (2+br (ac k 112) 1 0) [a0,b0,a,b] dU=br (ac k 112) b a:=by cases ac k 112<;>rfl);rw[X]at Q;exact Q|false=>(have d:=λi=>Eb (c:=c) (p:=p) (X:=[a,b]) (sx:=[]) (qx:=0) (th:=th) (ms:=ms) (R:=R) i;have f:=λj k=>zD (c:=c) (p:=p) (X:=[a,b]) (sx:=[]) (qx:=0) (th:=th) (ms:=ms) (R:=R) j k;have r:dY (cj (zz (fZ c.s p++[a,b]) [] 0 th ms R) (jk c)) (.av c.s) c.st c.pre (SJ c.s (zz (fZ c.s p++[a,b]) [] 0 th ms R)++[(zz (fZ c.s p++[a,b]) [] 0 th ms R).t (kS k) (g8 c.s+0)])=fY (cj (zz (fZ c.s p++[a,b]) [] 0 th ms R) (jk c)) (EH k J) ((zz (fZ c.s p++[a,b]) [] 0 th ms R).m (2*g8 c.s+0)) ((zz _ [] 0 th ms R).m (2*g8 c.s+br _ 1 0)) _ _ _ U [(zz _ [] 0 th ms R).t _ (g8 c.s+0)]:=d6 (fX.Ju _) (x:=(c,J,k)) g;rw[f,d,d]at r;have Q:=t8 n h r K;have X:kA (br (ac k 112) 1 0) [a,b] dU=br (ac k 112) b a:=by cases ac k 112<;>rfl);rw[X]at Q;exact Q
end
def s0(v i:I):W:=br v 198 (br i 192 197)
def js(v i:I):W:=br v 202 (br i 192 199)
def E!(v i:I):W:=br v 203 (br i 192 199)
def Jy(v i:I)(a:ae):Y Pc:=br v [⟨203,a,J⟩] (br i [⟨192,a,U⟩,⟨192,a,J⟩] [⟨197,a,U⟩,⟨199,a,J⟩,⟨199,a,U⟩])
def x6(v a:I)(p:aw):af:=b? aM (br v (br a [Tk.mk 6 p p] []++[Tk.mk 8 p p,Tk.mk 16 p (aW p 1 0 (p.2.2+1)),Tk.mk 9 (aW p 1 0 (p.2.2+1)) (aW p 2 0 (p.2.2+2))]) (br a [Tk.mk 5 p p] []++[Tk.mk 7 p (aW p 1 0 (p.2.2+1))]))
def Jz(v:I)(p:aw):af:=br v [bB qi p (aW p 1 0 (p.2.2+1))] []
def Ef(v:I)(c:D)(a:Y gR):aw->aw->af:=bm (motive:=λ_=>aw->aw->af) (λ_ _=>[]) (λE a d p b=>Jz v p++(E.ev (qL v p) (uX v c E a p b)++d (uX v c E a p b) b)) a
def eJ(v:I)(c:D)(E:gR)(a:Y gR)(p b:aw):af:=Jz v p++(E.ev (qL v p) (uX v c E a p b)++Ef v c a (uX v c E a p b) b)
def WE(v i:I)(a:ae):=a∈r?/\(i->v=J/\a=[179,202])
section
variable{v i first pre e:I}{R w ms:af}{p P Pe:aw}{th:PA}{st:ae}{c:D}{s st0:Y D}{E:gR}{Es:Y gR}
def agf(a:st∈r?)(b:first->pre):Ę (cj z (st.length-br first 1 0)) (first,pre,st)=ė (cj z (st.length-br first 1 0)) (first,pre,st):=by
 refine d6 (fX.Wr z) (eO.mpr ⟨((first,pre),st),eY ?_ a,Z⟩)
 induction first with
 |true=>rw[b Z];exact .head _
 |false=>induction pre with
  |true=>exact .tail _ aaz
  |false=>exact .tail _ gY
def WG(h:st∈r?):bd st.length 2:=by
 cases h with
 |head=>rfl
 |tail _ h=>cases h with
  |head=>rfl
  |tail _ h=>cases h with
   |head=>rfl
   |tail _ h=>exact nomatch h
def acx(h:st∈r?):1<=st.length:=by
 cases h with
 |head=>exact aU 1
 |tail _ h=>cases h with
  |head=>exact iI 1
  |tail _ h=>cases h with
   |head=>exact iI 1
   |tail _ h=>exact nomatch h
def Eg(f:WE v i st)(k:first->pre)(d:t9 th (Jy v i st) E.tk E.ev)(a:ms.length=br (first&&!i) (st.length-1) (br i 1 st.length))(H:vo e (E! v i) P R)(K:SK e (.av (js v i)) st (br (first&&!i) (ms++[tQ p]) ms) th R w):
  PP (.av (br first (s0 v i) (js v i))) st ms th pre (x6 v (first&&!i) p++(E.tk e (qL v p) P++R)) (Jz v p++(E.ev (qL v p) P++w)):=by
 induction v with
 |false=>
  induction i with
  |true=>
   have g:(first&&!U)=J:=q_ _;rw[g]at a K ⊢;have m:(⟨192,st,pre⟩)∈Jy J U st:=by cases pre;exact .tail _ gY;exact .head _
   have h:=d.go m a H K;cases first<;>exact h
  |false=>
   induction first with
   |true=> rw[k Z];exact d.go gY a H K
   |false=>
    have m:(⟨199,st,pre⟩)∈Jy J J st:=by cases pre;exact .tail _ gY;exact .tail _ aaz
    exact d.go m a H K
 |true=>
  have n:i=J:=by
   induction i with
   |false=>rfl
   |true=>exact ao (f.2 Z).1.symm
  rw[n]at a K ⊢;have g:(first&&!J)=first:=Bool.and_true _;rw[g]at a K ⊢;have a:=a;have K:=K;have L:ms.length=st.length-br first 1 0:=by cases first<;>exact a
  have l:bd (st.length-br first 1 0) 2:=hH (ay (EM _ _) (cw (WG f.1)))
  have o:(br first (ms++[tQ p]) ms).length=jk ⟨203,st,J⟩:=by
   have r:=acx f.1
   induction first with
   |false=>exact a
   |true=> show(ms++[tQ p]).length=st.length;rw[aX,L];exact m6 r
  have h:=d.go (p:=p) gY o H K
  have t:dY (cj (zz (br first [p,p,p,p,p,aW p 1 0 (p.2.2+1)] [p,p,p,aW p 1 0 (p.2.2+1)]) [107] 0 th ms (Ea 203 p++(E.tk e (vp 203 p) P++R))) (st.length-br first 1 0)) (.av (br first 198 202)) st pre (br first [aM ⟨6,p,p⟩,aM ⟨8,p,p⟩,aM ⟨16,p,aW p 1 0 (p.2.2+1)⟩] [aM ⟨8,p,p⟩,aM ⟨16,p,aW p 1 0 (p.2.2+1)⟩])=fY (cj (zz (br first [p,p,p,p,p,aW p 1 0 (p.2.2+1)] [p,p,p,aW p 1 0 (p.2.2+1)]) [107] 0 th ms (Ea 203 p++(E.tk e (vp 203 p) P++R))) (st.length-br first 1 0)) qi p (aW p 1 0 (p.2.2+1)) (.av 203) st (br first (ms++[tQ p]) ms) J []:=by
   have q:=agf (z:=zz (br first [p,p,p,p,p,aW p 1 0 (p.2.2+1)] [p,p,p,aW p 1 0 (p.2.2+1)]) [107] 0 th ms (Ea 203 p++(E.tk e (vp 203 p) P++R))) f.1 k;have j:=Jw (M:=br first [p,p,p,p,p,aW p 1 0 (p.2.2+1)] [p,p,p,aW p 1 0 (p.2.2+1)]) (sx:=[107]) (qx:=0) (th:=th) (R:=(Ea 203 p++(E.tk e (vp 203 p) P++R))) l L;have g:∀x:af,x=ms->fY (cj (zz (br first [p,p,p,p,p,aW p 1 0 (p.2.2+1)] [p,p,p,aW p 1 0 (p.2.2+1)]) [107] 0 th ms (Ea 203 p++(E.tk e (vp 203 p) P++R))) (st.length-br first 1 0)) qi p (aW p 1 0 (p.2.2+1)) (.av 203) st (br first (x++[tQ p]) x) J []=fY _ qi p _ _ st (br first _ ms) J []:=λx e=>by rw[e]
   refine l? ?_ (g _ j)
   induction first with
   |true=>exact q
   |false=>exact q
  have b:=fJ t h;have j:=Jw (M:=br first [p,p,p,p,p,aW p 1 0 (p.2.2+1)] [p,p,p,aW p 1 0 (p.2.2+1)]) (sx:=[107]) (qx:=0) (th:=th) (R:=(Ea 203 p++(E.tk e (vp 203 p) P++R))) l L;have b:PP _ st (zC _ _) th pre _ _:=b;rw[j]at b
  induction first with
  |true=>exact b
  |false=>exact b
def QV(a:p.2.2=c):Qr v c st0 p=x6 v (a? (top st0<c)) p:=by rw[<-a];unfold Qr x6 J_ Dt;cases v<;>cases a? (top st0<p.2.2)<;>rfl
def QW(d:WE v i st)(b:top s=c)(f:ms.length=br i 1 st.length)(H:vo e (E! v i) Pe R)(K:SK e (.av (js v i)) st ms th R w):∀(Es:Y gR){p:aw},(∀E∈Es,t9 th (Jy v i st) E.tk E.ev)->(Es=[]->p=Pe)->(Es≠[]->p.2.2=c)->
  SK (br Es.isEmpty e J) (.av (js v i)) st ms th (YQ e v c s Es p Pe++R) (Ef v c Es p Pe++w)/\vo (br Es.isEmpty e J) (E! v i) p (YQ e v c s Es p Pe++R):=by
 intro Es
 induction Es with
 |nil=>exact λ{p} _ g _=>⟨K,by rw[g Z];exact H⟩
 |cons E Es h=>
  intro p a _ g;have j:=g (bN _ _)
  obtain⟨k,l⟩:=h (p:=uX v c E Es p Pe) (λE m=>a E (.tail _ m)) (λq=>by rw[q];rfl) (λq=>by
   induction Es with
   |nil=>exact ch Z q
   |cons _ _ _=>rfl)
  have S:Qr v c s p=x6 v J p:=by rw[QV j,b,dQ (FM c)]
  have X:YQ e v c s (E::Es) p Pe++R=x6 v J p++(E.tk (br Es.isEmpty e J) (qL v p) (uX v c E Es p Pe)++(YQ e v c s Es (uX v c E Es p Pe) Pe++R)):=by show(Qr v c s p++(E.tk _ _ _++YQ e v c s Es _ Pe))++R=_;rw[S,am,am]
  have b:Ef v c (E::Es) p Pe++w=Jz v p++(E.ev (qL v p) (uX v c E Es p Pe)++(Ef v c Es (uX v c E Es p Pe) Pe++w)):=by show(Jz v p++(E.ev _ _++Ef v c Es _ Pe))++w=_;rw[am,am]
  rw[X,b];refine⟨⟨λpre=>Eg d (λq=>ao q) (a E gY) f l k,λq=>ao q⟩,?_⟩;generalize v=u
  induction u with
  |false=>exact⟨112,_,_,Z,by cases i<;>exact .tail _ aaz⟩
  |true=>exact⟨113,_,_,Z,.tail _ aaz⟩
def xM(b:WE v i st)(f:top s=c)(j:a? (top st0<c)=!i)(a:ms.length=br i 1 (st.length-1))(d:1<=st.length)(h:p.2.2=c)(k:t9 th (Jy v i st) E.tk E.ev)(g:∀E∈Es,t9 th (Jy v i st) E.tk E.ev)(H:vo e (E! v i) Pe R)(K:SK e (.av (js v i)) st (br i ms (ms++[tQ p])) th R w):
  PP (.av (s0 v i)) st ms th U (D4 e v c st0 s E Es p Pe++R) (eJ v c E Es p Pe++w):=by
 have l:(br i ms (ms++[tQ p])).length=br i 1 st.length:=by
  induction i with
  |true=>exact a
  |false=> show(ms++[tQ p]).length=st.length;rw[aX,a];exact m6 d
 obtain⟨m,n⟩:=QW (p:=uX v c E Es p Pe) b f l H K Es g (λq=>by rw[q];rfl) (λq=>by
  induction Es with
  |nil=>exact ch Z q
  |cons _ _ _=>rfl)
 have X:D4 e v c st0 s E Es p Pe++R=x6 v (U&&!i) p++(E.tk (br Es.isEmpty e J) (qL v p) (uX v c E Es p Pe)++(YQ e v c s Es (uX v c E Es p Pe) Pe++R)):=by show(Qr v c st0 p++_)++R=_;rw[QV h,j,am,am];rfl
 have d:eJ v c E Es p Pe++w=Jz v p++(E.ev (qL v p) (uX v c E Es p Pe)++(Ef v c Es (uX v c E Es p Pe) Pe++w)):=by show(Jz v p++_)++w=_;rw[am,am]
 rw[X,d];exact Eg (first:=U) b (λ_=>Z) k (by cases i<;>exact a) n (by cases i<;>exact m)
end
def lY(v:I):V:=br v D8 nj
def jJ(v:I)(w:W):W:=br v 115 (br (ac w 3) 112 111)
def vq(k:W)(a:I)(b q:aw):V:=bB (EH k a) (br a b q) (br (ac k 112) (aW q 1 0 (q.2.2+1)) q)
def LD(r:D)(S:Mc)(p P:aw):af:=vq (jJ S.v S.w) S.an (D5 p) (BK r S p)::(eJ S.v (pd r S.w) S.E S.Es (BK r S p) P++[bB (lY S.v) P P])
def EN:Y Pc:=[⟨197,[179],U⟩,⟨199,[179],J⟩,⟨199,[179],U⟩,⟨203,[179],J⟩]
def agg(c:Pc):I:=br (ac c.s 192) J U&&cW c.st [179]&&ac (br (ac c.s 197) (jk c+1) (jk c)) 1&&br (ac (qS c.s) 199) U (ac (qS c.s) 202)
section
variable{v i pre e an:I}{R told ms:af}{p P Q Pe b:aw}{th:PA}{n k:W}{st:ae}{c:D}{c0:Pc}{s st0:Y D}{E:gR}{Es:Y gR}{x:V}
def YY(a:(st,n)∈[([179],0),([179,199],1),([179,202],1)])(f:ms.length=n)(K:PP (.av (xI st)) (xJ st) ms th J R told):SK e (.av (js v J)) st (ms++[x]) th (aM ⟨4,P,Q⟩::R) (bB (lY v) P Q::told):=by
 have g:bd n 2:=by
  cases a with
  |head=>rfl
  |tail _ h=>cases h with
   |head=>rfl
   |tail _ h=>cases h with
    |head=>rfl
    |tail _ h=>exact nomatch h
 obtain⟨j,l⟩:=QS (M:=[P,Q]) (sx:=[]) (qx:=0) (th:=th) (R:=R) (x:=x) g f
 have r:∀{pre mk:I},(pre,mk)∈[(J,J),(U,J),(J,U)]->PP (.av (js v J)) st (ms++[x]) th pre (lA mk [aM ⟨4,P,Q⟩]++R) (bB (lY v) P Q::told):=λ{pre mk}h=>by
  have m1:js v J∈[199,202]:=by cases v;exact .head _;exact .tail _ gY
  have d:dY {zz [P,Q] [] 0 th (ms++[x]) R with ms:=zC (zz [P,Q] [] 0 th (ms++[x]) R) (n+1)} (.av (js v J)) st pre (lA mk [aM ⟨4,P,Q⟩])=fY (zz [P,Q] [] 0 th (ms++[x]) R) (br (ac (js v J) 199) nj D8) P Q (.av (xI st)) (xJ st) (zC (zz [P,Q] [] 0 th (ms++[x]) R) n) J []:=d6 (fX.Wu (zz [P,Q] [] 0 th (ms++[x]) R)) (x:=((js v J,st,n),pre,mk)) (eY (eY m1 a) h);rw[j,l,show br (ac (js v J) 199) nj D8=lY v by generalize v=u;cases u<;>rfl]at d;have a:=fJ d K;exact a
 refine⟨λpre=>?_,λ_=>r (mk:=U) aaA⟩
 induction pre with
 |true=>exact r (mk:=J) aaz
 |false=>exact r (mk:=J) gY
def agh(d:a=93∨(a=113/\e=J))(f:ms.length=1)(K:PP (.av 202) [179] ms th U (t6 (kS a) P b::R) told):SK e (.av 192) [179,202] ms th (t6 (kS a) P b::R) (bB nj P P::told):=by(have r:=λ{pre mk}h=>by have f:=d6 (fX.Wv {zz [P,b] [] 0 th [] R with ms:=ms}) (x:=(a,pre,mk)) h;exact fJ (z:={zz [P,b] [] 0 th [] R with ms:=ms}) f K);refine⟨λpre=>?_,λg=>?_⟩;refine r (mk:=J) (d.elim (λh=>?_) λh=>?_);rw[h];cases pre;exact .head _;exact .tail _ gY;rw[h.1];cases pre;exact .tail _ aaA;exact .tail _ aaC;refine r (mk:=U) (d.elim (λh=>?_) λh=>ao (il h.2 g));rw[h];exact .tail _ aaz
def LF:aH agg EN=U:=by kernel_rfl
def Bn(a:p.2.2=c)(d:a? (top st0<c)=!i)(f:i->v=J):∃T,D4 e v c st0 s E Es p Pe=t6 (kS (br v 115 (br i 112 111))) p (br (ac (br v 115 (br i 112 111)) 112) (aW p 1 0 (p.2.2+1)) p)::T:=by
 unfold D4;rw[QV a,d]
 induction v with
 |true=>induction i with
  |true=>exact ao (f Z).symm
  |false=>exact⟨_,Z⟩
 |false=>induction i with
  |true=>exact⟨_,Z⟩
  |false=>exact⟨_,Z⟩
def acy(a:w=0∨w=1∨w=2∨w=3):a? (top [r]<pd r w)=!(ac w 3):=by have G:∀{b:D},0<b->a? (top [r]<r+b):=λh=>cF (o0 r h);refine a.elim (λh=>?_) λh=>h.elim (λh=>?_) λh=>h.elim (λh=>?_) λh=>?_;rw[h];exact G (aO Z);rw[h];exact G (aO Z);rw[h];exact G (aO Z);rw[h];exact dQ (FM r)
section
variable{i:I}{M:af}
def he3(h:(e,a)∈[(J,93),(U,93),(J,113)]):(a=93∨(a=113/\e=J))/\(e,a)∈L! 192:=by
 cases h with
 |head=>exact⟨.inl Z,.head _⟩
 |tail _ h=>cases h with
  |head=>exact⟨.inl Z,.tail _ gY⟩
  |tail _ h=> obtain⟨a,d⟩:=gE (eC.mp h);rw[a,d];exact⟨.inr ⟨Z,Z⟩,.tail _ aaA⟩
def acz(f:i->v=J)(g:i->c0.s=203)(d:c0.st=[179])(nx:qS c0.s=199∨qS c0.s=202)(a:M.length=1)(H:vo e c0.s P R)(K:SK e (.av (qS c0.s)) c0.st M th R told):SK e (.av (js v i)) [179,qS c0.s] (br i M (M++[x])) th ((br i [] [aM ⟨4,P,P⟩])++R) (bB (lY v) P P::told)/\vo e (E! v i) P ((br i [] [aM ⟨4,P,P⟩])++R):=by rw[d]at K;induction i with|true=> rw[f Z];rw[g Z]at H K ⊢;obtain⟨d,b,f,g,h⟩:=H;obtain⟨j,l⟩:=he3 h;rw[g]at K ⊢;exact⟨agh j a (K.a U),d,b,f,Z,l⟩|false=>exact⟨YY (nx.elim (λh=>by rw[h];exact .tail _ gY) λh=>by rw[h];exact .tail _ aaz) a (K.a J),93,P,R,Z,by induction e with|false=>exact .head _|true=>exact .tail _ gY⟩
def agi(f:c0∈EN)(d:ac w 3->v=J)(a:ac w 3->c0.s=203):(c0,an,jJ v w)∈u':=by have g:∀{k},k∈[111,115]->(c0,an,k)∈u':=λm=>h? _ (eY f (eY (jB an) m));revert d a;unfold jJ;induction ac w 3 with|false=>(induction v with|true=>exact λ_ _=>g aaz|false=>exact λ_ _=>g gY)|true=>intro d a;(have g:=by have z:∀c∈EN,c.s=203->c=⟨203,[179],J⟩:=λc h e=>Jx (aO (ai (show aH (λc=>a? (c.s=203->Ë c ⟨203,[179],J⟩=U)) EN=U by kernel_rfl) h) e);exact z _ f (a Z));rw[d Z,g];exact db _ (eY gY (eY (jB an) gY))
end
def acA(a:ac w 3->v=J):s0 v (ac w 3)=Wm (jJ v w):=by revert a;unfold jJ;induction ac w 3 with|true=>exact λa=>by rw[a Z];rfl|false=>exact λ_=>by generalize v=u;cases u<;>rfl
def acB{S:Mc}(y:r∈rS)(h:uE v S.w S.an)(a:ac S.w 3->S.v=J)(f:∀c∈L,c∈EN/\(ac S.w 3->c.s=203))(z:∀st,WE S.v (ac S.w 3) st->t9 th (Jy S.v (ac S.w 3) st) S.E.tk S.E.ev)(A:∀E∈S.Es,∀st,WE S.v (ac S.w 3) st->t9 th (Jy S.v (ac S.w 3) st) E.tk E.ev):t9 th L (D' r S) (LD r S)where
 go:=λ{c e ms p P R told}B j H K=>by
  obtain⟨l,d⟩:=f c B;refine ag (ai LF l) λf B=>ag f λf F=>ag f λf m=>?_;have f:=GZ h;have G:=Wg y f;have o:=acy (r:=r) f;have nx:qS c.s=199∨qS c.s=202:=nG B (λh _=>.inl (aK h)) λ_ h=>.inr (aK h);have g:WE S.v (ac S.w 3) [179,qS c.s]:=⟨nx.elim (λh=>by rw[h];exact .tail _ gY) λh=>by rw[h];exact .tail _ aaz,λh=>⟨a h,by rw[d h];rfl⟩⟩;have f:(t7 c.s ms p).length=1:=(Ec j).trans (aK F);obtain⟨M,T⟩:=acz (x:=tQ (BK r S (vp c.s p))) a d (oM m) nx f H K;have q:=xM g G.t o (by rw[f];cases ac S.w 3<;>rfl) (eN (eG _)) Z (z _ g) (λE f=>A E f _ g) T M;obtain⟨T,t⟩:∃T,D4 e S.v (pd r S.w) [r] (GY r S.w) S.E S.Es (BK r S (vp c.s p)) P=t6 (kS (jJ S.v S.w)) (BK r S (vp c.s p)) (br (ac (jJ S.v S.w) 112) (aW (BK r S (vp c.s p)) 1 0 ((BK r S (vp c.s p)).2.2+1)) (BK r S (vp c.s p)))::T:=Bn Z o a;rw[t,acA a]at q;have w:=WD (an:=S.an) (a0:=D5 (vp c.s p)) (b0:=aW (D5 (vp c.s p)) 2 0 ((D5 (vp c.s p)).2.2+2)) (agi l a d) j (by rw[oM m];exact q);have V:∀(x:I)(A B:aw),br x (br x A B) B=br x A B:=λx _ _=>by generalize x=u;cases u<;>rfl
  rw[V]at w;unfold D' LD;show PP _ _ _ _ _ _ (vq (jJ S.v S.w) S.an (D5 (vp c.s p)) (BK r S (vp c.s p))::((eJ S.v (pd r S.w) S.E S.Es (BK r S (vp c.s p)) P++[bB (lY S.v) P P])++told));rw[am,am,am,t];exact w
end
section
variable{v e an mk:I}{R y:af}{p P Q Pe q a b:aw}{th:PA}{n:W}{c:D}{s st0:Y D}{E:gR}{Es:Y gR}{l:Lf}
def Bo{s:W}(r:s=180∨(s=183/\an=J))(k:(0:D)<=c)(g:q.2.2=c)(m:t9 th (Jy v J [179]) E.tk E.ev)(o:∀E∈Es,t9 th (Jy v J [179]) E.tk E.ev)(K:PP (.av 179) [] [] th J R y):
  PP (.av s) [179] [] th (ac s 180) (br an [aM ⟨14,a,b0⟩] []++(D4 e v c [] [c] E Es q P++(aM ⟨4,P,P⟩::R))) (vq (jJ v 1) an a q::(eJ v c E Es q P++(bB (lY v) P P::y))):=by
 have i:a? (top []<c)=!J:=cF (um (aO Z) k);have k:WE v J [179]:=⟨.head _,λh=>ao h⟩;have t:SK e (.av (js v J)) [179] ([]++[tQ q]) th (aM ⟨4,P,P⟩::R) (bB (lY v) P P::y):=YY (n:=0) gY Z K;have f:=xM (c:=c) (e:=e) (Es:=Es) (E:=E) (st0:=[]) (s:=[c]) (st:=[179]) (ms:=[]) (p:=q) (Pe:=P) k Z i Z (aU 1) g m o ⟨93,P,R,Z,by cases e;exact .head _;exact .tail _ gY⟩ t
 have w:∃T,D4 e v c [] [c] E Es q P=t6 (kS (jJ v 1)) q q::T:=by obtain⟨T,h⟩:=Bn (e:=e) (E:=E) (Es:=Es) (Pe:=P) (s:=[c]) g i (λh=>ao h);exact⟨T,h.trans (by generalize v=u;cases u<;>rfl)⟩
 obtain⟨T,g⟩:=w;rw[g]at f ⊢;have d:s0 v J=Wm (jJ v 1):=by generalize v=u;cases u<;>rfl
 rw[d]at f
 have j:(s,an,jJ v 1)∈T1:=by
  refine r.elim (λh=>?_) λh=>?_
  ·rw[h]
   cases an<;>cases v<;>decide
  ·rw[h.1,h.2]
   cases v<;>decide
 have x:vq (jJ v 1) an a q=bB (EH (jJ v 1) an) (br an a q) q:=by generalize v=u;cases u<;>rfl
 rw[x];have d:PP (.av (Wm (jJ v 1))) [179] [] th U (t6 (kS (jJ v 1)) q q::(T++(aM ⟨4,P,P⟩::R))) (eJ v c E Es q P++(bB (lY v) P P::y)):=f
 induction an with
 |true=> have r:=d6 (fX.Jv (zz [a,b0,q,q] [] 0 th [] (T++(aM ⟨4,P,P⟩::R)))) (x:=(s,U,jJ v 1)) j;exact fJ (z:=zz [a,b0,q,q] [] 0 th [] (T++(aM ⟨4,P,P⟩::R))) (sts:=[179]) (pre:=ac s 180) (t:=[aM ⟨14,a,b0⟩,t6 (kS (jJ v 1)) q q]) (v:=EH (jJ v 1) U) (a:=a) (b:=q) (s':=.av (Wm (jJ v 1))) (sts':=[179]) (ms':=[]) (pre':=U) (t':=[t6 (kS (jJ v 1)) q q]) r d
 |false=> have r:=d6 (fX.Jv (zz [q,q] [] 0 th [] (T++(aM ⟨4,P,P⟩::R)))) (x:=(s,J,jJ v 1)) j;exact fJ (z:=zz [q,q] [] 0 th [] (T++(aM ⟨4,P,P⟩::R))) (sts:=[179]) (pre:=ac s 180) (t:=[t6 (kS (jJ v 1)) q q]) (v:=EH (jJ v 1) J) (a:=q) (b:=q) (s':=.av (Wm (jJ v 1))) (sts':=[179]) (ms':=[]) (pre':=U) (t':=[t6 (kS (jJ v 1)) q q]) r d
def QX{pre:I}(h:(pre,mk)∈[(U,J),(J,J),(J,U)]):PP (.av 181) [] [] th pre (lA mk [aM ⟨1,P,P⟩]) [bB km P P]:=by(have K:PP .none [] [] th J [] []:=by refine iJ (fX.acn (zz [] [] 0 th [] []):mp (xB ⟨pB .none [] [] th,[],0⟩) (·.1)=O C) λr d e=>?_;obtain⟨f,g⟩:=r;exact⟨g,d.trans (by rw[show f=C from e])⟩);have r:=d6 (fX.Wz (zz [P,P] [] 0 th [] [])) (x:=(pre,mk)) h;have d:=fJ (z:=zz [P,P] [] 0 th [] []) (sts:=[]) (pre:=pre) (t:=lA mk [aM ⟨1,P,P⟩]) (v:=km) (a:=P) (b:=P) (s':=.none) (sts':=[]) (ms':=[]) (pre':=J) (t':=[]) r K;have X:lA mk [aM ⟨1,P,P⟩]++[]=lA mk [aM ⟨1,P,P⟩]:=eq _;have d:PP (.av 181) [] [] th pre (lA mk [aM ⟨1,P,P⟩]++[]) [bB km P P]:=d;rw[X]at d;exact d
def Eh:PP (.av 179) [] [] th J (lA mk (yx P)) [bB (iO iN) P P,bB km P P]:=by have r:=d6 (fX.Wy (zz [P,P] [] 0 th [] [])) (x:=mk) (jB mk);have d:=fJ (z:=zz [P,P] [] 0 th [] []) (sts:=[]) (pre:=J) (t:=lA mk [aM ⟨1,P,P⟩]) (v:=iO iN) (a:=P) (b:=P) (s':=.av 181) (sts':=[]) (ms':=[]) (pre':=U) (t':=[aM ⟨1,P,P⟩]) r (QX (mk:=J) gY);have X:lA mk [aM ⟨1,P,P⟩]++[]=lA mk [aM ⟨1,P,P⟩]:=eq _;have d:PP (.av 179) [] [] th J (lA mk [aM ⟨1,P,P⟩]++[]) [bB (iO iN) P P,bB km P P]:=d;rw[X]at d;exact d
def agj:PP (.av 179) [] [] th J (aM ⟨3,P,Pe⟩::MARK::yx Q) [bB (iO yes) P Pe,bB km Q Q]:=fJ (z:=zz [P,Pe] [] 0 th [] (MARK::yx Q)) (fX.acm _) (QX (mk:=U) aaA)
def JA(K:PP (.av 173) [] [] (.kX []) J R y):PP (.av 168) [] [] (.kX []) U (aM ⟨0,dU,dU⟩::R) (bB iF dU dU::y):=fJ (fX.acj (zz [dU,dU] [] 0 (.kX []) [] R)) K
def Ei(f:j∈[0,1,2,3,4,5,6,7])(d:M_ (zz [a,b] sx qx (.kX []) [] R) j=K0)(K:PP (.av 180) [179] [] sj U (t6 K0 a b::R) y):PP (.av 173) [] [] (.kX []) J (lA mk [t6 K0 a b]++R) (bB (ja iN) a a::y):=by rw[<-d]at K ⊢;exact xK (z:={zz [a,b] sx qx (.kX []) [] R with th:=.kX [],ms:=[]}) (d6 (fX.Ww (zz [a,b] sx qx (.kX []) [] R)) (x:=(mk,j)) (eY (jB mk) f)) K
def agk(K:PP (.av 183) [179] [] SI J R y):PP (.av 173) [] [] (.kX []) J (aM ⟨2,a,b⟩::R) (bB (ja yes) a b::y):=xK (fX.ack (zz [a,b] [] 0 (.kX []) [] R)) K
def Bp(i:jp l.f 12)(K:PP (.av 179) [] [] sj J R y):PP (.av 173) [] [] (.kX []) J (lA mk ((i8 [] l q).map aM)++R) (bB (ja iN) q q::(ji [] l q++y)):=by
 unfold i8 ji;have g:∀{d:V}{f:af},lA mk (d::f)++R=lA mk [d]++(f++R):=λ{d f}=>by generalize mk=u;cases u<;>rfl
 cases k:ac l.f 6 with
 |true=> show PP _ _ _ _ _ (lA mk (aM _::[aM _,aM _])++R) _;rw[g];exact Ei (K0:=kV 119 [120]) (sx:=[]) (qx:=0) (j:=5) (aO Z) Z (fJ (z:={zz [q,aW q 2 0 (q.2.2+2),aW q 3 0 (q.2.2+3),aW q 5 0 (q.2.2+5),aW q 6 0 (q.2.2+6),aW q 7 0 (q.2.2+7)] [106] 0 sj [] R with th:=sj}) (sts:=[179]) (pre:=U) (v:=QR) (a:=q) (b:=aW q 7 0 (q.2.2+7)) (s':=.av 179) (sts':=[]) (ms':=[]) (pre':=J) (t':=[]) (fX.ach (zz [q,aW q 2 0 (q.2.2+2),aW q 3 0 (q.2.2+3),aW q 5 0 (q.2.2+5),aW q 6 0 (q.2.2+6),aW q 7 0 (q.2.2+7)] [106] 0 sj [] R)) K)
 |false=>cases d:ac l.f 7 with
  |true=> show PP _ _ _ _ _ (lA mk (aM _::[aM _,aM _])++R) _;rw[g];have F:=Ed (ms:=[]) (th:=sj) (n:=0) (a1:=q) (b1:=aW q 1 0 (q.2.2+1)) (a2:=aW q 1 0 (q.2.2+1)) (b2:=aW q 2 0 (q.2.2+2)) (a3:=aW q 2 0 (q.2.2+2)) (b3:=aW q 3 0 (q.2.2+3)) (sts:=[179]) (aO Z) Z Z K;exact Ei (K0:=kS 102) (sx:=[]) (qx:=0) (j:=7) (aO Z) Z (fJ (z:=zz [q,aW q 1 0 (q.2.2+1)] [] 0 sj [] (aM ⟨16,aW q 1 0 (q.2.2+1),aW q 2 0 (q.2.2+2)⟩::aM ⟨11,aW q 2 0 (q.2.2+2),aW q 3 0 (q.2.2+3)⟩::R)) (sts:=[179]) (pre:=U) (v:=Bj .none yes) (a:=q) (b:=aW q 1 0 (q.2.2+1)) (s':=.av 194) (sts':=[179]) (ms':=[]) (pre':=U) (t:=[t6 (kS 102) q (aW q 1 0 (q.2.2+1))]) (t':=[t6 (kS 102) q (aW q 1 0 (q.2.2+1))]) (fX.aci (zz [q,aW q 1 0 (q.2.2+1)] [] 0 sj [] (aM ⟨16,aW q 1 0 (q.2.2+1),aW q 2 0 (q.2.2+2)⟩::aM ⟨11,aW q 2 0 (q.2.2+2),aW q 3 0 (q.2.2+3)⟩::R))) F)
  |false=>
   obtain⟨sx,qx,h⟩:=YX i (by rw[k,d];rfl)
   have f:∀j d K0,PT (z0 l)=K0->j∈[0,1,2,3,4,5,6,7]->d∈[0,1,2]->M_ (zz [q,dC [] l q] sx qx (.kX []) [] R) j=K0->(BL d (zz [q,dC [] l q] sx qx sj [] R) 0).ts=[t6 K0 q (dC [] l q)]->(BL d (zz [q,dC [] l q] sx qx sj [] R) 0).v=Ee l.f->PP (.av 173) [] [] (.kX []) J (lA mk [aM (iw [] l q)]++R) (bB (ja iN) q q::(bB (Ee l.f) q (dC [] l q)::y)):=λj d K0 g i k m o t=>by have r:=d6 (fX.Wx (zz [q,dC [] l q] sx qx sj [] R)) (x:=d) k;have r:dY (zz [q,dC [] l q] sx qx sj [] R) (.av 180) [179] U (BL d (zz [q,dC [] l q] sx qx sj [] R) 0).ts=fY (zz [q,dC [] l q] sx qx sj [] R) (BL d (zz [q,dC [] l q] sx qx sj [] R) 0).v q (dC [] l q) (.av 179) [] [] J []:=r;rw[o,t]at r;have d:=Ei (mk:=mk) i m (fJ (z:=zz [q,dC [] l q] sx qx sj [] R) r K);rw[<-g]at d;exact d
   exact h.elim (λh=>f 2 0 _ h.1 (aO Z) gY Z Z h.2.symm) λh=>h.elim (λh=>f 3 1 _ h.1 (aO Z) aaz Z Z h.2.symm) λh=>f 4 2 _ h.1 (aO Z) aaA Z Z h.2.symm
end
structure eZ(t:ae)(told:af):Prop where
 good:gH t=U
 len:t.length<=700
 tl:told.length<=120
 go:∃k L,k<=240/\Go k J U (nI U) U ⟨t++[0],0,0,0⟩ L/\PP (.av 168) [] [] (.kX []) U (aM ⟨0,dU,dU⟩::L) told
def yz(a:W)(q:aw):V:=br (aq [1,3] a) (bB (ja yes) dU (3,0,3)) (bB (ja iN) q q)
def e9(v:I)(d:D)(E:gR)(e:Y gR)(q a:aw)(b:I)(c:aw):af:=vq (jJ v 1) b c q::(eJ v d E e q a++[bB (lY v) a a])
def oS(a:aw):af:=[bB (iO iN) a a,bB km a a]
def ń(a:aw):af:=[bB (iO yes) a (aW a 3 0 3),bB km (aW a 4 1 0) (aW a 4 1 0)]
structure ub(tr v:I)(c:D)(K:W)(E:gR):Prop where
 g:gQ tr v [c] K E.x E.tk
 p:∀th,th=sj∨th=SI->t9 th (Jy v J [179]) E.tk E.ev
section
variable{v e an mk tr:I}{R H:af}{p P Pe q a b:aw}{th:PA}{n F L K:W}{c d c2:D}{E:gR}{Es:Y gR}{l:Lf}{t y:ae}
def zE(m:(F,c)∈G0)(f:(0:D)<=c)(g:q.2.2=c)(h:ub tr v c K E)(i:∀E∈Es,ub tr v c K E)(j:∀th,PP (.av 179) [] [] th J R H):
  PP (.av 168) [] [] (.kX []) U (aM ⟨0,dU,dU⟩::(YT F++(D4 e v c [] [c] E Es q P++(aM ⟨4,P,P⟩::R)))) (bB iF dU dU::yz F q::(e9 v c E Es q P J q++H)):=by
 refine JA ?_
 have X:e9 v c E Es q P J q++H=vq (jJ v 1) J q q::(eJ v c E Es q P++(bB (lY v) P P::H)):=by show _::(_++H)=_;rw[am];rfl
 rw[X];unfold YT yz;cases aq [1,3] F with
 |true=>exact agk (Bo (b0:=q) (.inr ⟨Z,Z⟩) f g (h.p _ (.inr Z)) (λE m=>(i E m).p _ (.inr Z)) (j _))
 |false=> have k:=Bo (e:=e) (an:=J) (a:=q) (b0:=q) (P:=P) (.inl Z) f g (h.p _ (.inl Z)) (λE m=>(i E m).p _ (.inl Z)) (j sj);have h:a? (top []<c)=!J:=cF (um (aO Z) f);obtain⟨T,f⟩:=Bn g h (λh=>ao h);rw[f]at k ⊢;exact Ei (mk:=J) (sx:=[]) (qx:=0) (j:=br v 1 0) (by cases v<;>decide) (by generalize v=u;cases u<;>rfl) k
def eZ.en(g:(F,c)∈G0)(h:[c]∈jG)(r:Nk tr [c] U y n d c2 t){f:ae}(u:f++[0]=kb F++(sp c++(dX v c E Es++y)))(k:gH f)(m:f.length<=700)(i:ub tr v c K E)(j:∀E∈Es,ub tr v c K E)(w:1+(K+5)*Es.length+K+10<=240)(s:Pe=fh (i9 F c) (dX v c E Es) n d c2)(o:(e9 v c E Es (i9 F c) Pe J (i9 F c)).length<=100):
  eZ f (bB iF dU dU::yz F (i9 F c)::(e9 v c E Es (i9 F c) Pe J (i9 F c)++oS Pe))where
 good:=k
 len:=m
 tl:=by show((e9 v c E Es _ Pe J _++oS Pe).length+1+1)<=120;rw[aX];exact ay (dh (dh (dh o _) 1) 1) (show 100+2+1+1<=120 by decide)
 go:=by have G:=acf g h r i.g λE m=>(j E m).g;rw[<-s,<-u]at G;exact⟨_,_,w,G,zE g (kj h) Z i j λth=>Eh (mk:=J)⟩
def eZ.dt(g:(F,c)∈G0)(h:[c]∈jG){f:ae}(s:f++[0]=kb F++(sp c++(dX v c E Es++[46,46,46,10,0])))(k:gH f)(m:f.length<=700)(i:ub tr v c K E)(j:∀E∈Es,ub tr v c K E)(u:5+(K+5)*Es.length+K+10<=240)(r:Pe=r! (i9 F c) (dX v c E Es) 1)(o:(e9 v c E Es (i9 F c) Pe J (i9 F c)).length<=100):
  eZ f (bB iF dU dU::yz F (i9 F c)::(e9 v c E Es (i9 F c) Pe J (i9 F c)++ń Pe))where
 good:=k
 len:=m
 tl:=by show((e9 v c E Es _ Pe J _++ń Pe).length+1+1)<=120;rw[aX];exact ay (dh (dh (dh o _) 1) 1) (show 100+2+1+1<=120 by decide)
 go:=by have G:=acg g h i.g λE m=>(j E m).g;rw[<-r,<-s]at G;exact⟨_,_,u,G,zE g (kj h) Z i j λth=>agj⟩
def eZ.anc{b:D}(s:f∈([1,2,3,4,5,6,7,8]:Y D))(u:b∈([1,2,3,4]:Y D))(h:[b]∈jG)(w:Nk tr [b] U y n d c2 t){g:ae}(A:g++[0]=sp f++([38,122,10]++(sp b++(dX v b E Es++y))))(m:gH g)(o:g.length<=700)(j:ub tr v b K E)(k:∀E∈Es,ub tr v b K E)(B:1+(K+5)*(1+Es.length)+5<=240)(x:p=qh dU (sp f) f)(i:q=qh p ([38,122,10]++sp b) b)(z:Pe=fh q (dX v b E Es) n d c2)(r:(e9 v b E Es q Pe U p).length<=100):
  eZ g (bB iF dU dU::bB (ja iN) p p::(e9 v b E Es q Pe U p++oS Pe))where
 good:=m
 len:=o
 tl:=by show((e9 v b E Es q Pe U p++oS Pe).length+1+1)<=120;rw[aX];exact ay (dh (dh (dh r _) 1) 1) (show 100+2+1+1<=120 by decide)
 go:=by
  have G:=Wk s u h w j.g (λE m=>(k E m).g) x i z;rw[<-A]at G;refine⟨_,_,B,G,JA ?_⟩;have f:=Bo (e:=U) (an:=U) (a:=p) (b0:=aW p 2 0 (p.2.2+2)) (P:=Pe) (q:=q) (.inl Z) (kj h) (by rw[i];rfl) (j.p _ (.inl Z)) (λE m=>(k E m).p _ (.inl Z)) (Eh (P:=Pe) (mk:=J))
  have X:e9 v b E Es q Pe U p++oS Pe=vq (jJ v 1) U p q::(eJ v b E Es q Pe++(bB (lY v) Pe Pe::oS Pe)):=by show _::(_++_)=_;rw[am];rfl
  rw[X];exact Ei (mk:=J) (sx:=[]) (qx:=0) (j:=6) (aO Z) Z f
def eZ.lf(f:l∈yy)(j:c∈([1,2,3,4,5,6,7,8]:Y D))(k:p=qh dU (sp c) c)(h:gH (sp c++dv (-1) l))(i:(sp c++dv (-1) l).length<=700):eZ (sp c++dv (-1) l) (bB iF dU dU::bB (ja iN) p p::(ji [] l p++oS (kC [] l p)))where
 good:=h
 len:=i
 tl:=by
  have:(ji [] l p).length<=3:=by
   unfold ji;cases ac l.f 6 with
   |true=>exact cw Z
   |false=>cases ac l.f 7 with
    |true=>exact cw Z
    |false=>exact cw Z
  show((ji [] l p++oS _).length+1+1)<=120;rw[aX];exact ay (dh (dh (dh this _) 1) 1) (show 3+2+1+1<=120 by decide)
 go:=by
  have G:=QM f j;rw[<-k,<-am]at G;refine⟨_,_,by decide,G,JA ?_⟩;have g:=ai (show aH (λl:Lf=>jp l.f 12) yy=U by kernel_rfl) f;rw[YW];cases G! l with
  |true=>exact Bp g (Eh (mk:=J))
  |false=>exact Bp g (Eh)
end
def Ò(t:ae):Gb:={base:=λk=>br (ac k 5) 1 (br (ac k 6) 1 0),old:=λ_=>0,Oc:=0,txt:=t}
def H2(A:Ab)(L l:aC):=∀a,aq (l.map (·.1)) a->m9 (yp A) (aj a l) (aj a L)
abbrev T?:V:=aM ⟨0,dU,dU⟩
section
variable{A:Ab}{L l:aC}{a k n d u:W}{x c:PA}{t:ae}{s:af}{tx:V}
def JB:dy (Ò t)where
 pos:=λk=>by show _<=br _ 1 _;cases ac k 5<;>cases ac k 6<;>decide
 le:=(by decide:(0:D)<=900)
 lt:=λ_ j _ h=>ch h (BN j)
 Yr:=λj h=>ch h (BN j)
 tp:=Z
 six:=pL _
def Ej(b:aj k L=O c)(h:yp A x c)(r:H2 A L l):H2 A L ((k,x)::l):=λa e=>
 nG (e) (λq _=>by
  rw[<-aK q];exact .inr ⟨x,c,by show br _ _ _=_;rw[cf];rfl,b,h⟩) λq e=>by
  show m9 _ (br _ _ _) _;rw[q];exact r a e
def JC:H2 A L []:=λ_ e=>ao e
def acD(h:aH (aq b) e=U)(f:aq b a=J):aq e a=J:=d8.mpr λq=>ao (il f (ai h (fU q)))
def lZ{b:Type}{o:N b}(h:o.isSome=J):o=C:=by induction o with|none=>rfl|some=>exact ao h.symm
def ċ(h:fM a=J):aj a (GF (.str t))=C:=lZ (by rw[iq];exact acD (by kernel_rfl) h)
def QY(h:atS a):iY a=J:=yt tP.xu h λ_ _ z _=>z
def Ñ:aC:=pB (.av 168) [] [] (.kX [])
def Ð:Ñ.map (·.1)=y':=by kernel_rfl
def QZ(e:t.length<=800)(f:k<=240):qI (λa=>aj a (GF (.str t))) k U (nI U) ⟨t,0,0,0⟩ [VP (.str t)] ⟨GF (.str t),[],n⟩:=by
 refine⟨Ò t,JB,Z,(by decide:1<=100000),n,⟨⟨λa b=>?_,λa b=>?_,λ_ _=>Z,(hM n).symm,(by show 26<=900000;decide),λa=>by rw[iq];rfl⟩,λ_=>Z,(λh=>ao h.symm),e,?_,pL _,eM _,Z,Z,Z,Z⟩⟩
 ·cases q:atS a with
  |false=>exact .inl ⟨lZ (by rw[iq];exact q),ċ ((rX q).elim (λz=>ao (il b z)) id)⟩
  |true=>
   refine(?_:H2 _ _ _) a q
   iterate 20 refine Ej Z (by first|exact⟨_,Z,Z⟩|exact⟨_,Z,0,Z,Z⟩|exact⟨_,Z,[],Z,Z⟩|exact⟨_,Z,Z,pL _,eM _,Z,ao⟩) ?_
   exact JC
 ·exact lZ (by rw[iq];exact d8.mpr λq=>ao (il (QY q) b))
 ·exact ay (d9 (yK 20 f) 1) (aO Z)
def WH(g:Gb):cu g [T?] [VP (.str t)]:=have m:=⟨_,Z,⟨_,_,Z,⟨Z,Z⟩,_,_,Z,⟨Z,Z⟩,_,_,Z,⟨Z,Z⟩,_,_,Z,⟨Z,Z⟩,_,_,Z,⟨Z,Z⟩,_,_,Z,⟨Z,Z⟩,Z⟩⟩;⟨_,_,Z,⟨_,Z,⟨_,_,Z,⟨Z,m⟩,_,_,Z,⟨Z,m⟩,_,_,Z,⟨Z,Z⟩,Z⟩⟩,Z⟩
def aip:setB (nI U) (nI U):=by kernel_rfl
def Q1(g:t.length+1<=800)(f:eZ t s):∃L,EQ Ñ (.bool U::L) ⟨GF (.str (t++[0])),[],n⟩/\Pa s Ñ (.bool U::L):=by
 obtain⟨k,L,e,G,P⟩:=f.go;have S:=G [T?] ⟨bN _ _,Z⟩;refine⟨T?::L,⟨Ò (t++[0]),JB,[VP (.str (t++[0]))],Z,(by decide:1<=100000),n,λa b=>?_,λa b=>?_,⟨λa b=>?_,λa=>aj a _,k,ay e (aO Z),.inl ⟨_,Z,U,nI U,⟨t++[0],0,0,0⟩,_,_,QZ (by rw[aX];exact g) e,λg=>WH g,S,rY aip⟩⟩,(hM n).symm,(by show 26<=900000;decide),λa=>by rw[iq];rfl⟩,P⟩
 ·cases q:iY a with
  |false=>exact .inl ⟨lZ (by rw[iq];exact q),ċ ((rX b).elim (λz=>ao (il q z)) id)⟩
  |true=>
   refine(?_:H2 _ _ _) a q
   iterate 6 refine Ej Z (by exact⟨_,Z,Z⟩) ?_
   exact JC
 ·exact lZ (by rw[iq];exact d8.mpr λq=>ao (il (QY b) q))
 ·rw[iq]
  exact o5 ((by decide:∀x∈y',x∈[1,21,22,23,5,6,24,25,9,2,3,4,42,43,44,46,47,48,49,50,162,163,164,165,166,167]) a (fU b))
def WI(b:eZ t s)(h:19<=d):∃e f,(pS d).av bP [] [] ⟨GF (.str (t++[0])),[],n⟩=O (e,f)/\∃g,uH (ev (pR d) qe · DF) (pt (pR d) qe u DG) 300 ⟨fH tx [] e,f⟩=O (.next,⟨fH tx s .none,g⟩):=by refine gq λP i=>?_;obtain⟨L,j,m⟩:=Q1 (ay (eN b.len) (aO Z)) b;obtain⟨e,f,o,p⟩:=VK h s m j;obtain⟨g,h⟩:=p [] 300 (fR b.tl (aO Z)) (ay (cZ (hM _)) (ay b.tl (aO Z)));refine i ?_;exact⟨e,f,o,g,h⟩
end
def Ń:oj:=[(247,v3),(213,v5),(256,mq),(219,mr),(267,ux)]
def xN(s:S):S×S:=S.casesOn (motive:=λ_=>S×S) s (.nil,.nil) Prod.mk (λ_=>(.nil,.nil)) (λ_=>(.nil,.nil)) (.nil,.nil) (.nil,.nil) (λ_ _=>(.nil,.nil)) (λ_ _ _ _ _=>(.nil,.nil)) (λ_ _=>(.nil,.nil)) (λ_ _ _=>(.nil,.nil)) (λ_ _ _=>(.nil,.nil)) (λ_ _=>(.nil,.nil)) (λ_ _ _=>(.nil,.nil)) (λ_ _ _ _=>(.nil,.nil)) (λ_ _ _=>(.nil,.nil)) (λ_ _=>(.nil,.nil)) (λ_ _ _=>(.nil,.nil)) (λ_=>(.nil,.nil)) (λ_=>(.nil,.nil)) (.nil,.nil)
def yA(n:W)(s:S):S:=ut (motive:=λ_=>S->S) id (λ_ a s=>a (xN s).2) n s
def Me(n:W)(s:S):S:=(xN (yA n s)).1
def lG(d:W):cQ:=ut (motive:=λ_=>cQ) (O3 pD fM) (λ_ G=>{O3 pD fM with func:=λf a b c=>bn (aj f Ń) λe=>run G 300 e a b c}) d
abbrev iv(n:W):V:=.int (n:D)
abbrev t4(d f:W)(as:af)(pg:PG):dR:=(lG d).func f as [] pg
abbrev da(ns:ae):PG:=⟨[],ns.map iv,0⟩
abbrev cy(ns:ae):W:=ns.headD 0
section
variable{G:cQ}{lv:ae}{d n c x0:W}{z:PG}{a b m:X}{s s1 t:St}{x y:ae}{v w u:V}{vs ws:af}{A B:S}{r:q5}{ns:ae}
def aiq{n:W}(h:(x++y).length<=n):x.length<=n:=ay (by rw[aX];exact gb _ _) h
def add_str(h:(x++y).length<=1000):qw .Add (.str x) (.str y)=O (.str (x++y)):=by show gd (bd (ak x+ak y) 1000000) _=_;rw[aB,aB,<-aX,hH (ay h (aO Z))];rfl
def jq{e g h:Type}{o:N (e×g)}{f:e->g->N h}{a:e}{b:g}(i:o=O (a,b)):ax o f=f a b:=by rw[i];rfl
def Q2{e g:Type}{o:N e}{f:e->N g}{a:e}(h:o=O a):bn o f=f a:=by rw[h];rfl
def agn{e:Type}{b:I}{o:N e}(h:b):gd b o=o:=by rw[h];rfl
def lC(f:ev G lv J a s=O (v,s1))(g:ev G lv J b s1=O (w,t))(h:qw e v w=O u):ev G lv J (.bin e a b) s=O (u,t):=(show ax (ev G lv J a s) (λv s=>ax (ev G lv J b s) λw s=>bn (qw e v w) λu=>fin J u s)=_ from(jq f).trans ((jq g).trans (Q2 h)))
def d7(e:ev G lv J a s=O (.str x,s1))(f:ev G lv J b s1=O (.str y,t))(h:(x++y).length<=1000):ev G lv J (.bin .Add a b) s=O (.str (x++y),t):=lC e f (add_str h)
def jH(g:aq lv f=J)(h:G.gl f=O (.fn f))(k:G.ro=J)(i:uL G lv f []=J)(j:BF G lv e s=O (vs,s1))(l:G.func f vs [] s1.pg=O (w,z)):ev G lv J (.bF f e [] .nil) s=O (w,⟨s1.loc,z⟩):=by show oc (gd (uL G lv f []) _) _ (ax (br (aq lv f) _ (mp (G.gl f) λv=>(v,s))) _)=_;rw[g,h,i];show ax (BF G lv e s) (λvs s=>ax (O ([],s)) λws s=>bn (z6 [] ws) λe=>ax (jQ G (.fn f) vs e s) λv s=>fin J v s)=_;rw[j];show ax (br G.ro C (back s1 (G.func f vs [] s1.pg))) _=_;rw[k,l];rfl
def mS(h:ev G lv J a s=O (v,s1)):BF G lv (.cons a .nil) s=O ([v],s1):=(show ax (ev G lv J a s) (λv s=>ax (O ([],s)) λvs s=>O (v::vs,s))=_ from jq h)
def zF(e:ev G lv J a s=O (v,s1))(f:BF G lv b s1=O (vs,t)):BF G lv (.cons a b) s=O (v::vs,t):=show ax (ev G lv J a s) (λv s=>ax (BF G lv b s) λvs s=>O (v::vs,s))=_ from(jq e).trans (jq f)
def acG(h:BF G lv a s=O (vs,s1)):ev G lv J (.tup a) s=O (.tup vs,s1):=show ax (BF G lv a s) (λvs s=>fin J (.tup vs) s)=_ from jq h
def jr(f:ev G lv J a s=O (v,s1))(g:ev G lv J b s1=O (w,t))(h:iL v w=O u)(e:cG a=C):ev G lv J (.sub a b) s=O (u,t):=by show oc (gA G lv s (cG a)) _ (ax (ev G lv J a s) λx s=>ax (ev G lv J b s) λv s=>bn (iL x v) λw=>fin J w s)=_;rw[e];show ax (ev G lv J a s) (λx s=>ax (ev G lv J b s) λv s=>bn (iL x v) λw=>fin J w s)=_;exact(jq f).trans ((jq g).trans (Q2 h))
def dI(h:ev G lv J b s=O (v,s1))(e:uq b=J):pt G lv n (.set [x0] b) s=O (.next,aE s1 x0 (.val v)):=by show br (uq b) _ (Mx [x0] (ev G lv · b)) s=_;rw[e];exact jq (f:=λv s=>nx (oX v [x0] s)) h
def cY(k:pt G lv n B s1=r)(h:pt G lv n A s=O (.next,s1)):pt G lv n (.cons A B) s=r:=(eB h).trans k
def ł(h:pt G lv n A s=O (.ret v,s1)):pt G lv n (.cons A B) s=O (.ret v,s1):=mN h
def yC(k:pt G lv n A s1=r)(h:ev G lv U m s=O (.bool U,s1)):pt G lv n (.ifs m A B) s=r:=(zt h).trans k
def nM(k:pt G lv n B s1=r)(h:ev G lv U m s=O (.bool J,s1)):pt G lv n (.ifs m A B) s=r:=(I9 h).trans k
def JD(h:ev G lv J m s=O (v,s1))(e:cq m=J):pt G lv n (.cons (.ret m) B) s=O (.ret v,s1):=ł ((show sW (cq m) (ev G lv · m) s=_ by rw[e];exact GA h))
def l6{a:W}(c:W):(rep [a] c).length=c:=by induction c with|zero=>rfl|succ c e=>exact ah pp e
def mul_one{a:W}(h:c<=100):qw .Mult (.str [a]) (iv c)=O (.str (rep [a] c)):=by show gd (bd c 1000000) (gd (bd (1*c) 1000000) (O (V.str (rep [a] c))))=_;rw[I',hH (ay h (aO Z))];rfl
def vr(ns:ae):t4 (d+2) 213 [.aG] (da ns)=O (iv (cy ns),da ns.tail):=by cases ns<;>kernel_rfl
def y_:X:=.bF 213 (xq [.aR 211]) [] .nil
def JE(f:aq lv 213=J)(g:G.gl 213=O (.fn 213))(h:G.ro=J)(i:uL G lv 213 []=J)(j:BF G lv (xq [.aR 211]) ⟨e,da ns⟩=O ([.aG],⟨e,da ns⟩))(k:G.func 213 [.aG] [] (da ns)=O (iv (cy ns),da ns.tail)):ev G lv J y_ ⟨e,da ns⟩=O (iv (cy ns),⟨e,da ns.tail⟩):=jH f g h i j k
end
abbrev SN:ae:=mq.lv
def GL(d:W):cQ:=yh (lG (d+2)) mq
def l8(c:W)(a:I)(n f:W)(e b:ae):cz:=[(211,.val .aG),(4,.val (iv c)),(249,.val (.bool a)),(212,.val (iv n)),(245,.val (iv f)),(246,.val (.str e)),(248,.val (.str b))]
def c9{a:Type}(n:W)(l:Y a)(d:a):a:=bm (motive:=λ_=>W->a) (λ_=>d) (λa _ b n=>gh n a b) l n
def mT(e:W):ae:=c9 e [[10],[13,10],[32,35,32,114,10]] [133]
def uF(f e:W)(a:ae)(z:W):ae:=c9 f [[97]++mT e,[98,32,99]++mT e,[100,10]++a++[101]++mT e,[39,102,10,103,39]++mT e,[34,104,92,10,32,105,34]++mT e,[42,120]++mT e,[38,120,32,33,116,32,106]++mT e,[91,107,93]++mT e,[124,10]++a++[108,10]++rep [10] z] ([62,45,10]++a++[109,10]++a++[110,10])
def WJ{a b:Type}(l:Y a)(m:Y b):Y (a×b):=(l.map λa=>m.map λb=>(a,b)).flatten
def YZ(f:W)(a:I):W:=br (ac f 7&&!a) 0 f
def ē:Y ((W×W)×W×I):=WJ (WJ [0,1,2,3,4,5,6,7,9] [0,1,2,3]) (WJ [1,2,3,4,5,6] [J,U])
def LG(d n c:W)(a:PG):ē.map (λx=>pt (GL d) SN 300 (yA 4 gj) ⟨l8 c x.2.2 n x.1.1 (mT x.1.2) (rep [32] x.2.1),a⟩)=ē.map λx=>O (.ret (.str (uF (YZ x.1.1 x.2.2) x.1.2 (rep [32] x.2.1) 0)),⟨l8 c x.2.2 n x.1.1 (mT x.1.2) (rep [32] x.2.1),a⟩):=by kernel_rfl
def uY(c:W)(a:I)(e:cz):cz:=(211,.val .aG)::(4,.val (iv c))::(249,.val (.bool a))::e
def xO(x a b:W):X:=.bin .Mod (.bin .FloorDiv (.aR x) (.int a)) (.int b)
def air(x a:W):X:=.bin .Mult (.str [32]) (.bin .Add (.bin .Add (.aR 4) (.int 1)) (xO x a 2))
section
variable{d n c f e m:W}{pg:PG}{rich:I}{s s1:St}{x y z:ae}{v w:V}{ns:ae}
def acH:∀{k:W},k<4->iL (.lst [.str [10],.str [13,10],.str [32,35,32,114,10],.str [133]]) (iv k)=O (.str (mT k)):=λ{k}h=>by
 cases k with
 |zero=>rfl
 |succ k=>cases k with
  |zero=>rfl
  |succ k=>cases k with
   |zero=>rfl
   |succ k=>cases k with
    |zero=>rfl
    |succ k=>exact ch h (Op (nQ 4 k))
def ph1:pt (GL d) SN 300 gj ⟨uY c rich [],da ns⟩=pt (GL d) SN 300 (yA 2 gj) ⟨uY c rich [(212,.val (iv (cy ns))),(245,.val (iv (cy ns%10)))],da ns.tail⟩:=by refine cY (s1:=⟨uY c rich [(212,.val (iv (cy ns)))],da ns.tail⟩) (cY (s1:=⟨uY c rich [(212,.val (iv (cy ns))),(245,.val (iv (cy ns%10)))],da ns.tail⟩) Z Z) ?_;exact dI (v:=iv (cy ns)) (s1:=⟨uY c rich [],da ns.tail⟩) (JE Z Z Z Z Z (vr ns)) Z
def ph2(a:c<=50):pt (GL d) SN 300 (yA 2 gj) ⟨uY c rich [(212,.val (iv n)),(245,.val (iv f))],pg⟩=pt (GL d) SN 300 (yA 4 gj) ⟨l8 c rich n f (mT (n/10%4)) (rep [32] (c+1+n/5%2)),pg⟩:=by have k:n/5%2<2:=eD _ (aO Z);refine cY (s1:=⟨uY c rich [(212,.val (iv n)),(245,.val (iv f)),(246,.val (.str (mT (n/10%4))))],pg⟩) (cY (s1:=⟨l8 c rich n f (mT (n/10%4)) (rep [32] (c+1+n/5%2)),pg⟩) Z ?_) ?_;exact dI (v:=.str (rep [32] (c+1+n/5%2))) (s1:=⟨uY c rich [(212,.val (iv n)),(245,.val (iv f)),(246,.val (.str (mT (n/10%4))))],pg⟩) (lC (v:=.str [32]) (w:=iv (c+1+n/5%2)) Z Z (mul_one (ay (g5 (eN a) (jM k)) (aO Z)))) Z;exact dI (v:=.str (mT (n/10%4))) (s1:=⟨uY c rich [(212,.val (iv n)),(245,.val (iv f))],pg⟩) (jr (w:=iv (n/10%4)) (v:=.lst [.str [10],.str [13,10],.str [32,35,32,114,10],.str [133]]) (s1:=⟨uY c rich [(212,.val (iv n)),(245,.val (iv f))],pg⟩) (jH (s1:=⟨uY c rich [(212,.val (iv n)),(245,.val (iv f))],pg⟩) (vs:=[]) Z Z Z Z Z Z) Z (acH (eD _ (aO Z))) Z) Z
def agp{e:ae}:pt (GL d) SN 300 (yA 4 gj) ⟨l8 c rich n 8 e a,pg⟩=pt (GL d) SN 300 (yA 11 gj) ⟨l8 c rich n 8 e a,pg⟩:=by exact cY (s1:=⟨l8 c rich n 8 e a,pg⟩) (cY (s1:=⟨l8 c rich n 8 e a,pg⟩) (cY (s1:=⟨l8 c rich n 8 e a,pg⟩) (cY (s1:=⟨l8 c rich n 8 e a,pg⟩) (cY (s1:=⟨l8 c rich n 8 e a,pg⟩) (cY (s1:=⟨l8 c rich n 8 e a,pg⟩) (cY (s1:=⟨l8 c rich n 8 e a,pg⟩) Z Z) Z) Z) Z) Z) Z) Z
def do8{e:ae}(g:a.length<=100):pt (GL d) SN 300 (yA 11 gj) ⟨l8 c rich n 8 e a,pg⟩=O (.ret (.str ([124,10]++a++[108,10]++rep [10] (n/7%2))),⟨l8 c rich n 8 e a,pg⟩):=by
 have k:n/7%2<=1:=sK (eD _ (aO Z));have b:([124,10]++a).length<=102:=by rw[aX,hO];exact dh g 2
 have g:([124,10]++a++[108,10]).length<=104:=by rw[aX];exact dh b 2
 have l3:([124,10]++a++[108,10]++rep [10] (n/7%2)).length<=105:=by rw[aX,l6];exact g5 g k
 refine ł (yC (s1:=⟨l8 c rich n 8 e a,pg⟩) (JD (d7 (s1:=⟨l8 c rich n 8 e a,pg⟩) (d7 (s1:=⟨l8 c rich n 8 e a,pg⟩) (d7 (s1:=⟨l8 c rich n 8 e a,pg⟩) Z Z (ay b (aO Z))) Z (ay g (aO Z))) (lC (v:=.str [10]) (w:=iv (n/7%2)) Z Z (mul_one (ay k (aO Z)))) (ay l3 (aO Z))) Z) Z)
def xP{a b:Type}{l:Y a}{m:Y b}{x:a}{y:b}(h:x∈l)(k:y∈m):(x,y)∈WJ l m:=AC.mpr ⟨_,eO.mpr ⟨x,h,Z⟩,eO.mpr ⟨y,k,Z⟩⟩
def ph3(b:f<10)(h:e<4)(i:1<=m)(g:m<=6):∃j,pt (GL d) SN 300 (yA 4 gj) ⟨l8 c rich n f (mT e) (rep [32] m),pg⟩=O (.ret (.str (uF (YZ f rich) e (rep [32] m) (n/7%2))),⟨j,pg⟩):=by
 by_cases a:f=8
 ·rw[a,agp,do8 (by rw[l6];exact ay g (aO Z))]
  exact⟨_,Z⟩
 ·have j:=(by decide:∀f,f<10->f≠8->f∈[0,1,2,3,4,5,6,7,9]) f b a
  have k:=(by decide:∀e,e<4->e∈[0,1,2,3]) e h;have h:=(by decide:∀m,m<7->1<=m->m∈[1,2,3,4,5,6]) m (Wp g) i;have R:=Ix.mp (LG d n c pg) ((f,e),m,rich) (xP (xP j k) (xP h (by cases rich;exact .head _;exact .tail _ gY)))
  have l:∀f,f<10->f≠8->∀z,uF (YZ f rich) e (rep [32] m) z=uF (YZ f rich) e (rep [32] m) 0:=by
   intro f b a z;cases f with
   |zero=>rfl
   |succ f=>cases f with
    |zero=>rfl
    |succ f=>cases f with
     |zero=>rfl
     |succ f=>cases f with
      |zero=>rfl
      |succ f=>cases f with
       |zero=>rfl
       |succ f=>cases f with
        |zero=>rfl
        |succ f=>cases f with
         |zero=>rfl
         |succ f=>cases f with
          |zero=>cases rich<;>rfl
          |succ f=>cases f with
           |zero=>exact ch Z a
           |succ f=>cases f with
            |zero=>rfl
            |succ f=>exact ch b (Op (nQ 10 f))
  rw[l f b a];exact⟨_,R⟩
def WK(a:c<=4):t4 (d+3) 256 [.aG,iv c,.bool rich] (da ns)=O (.str (uF (YZ (cy ns%10) rich) (cy ns/10%4) (rep [32] (c+1+cy ns/5%2)) (cy ns/7%2)),da ns.tail):=by have k:cy ns/5%2<=1:=sK (eD _ (aO Z));obtain⟨b,h⟩:=ph3 (d:=d) (c:=c) (rich:=rich) (n:=cy ns) (f:=cy ns%10) (e:=cy ns/10%4) (m:=c+1+cy ns/5%2) (pg:=da ns.tail) (eD _ (aO Z)) (eD _ (aO Z)) (ay (nQ 1 c) (gb _ _)) (g5 (eN a) k);show ax (pt (GL d) SN 300 gj ⟨uY c rich [],da ns⟩) (λf s=>O (ku f,s.pg))=_;rw[ph1,ph2 (ay a (aO Z)),h];rfl
end
abbrev kW:ae:=mr.lv
def GT(d:W):cQ:=yh (lG (d+3)) mr
def w?(k:W):S:=Me k rh
def Ï(s:S):S:=S.casesOn (motive:=λ_=>S) s .nil (λ_ _=>.nil) (λ_=>.nil) (λ_=>.nil) .nil .nil (λ_ _=>.nil) (λ_ _ _ _ _=>.nil) (λ_ _=>.nil) (λ_ _ _=>.nil) (λ_ _ _=>.nil) (λ_ _=>.nil) (λ_ _ _=>.nil) (λ_ _ _ _=>.nil) (λ_ _ _=>.nil) (λ_ _=>.nil) (λ_ _ b=>b) (λ_=>.nil) (λ_=>.nil) .nil
def oU:S:=Ï (w? 4)
def bT(k:W):S:=Me k oU
def l9(c:W):ae:=rep [32] c
def bJ(c:W)(a:I)(b:W)(d:I)(n e:W)(x:ae)(f:I)(g:cz):cz:=(211,.val .aG)::(4,.val (iv c))::(255,.val (.bool a))::(251,.val (iv b))::(252,.val (.bool d))::(212,.val (iv n))::(250,.val (iv e))::(236,.val (.str x))::(253,.val (iv (br f 0 1)))::g
def kr(a:I):ae:=br a [107,58] [45]
def Y0(n:W)(a:I)(c:W):ae:=uF (YZ (n%10) a) (n/10%4) (l9 (c+1+n/5%2)) (n/7%2)
def Y1(a:I)(f:W):W:=br a f (br (ac f 2) 0 (br (ac f 3) 1 f))
def Ł:X:=.bF 256 (xq [.aR 211,.aR 4,.cmp (.aR 253) [.Eq] (xq [.int 0])]) [] .nil
def anX:X:=.ite (.cmp (xO 254 5 2) [.Eq] (xq [.int 1])) (.str [32,38,122,10]) (.str [10])
def x'(a k:X):X:=.bF 219 (xq [.aR 211,a,.Hu,.bin .Sub (.bin .Add (.aR 251) (.int 1)) (.aR 250),k]) [] .nil
def q!(a:X):S:=.set [236] a
def WL:rh=.cons (.set [212] y_) (.cons (w? 1) (.cons (w? 2) (.cons (w? 3) (.cons (.yb [253] (.bF 218 (xq [.aR 250]) [] .nil) oU) (.cons (.ret (.aR 236)) .nil))))):=Z
def WM:oU=.cons (bT 0) (.cons (.set [254] y_) (.cons (.set [245] (.bin .Mod (.aR 254) (.int 5))) (.cons (bT 3) (.cons (bT 4) .nil)))):=Z
section
variable{d n c rm mn dr:W}{pg:PG}{dp ky f:I}{s s1:St}{x:ae}{v u:V}{ns:ae}{e g:cz}
def Y2{h i:X}(j:ev G a U b s=O (.bool U,s1)):ev G a J (.ite b h i) s=ev G a J h s1:=by show ax (ev G a U b s) (λv s=>bn (gJ v) λx=>br x (ev G a J h s) (ev G a J i s))=_;rw[j];rfl
def agr(a:c<=50)(h:(x++br f [] (l9 c)++kr ky).length<=1000):pt (GT d) kW 300 (bT 0) ⟨bJ c dp rm ky n mn x f e,pg⟩=O (.next,⟨bJ c dp rm ky n mn (x++br f [] (l9 c)++kr ky) f e,pg⟩):=by
 have b:ev (GT d) kW J (.ite (.cmp (.aR 253) [.Gt] (xq [.int 0])) (.bin .Mult (.str [32]) (.aR 4)) (.str [])) ⟨bJ c dp rm ky n mn x f e,pg⟩=O (.str (br f [] (l9 c)),⟨bJ c dp rm ky n mn x f e,pg⟩):=by
  induction f with
  |true=>rfl
  |false=>
   have q:ev (GT d) kW U (.cmp (.aR 253) [.Gt] (xq [.int 0])) ⟨bJ c dp rm ky n mn x J e,pg⟩=O (.bool U,⟨bJ c dp rm ky n mn x J e,pg⟩):=by kernel_rfl
   refine(Y2 q).trans ?_;exact lC Z Z (mul_one (ay a (aO Z)))
 have i:ev (GT d) kW J (.ite (.aR 252) (.str [107,58]) (.str [45])) ⟨bJ c dp rm ky n mn x f e,pg⟩=O (.str (kr ky),⟨bJ c dp rm ky n mn x f e,pg⟩):=by generalize ky=u;cases u<;>rfl
 exact dI (d7 (d7 Z b (aiq h)) i h) Z
def Sh(e g:cz):=(e=[]/\g=[])∨∃a b,e=(254,a)::(245,b)::g
def acJ(a:Sh e g){A:S}:pt (GT d) kW 300 (.cons (.set [254] y_) (.cons (.set [245] (.bin .Mod (.aR 254) (.int 5))) A)) ⟨bJ c dp rm ky n mn x f e,da ns⟩=pt (GT d) kW 300 A ⟨bJ c dp rm ky n mn x f ((254,.val (iv (cy ns)))::(245,.val (iv (cy ns%5)))::g),da ns.tail⟩:=by have k:∀{e},ev _ kW J y_ ⟨bJ c dp rm ky n mn x f e,da ns⟩=O _:=λ{e}=>JE Z Z Z Z Z (vr (d:=d+1) ns);refine a.elim (λh=>?_) λh=>?_;rw[h.1,h.2];exact cY (cY Z Z) (dI k Z);obtain⟨a,b,h⟩:=h;rw[h];exact cY (cY Z Z) (dI k Z)
def WN(d c rm n mn:W)(dp ky:I)(x:ae)(f:I)(a:LV)(g:cz)(pg:PG):[J,U].map (λdp=>[0,1,2,3,4].map λk=>pt (GT d) kW 300 (bT 3) ⟨bJ c dp rm ky n mn x f ((254,a)::(245,.val (iv k))::g),pg⟩)=[J,U].map λdp=>[0,1,2,3,4].map λk=>O (.next,⟨bJ c dp rm ky n mn x f ((254,a)::(245,.val (iv (Y1 dp k)))::g),pg⟩):=by kernel_rfl
def ags(b:k<5){a:LV}:pt (GT d) kW 300 (bT 3) ⟨bJ c dp rm ky n mn x f ((254,a)::(245,.val (iv k))::g),pg⟩=O (.next,⟨bJ c dp rm ky n mn x f ((254,a)::(245,.val (iv (Y1 dp k)))::g),pg⟩):=
 Ix.mp (Ix.mp (WN d c rm n mn dp ky x f a g pg) dp (by cases dp;exact .head _;exact .tail _ gY)) k ((by decide:∀k,k<5->k∈[0,1,2,3,4]) k b)
def acK(a:c<=4):ev (GT d) kW J Ł ⟨bJ c dp rm ky n mn x f e,da ns⟩=O (.str (Y0 (cy ns) f c),⟨bJ c dp rm ky n mn x f e,da ns.tail⟩):=jH (s1:=⟨bJ c dp rm ky n mn x f e,da ns⟩) (vs:=[.aG,iv c,.bool f]) Z Z Z Z (by generalize f=u;cases u<;>rfl) (WK a)
def acL(a:c<=50):ev (GT d) kW J (air 254 5) ⟨bJ c dp rm ky n mn x f ((254,.val (iv dr))::e),pg⟩=O (.str (l9 (c+1+dr/5%2)),⟨bJ c dp rm ky n mn x f ((254,.val (iv dr))::e),pg⟩):=by have k:dr/5%2<2:=eD _ (aO Z);exact lC Z Z (mul_one (ay (g5 (eN a) (jM k)) (aO Z)))
end
def vt(a:I):ae:=br a [32,38,122,10] [10]
def WO(c:W)(f:I)(x:ae):=(∃n,x=32::Y0 n f c)∨(∃n k,k<=1/\x=10::(l9 (c+1+k)++Y0 n f c))∨x=[10]
def Y3(v:I)(c:W)(x:ae):=∃a,WO c U a/\(x=kr v++a∨∃b,WO c J b/\x=kr v++a++(l9 c++(kr v++b)))
def Mf(c:W)(d f:I)(x:ae):=WO c f x∨(d=J/\∃v y,Y3 v (c+2) y/\x=32::y)∨(∃b a v y,(a=c+1∨a=c+2)/\Y3 v a y/\x=vt b++(l9 a++y))∨(d/\∃b y,Y3 J c y/\x=vt b++(l9 c++y))
section
variable{d n c rm mn rr dr:W}{pg:PG}{dp ky f:I}{s s1:St}{x y z:ae}{v w u:V}{ns:ae}{e g:cz}
def WQ{e:W}:(mT e).length<=5:=by
 cases e with
 |zero=>exact cw Z
 |succ e=>cases e with
  |zero=>exact cw Z
  |succ e=>cases e with
   |zero=>exact cw Z
   |succ e=>exact cw Z
def acM{b:Type}{P:b->Prop}{l:Y b}{d:b}(i:P d):∀{n:W},(∀a∈l,P a)->P (c9 n l d):=by induction l with|nil=>exact λ_=>i|cons a l j=>intro n h;cases n with|zero=>exact h a gY|succ n=>exact j λa m=>h a (.tail _ m)
def LH{f e z:W}(t:m.length<=6)(A:z<=1):(uF f e m z).length<=40:=by(have E:=WQ (e:=e);have h:∀{x:ae}{k:W},x.length<=k->(x++mT e).length<=k+5:=λ{x k}i=>by rw[aX];exact g5 i E);(have q:∀{x:ae}{k:W},x.length<=k->(x++m).length<=k+6:=λ{x k}i=>by rw[aX];exact g5 i t);(have o:∀{x y:ae}{k j:W},x.length<=k->y.length<=j->(x++y).length<=k+j:=λ{x y k j}i r=>by rw[aX];exact g5 i r);have a:∀{x:ae}{k:W},x.length<=k->k<=40->x.length<=40:=λi=>ay i;(have b:∀{i:ae}{l:Y _},i.length<=40->(∀x∈l,x.length<=40)->∀x∈i::l,x.length<=40:=λ{i l}B r x p=>by cases p with|head=>exact B|tail _ p=>exact r x p);have i:([62,45,10]++m++[109,10]++m++[110,10]).length<=40:=(a (o (j:=2) (q (o (j:=3) (q (aU 3)) (aO Z))) (aO Z)) (aO Z));refine acM (P:=λx:ae=>x.length<=40) i ?_;refine b (a (h (aU 1)) (aO Z)) (b (a (h (aU 3)) (aO Z)) (b (a (h (o (q (aU 2)) (aU 1))) (aO Z)) (b (a (h (aU 5)) (aO Z)) (b (a (h (aU 7)) (aO Z)) (b (a (h (aU 2)) (aO Z)) (b (a (h (aU 7)) (aO Z)) (b (a (h (aU 3)) (aO Z)) (b (a (o (o (q (aU 2)) (aU 2)) (by rw[l6];exact A)) (aO Z)) (λx p=>nomatch p)))))))))
def vu(a:c<=4):(Y0 n f c).length<=40:=LH (by unfold l9;rw[l6];exact g5 (eN a) (sK (eD _ (aO Z)))) (sK (eD _ (aO Z)))
def lD:(l9 c).length=c:=l6 c
theorem WO.len(h:WO c f x)(a:c<=4):x.length<=47:=h.elim (λh=>by
  obtain⟨n,h⟩:=h;rw[h];exact ay (eN (vu a)) (aO Z)) λh=>h.elim (λh=>by
  obtain⟨n,k,b,h⟩:=h;rw[h,vE,aX,lD];have:=vu (n:=n) (f:=f) a
  lia) λh=>by rw[h];exact cw Z
def G7:(kr ky).length<=2:=by generalize ky=u;cases u<;>exact cw Z
theorem Y3.len{v:I}(h:Y3 v c x)(a:c<=4):x.length<=110:=by obtain⟨b,b,h⟩:=h;have i:=b.len a;have b:=G7 (ky:=v);refine h.elim (λh=>?_) λh=>?_;rw[h,aX];lia;obtain⟨b,b,h⟩:=h;have i:=b.len a;rw[h,aX,aX,aX,aX,lD];lia
theorem Mf.len(h:Mf c ky f x)(b:c<=2):x.length<=120:=h.elim (λh=>ay (h.len (ay b (aO Z))) (aO Z)) λh=>h.elim (λh=>by
  obtain⟨_,v,y,h,e⟩:=h;have:=h.len (eN (eN b));rw[e,vE];lia) λh=>h.elim (λh=>by
  obtain⟨a,j,v,y,j,h,e⟩:=h;have:=h.len (by lia);have i:(vt a).length<=4:=by generalize a=u;cases u<;>exact cw Z
  rw[e,aX,aX,lD];lia) λh=>by
  obtain⟨_,a,y,h,e⟩:=h;have:=h.len (ay b (aO Z));have i:(vt a).length<=4:=by generalize a=u;cases u<;>exact cw Z
  rw[e,aX,aX,lD];lia
def Q3(d rr c:W):=∀b a(ns:ae),b<=c+2->(a=.none∨a=.bool J)->∃v y r,t4 (d+3) 219 [.aG,iv b,.bool J,iv rr,a] (da ns)=O (.str y,da r)/\Y3 v b y/\(a=.bool J->v=J)
def xQ(a:x.length<=m)(b:y.length<=k)(h:m+k<=1000):(x++y).length<=1000:=by rw[aX];exact ay (g5 a b) h
def agt{i h:X}(j:ev G a U b s=O (.bool J,s1)):ev G a J (.ite b i h) s=ev G a J h s1:=by show ax (ev G a U b s) (λv s=>bn (gJ v) λx=>br x (ev G a J i s) (ev G a J h s))=_;rw[j];rfl
def ħ{q:W}(h:ev G a J b s=O (iv q,s1)):ev G a U (.cmp b [.Eq] (xq [.int 1])) s=O (.bool (a? ((q:D)=1)),s1):=by show ax (ev G a J b s) (λv s=>ax (ax (O (V.int _,s)) λw s=>bn (ph .Eq v w) λb=>O (b,s)) λb s=>O (V.bool b,s))=_;rw[h];rfl
def q01{q:W}{P:W->Prop}(a:P 0)(b:P 1):P (q%2):=(by decide:∀k,k<2->k=0∨k=1) _ (eD _ (aO Z))|>.elim (λe=>e▸a) λe=>e▸b
def agu{e:cz}:∃a,ev (GT d) kW J anX ⟨bJ c dp rm ky n mn x f ((254,.val (iv dr))::e),pg⟩=O (.str (vt a),⟨bJ c dp rm ky n mn x f ((254,.val (iv dr))::e),pg⟩):=by
 have E:ev (GT d) kW U (.cmp (xO 254 5 2) [.Eq] _) ⟨bJ c dp rm ky n mn x f ((254,.val (iv dr))::e),pg⟩=O _:=ħ Z;cases q:a? ((_:D)=1)with
 |true=>rw[q]at E;exact⟨U,Y2 E⟩
 |false=>rw[q]at E;exact⟨J,agt E⟩
def agv{e:cz}(a:ky):∃b,ev (GT d) kW U (.and (xq [.aR 252,.cmp (xO 254 10 2) [.Eq] (xq [.int 1])])) ⟨bJ c dp rm ky n mn x f ((254,.val (iv dr))::e),pg⟩=O (.bool b,⟨bJ c dp rm ky n mn x f ((254,.val (iv dr))::e),pg⟩):=by have E:ev (GT d) kW U (.cmp (xO 254 10 2) [.Eq] _) ⟨bJ c dp rm ky n mn x f ((254,.val (iv dr))::e),pg⟩=O _:=ħ Z;rw[a]at E ⊢;exact⟨_,E⟩
def G8{h:V}{y:ae}{e:cz}(i:ev (GT d) kW J a ⟨bJ c dp rm ky n mn x f e,da ns⟩=O (iv b,⟨bJ c dp rm ky n mn x f e,da ns⟩))(l:ev (GT d) kW J k ⟨bJ c dp rm ky n mn x f e,da ns⟩=O (h,⟨bJ c dp rm ky n mn x f e,da ns⟩))(j:qw .Sub (iv (rm+1)) (iv mn)=O (iv rr))(m:t4 (d+3) 219 [.aG,iv b,.bool J,iv rr,h] (da ns)=O (.str y,da r)):ev (GT d) kW J (x' a k) ⟨bJ c dp rm ky n mn x f e,da ns⟩=O (.str y,⟨bJ c dp rm ky n mn x f e,da r⟩):=jH Z Z Z Z (zF Z (zF i (zF Z (zF (lC Z Z j) (mS l))))) m
def Ģ:∀{a:X}{t:ae}{b},ev (GT d) kW J a ⟨bJ c dp rm ky n mn x f ((254,.val (iv dr))::(245,.val (iv k))::g),da ns⟩=O (.str t,⟨bJ c dp rm ky n mn x f ((254,.val (iv dr))::(245,.val (iv k))::g),b⟩)->uq a=J->pt (GT d) kW 300 (.cons (q! a) .nil) ⟨bJ c dp rm ky n mn x f ((254,.val (iv dr))::(245,.val (iv k))::g),da ns⟩=O (.next,⟨bJ c dp rm ky n mn t f ((254,.val (iv dr))::(245,.val (iv k))::g),b⟩):=λ{a t b}h a=>cY Z (dI h a)
theorem Y4(K:g=[]∨∃a,g=[(257,a)])(R:x.length<=500)(A:c<=4)(Q:dp->c<=2)(P:dp->Q3 d rr c)(L:qw .Sub (iv (rm+1)) (iv mn)=O (iv rr))(p:dp)(k2:k<2):∃y i o,pt (GT d) kW 300 (.cons (q! (.bin .Add (.aR 236) anX)) (.cons (.ifs (.and (xq [.aR 252,.cmp (xO 254 10 2) [.Eq] (xq [.int 1])])) (.cons (q! (.bin .Add (.bin .Add (.aR 236) (.bin .Mult (.str [32]) (.aR 4))) (x' (.aR 4) .Hu))) .nil) (.cons (.set [257] (.bin .Add (.bin .Add (.aR 4) (.int 1)) (xO 254 20 2))) (.cons (q! (.bin .Add (.bin .Add (.aR 236) (.bin .Mult (.str [32]) (.aR 257))) (x' (.aR 257) .pf))) .nil))) .nil)) ⟨bJ c dp rm ky n mn x f ((254,.val (iv dr))::(245,.val (iv (k+2)))::g),da ns⟩=O (.next,⟨bJ c dp rm ky n mn (x++y) f ((254,.val (iv dr))::(245,.val (iv (k+2)))::i),da o⟩)/\(i=[]∨∃a,i=[(257,a)])/\Mf c ky f y:=by
 have S:=P p;have P:=Q p;obtain⟨h,T⟩:=agu (d:=d) (c:=c) (dp:=dp) (rm:=rm) (ky:=ky) (n:=n) (mn:=mn) (x:=x) (f:=f) (dr:=dr) (pg:=da ns) (e:=(245,.val (iv (k+2)))::g);have X:(vt h).length<=4:=by generalize h=u;cases u<;>exact cw Z
 have B:(x++vt h).length<=504:=by rw[aX];exact g5 R X
 have s1:pt (GT d) kW 300 (q! (.bin .Add (.aR 236) anX)) ⟨bJ c dp rm ky n mn x f ((254,.val (iv dr))::(245,.val (iv (k+2)))::g),da ns⟩=O (.next,⟨bJ c dp rm ky n mn (x++vt h) f ((254,.val (iv dr))::(245,.val (iv (k+2)))::g),da ns⟩):=dI (s1:=⟨bJ c dp rm ky n mn x f ((254,.val (iv dr))::(245,.val (iv (k+2)))::g),da ns⟩) (d7 (s1:=⟨bJ c dp rm ky n mn x f ((254,.val (iv dr))::(245,.val (iv (k+2)))::g),da ns⟩) Z T (ay B (aO Z))) Z
 have P:∀(w:V){pg:PG},aE ⟨bJ c dp rm ky n mn (x++vt h) f ((254,.val (iv dr))::(245,.val (iv (k+2)))::g),pg⟩ 257 (.val w)=⟨bJ c dp rm ky n mn (x++vt h) f ((254,.val (iv dr))::(245,.val (iv (k+2)))::[(257,.val w)]),pg⟩:=λw{pg}=>K.elim (λp=>by rw[p];rfl) λp=>by obtain⟨a,p⟩:=p;rw[p];rfl
 have Q:∃y i o,pt (GT d) kW 300 (.cons (.set [257] (.bin .Add (.bin .Add (.aR 4) (.int 1)) (xO 254 20 2))) (.cons (q! (.bin .Add (.bin .Add (.aR 236) (.bin .Mult (.str [32]) (.aR 257))) (x' (.aR 257) .pf))) .nil)) ⟨bJ c dp rm ky n mn (x++vt h) f ((254,.val (iv dr))::(245,.val (iv (k+2)))::g),da ns⟩=O (.next,⟨bJ c dp rm ky n mn (x++y) f ((254,.val (iv dr))::(245,.val (iv (k+2)))::i),da o⟩)/\(i=[]∨∃a,i=[(257,a)])/\Mf c ky f y:=by
  have R:dr/20%2<=1:=sK (eD _ (aO Z));have p:c+1+dr/20%2<=4:=by lia
  have T:c+1+dr/20%2=c+1∨c+1+dr/20%2=c+2:=by lia
  obtain⟨v,y,F,G,j,_⟩:=S (c+1+dr/20%2) .none ns (d9 R (c+1)) (.inl Z);have H:=j.len p;have q:(x++vt h++l9 (c+1+dr/20%2)).length<=508:=by rw[aX,lD];exact g5 B p
  refine⟨vt h++(l9 (c+1+dr/20%2)++y),[(257,.val (iv (c+1+dr/20%2)))],F,cY (s1:=⟨bJ c dp rm ky n mn (x++vt h) f ((254,.val (iv dr))::(245,.val (iv (k+2)))::[(257,.val (iv (c+1+dr/20%2)))]),da ns⟩) (cY Z ?_) ?_,.inr ⟨_,Z⟩,.inr (.inr (.inl ⟨h,_,v,y,T,j,Z⟩))⟩
  ·have E:=d7 (G:=GT d) (lv:=kW) (a:=.bin .Add (.aR 236) (.bin .Mult (.str [32]) (.aR 257))) (d7 (a:=.aR 236) (b:=.bin .Mult (.str [32]) (.aR 257)) (s:=⟨bJ c dp rm ky n mn (x++vt h) f ((254,.val (iv dr))::(245,.val (iv (k+2)))::[(257,.val (iv (c+1+dr/20%2)))]),da ns⟩) (s1:=⟨bJ c dp rm ky n mn (x++vt h) f ((254,.val (iv dr))::(245,.val (iv (k+2)))::[(257,.val (iv (c+1+dr/20%2)))]),da ns⟩) Z (lC (v:=.str [32]) (w:=iv (c+1+dr/20%2)) (s1:=⟨bJ c dp rm ky n mn (x++vt h) f ((254,.val (iv dr))::(245,.val (iv (k+2)))::[(257,.val (iv (c+1+dr/20%2)))]),da ns⟩) Z Z (mul_one (ay p (aO Z)))) (ay q (aO Z))) (G8 (a:=.aR 257) (k:=.pf) Z Z L G) (xQ q H (aO Z))
   rw[am,am]at E;exact dI E Z
  ·have E:=dI (G:=GT d) (lv:=kW) (n:=300) (x0:=257) (b:=.bin .Add (.bin .Add (.aR 4) (.int 1)) (xO 254 20 2)) (v:=iv (c+1+dr/20%2)) (s:=⟨bJ c dp rm ky n mn (x++vt h) f ((254,.val (iv dr))::(245,.val (iv (k+2)))::g),da ns⟩) (s1:=⟨bJ c dp rm ky n mn (x++vt h) f ((254,.val (iv dr))::(245,.val (iv (k+2)))::g),da ns⟩) Z Z
   rw[P]at E;exact E
 have two:∃y i o,pt (GT d) kW 300 (.ifs (.and (xq [.aR 252,.cmp (xO 254 10 2) [.Eq] (xq [.int 1])])) (.cons (q! (.bin .Add (.bin .Add (.aR 236) (.bin .Mult (.str [32]) (.aR 4))) (x' (.aR 4) .Hu))) .nil) (.cons (.set [257] (.bin .Add (.bin .Add (.aR 4) (.int 1)) (xO 254 20 2))) (.cons (q! (.bin .Add (.bin .Add (.aR 236) (.bin .Mult (.str [32]) (.aR 257))) (x' (.aR 257) .pf))) .nil))) ⟨bJ c dp rm ky n mn (x++vt h) f ((254,.val (iv dr))::(245,.val (iv (k+2)))::g),da ns⟩=O (.next,⟨bJ c dp rm ky n mn (x++y) f ((254,.val (iv dr))::(245,.val (iv (k+2)))::i),da o⟩)/\(i=[]∨∃a,i=[(257,a)])/\Mf c ky f y:=by
  obtain⟨y0,g0,r,l,t,m⟩:=Q;cases i:ky with
  |false=> rw[i]at l m;exact⟨y0,g0,r,nM l Z,t,m⟩
  |true=>
   obtain⟨b,M⟩:=agv (d:=d) (c:=c) (dp:=dp) (rm:=rm) (n:=n) (mn:=mn) (x:=x++vt h) (f:=f) (dr:=dr) (pg:=da ns) (e:=(245,.val (iv (k+2)))::g) (ky:=U) Z;rw[i]at l m;cases b with
   |false=>exact⟨y0,g0,r,nM l M,t,m⟩
   |true=>
    obtain⟨v,y,F,G,j,i⟩:=S c (.bool J) ns (gb _ _) (.inr Z);rw[i Z]at j;have H:=j.len A;have q:(x++vt h++l9 c).length<=508:=by rw[aX,lD];exact g5 B A
    refine⟨vt h++(l9 c++y),g,F,yC (cY Z ?_) M,K,.inr (.inr (.inr ⟨Z,h,y,j,Z⟩))⟩;have E:=d7 (G:=GT d) (lv:=kW) (a:=.bin .Add (.aR 236) (.bin .Mult (.str [32]) (.aR 4))) (d7 (a:=.aR 236) (b:=.bin .Mult (.str [32]) (.aR 4)) (s:=⟨bJ c dp rm U n mn (x++vt h) f ((254,.val (iv dr))::(245,.val (iv (k+2)))::g),da ns⟩) Z (lC Z Z (mul_one (ay A (aO Z)))) (ay q (aO Z))) (G8 (a:=.aR 4) (k:=.Hu) Z Z L G) (xQ q H (aO Z));rw[am,am]at E;exact dI E Z
 obtain⟨y0,g0,r,l,t,m⟩:=two;exact⟨y0,g0,r,cY (cY Z l) s1,t,m⟩
theorem agw(P:k<5)(G:dp=J->k≠2/\k≠3)(m:g=[]∨∃a,g=[(257,a)])(j:x.length<=500)(i:c<=4)(t:dp->c<=2)(A:dp->Q3 d rr c)(B:qw .Sub (iv (rm+1)) (iv mn)=O (iv rr)):
  ∃y h p,pt (GT d) kW 300 (bT 4) ⟨bJ c dp rm ky n mn x f ((254,.val (iv dr))::(245,.val (iv k))::g),da ns⟩=O (.next,⟨bJ c dp rm ky n mn (x++y) f ((254,.val (iv dr))::(245,.val (iv k))::h),da p⟩)/\(h=[]∨∃a,h=[(257,a)])/\Mf c ky f y/\(dp=J->WO c f y):=by
 have Q:c<=50:=ay i (aO Z);have H:∀{x e},ev (GT d) kW J Ł ⟨bJ c dp rm ky n mn x f e,da ns⟩=O (.str (Y0 (cy ns) f c),⟨bJ c dp rm ky n mn x f e,da ns.tail⟩):=λ{x e}=>acK i;cases k with
 |zero=>
  have l:(x++[32]).length<=501:=by rw[aX];exact eN j
  refine⟨32::Y0 (cy ns) f c,g,ns.tail,?_,m,.inl (.inl ⟨_,Z⟩),λ_=>.inl ⟨_,Z⟩⟩;have E:=d7 (G:=GT d) (lv:=kW) (d7 (a:=.aR 236) (b:=.str [32]) (s:=⟨bJ c dp rm ky n mn x f ((254,.val (iv dr))::(245,.val (iv 0))::g),da ns⟩) Z Z (ay l (aO Z))) H (xQ l (vu i) (aO Z));rw[am]at E;exact yC (Ģ E Z) Z
 |succ k=>cases k with
  |zero=>
   have l:(x++[10]).length<=501:=by rw[aX];exact eN j
   have K:dr/5%2<=1:=sK (eD _ (aO Z));have L:(x++[10]++l9 (c+1+dr/5%2)).length<=507:=by rw[aX,lD];lia
   refine⟨10::(l9 (c+1+dr/5%2)++Y0 (cy ns) f c),g,ns.tail,?_,m,.inl (.inr (.inl ⟨_,_,K,Z⟩)),λ_=>.inr (.inl ⟨_,_,K,Z⟩)⟩;have E:=d7 (G:=GT d) (lv:=kW) (d7 (d7 (a:=.aR 236) (b:=.str [10]) (s:=⟨bJ c dp rm ky n mn x f ((254,.val (iv dr))::(245,.val (iv 1))::g),da ns⟩) Z Z (ay l (aO Z))) (acL (dr:=dr) Q) (ay L (aO Z))) H (xQ L (vu i) (aO Z));rw[am,am]at E;exact nM (cY Z (yC (Ģ E Z) Z)) Z
  |succ k=>
   have M:k<2->dp:=λH=>by
    cases dp with
    |true=>rfl
    |false=>exact((by lia:k+2=2∨k+2=3)).elim (λe=>ch e (G Z).1) λe=>ch e (G Z).2
   cases k with
   |zero=>
    have b:=M (aO Z);cases G:ky with
    |false=>
     obtain⟨v,y,G,r,o,_⟩:=A b (c+2) .none ns (aU _) (.inl Z);have H:=o.len (dh (t b) 2);have l:(x++[32]).length<=501:=by rw[aX];exact eN j
     refine⟨32::y,g,G,?_,m,.inr (.inl ⟨Z,v,y,o,Z⟩),λq=>ao (il b q).symm⟩;have E:=d7 (a:=.bin .Add (.aR 236) (.str [32])) (d7 (s:=⟨bJ c dp rm J n mn x f ((254,.val (iv dr))::(245,.val (iv 2))::g),da ns⟩) Z Z (ay l (aO Z))) (G8 (a:=.bin .Add (.aR 4) (.int 2)) (k:=.pf) Z Z B r) (xQ l H (aO Z));rw[am]at E;exact nM (cY Z (nM (cY Z (yC (cY Z (dI E Z)) Z)) Z)) Z
    |true=> obtain⟨y,h,p,F,r,o⟩:=Y4 (k:=0) (ky:=U) m j i t A B b (aO Z);exact⟨y,h,p,nM (cY Z (nM (cY Z (nM (cY Z (yC F Z)) Z)) Z)) Z,r,o,λq=>ao (il b q).symm⟩
   |succ k=>cases k with
    |zero=> have b:=M (aO Z);obtain⟨y,h,p,F,r,o⟩:=Y4 (k:=0+1) m j i t A B b (aO Z);exact⟨y,h,p,nM (cY Z (nM (cY Z (nM (cY Z (yC F Z)) Z)) Z)) Z,r,o,λq=>ao (il b q).symm⟩
    |succ k=>cases k with
     |succ k=>exact ch P (Op (nQ 5 k))
     |zero=>
      have l:(x++[10]).length<=501:=by rw[aX];exact eN j
      refine⟨[10],g,ns,?_,m,.inl (.inr (.inr Z)),λ_=>.inr (.inr Z)⟩;have E:=d7 (G:=GT d) (lv:=kW) (a:=.aR 236) (b:=.str [10]) (s:=⟨bJ c dp rm ky n mn x f ((254,.val (iv dr))::(245,.val (iv 4))::g),da ns⟩) Z Z (ay l (aO Z));exact nM (cY Z (nM (cY Z (nM (cY Z (nM (cY Z (dI E Z)) Z)) Z)) Z)) Z
end
def vb(P:I->ae->Prop)(v:I)(c:W)(x:ae):=∃a,P U a/\(x=kr v++a∨∃b,P J b/\x=kr v++a++(l9 c++(kr v++b)))
def ŀ(c:W)(a:I)(b:W)(d:I)(n e:W):cz:=[(211,.val .aG),(4,.val (iv c)),(255,.val (.bool a)),(251,.val (iv b)),(252,.val (.bool d)),(212,.val (iv n)),(250,.val (iv e)),(236,.val (.str []))]
def stp(d:W):V->gB:=λv s=>pt (GT d) kW 300 oU (aE s 253 (.val v))
def z2(g:cz):=g=[]∨∃a,g=[(257,a)]
def SO(a n:W):W:=br (ac a 2) (1+n/2%2) 1
def T2(a n:W):W:=br (ac a 2) (2-n/2%2) 1
def Y5(a:V)(n:W):I:=dP a J (bo:=λb=>b) (no:=a? (((n%2:W):D)=1))
section
variable{d n c rm mn B:W}{dp ky f:I}{s s1 E:St}{x y z:ae}{v A:V}{ns:ae}{e g:cz}{P:I->ae->Prop}
def JF(q:Sh e g)(l:z2 g)(k:x.length<=200)(b:c<=4)(m:dp->c<=2)(o:dp->Q3 d B c)(p:qw .Sub (iv (rm+1)) (iv mn)=O (iv B)):
  ∃y r t a h,pt (GT d) kW 300 oU ⟨bJ c dp rm ky n mn x f e,da ns⟩=O (.next,⟨bJ c dp rm ky n mn (x++br f [] (l9 c)++kr ky++y) f ((254,r)::(245,t)::a),da h⟩)/\z2 a/\Mf c ky f y/\(dp=J->WO c f y):=by
 have u:(br f [] (l9 c)).length<=4:=by
  induction f with
  |true=>exact eG _
  |false=>show(l9 c).length<=4;rw[lD];exact b
 have i:(x++br f [] (l9 c)++kr ky).length<=206:=by rw[aX,aX];exact g5 (g5 k u) G7
 have kf:Y1 dp (cy ns%5)<5:=by
  have:=eD (cy ns) (show 0<5 by decide);unfold Y1
  induction dp with
  |true=>exact this
  |false=>cases ac _ 2 with
   |true=>exact(by decide:0<5)
   |false=>cases ac _ 3 with
    |true=>exact(by decide:1<5)
    |false=>exact this
 have w:dp=J->Y1 dp _≠2/\Y1 dp _≠3:=λk=>by
  rw[k];unfold Y1;cases j:ac _ 2 with
  |true=>exact(by decide:(0)≠2/\(0)≠3)
  |false=>cases k:ac _ 3 with
   |true=>exact(by decide:(1)≠2/\(1)≠3)
   |false=>exact⟨λ(z:cy ns%5=2)=>(by rw[z]at j;exact nomatch j),λ(z:cy ns%5=3)=>(by rw[z]at k;exact nomatch k)⟩
 obtain⟨y,a,h,j,k,r,t⟩:=agw kf w l (ay i (aO Z)) b m o p;refine⟨y,.val (iv (cy ns)),.val (iv (Y1 dp (cy ns%5))),a,h,?_,k,r,t⟩;rw[WM];refine cY ?_ (agr (ay b (aO Z)) (ay i (aO Z)));rw[acJ q];exact cY (cY Z j) (ags (eD _ (aO Z)))
def Q4(a:mn=1∨mn=2)(k:∀{x:ae}{f:I}{e g:cz}{ns:ae},Sh e g->z2 g->x.length<=200->∃y h i b j,pt (GT d) kW 300 oU ⟨bJ c dp rm ky n mn x f e,da ns⟩=O (.next,⟨bJ c dp rm ky n mn (x++br f [] (l9 c)++kr ky++y) f ((254,h)::(245,i)::b),da j⟩)/\z2 b/\P f y/\y.length<=120):
  ∃x f e r,forL (stp d) (dF 1 mn 0) ⟨ŀ c dp rm ky n mn,da ns⟩=O (.next,⟨bJ c dp rm ky n mn x f e,da r⟩)/\vb P ky c x:=by
 obtain⟨y,h,i,b,j,l,o,m,p⟩:=k (x:=[]) (f:=U) (ns:=ns) (.inl ⟨Z,Z⟩) (.inl Z) (eG _);refine a.elim (λa=>?_) λa=>?_
 ·subst a
  refine⟨kr ky++y,U,(254,h)::(245,i)::b,j,?_,y,m,.inl Z⟩;show ax (pt _ kW 300 oU ⟨bJ c dp rm ky n 1 [] U [],da ns⟩) (λf s=>turn f s _)=_;rw[l];rfl
 ·subst a
  have a:(kr ky++y).length<=200:=by rw[aX];exact ay (g5 G7 p) (aO Z)
  obtain⟨y2,b,p,q,r,t,u,u,w⟩:=k (.inr ⟨h,i,Z⟩) o a;refine⟨kr ky++y++l9 c++kr ky++y2,J,(254,b)::(245,p)::q,r,?_,y,m,.inr ⟨y2,u,?_⟩⟩
  ·show ax (pt _ kW 300 oU ⟨bJ c dp rm ky n 2 [] U [],da ns⟩) (λf s=>turn f s _)=_
   rw[l];show ax (pt _ kW 300 oU ⟨bJ c dp rm ky n 2 (kr ky++y) J _,da j⟩) (λf s=>turn f s _)=_;rw[t];rfl
  ·show kr ky++y++l9 c++kr ky++y2=_
   rw[am (kr ky++y),am _,am (l9 c)]
theorem Ek(j:rm=1∨rm=2)(q:A=.none∨∃b,A=.bool b)(p:∀{x:ae}{f:I}{e g:cz}{k:ae},Sh e g->z2 g->x.length<=200->∃y l b i o,pt (GT d) kW 300 oU ⟨bJ c dp rm (Y5 A (cy ns)) (cy ns) (SO rm (cy ns)) x f e,da k⟩=O (.next,⟨bJ c dp rm (Y5 A (cy ns)) (cy ns) (SO rm (cy ns)) (x++br f [] (l9 c)++kr (Y5 A (cy ns))++y) f ((254,l)::(245,b)::i),da o⟩)/\z2 i/\P f y/\y.length<=120):
  ∃y r,t4 (d+4) 219 [.aG,iv c,.bool dp,iv rm,A] (da ns)=O (.str y,da r)/\vb P (Y5 A (cy ns)) c y:=by
 have a:SO rm (cy ns)=1∨SO rm (cy ns)=2:=j.elim (λh=>by rw[h];exact .inl Z) λh=>by
  rw[h];show 1+cy ns/2%2=1∨1+cy ns/2%2=2
  lia
 obtain⟨x,f,e,r,t,i⟩:=Q4 (ns:=ns.tail) a p;refine⟨x,r,?_,i⟩;have s1:pt (GT d) kW 300 (.set [212] y_) ⟨[(211,.val .aG),(4,.val (iv c)),(255,.val (.bool dp)),(251,.val (iv rm)),(252,.val A)],da ns⟩=O (.next,⟨[(211,.val .aG),(4,.val (iv c)),(255,.val (.bool dp)),(251,.val (iv rm)),(252,.val A),(212,.val (iv (cy ns)))],da ns.tail⟩):=dI (s1:=⟨[(211,.val .aG),(4,.val (iv c)),(255,.val (.bool dp)),(251,.val (iv rm)),(252,.val A)],da ns.tail⟩) (JE Z Z Z Z Z (vr (d:=d+1) ns)) Z;have E:pt (GT d) kW 300 (w? 1) ⟨[(211,.val .aG),(4,.val (iv c)),(255,.val (.bool dp)),(251,.val (iv rm)),(252,.val A),(212,.val (iv (cy ns)))],da ns.tail⟩=O (.next,⟨[_,_,_,(251,.val (iv rm)),_,_,(250,.val (iv (SO rm _)))],da ns.tail⟩):=j.elim (λh=>by rw[h];rfl) λh=>by rw[h];rfl
 have s3:pt (GT d) kW 300 (w? 2) ⟨[(211,.val .aG),(4,.val (iv c)),(255,.val (.bool dp)),(251,.val (iv rm)),(252,.val A),(212,.val (iv (cy ns))),(250,.val (iv (SO rm (cy ns))))],da ns.tail⟩=O (.next,⟨[_,_,_,_,(252,.val (.bool (Y5 A _))),_,_],da ns.tail⟩):=q.elim (λh=>by rw[h];rfl) λh=>by obtain⟨b,h⟩:=h;rw[h];cases b<;>rfl
 have s5:pt (GT d) kW 300 (.yb [253] (.bF 218 (xq [.aR 250]) [] .nil) oU) ⟨ŀ c dp rm (Y5 A (cy ns)) (cy ns) (SO rm (cy ns)),da ns.tail⟩=O (.next,⟨bJ c dp rm (Y5 A (cy ns)) (cy ns) (SO rm (cy ns)) x f e,da r⟩):=by
  have z:=t;revert z;generalize SO rm _=m at a;refine a.elim (λh=>?_) λh=>?_
  ·rw[h];exact id
  ·rw[h];exact id
 show ax (pt (GT d) kW 300 rh ⟨[_,_,_,_,_],da ns⟩) (λf s=>O (ku f,s.pg))=_;rw[WL,cY (cY (cY (cY (cY (JD Z Z) s5) (Z)) s3) E) s1];rfl
def JG{n:W}(a:rm=1∨rm=2):qw .Sub (iv (rm+1)) (iv (SO rm n))=O (iv (T2 rm n)):=by refine a.elim (λh=>by rw[h];rfl) λh=>?_;rw[h];exact q01 (P:=λk=>qw .Sub _ (iv (1+k))=O (iv (2-k))) Z Z
def Q5(h:c<=4)(a:rm=1∨rm=2)(i:A=.none∨∃b,A=.bool b):∃y r,t4 (d+4) 219 [.aG,iv c,.bool J,iv rm,A] (da ns)=O (.str y,da r)/\Y3 (Y5 A (cy ns)) c y:=Ek a i λj k l=>by obtain⟨y,m,b,o,p,r,t,i,i⟩:=JF j k l h (λq=>ao q) (λq=>ao q) (JG a);exact⟨y,m,b,o,p,r,t,i Z,ay ((i Z).len h) (aO Z)⟩
theorem agy{n:W}(a:rm=1∨rm=2):T2 rm n=1∨T2 rm n=2:=a.elim (λh=>by rw[h];exact .inl Z) λh=>by rw[h];show 2-n/2%2=1∨2-n/2%2=2;lia
def WR(a:c<=2):∃v y r,t4 (d+5) 219 [.aG,iv c,.bool U,iv 2,.none] (da ns)=O (.str y,da r)/\vb (Mf c v) v c y:=by(obtain⟨y,r,h⟩:=Ek (dp:=U) (.inr Z) (.inl Z) λj k l=>by obtain⟨y,m,o,p,b,q,t,i,u⟩:=JF (d:=d+1) j k l (ay a (aO Z)) (λ_=>a) (λ_ j A b j k=>by obtain⟨y,r,l,i2⟩:=Q5 (ay j (dh a 2)) (agy (n:=cy ns) (.inr Z)) (k.imp id λh=>⟨_,h⟩);exact⟨_,y,r,l,i2,λh=>by rw[h];rfl⟩) (JG (.inr Z));exact⟨y,m,o,p,b,q,t,i,i.len a⟩);exact⟨_,y,r,h⟩
end
def Ŀ(f e p z:W):Lf:=br (ac f 2) ⟨2,e,p,0⟩ (br (ac f 8) ⟨8,0,p,z⟩ (br (ac f 9) ⟨9,0,p,0⟩ ⟨f,e,1,0⟩))
def ais(x:(W×W)×W×W×W):I:=cW (uF x.1.2 x.2.1 (l9 (x.1.1+1+x.2.2.1)) x.2.2.2) (r8 x.1.1 (Ŀ x.1.2 x.2.1 (1+x.2.2.1) x.2.2.2))&&V6 (Ŀ x.1.2 x.2.1 (1+x.2.2.1) x.2.2.2) Lw
def Z1(v:I)(c:D)(g:W)(l:Lf):gR:=⟨gT c g++r8 c l,E1 v [c] g l,QT v [c] g l⟩
def ī:gR:=⟨[10],V',Ê⟩
def z_(r:D)(S:Mc):gR:=⟨x_ r S,D' r S,LD r S⟩
def Mg(v:I)(c:D)(E:gR):=E=ī∨∃g l,(g=0∨g=1∨g=2)/\l∈Lw/\E=Z1 v c g l
def El(P:gR->Prop)(E:gR)(a:Y gR):=P E/\(∀E∈a,P E)/\a.length<=1
def P0(v:I)(r:D)(S:Mc):=uE v S.w S.an=U/\(ac S.w 3->S.v=J)/\El (Mg S.v (pd r S.w)) S.E S.Es
def Q6(v:I)(r:D)(E:gR):=Mg v r E∨∃S,P0 v r S/\E=z_ r S
section
variable{c f e n k:W}{b v:I}{x:ae}{l:Lf}{m:Y Lf}{P:gR->Prop}
def Q7:aH ais (Bl (Bl [0,1,2,3,4] [0,1,2,3,4,5,6,7,8,9]) (Bl [0,1,2,3] (Bl [0,1] [0,1])))=U:=by kernel_rfl
def agA(h:n<2):n∈[0,1]:=(by decide:∀n,n<2->n∈[0,1]) n h
def Q8(a:c<=4):∃l,l∈Lw/\Y0 n b c=r8 c l:=by
 have d:YZ (n%10) b<10:=by
  have:=eD n (show 0<10 by decide);unfold YZ;cases(ac _ 7&&!b)with
  |true=>exact(by decide:0<10)
  |false=>exact this
 have m2:∀k,n/k%2∈[0,1]:=λk=>agA (eD _ (aO Z));have g:=ai Q7 (eY (eY ((by decide:∀c,c<5->c∈[0,1,2,3,4]) c (Wp a)) ((by decide:∀f,f<10->f∈[0,1,2,3,4,5,6,7,8,9]) _ d)) (eY ((by decide:∀e,e<4->e∈[0,1,2,3]) (n/10%4) (eD _ (aO Z))) (eY (m2 5) (m2 7))));exact ag g λa d=>⟨_,vm d,oM a⟩
def Y6(a:c<=4)(h:WO c b x):∃E,Mg v c E/\E.x=x:=h.elim (λh=>by
  obtain⟨n,h⟩:=h;obtain⟨l,m,e⟩:=Q8 a;exact⟨Z1 v c 0 l,.inr ⟨0,l,.inl Z,m,Z⟩,by rw[h,e];rfl⟩) λh=>h.elim (λh=>by
  obtain⟨n,k,d,h⟩:=h;obtain⟨l,m,e⟩:=Q8 a
  have G:gT c (k+1)=10::l9 (c+1+k):=by rw[fK,hO 1];rfl
  refine⟨Z1 v c _ l,.inr ⟨k+1,l,.inr ?_,m,Z⟩,?_⟩
  ·induction k with
   |zero=>exact .inl Z
   |succ k _=>exact .inr (by rw[ez.mp (vF d)])
  ·show gT c _++r8 c l=x
   rw[h,e,G];rfl) λh=>⟨ī,.inl Z,h.symm⟩
def Y7{Q:I->ae->Prop}(H:∀f x,Q f x->∃E,P E/\E.x=x)(h:vb Q v c x):∃E a,El P E a/\x=dX v c E a:=by refine gq λP g=>?_;obtain⟨a,i,h⟩:=h;obtain⟨E,a,d⟩:=H _ _ i;refine g ?_;refine h.elim (λh=>⟨E,[],⟨a,(λ_ m=>nomatch m),eG _⟩,?_⟩) λh=>?_;show x=sgn v++(E.x++[]);rw[eq,d];exact h;obtain⟨g,g,h⟩:=h;obtain⟨i,j,o⟩:=H _ _ g;refine⟨E,[i],⟨a,λE m=>eC.mp m▸j,aU 1⟩,?_⟩;show x=sgn v++(E.x++(sp c++_));rw[eq,d,o,<-am];exact h
def Q9(d:c<=4)(h:Y3 v c x):∃E a,El (Mg v c) E a/\x=dX v c E a:=Y7 (Q:=WO c) (λ_ _=>Y6 d) h
def agB(j:c<=2)(h:Mf c v b x):∃E,Q6 v c E/\E.x=x:=h.elim (λh=>by
  obtain⟨E,p,r⟩:=Y6 (ay j (aO Z)) h;exact⟨E,.inl p,r⟩) λh=>h.elim (λh=>by
  obtain⟨o,u,y,i,h⟩:=h;obtain⟨E,a,R,e⟩:=Q9 (dh j 2) i;exact⟨z_ c ⟨0,J,u,E,a⟩,.inr ⟨⟨0,J,u,E,a⟩,⟨by rw[o];rfl,(λh=>ao h),R⟩,Z⟩,by rw[h,e];rfl⟩) λh=>h.elim (λh=>by
  obtain⟨d,p,u,y,s,i,h⟩:=h
  have G:∀w:W,w=1∨w=2->p=c+w->∃E,Q6 v c E/\E.x=x:=λw g q=>by
   have r:p<=4:=by rw[q];exact g5 (d:=2) j (g.elim (λh=>h▸(aO Z)) λh=>h▸aU 2)
   obtain⟨E,a,R,e⟩:=Q9 r i;rw[q]at R e h;refine g.elim (λg=>?_) λg=>?_
   ·subst g
    exact⟨z_ c ⟨1,d,u,E,a⟩,.inr ⟨⟨1,d,u,E,a⟩,⟨Z,(λh=>ao h),R⟩,Z⟩,by rw[h,e];cases d<;>rfl⟩
   ·subst g
    exact⟨z_ c ⟨2,d,u,E,a⟩,.inr ⟨⟨2,d,u,E,a⟩,⟨Z,(λh=>ao h),R⟩,Z⟩,by rw[h,e];cases d<;>rfl⟩
  exact s.elim (G 1 (.inl Z)) (G 2 (.inr Z))) λh=>by
  obtain⟨o,d,y,i,h⟩:=h;obtain⟨E,a,R,e⟩:=Q9 (ay j (aO Z)) i;exact⟨z_ c ⟨3,d,J,E,a⟩,.inr ⟨⟨3,d,J,E,a⟩,⟨by rw[o];rfl,λ_=>Z,R⟩,Z⟩,by rw[h,e];cases d<;>rfl⟩
def WS(d:c<=2)(h:vb (Mf c v) v c x):∃E a,El (Q6 v c) E a/\x=dX v c E a:=Y7 (λ_ _=>agB d) h
end
def Q!{b a:Type}(P:b->a->Prop)(l:Y b):Y a->Prop:=bm (motive:=λ_=>Y a->Prop) (λm=>m=[]) (λa _ c m=>∃b r,m=b::r/\P a b/\c r) l
def TL:af:=[SM [97],SM [98,32,99],SM [100,32,101],YV [102,32,103] 39,YV [104,105] 34,QN [120],QR,Bj .none yes,YV [108,10] 124,YV [109,32,110] 62,SM [106],qi,SM [],nj,D8,EH 111 J,EH 111 U,EH 115 J,EH 115 U,EH 112 J,EH 112 U,ja yes,ja iN,iO yes,iO iN,km]
def gz(i:W):V:=kA i TL iF
def sH(k j:D)(p:aw):aw:=(p.1+k,p.2.1+j,p.2.2)
def P_(k j:D)(e c:V):=∃i a b,e=bB (gz i) a b/\c=bB (gz i) (sH k j a) (sH k j b)
def G9(k j:D):af->af->Prop:=Q! (P_ k j)
def EI(ev:aw->aw->af):=∀k j p P,G9 k j (ev p P) (ev (sH k j p) (sH k j P))
section
variable{u z:Type}{Q:u->z->Prop}{k j:D}{p q a b a' b' P Pe:aw}{i w g:W}{l t m:af}{e A:V}{s:Y D}{y:Lf}{v an:I}{c r:D}{E:gR}{Es:Y gR}{S:Mc}
def Ha{y:Y z}(h:Q! Q x y)(n:Q! Q f d):Q! Q (x++f) (y++d):=by revert y;induction x with|nil=>exact λ{y}h=>(h)▸n|cons a x o=> intro y h;obtain⟨b,r,q,f,n⟩:=h;rw[q];exact⟨b,r++d,Z,f,o n⟩
def yD{a b c:D}:(((sH k j p).1+a,(sH k j p).2.1+b,c):aw)=sH k j (p.1+a,p.2.1+b,c):=eq3 (TW _ _ _) (TW _ _ _) Z
def WT(d:a'=sH k j a)(f:b'=sH k j b):P_ k j (bB (gz i) a b) (bB (gz i) a' b'):=⟨i,a,b,Z,by rw[d,f]⟩
def Bq(h:P_ k j e A)(d:G9 k j l t):G9 k j (e::l) (A::t):=⟨_,_,Z,h,d⟩
def Eo:G9 k j [] []:=Z
def Br(n:jp y.f 12)(d:ac y.f 6=J)(h:ac y.f 7=J):Ee y.f=gz y.f:=by(have m:=(by decide:∀f,f<12->f≠6->f≠7->f∈[0,1,2,3,4,5,8,9,10,11]) y.f (cw n) (λq=>by rw[q]at d;exact ao d.symm) λq=>by rw[q]at h;exact ao h.symm);exact d6 (f:=Ee) (g:=gz) Z m
def JH(d:jp y.f 12):EI (λp _=>ji s y p):=λk j p P=>by
 unfold ji;cases f:ac y.f 6 with
 |true=>exact Bq (WT (i:=6) Z yD) Eo
 |false=>cases h:ac y.f 7 with
  |true=>exact Bq (WT (i:=7) Z yD) (Bq (WT (i:=11) yD yD) (Bq (WT (i:=13) yD yD) Eo))
  |false=> rw[Br d f h];exact Bq (WT Z yD) Eo
def WU(d:jp y.f 12):EI (QT v s g y):=λk j p P=>by have f:=JH (s:=s) d k j (Wa v s g p) P;have q:Wa v s g (sH k j p)=sH k j _:=yD;unfold QT;rw[q];exact f
def WV:EI Ê:=λk j p P=>Bq (WT (i:=12) Z Z) Eo
def agC:G9 k j (Jz v p) (Jz v (sH k j p)):=by induction v with|true=>exact Bq (WT (i:=11) Z yD) Eo|false=>exact Eo
def acN:uX v c E Es (sH k j p) (sH k j Pe)=sH k j (uX v c E Es p Pe):=by unfold uX;have q:qL v (sH k j p)=sH k j _:=yD;cases Es.isEmpty with|true=>rfl|false=>rw[q];exact yD
def acO(d:EI E.ev)(f:G9 k j l t):G9 k j (Jz v p++(E.ev (qL v p) P++l)) (Jz v (sH k j p)++(E.ev (qL v (sH k j p)) (sH k j P)++t)):=by have q:qL v (sH k j p)=sH k j _:=yD;rw[q];exact Ha agC (Ha (d k j _ P) f)
def agD:∀(Es:Y gR){p:aw},(∀E∈Es,EI E.ev)->G9 k j (Ef v c Es p Pe) (Ef v c Es (sH k j p) (sH k j Pe)):=by intro Es;induction Es with|nil=>exact λ_=>Eo|cons E Es f=> intro p h;have d:=acO (p:=p) (P:=uX v c E Es p Pe) (v:=v) (h E gY) (f (p:=uX v c E Es p Pe) λE m=>h E (.tail _ m));rw[<-acN]at d;exact d
def acP(d:EI E.ev)(f:∀E∈Es,EI E.ev):G9 k j (eJ v c E Es p Pe) (eJ v c E Es (sH k j p) (sH k j Pe)):=agD (E::Es) λE m=>by cases m with|head=>exact d|tail _ m=>exact f E m
def ua(v:I)(w:W)(an:I):W:=br v (br an 18 17) (br (ac w 3) (br an 20 19) (br an 16 15))
def Ra:EH (jJ v w) an=gz (ua v w an):=by unfold jJ ua;cases v<;>cases an<;>cases ac w 3<;>rfl
def Y8:lY v=gz (br v 14 13):=by cases v<;>rfl
def agE:P_ k j (vq (jJ v w) an a q) (vq (jJ v w) an (sH k j a) (sH k j q)):=by unfold vq;rw[Ra];refine WT (by cases an<;>rfl) ?_;cases ac _ 112 with|true=>exact yD|false=>rfl
def Hb(d:EI E.ev)(f:∀E∈Es,EI E.ev):G9 k j (vq (jJ v w) an a q::(eJ v c E Es q Pe++[bB (lY v) Pe Pe])) (vq (jJ v w) an (sH k j a) (sH k j q)::(eJ v c E Es (sH k j q) (sH k j Pe)++[bB (lY v) (sH k j Pe) (sH k j Pe)])):=Bq agE (Ha (acP d f) (Bq (by rw[Y8];exact WT Z Z) Eo))
def WW(h:y∈Lw):jp y.f 12:=ai (show aH (λl:Lf=>jp l.f 12) Lw=U by kernel_rfl) h
def JI(h:Mg v c E):EI E.ev:=h.elim (λh=>by rw[h];exact WV) λh=>by obtain⟨g,l,_,m,h⟩:=h;rw[h];exact WU (WW m)
def agF(h:P0 v r S):EI (LD r S):=λk j p P=>by obtain⟨_,_,d,f,_⟩:=h;have h:D5 (sH k j p)=sH k j _:=yD;have n:BK r S (sH k j p)=sH k j _:=yD;unfold LD;rw[h,n];exact Hb (JI d) λE m=>JI (f E m)
def Rb(h:Q6 v r E):EI E.ev:=h.elim JI λh=>by obtain⟨S,d,f⟩:=h;rw[f];exact agF d
end
def WX(t:V):ae:=dP t [] (tu:=λl=>lc l [] λs _=>dP s [] (s:=λs=>s))
def Bs(t:V)(l:uI):I:=Mn (cW (WX t)) l
def Č(t:V):W:=br (Bs t [[97,108,105,97,115],[109,97,112]]) 1 (br (Bs t [[114,111,119]]) (dP t 0 (tu:=λl=>lc (l.drop 4) 0 λx _=>dP x 0 (s:=λs=>br (cW s [63]) 0 1))) (br (Bs t [[118,97,108,117,101]]) 2 0))
def dV(t:V):D:=br (Bs t [[114,111,119],[109,97,112]]) 1 (br (Bs t [[114,111,119,32,101,110,100],[109,97,112,32,101,110,100]]) (-1) 0)
def vv(e:V):I:=dP e J (tu:=λl=>lc l J λt r=>lc r J λm _=>dP m J (ls:=λq=>lc q J λa r=>lc r J λb _=>br (ac (Č t) 1) U (br (ac (Č t) 2) (!kt (qP 30 a) (qP 30 b)) J)))
def dE(e:V):D:=dP e 0 (tu:=λl=>lc l 0 λt _=>dV t)
def LI(d:D)(l:af):N D:=bm (motive:=λ_=>D->N D) O (λe _ a d=>br (a? (d+dE e=0)) C (a (d+dE e))) l d
def vd(l:af):=∀d:D,1<=d->LI d l=O d
def FrE(p:aw)(a:af):=∃i b X,a=bB (gz i) p b::X
def LaE(q:aw)(b:af):=∃i c a d,b=a++[bB (gz i) c q]/\LI 0 a=O d/\d+dV (gz i)=0
def kO(p:aw):D:=p.2.2-p.1
def jO(p:aw):D:=-p.2.1
def mo(p q:aw):aw:=sH (kO p) (jO p) q
def qj(c:ae)(a:af):=∃(p q:aw)(A M B:ae)(b:af),FrE p a/\LaE q a/\c=A++(M++B)/\B≠[]/\p.1=(ak A:W)/\q.1=p.1+(ak M:W)/\G9 (kO p) (jO p) a b/\0<=p.2.2/\eZ (sp p.2.2++M) (bB iF dU dU::bB (ja iN) (mo p p) (mo p p)::(b++oS (mo p q)))
def LJ(b:ae)(l:af):=bm (motive:=λ_=>Prop) mf (λe l c=>(vv e->∃a B,e::l=a++B/\qj b a)/\c) l
structure Seg(tz:ae)(l:af):Prop where
 nd:∀R,LJ tz R->LJ tz (l++R)
 ne:vd l
def Hc(b:ae):=∃a,b=a++[0]/\gH a/\a.length<=680
section
variable{d d1:D}{l u i:af}{e bg en:V}{t A M B x y:ae}{p q P a:aw}{c:D}{n:W}
def JJ(h:LI d l=O d1):LI d (l++u)=LI d1 u:=by revert d;induction l with|nil=>exact λ{d}h=>by rw[show d=d1 from au h];rfl|cons e l b=>intro d h;show br (a? (d+dE e=0)) C (LI (d+dE e) (l++u))=_;have h:br (a? (d+dE e=0)) C (LI (d+dE e) l)=O d1:=h;revert h;cases a? (d+dE e=0)with|true=>exact aa|false=>exact b
def WY(h:vd l)(f:vd u):vd (l++u):=λd b=>(JJ (h d b)).trans (f d b)
def JK(h:d+dE e=d1)(b:d1≠0):LI d (e::l)=LI d1 l:=by show br (a? (d+dE e=0)) C (LI (d+dE e) l)=_;rw[h,dQ b];rfl
def Seg.nil:Seg t []:=⟨λ_=>id,λ_ _=>Z⟩
def Seg.app(h:Seg t l)(b:Seg t u):Seg t (l++u):=⟨λR r=>by rw[am];exact h.nd _ (b.nd R r),WY h.ne b.ne⟩
def Seg.one(b:dE e=0)(h:vv e->qj t [e]):Seg t [e]:=⟨λR r=>⟨λk=>⟨[e],R,Z,h k⟩,r⟩,λd h=>JK (by rw[b];exact aA d) λz=>ch (z▸h) (aO Z)⟩
theorem Seg.t?(f:dE bg=1)(h:Seg t i)(g:dE en=-1)(b:vv en=J)(k:vv bg->qj t (bg::(i++[en]))):Seg t (bg::(i++[en])):=by refine⟨λR r=>⟨λz=>⟨bg::(i++[en]),R,Z,k z⟩,?_⟩,λd j=>?_⟩;show LJ t ((i++[en])++R);rw[am];exact h.nd _ ⟨λz=>ao (il b z),r⟩;(have d1:d+dE bg=d+1:=by rw[f]);rw[JK d1 (by lia),JJ (h.ne (d+1) (by lia)),JK (d1:=d) (by rw[g];lia) (by lia)];rfl
def JL{b:Type}{f:b->I}{x y:Y b}(h:aH f (x++y)=U):aH f x=U/\aH f y=U:=by induction x with|nil=>exact⟨Z,h⟩|cons a x g=>exact cp h λb h=>⟨dM b|>.trans (g h).1,(g h).2⟩
def sv:gH (sp c):=by unfold sp;induction c.toNat with|zero=>rfl|succ n b=>exact b
theorem He(G:Hc t)(f:t=A++(M++B))(b:B≠[])(g:c<=10):gH (sp c++M)/\(sp c++M).length<=700:=by obtain⟨g,e,g,l⟩:=G;(have E:=by have h:=ah List.dropLast (il e f);rwa [List.dropLast_concat,eh (λz=>b (t3.mp z).2),eh b]at h);rw[E]at g l;have z:=(JL (JL (f:=aq alpha) g).2).1;refine⟨fV sv z,?_⟩;have b:=mQ (c:=c);rw[aB]at b;rw[aX,aX]at l;rw[aX];lia
def qO:((ak (x++y):W):D)=(ak x:W)+(ak y:W):=by rw[len_app];exact fP _ _
def acQ:iC (sp c)=0:=by show((mR (sp c)):D)=0;rw[kh];rfl
theorem Bt(h:0<=p.2.2):mo p p=qh dU (sp p.2.2) p.2.2:=by refine eq3 ?_ ?_ Z;show p.1+(p.2.2-p.1)=0+((ak (sp p.2.2)));rw[mQ];lia;show p.2.1+-p.2.1=0+iC (sp p.2.2);rw[acQ];lia
def ĳ:Sp:=⟨1,nK U (O 0) [],K_ U (zA 1 0 J 1 U 1),[⟨16,here 0 0 0,here 1 0 1⟩]⟩
def ait:aZ (G1 0 0) J U (nI U) [107,0] U U:=by kernel_rfl
def aiu:aZ [ĳ] U U (nI J) [107,0] U J:=by kernel_rfl
def acR:Go 20 J U (nI U) U ⟨[107,0],0,0,0⟩ (MARK::aM ⟨16,dU,(1,0,1)⟩::yx (1,0,1)):=by have b:=D6.xH;refine ag b λb _=>ag b λb _=>ag b λb _=>ag b λb _=>ag b λb f=>?_;have g:=G6 (P:=(1,0,1)) b f Z;have b:iZ 3 U U (nI J) J ⟨[107,0],0,0,0⟩ (aM ⟨16,dU,(1,0,1)⟩::yx (1,0,1)):=iZ.link (l:=[ĳ]) Z aiu Z (λ_=>Z) g;exact(Go.link (l:=G1 0 0) ait Z (λ_=>Z) b.go).le (aO Z)
abbrev JN:Lf:=⟨11,5,1,0⟩
def eZ.k0:eZ [107] (bB iF dU dU::bB (ja iN) dU dU::(ji [] JN dU++oS (kC [] JN dU)))where
 good:=Z
 len:=(aO Z)
 tl:=(aO Z)
 go:=⟨_,_,(aO Z),acR,JA (Bp (mk:=U) (l:=JN) (q:=dU) Z (Eh (th:=sj) (mk:=J)))⟩
def dE0:aH (λf=>a? (dV (gz f)=0)) [0,1,2,3,4,5,6,8,9,10,11,12]=U:=by kernel_rfl
def Rc(h:f∈[0,1,2,3,4,5,6,8,9,10,11,12]):dV (gz f)=0:=aO (ai dE0 h)
def WZ{s:Y D}{l:Lf}(g:jp l.f 12):FrE p (ji s l p)/\LaE (kC s l p) (ji s l p):=by
 unfold ji kC;cases h:ac l.f 6 with
 |true=>exact⟨⟨6,_,[],Z⟩,6,_,[],0,Z,Z,Z⟩
 |false=>cases b:ac l.f 7 with
  |true=>exact⟨⟨7,_,_,Z⟩,13,_,[_,_],1,Z,Z,Z⟩
  |false=>
   have m:=(by decide:∀f,f<12->f≠7->f∈[0,1,2,3,4,5,6,8,9,10,11,12]) _ (cw g) λz=>by rw[z]at b;exact ao b.symm
   rw[Br g h b];exact⟨⟨_,_,[],Z⟩,_,_,[],0,Z,Z,by rw[Rc m];rfl⟩
def W0{s:Y D}{l:Lf}:kC s l (sH k j p)=sH k j (kC s l p):=by
 unfold kC;cases ac l.f 6 with
 |true=>exact yD
 |false=>cases ac l.f 7 with
  |true=>exact yD
  |false=>exact yD
def Y9{l:Lf}(b:l∈yy):jp l.f 12:=ai (show aH (λl:Lf=>jp l.f 12) yy=U by kernel_rfl) b
def JO{l:Lf}(G:Hc t)(b:l∈yy)(k:p.2.2∈([1,2,3,4,5,6,7,8]:Y D)∨(l=JN/\p.2.2=0))(g:t=A++(dv (-1) l++B))(j:B≠[])(m:p.1=(ak A:W))(o:(kC [] l p).1=p.1+(ak (dv (-1) l):W)):qj t (ji [] l p):=by(have f:=k.elim (λh=>(by decide:∀c∈([1,2,3,4,5,6,7,8]:Y D),0<=c/\c<=10) _ h) λh=>by rw[h.2];decide);obtain⟨f1,r⟩:=WZ (s:=[]) (p:=p) (Y9 b);refine⟨p,kC [] l p,A,dv (-1) l,B,ji [] l (mo p p),f1,r,g,j,m,o,JH (Y9 b) _ _ p p,f.1,?_⟩;have M:mo p (kC [] l p)=kC [] l (mo p p):=W0.symm;rw[M,Bt f.1];obtain⟨g1,m⟩:=He G g j f.2;refine k.elim (λh=>eZ.lf b h Z g1 m) λh=>?_;rw[h.1,h.2];exact eZ.k0
end
def Ep(c:D)(l:Lf):Lf:=br (aq [2,8,9] l.f) ⟨l.f,5,(c+1+l.p).toNat,l.z⟩ ⟨l.f,5,1,0⟩
def aiv(c:D)(a b:Mk):I:=a? (a.n=b.n)&&a? (a.m=b.m)&&(a.s==b.s)&&br b.s (a? (a.c-(top []+1)=b.c-(c+1))) (a? (a.c=b.c))
def aiw(x:D×Lf):I:=V6 (Ep x.1 x.2) yy&&cW (dv (-1) (Ep x.1 x.2)) (dv x.1 x.2)&&ac (Ep x.1 x.2).f x.2.f&&aiv x.1 (dB [] (Ep x.1 x.2)) (dB [x.1] x.2)&&a? (br (ac x.2.f 6) 7 (br (ac x.2.f 7) 3 (dB [x.1] x.2).n)=A6 (dv x.1 x.2))
def Er:Y D:=[0,1,2,3,4]
def H6(a:ae)(v:I)(s:Y D)(E:gR):=∀{e:I}{A y t:ae}{n:W}{d b:D}{p:aw},Nk J s e y n d b t->a=A++(E.x++y)->p.1=(ak A:W)->p.2.2=top s+wX v->Seg a (E.ev p (fh p E.x n d b))
section
variable{F A B y t:ae}{p P:aw}{c d c2:D}{l:Lf}{v e:I}{n g K:W}{s:Y D}{E:gR}{Es:Y gR}
def Rf:aH aiw (Bl Er Lw)=U:=by kernel_rfl
def W3(b:a.f=l.f)(f:dC [] a p=dC s l p):ji [] a p=ji s l p/\kC [] a p=kC s l p:=by unfold ji kC;rw[b,f];exact⟨Z,Z⟩
def acS(b:c∈Er)(f:l∈Lw):Ep c l∈yy/\dv (-1) (Ep c l)=dv c l/\∀p,(ji [] (Ep c l) p=ji [c] l p/\kC [] (Ep c l) p=kC [c] l p)/\(kC [c] l p).1=p.1+(ak (dv c l):W):=by
 refine ag (ai Rf (eY b f)) λh a=>ag h λh b=>ag h λh f=>ag h λh i=>ag b λb j=>ag b λb k=>ag b λb m=>?_;refine⟨vm h,oM i,λp=>⟨W3 (aK f) ?_,?_⟩⟩
 ·refine eq3 (ah _ (aO b)) (ah _ (aO m)) ?_
  rw[show(dB [] _).s=(dB [c] l).s from gc.mp k];revert j;cases(dB [c] l).s with
  |true=>exact λz=>ah (p.2.2+·) (aO z)
  |false=>exact λz=>aO z
 ·have a:=aO a
  unfold kC;revert a;cases ac l.f 6 with
  |true=>exact λa=>ah (p.1+·) a
  |false=>cases ac l.f 7 with
   |true=>exact λa=>ah (p.1+·) a
   |false=>exact λa=>ah (p.1+·) a
def Rg(G:Hc F)(a:p.2.2∈([1,2,3,4,5,6,7,8]:Y D)∨p.2.2=0)(b:F=A++(107::B))(f:B≠[])(h:p.1=(ak A:W)):Seg F [bB qi p (aW p 1 0 (p.2.2+1))]:=.one Z λ_=>JO G (vm Z) (a.imp id λa=>⟨Z,a⟩) b f h Z
def acT(G:Hc F)(k:c∈Er)(h:l∈Lw)(m:p.2.2∈([1,2,3,4,5,6,7]:Y D))(f:F=A++(dv c l++B))(o:B≠[])(i:p.1=(ak A:W)):Seg F (ji [c] l p):=by
 obtain⟨q,j,b⟩:=acS k h;obtain⟨⟨b,k⟩,r⟩:=b p;obtain⟨m1,m2⟩:=(by decide:∀c∈([1,2,3,4,5,6,7]:Y D),c∈([1,2,3,4,5,6,7,8])/\c+1∈([1,2,3,4,5,6,7,8])) _ m;have a:=JO G q (.inl m1) (by rw[j];exact f) o i (by rw[k,j];exact r);rw[b]at a;revert a;unfold ji;cases u:ac l.f 6 with
 |true=>exact λa=>.one Z λ_=>a
 |false=>cases b:ac l.f 7 with
  |true=>
   have X:dv c l=[91,107,93]:=by unfold dv;rw[aK b];rfl
   rw[X]at f;have j:=Rg (A:=A++[91]) (p:=aW p 1 0 _) G (.inl m2) (by rw[am];exact f) (bN _ _) (by rw[qO,<-i];rfl);rw[show aW _ 1 0 ((aW p 1 0 _).2.2+1)=aW p 2 0 _ from eq3 (d! Z) (d! Z) (d! Z)]at j;exact λa=>.t? Z j Z Z λ_=>a
  |false=>
   have m:=(by decide:∀f,f<12->f≠7->f∈[0,1,2,3,4,5,6,8,9,10,11,12]) _ (cw (WW h)) λz=>by rw[z]at b;exact ao b.symm
   rw[Br (WW h) u b];exact λa=>.one (Rc m) λ_=>a
def Rh(n:W):∀v,dat n v->kt (qP n v) (qP n v):=by(have S:∀x:lw,kt (.str x) _:=λx=>by rw[kt];exact qU _);(have B:∀x:I,kt (.bool x) _:=λx=>by rw[kt];exact qU _);(have a:∀x:D,kt (.int x) (.int x):=λx=>by rw[kt];exact qU _);(have b:kt .none .none=U:=by rw[kt]);induction n with|zero=>exact λv=>Vc (M:=λv=>dat 0 v=U->kt _ _=U) v (i:=λi _=>a i) (s:=λ_ _=>S _) (tu:=λ_=>ao) (ls:=λ_=>ao) (ob:=λ_ _=>ao) (cl:=λ_=>ao) (fn:=λ_=>ao) (bi:=λ_=>ao) (cd:=λ_=>ao) (me:=λ_=>ao) (bu:=λ_ _=>ao) (sy:=λ_=>ao) (ws:=λ_=>ao)|succ n f=>(have L:∀{l:af},aH _ l=U->k5 (l.map _) (l.map _):=λ{l}=>by induction l with|nil=>exact λ_=>by rw[List.map_nil,k5]|cons v l h=>exact λj=>cp j λj k=>by rw[fS,k5,f v j,h k];rfl);exact λv=>Vc (M:=λv=>dat _ v=U->kt _ _=U) v (no:=λ_=>b) (bo:=λb _=>B b) (i:=λi _=>a i) (s:=λ_ _=>S _) (ob:=λ_ _=>ao) (cl:=λ_=>ao) (fn:=λ_=>ao) (bi:=λ_=>ao) (cd:=λ_=>ao) (me:=λ_=>ao) (pa:=ao) (ta:=ao) (bu:=λ_ _=>ao) (sy:=λ_=>ao) (un:=ao) (ws:=λ_=>ao)
def W4:kt (qP 30 (b8 p)) (qP 30 (b8 p)):=Rh 30 _ Z
def agG(a:c∈Er)(b:g=0∨g=1∨g=2):gC v c g∈([1,2,3,4,5,6,7]:Y D):=by(have A:∀c∈([0,1,2,3,4]:Y D),c+1+1∈([1,2,3,4,5,6,7])/\(c+2+1∈([1,2,3,4,5,6,7])/\(c+1∈([1,2,3,4,5,6,7])/\c+2∈([1,2,3,4,5,6,7]))):=by decide);obtain⟨f,i,d,e⟩:=A c a;refine b.elim (λh=>?_) λh=>h.elim (λh=>?_) λh=>?_;rw[h];cases v;exact f;exact i;rw[h];exact d;rw[h];exact e
def acU(G:Hc F)(a:c∈Er)(h:Mg v c E)(b:F=A++(E.x++y))(f:y≠[])(i:p.1=(ak A:W)):Seg F (E.ev p P):=h.elim (λh=>by rw[h];refine .one Z λk=>ao (il k ?_).symm;show(!kt _ _)=J;rw[W4];rfl) λh=>by obtain⟨g,l,j,k,h⟩:=h;rw[h]at b ⊢;refine acT (A:=A++gT c g) (B:=jF l++y) G a k (agG a j) ?_ (λz=>f (t3.mp z).2) ?_;rw[am,b];show A++((gT c g++(dv c l++jF l))++y)=_;rw[am,am];rw[qO,<-i];rfl
def Ri(G:Hc F)(h:c∈Er)(f:p.2.2=c)(a:F=A++(sgn v++B))(b:p.1=(ak A:W)):Seg F (Jz v p):=by induction v with|false=>exact .nil|true=> refine Rg G ?_ a (bN _ _) b;rw[f];exact(by decide:∀c∈([0,1,2,3,4]:Y D),c∈_∨c=0) c h
def Et(G:Hc F)(o:c∈Er)(q:top s=c)(u:c∈s)(k:Nk J s e y n d c2 t):∀(Es:Y gR){E:gR}{A:ae}{p:aw},(H6 F v s E/\gQ J v s K E.x E.tk)->(∀E∈Es,H6 F v s E/\gQ J v s K E.x E.tk)->F=A++(dX v c E Es++y)->p.1=(ak A:W)->p.2.2=c->Seg F (eJ v c E Es p (fh p (dX v c E Es) n d c2)):=by intro Es;induction Es with|nil=> intro E A p j _ a b f;have a:F=A++(sgn v++(E.x++[])++y):=a;rw[eq,am]at a;refine(Ri G o f a b).app ?_;rw[<-Jp (x2:=dX v c E []) (ah (sgn v++·) (eq _))];refine(j.1 k (by rw[am];exact a) ?_ (We f q)).app .nil;rw[qO,<-b];cases v<;>rfl|cons h Es w=>intro E A p j i a b f;(have X:dX v c E (h::Es)++y=sgn v++(E.x++(sp c++(dX v c h Es++y))):=by show(sgn v++(E.x++(sp c++dX v c h Es)))++y=_;rw[am,am,am]);rw[X]at a;have x:Nk J s J (sp c++(dX v c h Es++y)) c.toNat 0 c _:=.sg u (Jq (i _ gY).2 (λE m=>(i E (.tail _ m)).2) k.two);(have r:(qL v p).1=(ak (A++sgn v)):=by rw[qO,<-b];cases v<;>rfl);refine(Ri G o f a b).app ?_;refine(j.1 x (by rw[am];exact a) r (We f q)).app ?_;(have f:(fh (qL v p) E.x c.toNat 0 c).1=(ak ((A++sgn v)++(E.x++sp c))):=by rw[qO,<-r,len_app,mQ];rfl);have b:=w (i _ gY) (λE m=>i E (.tail _ m)) (by rw[am,am,am];exact a) f Z;rw[YR,Jp (x:=E.x++_) Z]at b;exact b
end
section
variable{G A B M x:ae}{p q a P Pe:aw}{b c r:D}{l:Lf}{v tr an:I}{g K H w m:W}{s:Y D}{E:gR}{Es:Y gR}{th:PA}{L:Y Pc}{S:Mc}{st:ae}{i:I}
def gQ.le{d:I->aw->aw->af}(h:gQ tr v s K x d)(q:K<=H):gQ tr v s H x d:=⟨λd e A f=>(h.go d e A f).le (d9 q _),h.L5⟩
def Rj(d:s∈jG)(e:top s=c)(h:Mg v c E):gQ tr v s 19 E.x E.tk:=h.elim (λh=>by rw[h];exact ab0 d) λh=>by obtain⟨g,l,f,j,h⟩:=h;rw[h,<-e];exact abZ d j f
def Hg(e:th=sj∨th=SI)(h:Mg v c E)(d:∀c∈L,c∈Bk):t9 th L E.tk E.ev:=h.elim (λh=>by rw[h];exact acw d) λh=>by obtain⟨g,l,_,f,h⟩:=h;rw[h];exact acv e (WW f) d
def agH:aH (λv=>aH (λst=>aH (λc=>WB c Bk) (Jy v J st)) r?) [J,U]=U:=by kernel_rfl
def agI:aH (λc=>WB c Bk) (Jy J U [179,202])=U:=by kernel_rfl
def Rk(e:WE v i st):∀c∈Jy v i st,c∈Bk:=λc d=>by induction i with|false=>exact Bm (ai (ai (ai agH (jB v)) e.1) d)|true=> obtain⟨f,h⟩:=e.2 Z;rw[f,h]at d;exact Bm (ai agI d)
def ok0:WE v J [179]:=⟨.head _,λh=>ao h⟩
def Ŋ(d:[c]∈jG)(h:Mg v c E):ub tr v c 19 E:=⟨Rj d Z h,λ_ d=>Hg d h (Rk ok0)⟩
def ŉ(e:r∈rS)(h:Q6 v r E):ub J v r 52 E:=h.elim (λh=>have z:=Ŋ (qM e).1 h;⟨z.g.le (aO Z),z.p⟩) λh=>by
 obtain⟨S,⟨d,o,k,n,t⟩,h⟩:=h;have f:=Wg e (GZ d);rw[h];refine⟨(ab8 e d (Rj f.m f.t k) λE m=>Rj f.m f.t (n E m)).le (dh (yK 24 (d9 t 1)) 4),λth f=>acB e d o (λc j=>?_) (λst o=>Hg f k (Rk o)) λE m st o=>Hg f (n E m) (Rk o)⟩
 have u:ac S.w 3->v:=λq=>by rw[aK q]at d;exact d
 induction v with
 |true=>exact⟨eC.mp j▸.tail _ aaA,λ_=>eC.mp j▸Z⟩
 |false=>
  refine⟨?_,λq=>ao (u q)⟩;cases j with
  |head=>exact .head _
  |tail _ h=>cases h with
   |head=>exact .tail _ gY
   |tail _ h=>cases h with
    |head=>exact .tail _ aaz
    |tail _ h=>exact nomatch h
def Rl:(ji s l p).length<=3:=by
 unfold ji;cases ac l.f 6 with
 |true=>exact cw Z
 |false=>cases ac l.f 7 with
  |true=>exact cw Z
  |false=>exact cw Z
def H3(m:W)(E:gR):=∀p P,(E.ev p P).length<=m
def Hh(h:Mg v c E):H3 3 E:=λp P=>h.elim (λh=>by rw[h];exact cw Z) λh=>by obtain⟨g,l,_,_,h⟩:=h;rw[h];exact Rl
theorem JP(h:El (H3 m) E Es):(eJ v c E Es p P).length<=2*(m+1):=by(obtain⟨d,e,f⟩:=h;have k:∀{p},(Jz v p).length<=1:=λ{p}=>by generalize v=u;cases u<;>exact cw Z);(have o:∀{E p P}{l:af},H3 m E->(Jz v p++(E.ev (qL v p) P++l)).length<=m+1+l.length:=λ{E p P l}h=>by rw[aX,aX,<-fK];refine dh ?_ _;rw[hO m];exact g5 k (h _ _));induction Es with|nil=>exact ay (o d) (by show m+1+0<=_;lia)|cons j Es _=>rw[wE (ez.mp (vF f))];exact ay (o d) (by rw[Nat.two_mul];exact d9 (ay (o (e j gY)) (aU _)) _)
def El.imp{Q R:gR->Prop}(f:∀{E},Q E->R E)(h:El Q E Es):El R E Es:=⟨f h.1,λE m=>f (h.2 E m),h.3⟩
def vx(h:El (H3 m) E Es)(d:2*(m+1)+2<=100):(e9 v c E Es q Pe an a).length<=100:=by show(eJ v c E Es q Pe++[_]).length+1<=100;rw[aX];exact ay (dh (dh (JP h) 1) 1) d
def acV(h:P0 v r S):∀p P,(LD r S p P).length<=10:=λp P=>by show(eJ S.v _ S.E S.Es _ P++[_]).length+1<=10;rw[aX];exact dh (dh (JP (h.3.imp Hh)) 1) 1
def Rn(h:Q6 v r E):H3 10 E:=h.elim (λh p P=>ay (Hh h p P) (aO Z)) λh=>by obtain⟨S,d,e⟩:=h;rw[e];exact acV d
def Ro(z:vd (eJ v c E Es q P))(k:EI E.ev)(n:∀E∈Es,EI E.ev)(e:G=A++(M++B))(f:B≠[])(h:(br an a q).1=(ak A:W))(j:P.1=(br an a q).1+(ak M:W))(o:0<=(br an a q).2.2)(y:dV (gz (ua v w an))=1)
 (t:eZ (sp (br an a q).2.2++M) (bB iF dU dU::bB (ja iN) (mo (br an a q) (br an a q)) (mo (br an a q) (br an a q))::((vq (jJ v w) an (mo (br an a q) a) (mo (br an a q) q)::(eJ v c E Es (mo (br an a q) q) (mo (br an a q) P)++[bB (lY v) (mo (br an a q) P) (mo (br an a q) P)]))++oS (mo (br an a q) P)))):
  qj G (vq (jJ v w) an a q::(eJ v c E Es q P++[bB (lY v) P P])):=by
 have d:∃b,vq (jJ v w) an a q=bB _ (br an a q) b:=⟨_,by unfold vq;rw[Ra]⟩;obtain⟨F,d⟩:=d;refine⟨br an a q,P,A,M,B,_,⟨_,_,_,by rw[d]⟩,⟨br v 14 13,P,vq _ an a q::eJ v c E Es q P,1,by rw[Y8];rfl,?_,by generalize v=u;cases u<;>rfl⟩,e,f,h,j,Hb k n,o,t⟩;rw[JK (d1:=1) (by rw[d];exact(iQ _).trans y) (aO Z)];exact z 1 (aO Z)
end
section
variable{tz A B M y y1 t x:ae}{p q a Pe:aw}{b c d c2 r:D}{v e tr an:I}{n w K:W}{s:Y D}{E:gR}{Es:Y gR}{S:Mc}
def agL(g:r∈rS)(f:Nk J [r] e y n d c2 t):∃y1 B,y=y1++B/\B≠[]/\ak y1=n/\∀b,r<b->Nk U [b] U (y1++[0]) n d c2 [0]:=by cases f with|sg i j=>rw[eC.mp i];refine⟨_,_,Z,j.ne,mQ,λb f=>.en ?_⟩;refine xG (M:=λr=>r<b->J' U [b] r=U) g (λ_=>Z) (λh=>?_) (λh=>?_) f;exact(cF h);exact(cF h)|dt=>exact⟨[],_,Z,bN _ _,Z,λb _=>.en (c2:=0) Z⟩|en h=> have f:=nG h (λh _=>aO h) λ_ h=>ao h;rw[f];exact⟨[],[0],Z,bN _ _,Z,λb _=>.en (c2:=0) Z⟩|re=>exact⟨cg,[0],Z,bN _ _,Z,λb _=>.re⟩
def Î(h:v=U∨ac w 3=J):dV (gz (ua v w an))=1:=by unfold ua;cases v with|true=>cases an<;>rfl|false=> rw[show ac w 3=J from h.elim (λh=>ao h) id];cases an<;>rfl
def Í(G:Hc tz)(g:c∈Er)(f:top s=c)(h:Mg v c E):H6 tz v s E:=λi f j _=>acU G g h f i.ne j
def Rp(g:r∈rS)(h:w=0∨w=1∨w=2∨w=3):pd r w∈Er/\(ac w 3=J->r<pd r w):=by(have A:∀r∈([0,1,2]),r∈Er/\(r+1∈Er/\r+2∈Er):=by decide);obtain⟨i,j,f⟩:=A r g;refine h.elim (λh=>?_) λh=>h.elim (λh=>?_) λh=>h.elim (λh=>?_) λh=>?_;rw[h];exact⟨f,λ_=>o0 r (aO Z)⟩;rw[h];exact⟨j,λ_=>o0 r (aO Z)⟩;rw[h];exact⟨f,λ_=>o0 r (aO Z)⟩;rw[h];exact⟨i,λz=>ao z.symm⟩
def Za(G:Hc tz)(g:(0,b)∈G0)(h:[b]∈jG)(u:Nk tr [b] U (y1++[0]) n d c2 [0])(R:El (ub tr v b K) E Es)(i:El (λE=>EI E.ev) E Es)(z:1+(K+5)*Es.length+K+10<=240)(F:∀q Pe a,(e9 v b E Es q Pe J a).length<=100)(H:vd (eJ v b E Es q (fh q (dX v b E Es) n d c2)))(l:ac w 3=J)(j:tz=A++((dX v b E Es++y1)++B))(k:B≠[])(L:q.1=(ak A:W))(f:q.2.2=b)(P:ak y1=n):
  qj tz (vq (jJ v w) J a q::(eJ v b E Es q (fh q (dX v b E Es) n d c2)++[bB (lY v) (fh q (dX v b E Es) n d c2) (fh q (dX v b E Es) n d c2)])):=by
 have m:=kj h;have Q:=(by decide:∀x∈G0,x.2<=10) _ g;have T:jJ v w=jJ v 1:=by unfold jJ;rw[l];rfl
 have o:mo q q=i9 0 b:=by rw[Bt (by rw[f];exact m),f];rfl
 have V:mo q (fh q (dX v b E Es) n d c2)=fh (i9 0 b) (dX v b E Es) n d c2:=by rw[<-o];exact yD.symm
 obtain⟨g1,X⟩:=He G j k Q
 have G:=eZ.en g h u (by rw[am,am];rfl) g1 X R.1 R.2 z Z (F _ _ _)
 refine Ro H i.1 i.2 j k L ?_ (by show 0<=q.2.2;rw[f];exact m) (Î (.inr l)) ?_
 ·show q.1+_=q.1+_
  rw[len_app,P]
 ·show eZ (sp q.2.2++_) (_::bB _ (mo q q) (mo q q)::((vq _ J _ (mo q q)::(eJ v b E Es (mo q q) (mo q _)++[bB _ (mo q _) (mo q _)]))++oS (mo q _)))
  rw[V,o,f,T];exact G
def agM(G:Hc tz)(g:a.2.2∈([1,2,3,4,5,6,7,8]:Y D))(m:b∈([1,2,3,4]:Y D))(o:[b]∈jG)(u:Nk tr [b] U (y1++[0]) n d c2 [0])(R:El (ub tr v b K) E Es)(h:El (λE=>EI E.ev) E Es)(z:1+(K+5)*(1+Es.length)+5<=240)(F:∀q Pe a,(e9 v b E Es q Pe U a).length<=100)(H:vd (eJ v b E Es q (fh q (dX v b E Es) n d c2)))(k:ac w 3=J)(i:tz=A++(([38,122,10]++(sp b++(dX v b E Es++y1)))++B))(j:B≠[])(L:a.1=(ak A:W))(l:q=qh a ([38,122,10]++sp b) b)(P:ak y1=n):
  qj tz (vq (jJ v w) U a q::(eJ v b E Es q (fh q (dX v b E Es) n d c2)++[bB (lY v) (fh q (dX v b E Es) n d c2) (fh q (dX v b E Es) n d c2)])):=by
 have f:=(by decide:∀c∈([1,2,3,4,5,6,7,8]:Y D),0<=c/\c<=10) _ g;have Q:jJ v w=jJ v 1:=by unfold jJ;rw[k];rfl
 have T:=Bt f.1;have V:mo a q=qh (mo a a) ([38,122,10]++sp b) b:=by rw[l];exact yD.symm
 have X:mo a (fh q (dX v b E Es) n d c2)=fh _ _ n d c2:=yD.symm;obtain⟨g1,g2⟩:=He G i j f.2
 have G:=eZ.anc g m o u (by rw[am,am,am,am]) g1 g2 R.1 R.2 z T V Z (F _ _ _)
 refine Ro H h.1 h.2 i j L ?_ f.1 (Î (.inr k)) ?_
 ·rw[l]
  show a.1+_+_=a.1+_;rw[<-am,len_app (x:=[38,122,10]++sp b),len_app (x:=dX v b E Es),P,ej,fP (ak ([38,122,10]++sp b))]
 ·show eZ _ (_::bB _ _ _::((vq _ U _ _::(eJ v b E Es _ (mo a _)++[bB _ (mo a _) (mo a _)]))++oS (mo a _)))
  rw[X,Q];exact G
theorem aix(G:Hc tz)(j:r∈rS)(h:P0 v r S):H6 tz v [r] (z_ r S):=λ{e A y t n d c2 p}L g P hp=>by obtain⟨w,an,f,E,Es⟩:=S;obtain⟨m,o,R⟩:=h;have o:ac w 3->f=J:=o;have Q:=GZ m;have i:=Wg j Q;obtain⟨l,k⟩:=Rp j Q;(have N1:Nk J (GY r w) e y n d c2 t:=L.sub λc h=>by rw[eC.mp h];unfold GY;cases ac w 3 with|true=>exact .head _|false=>exact .tail _ gY);(have bs:pd r w∈GY r w:=by unfold GY;cases q:ac w 3 with|true=>rw[aK q];exact .head _|false=>exact .head _);(have PE:fh (BK r ⟨w,an,f,E,Es⟩ p) (dX f (pd r w) E Es) n d c2=fh p (x_ r ⟨w,an,f,E,Es⟩) n d c2:=Jo;have g:=g.trans (ah (A++·) (am _ _ _));have T:(BK r ⟨w,an,f,E,Es⟩ p).1=(ak (A++Qx r w an)):=by rw[qO,<-P];rfl);have RS:=Et G l i.t bs N1 Es ⟨Í G l i.t R.1,Rj i.m i.t R.1⟩ (λE Q=>⟨Í G l i.t (R.2 E Q),Rj i.m i.t (R.2 E Q)⟩) (by rw[am];exact g) T Z;show Seg tz (vq (jJ f w) an (D5 p) (BK r ⟨w,an,f,E,Es⟩ p)::(eJ f (pd r w) E Es (BK r ⟨w,an,f,E,Es⟩ p) (fh p (x_ r ⟨w,an,f,E,Es⟩) n d c2)++[bB (lY f) (fh p (x_ r ⟨w,an,f,E,Es⟩) n d c2) (fh p (x_ r ⟨w,an,f,E,Es⟩) n d c2)]));rw[<-PE];have BG:∀{a q},∃x,vq (jJ f w) an a q=bB (gz (ua f w an)) (br an a q) x:=λ{a q}=>⟨_,by unfold vq;rw[Ra]⟩;refine .t? ?_ RS (by generalize f=u;cases u<;>rfl) (by generalize f=u;cases u<;>rfl) λV=>?_;(obtain⟨x,h⟩:=BG;rw[h];generalize f=u;cases u with|true=>exact Î (.inl Z)|false=>unfold ua;cases an<;>cases ac w 3<;>rfl);(have z:ac w 3=J:=by cases q:ac w 3 with|false=>rfl|true=> rw[o q,aK q]at V;cases an<;>exact ao V);have k:=k z;obtain⟨y1,i,i,X,hn,NC⟩:=agL j L;have F:=(by decide:∀b∈([0,1,2,3,4]:Y D),0<b->b∈([1,2,3,4])) _ l (FS (kj (qM j).1) k);have H:=(by decide:∀b∈_,[b]∈jG) _ F;have RR:=R.imp (R:=ub U f _ 19) λh=>Ŋ H h;have RM:=R.imp λh=>JI h;have RL:=R.imp Hh;have h:_*Es.length<=24:=yK 24 R.3;rw[i]at g;cases an with|false=> exact Za G ((by decide:∀b∈_,(0,b)∈G0) _ F) H (NC _ k) RR RM (by lia) (λ_ _ _=>vx RL (aO Z)) RS.ne z (by rw[am,am];exact g) X T Z hn|true=>(have w0:ac w 0=J:=by cases q:ac w 0 with|false=>rfl|true=> rw[aK q]at m;cases v<;>exact ao m);(have h:Qx r w U=[32]++([38,122,10]++sp (pd r w)):=by unfold Qx;rw[w0];rfl);rw[h]at g;(have i:BK r ⟨w,U,f,E,Es⟩ p=qh (D5 p) ([38,122,10]++sp (pd r w)) (pd r w):=by show qh p _ _=_;rw[h];refine eq3 ?_ ?_ Z;show _=p.1+_+_;rw[d! (fP _ _).symm,len_app];show p.2.1+_=p.2.1+0+_;rw[aA];rfl);(refine agM (A:=A++[32]) G ?_ F H (NC _ k) RR RM (by lia) (λ_ _ _=>vx RL (aO Z)) RS.ne z (by rw[g];simp only[am]) X (by rw[qO,<-P];rfl) i hn;show p.2.2+1∈_;rw[hp];have a':∀r∈([0,1,2]:Y D),r+1+1∈([1,2,3,4,5,6,7,8])/\r+2+1∈([1,2,3,4,5,6,7,8]):=by decide);generalize v=u;cases u with|false=>exact(a' r j).1|true=>exact(a' r j).2
def ň(G:Hc tz)(f:r∈rS)(h:Q6 v r E):H6 tz v [r] E:=h.elim (λh=>Í G ((by decide:∀r∈_,r∈Er) r f) Z h) λh=>by obtain⟨S,g,i⟩:=h;rw[i];exact aix G f g
end
structure Txt(tx:ae)(w:af):Prop where
 whole:eZ tx w
 nds:LJ (tx++[0]) w
 Y!:∀e∈w,∃i a b,e=bB (gz i) a b
 ex:∃A e B,w=A++e::B/\vv e=U
section
variable{A B y1 tx x:ae}{q P:aw}{c d c2 r k j:D}{v:I}{n hd tl w g:W}{E:gR}{Es:Y gR}{S:Mc}{l l':af}
def agO(h:G9 k j l l'):∀e∈l,∃i a b,e=bB (gz i) a b:=by revert l';induction l with|nil=>exact λ_ e m=>nomatch m|cons a l f=>intro l' h e m;obtain⟨_,_,_,⟨i,x,y,o,_⟩,p⟩:=h;cases m with|head=>exact⟨i,x,y,o⟩|tail _ m=>exact f p e m
def acY:aH (λx:(D×W)×Lf=>gH (gT x.1.1 x.1.2++r8 x.1.1 x.2)) (Bl (Bl Er [0,1,2]) Lw)=U:=by kernel_rfl
def JQ(a:c∈Er)(h:Mg v c E):gH E.x:=h.elim (λh=>by rw[h];rfl) λh=>by obtain⟨g,l,b,e,h⟩:=h;rw[h];exact ai acY (eY (eY a (b.elim (λh=>h▸.head _) λh=>h.elim (λh=>h▸.tail _ gY) λh=>h▸.tail _ aaz)) e)
def JR(h:El (λE=>gH E.x=U) E Es):gH (dX v c E Es):=by(have a:gH (sgn v):=by generalize v=u;cases u<;>rfl);(have T:∀Es:Y gR,(∀E∈Es,gH E.x=U)->gH (Qs v c Es):=λEs=>by induction Es with|nil=>exact λ_=>Z|cons E Es b=>exact λh=>fV sv (fV a (fV (h E gY) (b λE m=>h E (.tail _ m)))));exact fV a (fV h.1 (T Es h.2))
def W5(a:r∈rS)(h:Q6 v r E):gH E.x:=h.elim (JQ ((by decide:∀r∈_,r∈Er) r a)) λh=>by
 obtain⟨S,⟨b,_,R⟩,h⟩:=h;rw[h];refine fV ?_ (JR (R.imp (JQ (Rp a (GZ b)).1)));unfold Qx;cases ac S.w 0 with
 |true=>rfl
 |false=>cases S.an with
  |true=>exact fV Z sv
  |false=>exact fV (l:=([10])) Z sv
theorem Rr(G:Hc b)(a:c∈rS)(R:El (Q6 v c) E Es){m:I}{y t:ae}(o:Nk J [c] m (y1++y) n d c2 t)(s:y≠[])(p:Nk J [c] U (y1++[0]) n d c2 [0])(z:ak y1=n)(i:q.2.2=c)(h:q.1=(ak A:W))(f:b=A++(dX v c E Es++(y1++y))):Seg b (e9 v c E Es q (fh q (dX v c E Es) n d c2) J q):=by obtain⟨b,F,H⟩:=(by decide:∀r∈_,r∈Er/\((0,r)∈G0/\[r]∈jG)) c a;have e:=R.imp (ŉ a);have S:=Et G b Z gY o Es ⟨ň G a R.1,e.1.g⟩ (λE m=>⟨ň G a (R.2 E m),(e.2 E m).g⟩) f h i;have a:=yK 57 R.3;exact .t? (by generalize v=u;cases u<;>rfl) S (by generalize v=u;cases u<;>rfl) (by generalize v=u;cases u<;>rfl) λ_=>Za G F H p e (R.imp Rb) (by lia) (λ_ _ _=>vx (R.imp Rn) (aO Z)) S.ne Z (by rw[am];exact f) s h i z
def Rt(G:Hc f)(h:c∈rS)(R:El (Q6 v c) E Es){e:I}{y t:ae}(o:Nk J [c] e (y1++y) n d c2 t)(p:y≠[])(s:Nk J [c] U (y1++[0]) n d c2 [0])(z:ak y1=n)(F:f=kb hd++(sp c++(dX v c E Es++(y1++y))))(H:P=fh (i9 hd c) (dX v c E Es) n d c2){a b a' b':aw}:
  LJ f (bB iF dU dU::yz hd (i9 hd c)::(e9 v c E Es (i9 hd c) P J (i9 hd c)++[bB (iO (br (ac w 0) iN yes)) a b,bB km a' b']))/\(∀e∈(bB iF dU dU::yz hd (i9 hd c)::(e9 v c E Es (i9 hd c) P J (i9 hd c)++[bB (iO (br (ac w 0) iN yes)) a b,bB km a' b'])),∃i a b,e=bB (gz i) a b)/\∃A e B,(bB iF dU dU::yz hd (i9 hd c)::(e9 v c E Es (i9 hd c) P J (i9 hd c)++[bB (iO (br (ac w 0) iN yes)) a b,bB km a' b']))=A++e::B/\vv e:=by
 have S:=Rr (q:=i9 hd c) G h R o p s z Z (iQ _) (by rw[am];exact F);rw[H]
 have K:∃i a b,yz hd (i9 hd c)=bB (gz i) a b/\vv (yz hd (i9 hd c))=J:=by
  unfold yz;cases aq [1,3] hd with
  |true=>exact⟨21,_,_,Z,Z⟩
  |false=>exact⟨22,_,_,Z,Z⟩
 obtain⟨i,L,M,Q,T⟩:=K
 have V:∃i,iO (br (ac w 0) iN yes)=gz i/\∀a b,vv (bB (iO (br (ac w 0) iN yes)) a b)=J:=by
  cases ac w 0 with
  |true=>exact⟨24,Z,λ_ _=>Z⟩
  |false=>exact⟨23,Z,λ_ _=>Z⟩
 obtain⟨i2,X,f⟩:=V;refine⟨⟨λh=>ao h,λh=>ao (il T h),S.nd _ ⟨λh=>ao (il (f a b) h),(λh=>ao h),trivial⟩⟩,λe m=>?_,[_,_],_,_,Z,by generalize v=u;cases u<;>rfl⟩;cases m with
 |head=>exact⟨26,_,_,Z⟩
 |tail _ m=>cases m with
  |head=>exact⟨i,L,M,Q⟩
  |tail _ m=>
   refine(gX.mp m).elim (agO (Hb (k:=0) (j:=0) (Rb R.1) λE m=>Rb (R.2 E m)) e) λm=>?_;cases m with
   |head=>exact⟨i2,a,b,by rw[X]⟩
   |tail _ m=>exact⟨25,_,_,eC.mp m⟩
theorem acZ(i:hd<4)(b:c∈rS)(m:tl<3)(R:El (Q6 v c) E Es)(h:(dX v c E Es).length<=300):∃w,Txt (kb hd++sp c++dX v c E Es++zB tl) w:=by
 have s:=(by decide:∀r∈([0,1,2]),∀h,h<4->(h,r)∈G0) c b hd i;have t:=(qM b).1;have o:gH (kb hd++sp c++dX v c E Es++zB tl):=fV (fV (fV ((by decide:∀h,h<4->gH (kb h)=U) hd i) sv) (JR (R.imp (W5 b)))) ((by decide:∀h,h<3->gH (zB h)=U) tl m);have z:=mQ (c:=c);rw[aB]at z;have z:=(by decide:∀h,h<4->(kb h).length<=20) hd i;have i:=(by decide:∀h,h<3->(zB h).length<=20) tl m;have l3:=(by decide:∀r∈([0,1,2]:Y D),r.toNat<=2) c b
 have h:(kb hd++sp c++dX v c E Es++zB tl).length<=680:=by
  rw[aX,aX,aX]
  lia
 have G:Hc ((kb hd++sp c++dX v c E Es++zB tl)++[0]):=⟨_,Z,o,h⟩
 have tx:(kb hd++sp c++dX v c E Es++zB tl)++[0]=kb hd++(sp c++(dX v c E Es++(zB tl++[0]))):=by rw[am,am,am]
 have f:=R.imp (ŉ b);have i:=yK 57 R.3;have L:∀{q i a},(e9 v c E Es q i J a).length<=100:=vx (R.imp Rn) (aO Z);have u:=ay h (show 680<=700 by decide);have y:Nk J [c] U ([]++[0]) 0 0 0 [0]:=.en (c2:=0) Z
 have p:∀{y1 n d c2},zB tl=y1->Nk J [c] U (y1++[0]) n d c2 [0]->ak y1=n->∃w,Txt (kb hd++sp c++dX v c E Es++zB tl) w:=λ{y1 n d c2}i h z=>by have e:=Rt (w:=0) G b R h (bN _ _) h z (by rw[tx,i]) Z (a:=fh (i9 hd c) (dX v c E Es) n d c2) (b:=fh (i9 hd c) (dX v c E Es) n d c2) (a':=fh (i9 hd c) (dX v c E Es) n d c2) (b':=fh (i9 hd c) (dX v c E Es) n d c2);exact⟨_,eZ.en s t h (by rw[tx,i]) o u f.1 f.2 (by lia) Z L,e.1,e.2,e.3⟩
 cases tl with
 |zero=>exact p Z y Z
 |succ tl=>cases tl with
  |zero=> have e:=Rt (w:=1) G b R .dt (bN _ _) y Z tx Z (a:=fh (i9 hd c) (dX v c E Es) 0 0 0) (b:=aW (fh (i9 hd c) (dX v c E Es) 0 0 0) 3 0 3) (a':=aW (fh (i9 hd c) (dX v c E Es) 0 0 0) 4 1 0) (b':=aW (fh (i9 hd c) (dX v c E Es) 0 0 0) 4 1 0);exact⟨_,eZ.dt s t tx o u f.1 f.2 (by lia) Z L,e.1,e.2,e.3⟩
  |succ tl=> rw[ez.mp (sK (IR (IR m)))]at p ⊢;exact p Z .re Z
theorem JS{c:W}(a:c<=2)(h:vb (Mf c v) v c x):x.length<=300:=by(obtain⟨b,b,h⟩:=h;have e:=b.len a;have b:(kr v).length<=2:=by generalize v=u;cases u<;>exact cw Z);refine h.elim (λh=>?_) λh=>?_;rw[h,aX];lia;obtain⟨b,b,h⟩:=h;have e:=b.len a;rw[h,aX,aX,aX,aX,lD];lia
def ac0{c:W}(b:hd<4)(a:c<=2)(e:tl<3)(h:vb (Mf c v) v c x):∃w,Txt (kb hd++l9 c++x++zB tl) w:=by have l:=JS a h;obtain⟨E,Es,R,f⟩:=WS a h;rw[f]at l ⊢;exact acZ b ((by decide:∀c:W,c<3->_∈_) c (Wp a)) e R l
end
def stK(G:cQ)(c:ae)(n k:W):S->St->St->Prop:=ut (motive:=λ_=>S->St->St->Prop) (λ_ s a=>s=a) (λ_ d B s a=>∃b,pt G c n (xN B).1 s=O (.next,b)/\d (xN B).2 b a) k
def Bu(e:af->aY->PG->dR)(d:W):cQ:={lG d with func:=λf a b c=>br (ac f 262) (e a b c) ((lG d).func f a b c)}
abbrev g9:ae:=yZ.lv
def GW(a:af->aY->PG->dR)(d:W):cQ:=X4 (Bu a (d+5)) yZ.gv [267] [33]
def GX(a:af->aY->PG->dR)(d:W)(z:V):cQ:=Ŝ (GW a d) (yg (Bu a (d+5)).gl [267]) [33] 33 z
def yE:S:=yA 1 Sw
def qT(h c:W)(a:ae)(w:af)(b:LV)(e:cz):cz:=(211,.val .aG)::(230,.val (iv h))::(4,.val (iv c))::(236,.val (.str a))::(261,.val (.lst w))::(263,b)::e
def ifC(s:S):X:=S.casesOn (motive:=λ_=>X) s .nil (λ_ _=>.nil) (λ_=>.nil) (λ_=>.nil) .nil .nil (λ_ _=>.nil) (λ_ _ _ _ _=>.nil) (λ_ _=>.nil) (λ_ _ _=>.nil) (λ_ _ _=>.nil) (λ_ _=>.nil) (λ_ _ _=>.nil) (λ_ _ _ _=>.nil) (λc _ _=>c) (λ_ _=>.nil) (λ_ _ _=>.nil) (λ_=>.nil) (λ_=>.nil) .nil
structure Ru(rd:af->aY->PG->dR):Prop where
 ok:∀{t:ae}{w:af}{pg:PG},eZ t w->dat 20 (.lst w)->rd [.str t] [] pg=O (.lst w,pg)
section
variable{rd:af->aY->PG->dR}{G:cQ}{lv:ae}{d h c k n f:W}{tx y:ae}{w:af}{e:cz}{s s1 o:St}{B:S}{v:V}{ns:ae}
def iP(a:pt G lv n (xN B).1 s=O (.next,s1))(b:stK G lv n k (xN B).2 s1 o):stK G lv n (k+1) B s o:=⟨s1,a,b⟩
def ac1:∀{k:W},k<4->iL (.lst [.str [],.str [45,45,45,10],.str [35,32,114,10],.str [45,45,45,32,35,32,114,10]]) (iv k)=O (.str (kb k)):=λ{k}h=>by
 iterate 4 (induction k with
  |zero=>rfl
  |succ k _=>?_)
 exact ch h (Op (nQ 4 k))
def ac2:∀{k:W},k<3->iL (.lst [.str [],.str [46,46,46,10],.str [35,32,114,10]]) (iv k)=O (.str (zB k)):=λ{k}h=>by
 iterate 3 (induction k with
  |zero=>rfl
  |succ k _=>?_)
 exact ch h (Op (nQ 3 k))
def ac3:∀{k:W},k<4->(kb k).length<=20:=λ{k}h=>(by decide:∀h,h<4->(kb h).length<=20) k h
def ac4:∀{k:W},k<3->(zB k).length<=20:=λ{k}h=>(by decide:∀h,h<3->(zB h).length<=20) k h
def W6(l:af)(a:V):∀i:W,kA i l a∈l++[a]:=by induction l with|nil=>exact λ_=>.head _|cons g l b=>intro i;induction i with|zero=>exact .head _|succ i _=>exact .tail _ (b i)
def W7:af:=TL++[iF]
def xR(i:W):gz i∈W7:=W6 TL iF i
def W8:aH (dat 18) W7=U:=by kernel_rfl
def Rv(l:af):(∀e∈l,∃i a b,e=bB (gz i) a b)->aH (dat 19) l=U:=by induction l with|nil=>exact λ_=>Z|cons e l g=> intro h;obtain⟨i,a,b,q⟩:=h e gY;refine(dM ?_).trans (g λe m=>h e (.tail _ m));rw[q];exact(dM (ai W8 (xR i))).trans Z
theorem agP(R:Ru rd)(ns:ae):∃tx w r h c,Txt tx w/\dat 20 (.lst w)/\stK (GW rd d) g9 300 6 yE ⟨[(211,.val .aG)],da ns⟩ ⟨qT h c tx w (.own []) [],da r⟩:=by refine gq λP i=>?_;have a:cy ns%3<=2:=sK (eD _ (aO Z));have b:cy ns/3%4<4:=eD _ (aO Z);have g:cy ns/7%3<3:=eD _ (aO Z);obtain⟨v,y,r,j,X⟩:=WR (d:=d) (c:=cy ns%3) (ns:=ns.tail) a;obtain⟨w,T⟩:=ac0 b a g X;refine i ?_;have i:=ac3 b;have i:=ac4 g;have i:=JS a X;have l3:=lD (c:=cy ns%3);have i:=Rv w T.Y!;refine⟨_,w,r,cy ns,cy ns%3,T,i,?_⟩;refine iP (s1:=⟨[(211,.val .aG),(230,.val (iv (cy ns)))],da ns.tail⟩) ?_ (iP (s1:=⟨[(211,.val .aG),(230,.val (iv (cy ns))),(4,.val (iv (cy ns%3)))],da ns.tail⟩) Z (iP (s1:=⟨[(211,.val .aG),(230,.val (iv (cy ns))),(4,.val (iv (cy ns%3))),(236,.val (.str (kb (cy ns/3%4)++l9 (cy ns%3))))],da ns.tail⟩) ?_ (iP (s1:=⟨[(211,.val .aG),(230,.val (iv (cy ns))),(4,.val (iv (cy ns%3))),(236,.val (.str (kb (cy ns/3%4)++l9 (cy ns%3)++y++zB (cy ns/7%3))))],da r⟩) ?_ (iP (s1:=⟨[(211,.val .aG),(230,.val (iv (cy ns))),(4,.val (iv (cy ns%3))),(236,.val (.str (kb (cy ns/3%4)++l9 (cy ns%3)++y++zB (cy ns/7%3)))),(261,.val (.lst w))],da r⟩) ?_ (iP (s1:=⟨qT (cy ns) (cy ns%3) (kb (cy ns/3%4)++l9 (cy ns%3)++y++zB (cy ns/7%3)) w (.own []) [],da r⟩) Z Z)))));exact dI (v:=iv (cy ns)) (s1:=⟨[(211,.val .aG)],da ns.tail⟩) (JE Z Z Z Z Z (vr (d:=d+3) ns)) Z;exact dI (s1:=⟨[(211,.val .aG),(230,.val (iv (cy ns))),(4,.val (iv (cy ns%3)))],da ns.tail⟩) (d7 (s1:=⟨[(211,.val .aG),(230,.val (iv (cy ns))),(4,.val (iv (cy ns%3)))],da ns.tail⟩) (jr (w:=iv (cy ns/3%4)) Z Z (ac1 b) Z) (lC (v:=.str [32]) (w:=iv (cy ns%3)) Z Z (mul_one (ay a (aO Z)))) (by rw[aX];lia)) Z;refine dI (s1:=⟨[(211,.val .aG),(230,.val (iv (cy ns))),(4,.val (iv (cy ns%3))),(236,.val (.str (kb (cy ns/3%4)++l9 (cy ns%3))))],da r⟩) (d7 (s1:=⟨[(211,.val .aG),(230,.val (iv (cy ns))),(4,.val (iv (cy ns%3))),(236,.val (.str (kb (cy ns/3%4)++l9 (cy ns%3))))],da r⟩) (d7 (s1:=⟨[(211,.val .aG),(230,.val (iv (cy ns))),(4,.val (iv (cy ns%3))),(236,.val (.str (kb (cy ns/3%4)++l9 (cy ns%3))))],da ns.tail⟩) Z (jH (s1:=⟨[(211,.val .aG),(230,.val (iv (cy ns))),(4,.val (iv (cy ns%3))),(236,.val (.str (kb (cy ns/3%4)++l9 (cy ns%3))))],da ns.tail⟩) (vs:=[.aG,iv (cy ns%3),.bool U,iv 2,.none]) Z Z Z Z Z j) ?_) (jr (w:=iv (cy ns/7%3)) Z Z (ac2 g) Z) ?_) Z;rw[aX,aX];lia;rw[aX,aX,aX];lia;exact dI (v:=.lst w) (s1:=⟨[(211,.val .aG),(230,.val (iv (cy ns))),(4,.val (iv (cy ns%3))),(236,.val (.str (kb (cy ns/3%4)++l9 (cy ns%3)++y++zB (cy ns/7%3))))],da r⟩) (jH (f:=262) (vs:=[.str (kb (cy ns/3%4)++l9 (cy ns%3)++y++zB (cy ns/7%3))]) (s1:=⟨[(211,.val .aG),(230,.val (iv (cy ns))),(4,.val (iv (cy ns%3))),(236,.val (.str (kb (cy ns/3%4)++l9 (cy ns%3)++y++zB (cy ns/7%3))))],da r⟩) Z Z Z Z Z (R.ok T.whole i)) Z
end
def b7:S:=Ï (Me 7 Sw)
def cd7:X:=ifC (Me 1 b7)
def SP:S:=Ï (Me 12 Sw)
def EJ(l:af):W->af:=bm (motive:=λ_=>W->af) (λ_=>[]) (λe _ a i=>br (vv e) (iv i::a (i+1)) (a (i+1))) l
def j'(x y z:V):cz:=[(264,.val x),(258,.val y),(166,.val z)]
def PL(e:cz):=e=[]∨∃x y z,e=j' x y z
section
variable{rd:af->aY->PG->dR}{G:cQ}{lv:ae}{d h c n f i:W}{pg:PG}{tx:ae}{w N A l:af}{nl:LV}{e:cz}{s s1 H:St}{v x y:V}{a b:aw}{ea:X}
def Bw{x:W}(g:aq lv x)(q:G.ro=J)(j:ac 94 G.dT)(k:aj x s.loc=O (.own N))(p:ev G lv J ea s=O (v,s))(o:N.length<=900000):pt G lv n (.expr (.fy (.aR x) 94 (xq [ea]) [] .nil)) s=O (.next,aE s x (.own (N++[v]))):=by
 have m:iS G lv s (.loc x)=O (.lst N):=by show gd (aq lv x) (bn (aj x s.loc) _)=_;rw[g,k];rfl
 have M:cX G (.lst N) 94 [v]=O (.none,.lst (N++[v])):=by show br (ac 94 G.dT) (gd (bd (ak N) 900000) (O (V.none,Cn.lst (N++[v])))) _=_;rw[j,aB,hH o];rfl
 refine(ah (λz=>ax z (λ_ s=>nx s)) (ah (λo=>oc (mp o λc=>(Pl.loc x,c)) (λg=>Tb G lv 94 (BF G lv (xq [ea])) J s g) _) m)).trans ?_;show ax (ax (BF G lv (xq [ea]) s) λg j=>gd (calm s j) (bn (iS G lv j (.loc x)) λc=>ax (cX G c 94 g) λv g=>bn (hU G.ro j (.loc x) g) λs=>fin J v s)) (λ_ s=>nx s)=_;rw[show BF G lv (xq [ea]) s=O ([v],s)from mS p];show ax (gd (ac s.pg.bD s.pg.bD) (bn (iS G lv s (.loc x)) λc=>ax (cX G c 94 [v]) λv g=>bn (hU G.ro s (.loc x) g) λs=>fin J v s)) (λ_ s=>nx s)=_;rw[cf,m];show ax (ax (cX G (.lst N) 94 [v]) λv g=>bn (hU G.ro s (.loc x) g) λs=>fin J v s) (λ_ s=>nx s)=_
 have K:hU J s (.loc x) (.lst (N++[v]))=O (aE s x (.own (N++[v]))):=by show bn (aj x s.loc) _=_;rw[k];rfl
 rw[M,q];show ax (bn (hU J s (.loc x) (.lst (N++[v]))) λs=>fin J V.none s) (λ_ s=>nx s)=_;rw[K];rfl
def ac5{p q:W}{b:X}(h:ev G lv J b s=O (.tup [x,y],s1)):pt G lv n (.C! [p,q] b) s=O (.next,aE (aE s1 p (.val x)) q (.val y)):=by show ax (ev G lv J b s) (λv s=>bn (uo v) λg=>bn (unpack [p,q] g s) nx)=_;rw[h];rfl
def jI{a b:X}{x:V}(g:gA G lv s (cG a)=C)(j:ev G lv J a s=O (v,s1))(k:ev G lv J b s1=O (x,H))(h:iL v x=O u):ev G lv J (.sub a b) s=O (u,H):=by show oc (gA G lv s (cG a)) _ (ax (ev G lv J a s) λx s=>ax (ev G lv J b s) λv s=>bn (iL x v) λw=>fin J w s)=_;rw[g];show ax (ev G lv J a s) (λx s=>ax (ev G lv J b s) λv s=>bn (iL x v) λw=>fin J w s)=_;exact(jq j).trans ((jq k).trans (Q2 h))
def ac6{g:Type}{A l:Y g}{e:g}:jl (A++e::l) A.length=O e:=by rw[ot,List.getElem?_append_right (aU _),Nat.sub_self];rfl
def item_at{e:V}(g:w=A++e::l):iL (.lst w) (iv A.length)=O e:=by rw[g];exact ac6
def W9(rd:af->aY->PG->dR)(d h c:W)(tx:ae)(w N:af)(i:W)(a b:aw)(pg:PG):W7.map (λt=>ev (GW rd d) g9 U cd7 ⟨qT h c tx w (.own N) (j' (iv i) t (.lst [b8 a,b8 b])),pg⟩)=W7.map λt=>O (.bool (vv (bB t a b)),⟨qT h c tx w (.own N) (j' (iv i) t (.lst [b8 a,b8 b])),pg⟩):=by kernel_rfl
def put3(g:PL e):aE (aE (aE ⟨qT h c tx w nl e,pg⟩ 264 (.val v)) 258 (.val x)) 166 (.val y)=⟨qT h c tx w nl (j' v x y),pg⟩:=g.elim (λh=>by rw[h];rfl) λh=>by obtain⟨_,_,_,h⟩:=h;rw[h];rfl
def agQ(j:w=A++bB (gz i) a b::l)(k:PL e)(m:N.length<=1000):pt (GW rd d) g9 300 b7 (aE ⟨qT h c tx w (.own N) e,pg⟩ 264 (.val (iv A.length)))=O (.next,⟨qT h c tx w (.own (br (vv (bB (gz i) a b)) (N++[iv A.length]) N)) (j' (iv A.length) (gz i) (.lst [b8 a,b8 b])),pg⟩):=by
 have u:ev (GW rd d) g9 J (.sub (.aR 261) (.aR 264)) (aE ⟨qT h c tx w (.own N) e,pg⟩ 264 (.val (iv A.length)))=O (bB (gz i) a b,aE ⟨qT h c tx w (.own N) e,pg⟩ 264 (.val (iv A.length))):=k.elim (λh=>by rw[h];exact jI Z Z Z (item_at j)) λh=>by obtain⟨_,_,_,h⟩:=h;rw[h];exact jI Z Z Z (item_at j)
 have j:=ac5 (G:=GW rd d) (lv:=g9) (n:=300) (p:=258) (q:=166) u;rw[put3 k]at j;refine cY ?_ j;have g:=d6 (W9 rd d h c tx w N A.length a b pg) (xR i);cases q:vv (bB (gz i) a b)with
 |true=> rw[q]at g;exact cY Z (yC (cY Z (Bw Z Z Z Z Z (ay m (aO Z)))) g)
 |false=> rw[q]at g;exact cY Z (nM Z g)
def agR:∀(l A N:af)(e:cz),w=A++l->(∀e∈l,∃i a b,e=bB (gz i) a b)->PL e->N.length+l.length<=1000->∃g,PL g/\(l≠[]->g≠[])/\forL (λv s=>pt (GW rd d) g9 300 b7 (aE s 264 (.val v))) (dF 1 l.length A.length) ⟨qT h c tx w (.own N) e,pg⟩=O (.next,⟨qT h c tx w (.own (N++EJ l A.length)) g,pg⟩):=by
 intro l
 induction l with
 |nil=> intro A N e _ _ j _;exact⟨e,j,λz=>ch Z z,by rw[show EJ [] A.length=[]from Z,eq];rfl⟩
 |cons x l r=>
  intro A N e k o j p;obtain⟨i,a,b,q⟩:=o x gY;rw[q]at k ⊢;have t:=jL N.length l.length 1▸p;have S:=agQ (rd:=rd) (d:=d) (h:=h) (c:=c) (tx:=tx) (pg:=pg) k j (ay (gb _ _) p)
  obtain⟨g,u,E,m⟩:=r (A++[bB (gz i) a b]) (br (vv (bB (gz i) a b)) (N++[iv A.length]) N) (j' (iv A.length) (gz i) (.lst [b8 a,b8 b])) (by rw[am];exact k) (λe j=>o e (.tail _ j)) (.inr ⟨_,_,_,Z⟩) (by
   refine ay (dh ?_ _) t;cases vv (bB (gz i) a b)with
   |true=>show(N++[_]).length<=_;rw[aX];exact aU _
   |false=>exact iI _)
  rw[aX]at m;refine⟨g,u,λ_ z=>?_,?_⟩
  ·induction l with
   |nil=> have j:=m;rw[z]at j;have k:=ah (λo:q5=>oc o (λr=>r.2.loc.length) 0) j;exact ch k (by decide:(9)≠6)
   |cons y l _=>exact E (bN _ _) z
  ·show ax (pt (GW rd d) g9 300 b7 (aE ⟨qT h c tx w (.own N) e,pg⟩ 264 (.val (iv A.length)))) (λf s=>turn f s (forL (λv s=>pt (GW rd d) g9 300 b7 (aE s 264 (.val v))) (dF 1 l.length (A.length+1))))=_
   rw[S];refine m.trans ?_
   have F:∀B,br B (N++[iv A.length]) N++EJ l (A.length+1)=N++br B (iv A.length::EJ l (A.length+1)) (EJ l (A.length+1)):=λB=>by
    induction B with
    |true=>exact am _ _ _
    |false=>rfl
   show O (Fl.next,(⟨qT h c tx w (.own (br (vv (bB (gz i) a b)) (N++[iv A.length]) N++EJ l (A.length+1))) g,pg⟩:St))=_;rw[F];rfl
def ac7:∀(l:af)(i:W),z∈EJ l i->∃A e B,l=A++e::B/\z=iv (i+A.length)/\vv e:=by intro l;induction l with|nil=>exact λi m=>nomatch m|cons x l g=>intro i m;have m:z∈br (vv x) (iv i::EJ l (i+1)) (EJ l (i+1)):=m;(have T:z∈EJ l (i+1)->∃A e B,x::l=A++e::B/\z=iv (i+A.length)/\vv e:=λm=>by obtain⟨A,e,B,j,k,o⟩:=g (i+1) m;exact⟨x::A,e,B,by rw[j];rfl,by rw[k,fK,hO 1];rfl,o⟩);cases q:vv x with|true=>(rw[q]at m;cases m with|head=>exact⟨[],x,l,Z,Z,q⟩|tail _ m=>exact T m)|false=>rw[q]at m;exact T m
def ac8{e:V}(h:vv e):∀(A:af)(i:W),EJ (A++e::B) i≠[]:=by intro A;induction A with|nil=> intro i;show br (vv e) (iv i::EJ B (i+1)) _≠[];rw[h];exact bN _ _|cons x A g=>intro i;show br (vv x) (iv i::EJ (A++e::B) (i+1)) (EJ (A++e::B) (i+1))≠[];cases vv x with|true=>exact bN _ _|false=>exact g _
end
def ql(h c:W)(a:ae)(w:af)(b:LV)(x y z:V)(f d:W)(e:D)(g:cz):cz:=qT h c a w b ((264,.val x)::(258,.val y)::(166,.val z)::(206,.val (iv f))::(265,.val (iv d))::(255,.val (.int e))::g)
def dN(t:V)(d:D):D:=br (Bs t [[114,111,119],[109,97,112]]) (d+1) (br (Bs t [[114,111,119,32,101,110,100],[109,97,112,32,101,110,100]]) (d-1) d)
def aiy:X:=.sub (.sub (.sub (.aR 261) (.aR 264)) (.int 0)) (.int 0)
def Sh1(g:cz):=g=[]∨∃a,g=[(214,a)]
def sA:X:=.bF 30 (xq [.aR 261]) [] .nil
section
variable{rd:af->aY->PG->dR}{G:cQ}{lv:ae}{d h c k n j i m:W}{pg:PG}{tx:ae}{w N l:af}{nl:LV}{e:cz}{s s1 u:St}{v x y z:V}{a b:aw}{S0:S}
def Xa(g:stK G lv n j (yA k S0) s1 u)(f:stK G lv n k S0 s s1):stK G lv n (k+j) S0 s u:=by induction k generalizing S0 s with|zero=>rw[show s=s1 from f,hM];exact g|succ k o=> obtain⟨s0,e,f⟩:=f;rw[Nat.succ_add];exact⟨s0,e,o g f⟩
def st7(f:w.length<=1000)(g:∀e∈w,∃i a b,e=bB (gz i) a b)(o:w≠[]):∃x y z,pt (GW rd d) g9 300 (Me 7 Sw) ⟨qT h c tx w (.own []) [],pg⟩=O (.next,⟨qT h c tx w (.own (EJ w 0)) (j' x y z),pg⟩):=by
 obtain⟨p,p,r,t⟩:=agR w [] [] [] Z g (.inl Z) (by rw[show([]).length=0 from Z,hM];exact f)
 have S:source (GW rd d) g9 (cG (.bF 218 (xq [sA]) [] .nil)) (O (3,sA)) (O (xq [sA])) (ev (GW rd d) g9 · (.bF 218 (xq [sA]) [] .nil)) ⟨qT h c tx w (.own []) [],pg⟩=O ((J,dF 1 w.length 0),⟨qT h c tx w (.own []) [],pg⟩):=by show gd _ _=_;rw[aB,hH (ay f (aO Z))];rfl
 refine p.elim (λq=>ch q (r o)) λq=>?_;obtain⟨x,y,z,q⟩:=q;refine⟨x,y,z,?_⟩;show ax (source _ g9 (cG (.bF 218 (xq [sA]) [] .nil)) (O (3,sA)) (O (xq [sA])) (ev _ g9 · (.bF 218 (xq [sA]) [] .nil)) ⟨qT h c tx w _ [],pg⟩) (λr s=>br r.1 (forL (λv s=>pt _ g9 300 b7 (aE s 264 (.val v))) r.2 s) (forL (λv s=>pt _ g9 300 b7 (aE s 264 (.val v))) r.2 s))=_;rw[S];refine t.trans ?_;rw[q];rfl
theorem st8(p:N≠[]):∃f l,pt (GW rd d) g9 300 (Me 8 Sw) ⟨qT h c tx w (.own N) (j' x y z),pg⟩=O (.next,⟨qT h c tx w f (j' x y z),pg⟩)/\(f=.own l∨f=.val (.lst l))/\l≠[]/\∀z∈l,z∈N:=by
 induction N with
 |nil=>exact ch Z p
 |cons g N=>induction N with
  |nil=>exact⟨_,[g],nM Z Z,.inl Z,bN _ _,λ_=>id⟩
  |cons o N _=> refine⟨.val _,o::N,?_,.inr Z,bN _ _,λ_ m=>.tail _ m⟩;have f:ev (GW rd d) g9 U (.cmp (.bF 30 (xq [.aR 263]) [] .nil) [.Gt] (xq [.int 1])) ⟨qT h c tx w (.own (g::o::N)) (j' x y z),pg⟩=O (.bool (a? ((1:D)<((ak N+1+1)))),⟨qT h c tx w _ _,pg⟩):=Z;rw[cF (by lia)]at f;refine yC (cY Z (dI (s1:=⟨qT h c tx w (.val (.lst (g::o::N))) _,pg⟩) ?_ Z)) f;show O (V.lst _,_)=_;rw[aB,E9];rfl
def ac9{l:af}{i:W}(h:i<l.length):∃z,jl l i=O z/\z∈l:=⟨l[i],by rw[ot,f? h],List.getElem_mem h⟩
def st9(g:nl=.own l∨nl=.val (.lst l))(p:l≠[]):∃f,f∈l/\pt (GW rd d) g9 300 (Me 9 Sw) ⟨qT h c tx w nl (j' x y z),pg⟩=O (.next,⟨qT h c tx w nl (j' x y z++[(206,.val f)]),pg⟩):=by
 induction l with
 |nil=>exact ch Z p
 |cons o N _=>
  obtain⟨f,p,r⟩:=ac9 (l:=o::N) (i:=h/12%(ak N+1)) (by rw[aB];exact eD _ (C1 _))
  refine⟨f,r,?_⟩;have f:ev (GW rd d) g9 J (.bin .Mod (.bin .FloorDiv (.aR 230) (.int 12)) (.bF 30 (xq [.aR 263]) [] .nil)) ⟨qT h c tx w nl (j' x y z),pg⟩=O (iv _,⟨qT h c tx w nl _,pg⟩):=g.elim (λq=>by rw[q];rfl) λq=>by rw[q];rfl
  refine dI (s1:=⟨qT h c tx w nl (j' x y z),pg⟩) ?_ Z;refine g.elim (λq=>?_) λq=>?_
  ·rw[q]at f ⊢
   show gd (ac pg.bD pg.bD) (bn (jl (o::N) (h/12%(ak N+1))) λg=>O _)=_;rw[cf,p];rfl
  ·rw[q]at f ⊢
   exact jI Z Z f p
end
def pJ(t:V):cz:=[(214,.val (.str (WX t)))]
def r12:S:=.cons (.ifs (.cmp (.aR 255) [.Eq] (xq [.int 0])) (.cons (.set [265] (.aR 264)) (.cons .brk .nil)) .nil) .nil
def J1:X:=.sub (.sub (.sub (.aR 261) (.aR 206)) (.int 1)) (.int 0)
section
variable{rd:af->aY->PG->dR}{G:cQ}{lv:ae}{d h c n f la j i m:W}{pg:PG}{tx tz:ae}{w N A l B:af}{nl:LV}{e g:cz}{s s1:St}{v x y z en t:V}{a b p:aw}{dd d1:D}{S0 S1:S}
def eqI(a b:D):kt (.int a) (.int b)=a? (a=b):=by rw[kt];rfl
def Xb:W7.map (λt=>iL t (.int 0))=W7.map λt=>O (.str (WX t)):=by kernel_rfl
def Rw(rd:af->aY->PG->dR)(d h c:W)(tx:ae)(w:af)(nl:LV)(x y z:V)(f la:W)(dd:D)(pg:PG)(R:S):W7.map (λt=>pt (GW rd d) g9 300 (.cons (Me 1 SP) (.cons (Me 2 SP) R)) ⟨ql h c tx w nl x y z f la dd (pJ t),pg⟩)=W7.map λt=>pt (GW rd d) g9 300 R ⟨ql h c tx w nl x y z f la (dN t dd) (pJ t),pg⟩:=by kernel_rfl
def agS:dN t dd=dd+dV t:=by
 unfold dN dV;cases Bs t [[114,111,119],[109,97,112]]with
 |true=>rfl
 |false=>cases Bs t [[114,111,119,32,101,110,100],[109,97,112,32,101,110,100]]with
  |true=>exact nf
  |false=>exact(aA dd).symm
def Ň(h:pt G lv n S0 s=O (.brk,s1)):pt G lv n (.cons S0 S1) s=O (.brk,s1):=by show ax (pt G lv n S0 s) (λf s=>vN f (pt G lv n S1 s) (O (.brk,s)) λv=>O (.ret v,s))=_;rw[h];rfl
def Rx(o:w=A++bB (gz i) a b::l)(r:Sh1 g):pt (GW rd d) g9 300 SP (aE ⟨ql h c tx w nl x y z f la dd g,pg⟩ 264 (.val (iv A.length)))=br (a? (dd+dV (gz i)=0)) (O (.brk,⟨ql h c tx w nl (iv A.length) y z f A.length (dd+dV (gz i)) (pJ (gz i)),pg⟩)) (O (.next,⟨ql h c tx w nl (iv A.length) y z f la (dd+dV (gz i)) (pJ (gz i)),pg⟩)):=by
 have u:=d6 Xb (xR i);have E:∀{g},ev (GW rd d) g9 J aiy ⟨ql h c tx w nl (iv A.length) y z f la dd g,pg⟩=O (.str (WX (gz i)),⟨ql h c tx w nl (iv A.length) y z f la dd g,pg⟩):=λ{g}=>jr (jr (jI Z Z Z (item_at o)) Z Z Z) Z u Z
 have o:aE ⟨ql h c tx w nl (iv A.length) y z f la dd g,pg⟩ 214 (.val (.str (WX (gz i))))=⟨ql h c tx w nl (iv A.length) y z f la dd (pJ (gz i)),pg⟩:=r.elim (λq=>by rw[q];rfl) λq=>by obtain⟨_,q⟩:=q;rw[q];rfl
 refine cY ?_ (o▸dI E Z);refine(d6 (Rw rd d h c tx w nl (iv A.length) y z f la dd pg r12) (xR i)).trans ?_;have k:ev (GW rd d) g9 U (.cmp (.aR 255) [.Eq] (xq [.int 0])) ⟨ql h c tx w nl (iv A.length) y z f la (dd+dV (gz i)) (pJ (gz i)),pg⟩=O (.bool (kt (.int (dd+dV (gz i))) (.int 0)),⟨ql h c tx w nl (iv A.length) y z f la (dd+dV (gz i)) (pJ (gz i)),pg⟩):=Z;rw[agS];rw[eqI]at k;cases q:a? (dd+dV (gz i)=0)with
 |true=> rw[q]at k;exact Ň (yC (cY (Ň Z) Z) k)
 |false=> rw[q]at k;exact cY Z (nM Z k)
def ada(K:∃i a b,en=bB (gz i) a b)(F:d1+dE en=0):∀(k A:af)(x:V)(dd:D)(g:cz),w=A++(k++en::B)->(∀e∈k,∃i a b,e=bB (gz i) a b)->LI dd k=O d1->Sh1 g->∃u E,forL (λv s=>pt (GW rd d) g9 300 SP (aE s 264 (.val v))) (dF 1 (k++en::B).length A.length) ⟨ql h c tx w nl x y z f f dd g,pg⟩=O (.next,⟨ql h c tx w nl u y z f (A.length+k.length) 0 (pJ E),pg⟩):=by
 intro k
 induction k with
 |nil=>
  intro A x dd g r _ o E;obtain⟨i,a,b,q⟩:=K;rw[q]at r F ⊢;have K:dd+dV (gz i)=0:=by rw[show dd=d1 from au o];exact F
  have S:=Rx (rd:=rd) (d:=d) (h:=h) (c:=c) (tx:=tx) (nl:=nl) (x:=x) (y:=y) (z:=z) (f:=f) (la:=f) (dd:=dd) (pg:=pg) r E;rw[K]at S;refine⟨iv A.length,gz i,?_⟩;show ax (pt (GW rd d) g9 300 SP (aE ⟨ql h c tx w nl x y z f f dd g,pg⟩ 264 (.val (iv A.length)))) (λf s=>turn f s (forL (λv s=>pt (GW rd d) g9 300 SP (aE s 264 (.val v))) (dF 1 B.length (A.length+1))))=_;rw[S];rfl
 |cons L k M=>
  intro A x dd g r H o E;obtain⟨i,a,b,q⟩:=H L gY;rw[q]at r o ⊢;have o:br (a? (dd+dV (gz i)=0)) C (LI (dd+dV (gz i)) k)=O d1:=o;have S:=Rx (rd:=rd) (d:=d) (h:=h) (c:=c) (tx:=tx) (nl:=nl) (x:=x) (y:=y) (z:=z) (f:=f) (la:=f) (dd:=dd) (pg:=pg) r E;cases E:a? (dd+dV (gz i)=0)with
  |true=>rw[E]at o;exact aa o
  |false=> rw[E]at o S;obtain⟨u,F,E⟩:=M (A++[bB (gz i) a b]) (iv A.length) (dd+dV (gz i)) (pJ (gz i)) (by rw[am];exact r) (λe m=>H e (.tail _ m)) o (.inr ⟨_,Z⟩);rw[aX (as:=A)]at E;refine⟨u,F,?_⟩;show ax (pt (GW rd d) g9 300 SP (aE ⟨ql h c tx w nl x y z f f dd g,pg⟩ 264 (.val (iv A.length)))) (λf s=>turn f s (forL (λv s=>pt (GW rd d) g9 300 SP (aE s 264 (.val v))) (dF 1 (k++en::B).length (A.length+1))))=_;rw[S];refine E.trans ?_;rw[fK A.length,hO [bB (gz i) a b].length];rfl
def aiz(o:w=A++(k++en::B))(u:w.length<=1000)(r:∀e∈w,∃i a b,e=bB (gz i) a b)(H:LI 0 k=O d1)(F:d1+dE en=0):∃q E,pt (GW rd d) g9 300 (Me 12 Sw) ⟨ql h c tx w nl x y z A.length A.length 0 [],pg⟩=O (.next,⟨ql h c tx w nl q y z A.length (A.length+k.length) 0 (pJ E),pg⟩):=by
 have E:=λe m=>r e (o▸db _ m);obtain⟨q,K,r⟩:=ada (E en (db _ gY)) F k A x 0 [] o (λe m=>E e (h? _ m)) H (.inl Z);refine⟨q,K,?_⟩;have q:w.length-A.length=(k++en::B).length:=by rw[o,aX,hq]
 have la:A.length<=1000000:=ay (by rw[o,aX];exact gb _ _) (ay u (aO Z));show ax (source (GW rd d) g9 (cG (.bF 218 (xq [.aR 206,sA]) [] .nil)) C (O (xq [.aR 206,sA])) (ev (GW rd d) g9 · (.bF 218 (xq [.aR 206,sA]) [] .nil)) ⟨ql h c tx w nl x y z A.length A.length 0 [],pg⟩) (λr s=>br r.1 (forL (λv s=>pt (D? (GW rd d)) g9 300 SP (aE s 264 (.val v))) r.2 s) (forL (λv s=>pt (GW rd d) g9 300 SP (aE s 264 (.val v))) r.2 s))=_
 have S:source (GW rd d) g9 (cG (.bF 218 (xq [.aR 206,sA]) [] .nil)) C (O (xq [.aR 206,sA])) (ev (GW rd d) g9 · (.bF 218 (xq [.aR 206,sA]) [] .nil)) ⟨ql h c tx w nl x y z A.length A.length 0 [],pg⟩=O ((J,dF 1 (w.length-A.length) A.length),⟨ql h c tx w nl x y z A.length A.length 0 [],pg⟩):=by show gd (bd (ak w) 1000000) (gd (bd A.length 1000000) (O ((J,dF 1 (ak w-A.length) A.length),(⟨ql h c tx w nl x y z A.length A.length 0 [],pg⟩:St))))=_;rw[aB,hH (ay u (aO Z)),hH la];rfl
 rw[S,q];exact r
def adb{e:V}(k:vv e):∀(A:af),LJ tz (A++e::B)->∃N R,e::B=N++R/\qj tz N:=by intro A;induction A with|nil=>exact λh=>h.1 k|cons x A o=>exact λh=>o h.2
def agU(R:Ru rd)(k:ae):∃tx w A N B,∃h c nl,∃x y z t r,Txt tx w/\dat 20 (.lst w)/\w=A++(N++B)/\qj (tx++[0]) N/\stK (GW rd d) g9 300 12 yE ⟨[(211,.val .aG)],da k⟩ ⟨ql h c tx w nl x y z A.length (A.length+(N.length-1)) 0 (pJ t),da r⟩:=by(refine gq λP L=>?_;obtain⟨tx,w,r,h,c,T,P,K⟩:=agP R k;have k:w.length<=1000:=ay T.whole.tl (aO Z);obtain⟨u,o,B0,o,E⟩:=T.ex;obtain⟨x,y,z,Q⟩:=st7 k T.Y! (by rw[o];exact List.append_ne_nil_of_right_ne_nil _ (bN _ _));obtain⟨nl,l,R,F,H,S⟩:=st8 (N:=EJ w 0) (by rw[o];exact ac8 E u 0);obtain⟨E,V,o⟩:=st9 F H;obtain⟨A,e,B,u,F,X⟩:=ac7 w 0 (S E V);rw[F,hM]at o;have E:=T.nds;rw[u]at E;obtain⟨N,F,S,H⟩:=adb X A E;have E:w=A++(N++F):=by rw[u,S]);(have S:=H;obtain⟨p,q,u,M,u,u,f1,⟨i,a,V,d1,u,X,h0⟩,_⟩:=S;obtain⟨S,g',k12⟩:=aiz (en:=bB (gz i) a q) (by rw[E,u,am];rfl) k T.Y! X h0;refine L ?_;refine⟨tx,w,A,N,F,h,c,nl,S,y,z,g',r,T,P,E,H,Xa (j:=6) ?_ K⟩;have k:N.length-1=V.length:=by rw[u,aX];rfl);rw[k];exact iP Q (iP R (iP o (iP Z (iP Z (iP k12 Z)))))
def aiA{X:af}{B:af}(k:w=A++(bB (gz i) p b::X)++B):ev (GW rd d) g9 J J1 ⟨ql h c tx w nl x y z A.length la 0 g,pg⟩=O (b8 p,⟨ql h c tx w nl x y z A.length la 0 g,pg⟩):=jr (jr (jI Z Z Z (item_at (by rw[k,am];rfl))) Z Z Z) Z Z Z
end
def zG(h c:W)(a:ae)(w:af)(b:LV)(x y z:V)(f d:W)(t:V)(e fi:V)(g:LV):cz:=ql h c a w b x y z f d 0 [(214,.val (.str (WX t))),(266,.val e),(268,.val fi),(225,g)]
def O':S:=S.casesOn (motive:=λ_=>S) (Me 17 Sw) .nil (λ_ _=>.nil) (λ_=>.nil) (λ_=>.nil) .nil .nil (λ_ _=>.nil) (λ_ _ _ _ _=>.nil) (λ_ _=>.nil) (λ_ _ _=>.nil) (λ_ _ _=>.nil) (λ_ _=>.nil) (λ_ _ _=>.nil) (λ_ _ _ _=>.nil) (λ_ _ _=>.nil) (λ_ _=>.nil) (λ_ _ b=>b) (λ_=>.nil) (λ_=>.nil) .nil
def mvX(a:X):X:=.bF 267 (xq [a,.aR 33]) [] .nil
def Į:X:=.comp (mvX (.aR 40)) 40 (.aR 166) [33]
def đ(k:W):X:=.sub (.sub (.sub (.aR 261) (.aR 265)) (.int 1)) (.int k)
def txX:X:=.bin .Add (.bin .Mult (.str [32]) (.sub (.aR 33) (.int 2))) (.cut (.aR 236) (.sub (.aR 33) (.int 0)) (.sub (đ 1) (.int 0)))
def K!(p m:aw):V:=.tup [.int (m.1-p.1+p.2.2),.int (m.2.1-p.2.1),.int m.2.2]
theorem Ry{p:aw}:K! p m=b8 (mo p m):=by(have a:m.1-p.1+p.2.2=m.1+(p.2.2-p.1):=by lia);show V.tup [.int _,.int _,.int m.2.2]=.tup [.int (m.1+(p.2.2-p.1)),.int (m.2.1+-p.2.1),.int m.2.2];rw[a,show m.2.1-p.2.1=m.2.1+-p.2.1 from nf]
section
variable{rd:af->aY->PG->dR}{d h0 h c k f la i m:W}{pg:PG}{tx:ae}{w N G D:af}{nl F:LV}{e:cz}{s:St}{x y z t bg fi u:V}{a b p q:aw}
def Eu(d:W)(p m:aw)(pg:PG):(lG (d+5)).func 267 [b8 m,b8 p] [] pg=O (K! p m,pg):=by kernel_rfl
def Xc(rd:af->aY->PG->dR)(d h c:W)(tx:ae)(w:af)(nl:LV)(x y t bg fi:V)(f la:W)(F:LV)(p a b:aw)(pg:PG):ev (GX rd d (b8 p)) g9 J Į ⟨zG h c tx w nl x y (.lst [b8 a,b8 b]) f la t bg fi F,pg⟩=O (.lst [K! p a,K! p b],⟨zG h c tx w nl x y (.lst [b8 a,b8 b]) f la t bg fi F,pg⟩):=by kernel_rfl
def ade{u:V}(g:D.length<=1000):yv (pt (GX rd d (b8 p)) g9 300 O') 258 166 (bB u a b) ⟨zG h c tx w nl x y z f la t bg fi (.own D),pg⟩=O (.next,⟨zG h c tx w nl x u (.lst [b8 a,b8 b]) f la t bg fi (.own (D++[bB u (mo p a) (mo p b)])),pg⟩):=by have j:=Xc rd d h c tx w nl x u t bg fi f la (.own D) p a b pg;have T:ev _ g9 J (.tup (xq [.aR 258,Į])) ⟨zG h c tx w nl x u _ f la t bg fi _,pg⟩=O _:=acG (zF Z (mS j));rw[Ry,Ry]at T;show pt _ g9 300 O' ⟨zG h c tx w nl x u _ f la t bg fi _,pg⟩=_;exact cY Z (Bw Z Z Z Z T (ay g (aO Z)))
def adf:∀(N G D:af)(y z:V),G9 (kO p) (jO p) N G->D.length+N.length<=1000->∃g j,forL (yv (pt (GX rd d (b8 p)) g9 300 O') 258 166) N ⟨zG h0 c tx w nl x y z f la t bg fi (.own D),pg⟩=O (.next,⟨zG h0 c tx w nl x g j f la t bg fi (.own (D++G)),pg⟩):=by
 intro N
 induction N with
 |nil=> intro G D y z h _;rw[show G=[]from h,eq];exact⟨y,z,Z⟩
 |cons e N o=> intro G D y z h l;obtain⟨r,v,q,⟨i,a,b,A,n⟩,B⟩:=h;have E:=jL D.length N.length 1▸l;obtain⟨g,j,k⟩:=o v (D++[r]) _ _ B (by rw[aX];exact E);refine⟨g,j,?_⟩;have S:=ade (rd:=rd) (d:=d) (h:=h0) (c:=c) (tx:=tx) (w:=w) (nl:=nl) (x:=x) (y:=y) (z:=z) (f:=f) (la:=la) (t:=t) (bg:=bg) (fi:=fi) (pg:=pg) (u:=gz i) (a:=a) (b:=b) (p:=p) (ay (gb _ _) l);show ax _ (λf s=>turn f s _)=_;rw[A,S,q];rw[n]at k;refine k.trans ?_;rw[am,n];rfl
end
def ņ(a:X):X:=.yR (xq [a,a])
def dX1:X:=.tup (xq [.tup (xq [.str [100,111,99,117,109,101,110,116,32,101,110,100],.str [110,111]]),ņ (.aR 268)])
def dX2:X:=.tup (xq [.tup (xq [.str [115,116,114,101,97,109,32,101,110,100]]),ņ (.aR 268)])
section
variable{rd:af->aY->PG->dR}{G:cQ}{lv:ae}{d h c k n f j i:W}{pg:PG}{tx M y:ae}{w N A l B D:af}{nl:LV}{s s1 s2:St}{v x y0 z t bg fi u:V}{a b p q:aw}{ea eb ec:X}{bb:I}
def cmp_self{l:af}(h:dat 30 (.lst l)):ph .Eq (.lst l) (.lst l)=O U:=by show gd _ _=_;rw[h,Rh 30 _ h];rfl
def adg(e:ev G lv J ea s=O (v,s1))(m:ev G lv J eb s1=O (u,s2))(h:ph .Eq v u=O bb)(g:gA G lv s1 (cG eb)=C):ev G lv J (.cmp ea [.Eq] (xq [eb])) s=O (.bool bb,s2):=by show ax _ (λv s=>ax (oc (gA G lv s _) (λo=>gd U _) (ax (ev G lv J eb s) λw s=>bn (ph .Eq v w) λb=>O (b,s))) λb s=>O (V.bool b,s))=_;refine(jq e).trans ?_;rw[g];rw[m];show ax (bn _ λb=>O _) (λb s=>O _)=_;rw[h];rfl
def adh(e:ev G lv J ea s=O (.str y,s))(o:ev G lv J eb s=O (iv i,s))(r:ev G lv J ec s=O (iv j,s))(g:cq eb=J)(m:cq ec=J):ev G lv J (.cut ea eb ec) s=O (.str ((y.take j).drop i),s):=by show ax (ev G lv J ea s) (λx s=>ax (br _ (O (C,s)) (ax (ev G lv J eb s) λv s=>O (O v,s))) λa s=>ax (br _ (O (C,s)) (ax (ev G lv J ec s) λv s=>O (O v,s))) λb s=>bn (BY x a b) λv=>fin J v s)=_;rw[e,g,m];show ax _ (λa s=>ax (ax (ev G lv J ec s) λv s=>O (O v,s)) λb s=>bn (BY _ a b) λv=>fin J v s)=_;rw[o];show ax _ (λb s=>bn (BY _ _ b) λv=>fin J v s)=_;rw[r];rfl
def agW(h:n<=1000):qw .Mult (.str [32]) (iv n)=O (.str (rep [32] n)):=by show gd _ (gd (bd (1*n) 1000000) _)=_;rw[I',hH (ay h (aO Z))];rfl
def Ew{e:Type}{A N B:Y e}{k:W}(g:k=A.length+N.length):((A++(N++B)).take k).drop A.length=N:=by rw[g,<-am,<-aX,List.take_left,q6]
theorem aiB(T:Ru rd)(S:N=D++[bB (gz i) a q])(R:w=A++(N++B))(E:tx++[0]=e++(M++r))(Q:r≠[])(m:p.1=(ak e:W))(o:q.1=p.1+(ak M:W))(P:0<=p.2.2)(F:eZ (sp p.2.2++M) g)(V:dat 20 (.lst g))(X:dat 30 (.lst g)):∃r,pt (GX rd d (b8 p)) g9 300 (yA 19 yE) ⟨zG h c tx w nl x y0 z f (A.length+D.length) t bg fi (.val (.lst g)),pg⟩=O (.ret (.bool U),r):=by(obtain⟨H,K,p3⟩:=p;obtain⟨L,q2⟩:=q;obtain⟨n,hn⟩:=Int.eq_ofNat_of_zero_le P;have m:H=_:=m;have o:L=H+_:=o;have hq2:L=((ak e+ak M:W)):=by rw[o,m];exact(fP _ _).symm);subst hn;subst m;subst hq2;have m:=F.len;have m:(rep [32] n++M).length<=700:=m;(have o:n<=1000:=by have:=l6 (a:=32) n;rw[aX]at m;lia);(have r:(tx.take (ak e+ak M)).drop (ak e)=M:=by have H:=ah ey E;have L:=List.length_pos_iff.mpr Q;rw[aB,aB];have:tx.take (e.length+M.length)=(tx++[0]).take _:=(List.take_append_of_le_length (by simp at H;lia)).symm;rw[this,E];exact Ew Z);have E:(A++D).length=A.length+D.length:=aX;(have H:iL (.lst w) (iv (A.length+D.length))=O (bB (gz i) a (((ak e+ak M)),q2)):=by rw[<-E];exact item_at (by rw[R,S,am,am];rfl));have E:ev (GX rd d (b8 ((ak e),K,(n)))) g9 J (đ 1) ⟨zG h c tx w nl x y0 z f _ t bg fi (.val (.lst g)),pg⟩=O _:=jr (jr (jI Z Z Z H) Z Z Z) Z Z Z;(have H:ev (GX rd d (b8 ((ak e),K,(n)))) g9 J txX ⟨zG h c tx w nl x y0 z f (A.length+D.length) t bg fi (.val (.lst g)),pg⟩=O (.str (rep [32] n++M),⟨zG h c tx w nl x y0 z f (A.length+D.length) t bg fi (.val (.lst g)),pg⟩):=by have e:=adh (ea:=.aR 236) (eb:=.sub (.aR 33) (.int 0)) (ec:=.sub _ (.int 0)) Z (jI Z Z Z Z) (jr E Z Z Z) Z Z;rw[r]at e;exact d7 (lC Z (jI Z Z Z Z) (agW o)) e (ay m (aO Z)));exact⟨_,JD (adg (jH Z Z Z Z (mS H) (T.ok F V)) Z (cmp_self X) Z) Z⟩
end
section
variable{rd:af->aY->PG->dR}{d h c:W}{pg:PG}{tx:ae}{w N A B:af}{nl:LV}{x y z t:V}
def adi{l:af}(h:G9 k j l a):∀e∈a,∃i b f,e=bB (gz i) b f:=by revert a;induction l with|nil=>exact λ{a}h e m=>by rw[show a=[]from h]at m;exact nomatch m|cons b l g=>intro a h e m;obtain⟨f,r,q,⟨i,x,y,_,n⟩,o⟩:=h;rw[q]at m;cases m with|head=>exact⟨i,_,_,n⟩|tail _ m=>exact g o e m
def adj{l:af}(h:G9 k j l a):a.length=l.length:=by revert a;induction l with|nil=>exact λ{a}h=>by rw[show a=[]from h]|cons f l b=> intro a h;obtain⟨_,_,q,_,e⟩:=h;rw[q];exact ah pp (b e)
def Rz:aH (dat 28) W7=U:=by kernel_rfl
def Xd(l:af):(∀e∈l,∃i a b,e=bB (gz i) a b)->aH (dat 29) l=U:=by induction l with|nil=>exact λ_=>Z|cons e l f=> intro h;obtain⟨i,a,b,q⟩:=h e gY;refine(dM ?_).trans (f λe m=>h e (.tail _ m));rw[q];exact(dM (ai Rz (xR i))).trans Z
theorem agX(R:Ru rd)(k:w=A++(N++B))(H:w.length<=900)(G:qj (tx++[0]) N):∃p l u K,ev (GW rd d) g9 J J1 ⟨ql h c tx w nl x y z A.length (A.length+(N.length-1)) 0 (pJ t),pg⟩=O (b8 p,⟨ql h c tx w nl x y z A.length (A.length+(N.length-1)) 0 (pJ t),pg⟩)/\stK (GX rd d (b8 p)) g9 300 6 (yA 13 yE) ⟨ql h c tx w nl x y z A.length (A.length+(N.length-1)) 0 (pJ t),pg⟩ l/\aj 225 l.loc=O (.own u)/\pt (GX rd d (b8 p)) g9 300 (yA 19 yE) (aE l 225 (.val (.lst u)))=O (.ret (.bool U),K):=by
 refine gq λl L=>?_;obtain⟨p,q,l,M,l,f,⟨i,l,X,u⟩,⟨i2,a,e,K,n,_,_⟩,P,Q,S,T,o,h0,a'⟩:=G;have E:N.length=e.length+1:=by rw[n,aX];rfl
 have lN1:N.length-1=e.length:=by rw[E];rfl
 have e13:=aiA (rd:=rd) (d:=d) (h:=h) (c:=c) (tx:=tx) (nl:=nl) (x:=x) (y:=y) (z:=z) (la:=A.length+e.length) (g:=pJ t) (pg:=pg) (A:=A) (X:=X) (B:=B) (i:=i) (p:=p) (b:=l) (w:=w) (by rw[k,u,am])
 have l:N.length<=900:=by
  rw[k,aX,aX]at H
  lia
 obtain⟨g,j,k17⟩:=adf (rd:=rd) (d:=d) (h0:=h) (c:=c) (tx:=tx) (w:=w) (nl:=nl) (x:=x) (f:=A.length) (la:=A.length+e.length) (t:=t) (bg:=b8 (mo p p)) (fi:=b8 (mo p q)) (pg:=pg) N f [bB iF dU dU,bB (ja iN) (mo p p) (mo p p)] y z o (by show 2+N.length<=1000;lia)
 have l:=by exact adj o
 have F:∀r∈(bB iF dU dU::bB (ja iN) (mo p p) (mo p p)::(f++oS (mo p q))),∃i a b,r=bB (gz i) a b:=λr m=>by
  cases m with
  |head=>exact⟨26,_,_,Z⟩
  |tail _ m=>cases m with
   |head=>exact⟨22,_,_,Z⟩
   |tail _ m=>
    refine(gX.mp m).elim (adi o r) λm=>?_;cases m with
    |head=>exact⟨24,_,_,Z⟩
    |tail _ m=>exact⟨25,_,_,eC.mp m⟩
 have l:=Rv _ F;have m:=Xd _ F;obtain⟨o,r⟩:=aiB (rd:=rd) (d:=d) (h:=h) (c:=c) (nl:=nl) (x:=x) (y0:=g) (z:=j) (f:=A.length) (t:=t) (bg:=b8 (mo p p)) (fi:=b8 (mo p q)) (pg:=pg) (i:=i2) (a:=a) (q:=q) (D:=e) (A:=A) (B:=B) (N:=N) (w:=w) (tx:=tx) R n k P Q S T h0 a' l m;refine L ?_;rw[lN1];refine⟨p,⟨zG h c tx w nl x g j A.length (A.length+e.length) t (b8 (mo p p)) (b8 (mo p q)) (.own (bB iF dU dU::bB (ja iN) (mo p p) (mo p p)::(f++oS (mo p q)))),pg⟩,_,o,e13,?_,Z,r⟩
 have l:iL (.lst w) (iv (A.length+e.length))=O (bB (gz i2) a q):=by rw[<-aX];exact item_at (l:=B) (by rw[k,n,am,am];rfl)
 have m1:=Eu d p p pg;have m2:=Eu d p q pg;rw[Ry]at m1 m2;refine iP (s1:=⟨ql h c tx w nl x y z A.length (A.length+e.length) 0 [(214,.val (.str (WX t))),(266,.val (b8 (mo p p)))],pg⟩) ?_ (iP (s1:=⟨ql h c tx w nl x y z A.length (A.length+e.length) 0 [(214,.val (.str (WX t))),(266,.val (b8 (mo p p))),(268,.val (b8 (mo p q)))],pg⟩) ?_ (iP (s1:=⟨zG h c tx w nl x y z A.length (A.length+e.length) t (b8 (mo p p)) (b8 (mo p q)) (.own [bB iF dU dU,bB (ja iN) (mo p p) (mo p p)]),pg⟩) Z (iP (s1:=⟨zG h c tx w nl x g j A.length (A.length+e.length) t (b8 (mo p p)) (b8 (mo p q)) (.own (bB iF dU dU::bB (ja iN) (mo p p) (mo p p)::f)),pg⟩) ?_ (iP (s1:=⟨zG h c tx w nl x g j A.length (A.length+e.length) t (b8 (mo p p)) (b8 (mo p q)) (.own (bB iF dU dU::bB (ja iN) (mo p p) (mo p p)::(f++[bB (iO iN) (mo p q) (mo p q)]))),pg⟩) ?_ (iP (s1:=⟨zG h c tx w nl x g j A.length (A.length+e.length) t (b8 (mo p p)) (b8 (mo p q)) (.own (bB iF dU dU::bB (ja iN) (mo p p) (mo p p)::(f++oS (mo p q)))),pg⟩) ?_ Z)))))
 ·exact dI (v:=b8 (mo p p)) (jH (G:=GX rd d (b8 p)) (f:=267) (vs:=[b8 p,b8 p]) (s1:=⟨ql h c tx w nl x y z A.length (A.length+e.length) 0 (pJ t),pg⟩) Z Z Z Z Z m1) Z
 ·exact dI (jH (G:=GX rd d (b8 p)) (f:=267) (vs:=[b8 q,b8 p]) (s1:=⟨ql h c tx w nl x y z A.length (A.length+e.length) 0 [(214,.val (.str (WX t))),(266,.val (b8 (mo p p)))],pg⟩) Z Z Z Z (zF (jr (jr (jI Z Z Z l) Z Z Z) Z Z Z) (mS Z)) m2) Z
 ·show ax (O (V.lst ((w.take (A.length+e.length+1)).drop A.length),(⟨zG h c tx w nl x y z A.length (A.length+e.length) t (b8 (mo p p)) (b8 (mo p q)) (.own [bB iF dU dU,bB (ja iN) (mo p p) (mo p p)]),pg⟩))) (λv s=>bn (jc v) λvs=>forL (yv (pt (GX rd d (b8 p)) g9 300 O') 258 166) vs s)=_
  rw[k,Ew (by rw[E];rfl),<-k];exact k17
 ·have k:=Bw (G:=GX rd d (b8 p)) (lv:=g9) (n:=300) (x:=225) (ea:=dX1) (s:=⟨zG h c tx w nl x g j A.length (A.length+e.length) t (b8 (mo p p)) (b8 (mo p q)) (.own (bB iF dU dU::bB (ja iN) (mo p p) (mo p p)::f)),pg⟩) Z Z Z Z Z (by show f.length+1+1<=900000;lia)
  exact k
 ·have k:=Bw (G:=GX rd d (b8 p)) (lv:=g9) (n:=300) (x:=225) (ea:=dX2) (v:=bB km (mo p q) (mo p q)) (s:=⟨zG h c tx w nl x g j A.length (A.length+e.length) t (b8 (mo p p)) (b8 (mo p q)) (.own (bB iF dU dU::bB (ja iN) (mo p p) (mo p p)::(f++[bB (iO iN) (mo p q) (mo p q)]))),pg⟩) Z Z Z Z Z (by show(f++[_]).length+1+1<=900000;rw[aX];show f.length+1+1+1<=900000;lia)
  have E:(bB iF dU dU::bB (ja iN) (mo p p) (mo p p)::(f++[bB (iO iN) (mo p q) (mo p q)]))++[bB km (mo p q) (mo p q)]=bB iF dU dU::bB (ja iN) (mo p p) (mo p p)::(f++oS (mo p q)):=by show _::_::((f++_)++_)=_;rw[am];rfl
  rw[E]at k;exact k
end
end
end Ev
namespace Hd
section
abbrev Xe:=PySem.W.Fast.tw14364793385576792824
abbrev Æ:=PySem.W.Fast.tw11892475500146522536 Xe
abbrev RA:=PySem.W.Fast.tw10110043849684766642 Xe
abbrev X':=PySem.W.Fast.tw15667345088766844465 Xe
abbrev RB:=PySem.W.Fast.tw12563942051412417395
def Bx:v2=Xe:=PySem.W.Fast.te14364793385576792824
def Xf:denote v2=Æ:=by rw[Bx,PySem.W.Fast.te11892475500146522536]
def Xg:segRunT v2=RA:=by rw[Bx,PySem.W.Fast.te10110043849684766642]
def adl:topGo v2=X':=by rw[Bx,PySem.W.Fast.te15667345088766844465]
def LK:@e0=RB:=PySem.W.Fast.te12563942051412417395
abbrev sC(l:Ev.b9)(env:w5)(c:Code)(p:ww)(B:Y Frame):Thread:=⟨(RB l env).wrap doneF deadEnd id id,c,p,B⟩
def Hi(l:Ev.b9)(a:w5)(c:Code)(p:ww)(B:Y Frame):piecesOf l a c p B=sC l a c p B:=by show(⟨(e0 l a).wrap doneF deadEnd id id,c,p,B⟩:Thread)=_;rw[LK]
def RC(p:zs)(a:p.modules=[])(b:p.parses=[])(c:p.harvested=[]):p.tablesWhole=qy e4 p.main:=by unfold Program.tablesWhole TablesWhole.wProgram;rw[a,b,c];generalize qy e4 p.main=x;cases x<;>rfl
def lkQ(p q:zs)(loose:Y lw){b:Type}(a:ul)(c:ge->b)(s:ge):=((nr (sn p.main.body) a s.heap&&kq p s.heap&&rx s&&rv a s.heap),ki q loose (sn p.main.body) (λ_=>U) U s,c s)
def Xh{p q:zs}{loose:Y lw}{b:Type}{e:ge->b}{f:t1->b}{M:W}(w:t1)
 (g:(fencedOpening v2 p w M).map (λs=>(s.heap,s.gens,s.drawn,s.toks))=O (rc w.params,b! [],a5,g?))
 (size:((rc w.params).isNs np,(rc w.params).objs.size,(rc w.params).nsMap np "__annotations__")=(U,c,d))
 (run:∀a,∃s,topRun v2 p w c d M ⟨rc w.params,b! [],a5,g?,a⟩ (topStub p)=O s/\lkQ p q loose (rc w.params) e s=(U,kn q loose,f w)):
  (openEnds v2 p w M).map (λs=>(ki q loose (sn p.main.body) (λ_=>U) U s,e s))=O (kn q loose,f w):=by
 obtain⟨⟨h,b,d,k,a⟩,e,b⟩:=ab.mp g;simp only[UV]at b;obtain⟨rfl,rfl,rfl,rfl⟩:=b;have z:=size;simp only[UV]at z;obtain⟨c,d,f⟩:=z;obtain⟨s,r,b⟩:=run a;have g:=ah wf b;have h:=ah Fk b
 have t:topFrom v2 p w M ⟨rc w.params,b! [],a5,g?,a⟩=O s:=by unfold topFrom;dsimp only;rw[c,d,f,r];show(match nr (sn p.main.body) (rc w.params) s.heap&&kq p s.heap&&rx s&&rv (rc w.params) s.heap with|true=>O s|false=>C)=_;rw[show(nr (sn p.main.body) (rc w.params) s.heap&&kq p s.heap&&rx s&&rv (rc w.params) s.heap)from g]
 unfold openEnds;rw[e];show(topFrom v2 p w M _).map _=_;rw[t];exact ah O h
def last_step{p:zs}{q:ww}:∀s:ge,topRun v2 p w a b 2 s ⟨doneF .next,c,d,[az q]⟩=O s
 |⟨_,_,_,_,_⟩=>rfl
def Hj{p:zs}{q h t:ww}{l:Ev.b9}{i nB:W}{sa:o!}
 (u:b=l++r)
 (s:X' p w c d n j m=O (sa.abs,⟨Æ (.body b a),.body b a,e,[az q]⟩))
 (t?:segRun v2 p w c d 1 k sa.abs (blockOf b a (.body b a) e [az q])=O (.next,sa.abs,.body b a,f))
 (A:RA p w c d 1 i sa (sC l a (.body b a) f [az q])=O (.next,g,.body b a,h))
 (B:RA p w c d 1 nB g (sC r a (.body b a) h [az q])=O (.next,o,.body b a,t)):
  topRun v2 p w c d (n+(k+(i+(nB+2)))) j m=O o.abs:=by
 rw[<-adl,<-Xf]at s;rw[<-Xg,<-Hi]at A B;have a:=piece_app (rest:=[]) (segRun_of B) (piece_nil (last_step _));rw[eq]at a;have c:=piece_app (segRun_of A) a;rw[<-u]at c;exact go_top s (piece_block t? c)
def adm{K:lm->WP}{s:o!}{t:W}(j:w.params=P)
 (h:(a.map s.tree.get,s.n,s.toks)=((K P).map λp=>O p.2,n,t))(b:(K P).all (λp=>!p.2.isFreed)=U)(c:a.all (λd=>jp d n)):
  X.obsZ a s.abs=X.valZ K n t w:=by
 subst j;simp only[UV]at h;obtain⟨e,f,g⟩:=h;obtain⟨T,m,i,o,r,u,v⟩:=s;dsimp only at e f g;subst f g;unfold X.obsZ X.valZ;refine pu ?_ (pu (absHeap_size ..) Z);show a.map (absHeap T m i).get?=_
 have k:∀(a:Y ii)(L:WP),a.map T.get=L.map (λp=>O p.2)->L.all (λp=>!p.2.isFreed)->a.all (λd=>jp d m)->a.map (absHeap T m i).get?=L.map λp=>O p.2:=by
  intro a
  induction a with
  |nil=>intro L h _ _;cases L with
   |nil=>rfl
   |cons p L=>cases h
  |cons d a l=>intro L h b c;cases L with
   |nil=>cases h
   |cons p L=> simp only[fS,List.cons.injEq]at h;simp only[r5,Bool.and_eq_true,im]at b c;rw[fS,fS,l L h.2 b.2 c.2];refine ah (·::_) ?_;rw[abs_get (cw c.1) h.1];obtain⟨_,o⟩:=p;obtain⟨d,d,q,d⟩:=o;cases q<;>first|rfl|(exact Bool.noConfusion (show U=J from b.1))
 exact k a _ e b c
def L_(P:lm)(x:ol×W×bv):M2:=⟨On P x.1,.str x.1 x.2.1,x.2.2⟩
def Ex(P:lm)(n:W)(a:Y (ol×W×bv)):xL:={cls:=.type "dict",data:=.dict (a.map (L_ P)).toArray n}
def aiC(P:lm)(n:W)(a:Y (ol×W×bv)):xL:={cls:=.none,data:=.dict (a.map (L_ P)).toArray n}
def Ey(a:Ev.aP):xL:={cls:=.type "tuple",data:=.seq a.toArray}
def Å(a:Ev.aP):xL:={cls:=.none,data:=.fields a.toArray}
def RD(c:ol)(a:Ev.aP):xL:={cls:=.type c,data:=.fields a.toArray}
def V_(s:a9):lw:=Ev.ma s l1 (fu:=λn _ _ _ _=>n)
def T!(c:ol)(n:lw):lw:=match c with
 |""=>l1++n
 |c=>(((l1++pi c)++pi ".")++n)
def Xi(n q:lw)(t a c d e:W)(f:I)(g:W)(h i j:bv)(b:W):xL:={cls:=.type "code",data:=.fields [.str n t,.str q (t+1),.str "/claim/cut.py" (t+2),.int a 0,.int c 0,.int 0 0,.int 0 0,.int d 0,.ref e,.bool f,.int 181 0,.ref g,.none,h,i,j,.int b 0,.int a 0,.str "/claim/cut.py" (b+1)].toArray}
def Ņ(s:a9)(c:ol)(t a b d e:W)(f:I)(g:W)(h i j:bv)(k:W):xL:=Xi (V_ s) (T! c (V_ s)) t a b d e f g h i j k
def ģ(s:a9)(c:ol)(b d:bv)(e:W)(a:Y (ol×W))(f:bv):xL:=Ev.ma s default (fu:=λn g h s _=>{cls:=.type "function",data:=.func {name:=n,qualname:=T! c n,params:=g,body:=.stmts h,scope:=s,globals:=np,closure:=a.map λx=>(pi x.1,x.2),defaults:=b,kwdefaults:=.none,doc:=.none,pyModule:=d,annotations:=C,code:=.ref e,closureTuple:=f,builtins:=wp} })
def aiD(s:a9)(c:ol):xL:=Ev.ma s default (fu:=λn a b s _=>{cls:=.none,data:=.func {name:=n,qualname:=T! c n,params:=a,body:=.stmts b,scope:=s,globals:=wp,closure:=[],defaults:=.none,kwdefaults:=.none} })
def aiE(n:ol)(a b:Ev.aP)(c:W)(d:Ev.aP)(e:Y (Ev.eU)):xL:={cls:=.type "type",data:=.cls {name:=n,bases:=a,mro:=b,ns:=c,qualname:=n,subclasses:=d},slots:=e.toArray}
def Ä(a:Y (Ev.eU)):xL:={cls:=.type "frame",slots:=a.toArray}
def aiF(v:Ev.eU):xL:={cls:=.type "cell",data:=.cell v}
def aiG(l:Y xL):BT:=(l.foldl (λ(x:BT×W)o=>(x.1.ins x.2 o,x.2+1)) (BT.nil,0)).1
abbrev pw:zs:=Re
def Z4(i:W):a9:=(pw.main.body[i]?).getD (.Pass ⟨0,0,0,0⟩)
def bf:Ev.b9:=behindTheImports pw
def qb:w5:={scope:=pw.main.scope,locals:=mainNs,globals:=mainNs,cells:=[],code:=.ref 13,frame:=O 14}
def cB:Code:=.body bf qb
def p0:ww:=⟨0,0,0,0⟩
def pM:ww:=⟨295,0,303,24⟩
def aiH(P:lm):Y xL:=[boot_o_0 P,boot_o_1 P,boot_o_2 P,boot_o_3 P,boot_o_4 P,boot_o_5 P,boot_o_6 P,boot_o_7 P,boot_o_8 P,boot_o_9 P,boot_o_10 P,(Ey []),(Å []),(Xi "<module>" "<module>" 182 1 0 0 11 J 12 .none .none .none 185),(Ä [O (.ref 13),O (.ref 3),O (.ref 3),C,O (.str "__main__" 164),C,O (.ref 0)])]
def dO:=Ex
def dN:=aiC
def eS(n:ol)(t:W)(s:ol)(u:W):ol×W×bv:=(n,t,.str s u)
def t0:xL:=Ey []
def f0:xL:=Å []
def sV(l:Y lw):W->Ev.aP:=bm (motive:=λ_=>W->Ev.aP) (λ_=>[]) (λs _ i n=>.str s n::i (n+1)) l
def tS(n:W)(l:Y lw):xL:=Ey (sV l n)
def tR(n:W):xL:=Ey [.ref n]
def C?(l:Ev.ae):W->Ev.aP:=bm (motive:=λ_=>W->Ev.aP) (λ_=>[]) (λa _ i n=>ut (motive:=λ_=>Ev.aP) (.int (wv a) 0::i 1) (λn _=>ut (motive:=λ_=>Ev.aP) (.int (wv a) 0::i 2) (λ_ _=>.ref a::i 0) n) n) l
def fL(l:Ev.ae):xL:=Å (C? l 0)
abbrev En:=lw×W×bv
abbrev Gs:=Y (I×(lm->xL))
def en(n:lw)(t:W)(v:bv):Y En:=[(n,t,v)]
def gO(P:lm)(n:W)(l:Y En):xL:={cls:=.type "dict",data:=.dict (l.map λx=>⟨On P x.1,.str x.1 x.2.1,x.2.2⟩).toArray n}
def ob(l:Y xL):Gs:=l.map λo=>(J,λ_=>o)
def ko(o:xL):I×(lm->xL):=(U,λ_=>o)
def fi(n:W){a:Type}(f:W->a):a:=ut (motive:=λ_=>a) (f 0) (λn _=>f (n+1)) n
def n3{a:Type}(n:W)(b c d:a):a:=k! (motive:=λ_=>a) n b λn=>k! (motive:=λ_=>a) n c λ_=>d
def lz{b a:Type}(l:Y b)(c:a)(f:b->Y b->a):a:=AT (motive:=λ_=>a) l c f
def pz(k:W1):W:=NameKind.casesOn k 0 1 1 2 2
def fI(s:a9):W×W×Ev.bM×Y lw×I:=Ev.ma s (0,0,[],[],J) (fu:=λ_ a _ c p=>(p.line,a.args.length,a.defaults,(c.names.filter λx=>ac (pz x.2) 0).map (·.1),c.names.any λx=>ac (pz x.2) 1))
def dV(l:Ev.bM){a:Type}:W->W->(Gs->Ev.aP->W->W->a)->a:=bm (motive:=λ_=>W->W->(Gs->Ev.aP->W->W->a)->a) (λa t k=>k [] [] a t) (λe _ i a t k=>Ev.oY e (Ev.dP (Ev.tD e) (i a t λo l=>k o (.none::l)) (bo:=λb=>i a t λo l=>k o (.bool b::l)) (i:=λn=>i a (t+1) λo l=>k o (.int n t::l))) (tu:=λ_ _ _=>i (a+1) t λo l=>k (ko t0::o) (.ref a::l))) l
def fB(c m:ol)(q:W)(s:a9)(v:Y lw)(a t n:W)(d:bv)(l:Y (ol×W))(e:bv)(o:Gs){b:Type}(k:Gs->En->W->W->W->b):b:=k (o++(ob [t0,f0,tS (t+3) v,t0,aiD s c]++[ko (Ņ s c t (fI s).1 (fI s).2.1 3 a U (a+1) (.ref (a+2)) (.ref (a+3)) (.ref (a+4)) n),ko (ģ s c d (.str m q) (a+5) l e)])) (V_ s,n+2,.ref (a+6)) (a+5) (a+7) (n+3)
def mB(c m:ol)(q z:W)(s:a9)(a t:W){b:Type}(k:Gs->En->W->W->W->b):b:=cond (fI s).2.2.2.2 (fB c m q s (fI s).2.2.2.1 (a+1) t (t+4+(fI s).2.2.2.1.length) .none [("__class__",z)] (.ref a) [ko (tR z)] k) (lz (fI s).2.2.1 (fB c m q s (fI s).2.2.2.1 a t (t+3+(fI s).2.2.2.1.length) .none [] .none [] k) λ_ _=>dV (fI s).2.2.1 a t λo l a t=>fi a λa=>fi t λt=>fB c m q s (fI s).2.2.2.1 (a+1) t (t+3+(fI s).2.2.2.1.length) (.ref a) [] .none (o++[ko (Ey l)]) k)
def yB(e m:ol)(q z:W)(f:Ev.b9){b:Type}:W->W->Y (Gs×En)->(Gs->Y En->Ev.ae->W->W->b)->b:=bm (motive:=λ_=>W->W->Y (Gs×En)->(Gs->Y En->Ev.ae->W->W->b)->b) (λa t _ k=>k [] [] [] a t) (λs _ i a t x k=>Ev.ma s (i a t x k) (fu:=λ_ _ _ _ _=>mB e m q z s a t λo g h a t=>fi a λa=>fi t λt=>i a t x λc d j=>k (o++c) (g::d) ((fI s).1::4::h::j)) (asg:=λ_ v _=>(λQ:b=>Ev.oY v Q (co:=λe _ _=>a_ (motive:=λ_=>b) e Q (λ_=>Q) (λ_=>Q) (λ_=>Q) (λ_ _=>Q) (λs=>i a (t+2) x λc d=>k c (en "id" (t+1) (.str s t)++d)) (λ_=>Q) Q)) (lz x (i a t x k) λy x=>fi (a+y.1.length) λa=>fi (y.2.2.1+1) λt=>i a t x λc d=>k (y.1++c) (y.2::d)))) f
def rV(l:Ev.ae):Ev.aP:=l.map ff
abbrev Ds:=ol×Ev.ae×W×Ev.ae×Y (Gs×En)
def kO(d:Ds)(m:ol)(q l:W)(v:Y lw)(c:Ev.b9)(a t z:W){b:Type}(k:Gs->Y En->Ev.ae->W->W->b):b:=yB d.1 m q (a+3) c (a+7+z) (t+12) d.2.2.2.2 λf e i x y=>fi x λx=>fi y λy=>fi (y+v.length) λu=>let A:=x+2;let r:=d.2.1;let n:=d.2.2.1;let b:=pi d.1;let T:Ev.aP:=n3 n [.type "object"] [.type "object"] [.type "Exception",.type "BaseException",.type "object"];let B:Ev.aP:=lz r (T.take 1) λc _=>[.ref c];let E:=e++en "__static_attributes__" u (.ref x);let h:=en "__module__" (t+7) (.str m q);let g:=en "__firstlineno__" (t+11) (.int (wv l) (t+10));let X:=lz r (n3 n 2 2 1) λ_ _=>0;let w:=u+3+X+X+z+n3 X 0 2 0;k (ob [lz r (n3 n t0 (Ey B) (Ey B)) λ_ _=>Ey B,RD "builtin_function_or_method" [.builtin "type.__prepare__",.type "type"]]++((J,λP=>gO P (4+e.length) (h++(en "__qualname__" (t+9) (.str b (t+8))++(g++E)))):: (n3 z [] [ko (aiF (O (.ref A)))] []++(ob [t0,fL i,Xi d.1 d.1 (t+2) l 0 0 (a+3+z) J (a+4+z) .none .none .none (t+5),Ä [O (.ref (a+5+z)),O (.ref 3),O (.ref (a+2)),C,O (.str m q),C,O (.ref 0)]]++(f++ (ko (tS y v)::(U,λP=>gO P (2+X+z) (h++(g++(E++(n3 X [] (en "__weakref__" (u+2) (.ref (A+1))) (en "__dict__" (u+2) (.ref (A+1))++en "__weakref__" (u+4) (.ref (A+2)))++en "__doc__" (u+1+X+X+z) .none))))):: ko (aiE d.1 B (.ref A::rV r++T) (x+1) (rV d.2.2.2.1) [lz r (n3 n C (O (.ref a)) (O (.ref a))) λ_ _=>O (.ref a),C,O (.str b t),O (.str b (t+8)),O (.builtin (n3 n "object.__new__" "object.__new__" "Exception.__new__")),O (.bool U)]):: (let c:=[ko (RD "getset_descriptor" [.str "__weakref__" (u+X+X-1),.ref A,.builtin "ExceptionGroup.__weakref__",.none])];n3 X [] c (ko (RD "getset_descriptor" [.str "__dict__" (u+1),.ref A,.builtin "function.__dict__",.builtin "function.__dict__#set"])::c)++ob [RD "super" [.ref A,.ref A,.ref A],RD "builtin_function_or_method" [.builtin "object.__init_subclass__",.ref A]]))))))) (en b w (.ref A)) [l,0,a+5+z] (A+X+3) (w+1)
def tB(b:Ev.b9){a:Type}:ol->W->W->W->Y Ds->(ol->W->Gs->Y En->Ev.ae->a)->a:=bm (motive:=λ_=>ol->W->W->W->Y Ds->(ol->W->Gs->Y En->Ev.ae->a)->a) (λm q _ _ _ k=>k m q [] [] []) (λs _ i m q a t d k=>Ev.ma s (i m q a t d k) (fu:=λ_ _ _ _ _=>mB "" m q 0 s a t λo e f a t=>fi a λa=>fi t λt=>i m q a t d λm q c g h=>k m q (o++c) (e::g) ((fI s).1::0::f::h)) (asg:=λ_ _ _=>lz d (i m q a t d k) λy d=>fi t λq=>fi (t+2) λt=>i y.1 q a t d k) (kl:=λb v p=>lz d (i m q a t d k) λy d=>kO y m q p.line v b a t (cond (b.any λs=>(fI s).2.2.2.2) 1 0) λo e f a t=>fi a λa=>fi t λt=>i m q a t d λm q c g h=>k m q (o++c) (e++g) (f++h))) b
def xT(g:Gs)(n:lw)(t r:W):Gs×En:=(g,n,t,.ref r)
def cM(s:ol):Ds:=(s,[],0,[],[])
def cE(s:ol)(r b:Ev.ae):Ds:=(s,r,0,b,[])
def cT(s:ol):Ds:=cE s [114] []
def dL(x y:Ev.ae):Y Ds:=[cM "yaml.error",("Mark",[],0,[],[]),("YAMLError",[],2,[95,659],[]),("MarkedYAMLError",[67],2,x,[]),cM "yaml.tokens",("Token",[],1,[135,147,159,179,191,203,215,227,239,251,263,275,287,299,311,323,342,361,380,400],[]),cT "DirectiveToken",cT "DocumentStartToken",cT "DocumentEndToken",cT "StreamStartToken",cT "StreamEndToken",cT "BlockSequenceStartToken",cT "BlockMappingStartToken",cT "BlockEndToken",cT "FlowSequenceStartToken",cT "FlowMappingStartToken",cT "FlowSequenceEndToken",cT "FlowMappingEndToken",cT "KeyToken",cT "ValueToken",cT "BlockEntryToken",cT "FlowEntryToken",cT "AliasToken",cT "AnchorToken",cT "TagToken",cT "ScalarToken",cM "yaml.events",("Event",[],1,[449,481,501,513,533,553],[]),cE "NodeEvent" [427] [469,565,585],cE "CollectionStartEvent" [449,427] [597,621],cE "CollectionEndEvent" [427] [609,633],cE "StreamStartEvent" [427] [],cE "StreamEndEvent" [427] [],cE "DocumentStartEvent" [427] [],cE "DocumentEndEvent" [427] [],cE "AliasEvent" [449,427] [],cE "ScalarEvent" [449,427] [],cE "SequenceStartEvent" [469,449,427] [],cE "SequenceEndEvent" [481,427] [],cE "MappingStartEvent" [469,449,427] [],cE "MappingEndEvent" [481,427] [],cM "yaml.reader",("ReaderError",[67],2,[],[]),("Reader",[],1,y,[]),cM "yaml.scanner",("ScannerError",[95,67],2,[],[]),("SimpleKey",[],0,[],[]),("Scanner",[730],0,[1521],[xT [(U,λP=>dO P 18 [eS "0" 1905 "\x00" 1906,eS "a" 1908 "\x07" 1909,eS "b" 1911 "\x08" 1912,eS "t" 1914 "\t" 1915,eS "\t" 1917 "\t" 1918,eS "n" 1920 "\n" 1921,eS "v" 1923 "\x0b" 1924,eS "f" 1926 "\x0c" 1927,eS "r" 1929 "\x0d" 1930,eS "e" 1932 "\x1b" 1933,eS " " 1935 " " 1936,("\"",1938,.str "\"" 1939),eS "\\" 1941 "\\" 1942,eS "/" 1944 "/" 1945,eS "N" 1947 "" 1948,eS "_" 1950 " " 1951,eS "L" 1953 " " 1954,eS "P" 1956 " " 1957]),(J,λ_=>t0)] "ESCAPE_REPLACEMENTS" 1959 1213,xT [(U,λP=>dO P 3 [("x",1960,.int (2) 1961),("u",1962,.int (4) 1963),("U",1964,.int (8) 1965)])] "ESCAPE_CODES" 1969 1215]),cM "yaml.parser",("ParserError",[95,67],2,[],[]),("Parser",[1281,730],0,[],[xT [(U,λP=>dO P 2 [eS "!" 2128 "!" 2129,eS "!!" 2130 "tag:yaml.org,2002:" 2131])] "DEFAULT_TAGS" 2134 1304]),cM "law_te0056_02"]
def oL(b:Ev.b9)(d:Y Ds)(e:Y En)(g:Gs):Gs:=tB b "__main__" 164 15 187 d λm q a b c=>[(J,boot_o_0),(U,boot_o_1),(U,λP=>dN P 2 [("type.__subclasses__.Exception.0",276,.int (67) 0),("type.__subclasses__.Exception.n",277,.int (1) 0)]),(U,λP=>let l:=b++e;gO P (9+l.length) ((("__name__",165,.str m q)::[("__doc__",166,.none),("__package__",167,.none),("__loader__",168,.builtin "__main__.__loader__#opaque"),("__spec__",169,.none),("__annotations__",170,.ref 6),("__builtins__",171,.ref 4),("__file__",173,.str "/claim/cut.py" 172),("__cached__",174,.none)]:Y En)++l)),(J,boot_o_4),(J,boot_o_5),(J,boot_o_6),(J,boot_o_7),(J,boot_o_8),(J,boot_o_9),(J,boot_o_10)]++(ob [t0,fL c,Xi "<module>" "<module>" 182 1 0 0 11 J 12 .none .none .none 185,Ä [O (.ref 13),O (.ref 3),O (.ref 3),C,O (.str "__main__" 164),C,O (.ref 0)]]++(a++g))
def mL(P:lm):Y xL:=(oL (pw.main.body.take 49) (dL [744] []) [] []).map (·.2 P)
def eo(l:Y xL):Y xL×Y xL:=bm (motive:=λ_=>Y xL×Y xL) ([],[]) (λa _ i=>(a::i.2,i.1)) l
def bT(n:W):Y xL->BT:=ut (motive:=λ_=>Y xL->BT) (λ_=>.nil) (λ_ i l=>bm (motive:=λ_=>BT) .nil (λo r _=>.node o (i (eo r).1) (i (eo r).2)) l) n
def aiI(P:lm):BT:=bT 11 (mL P)
def S0(w:t1)(a:c6):ge:=⟨rc w.params,b! [],a5,g?,a⟩
def Sa(w:t1)(a:c6):o!:=⟨aiG (aiH w.params),15,(rc w.params).life,b! [],a5,187,a⟩
def Sm(w:t1)(a:c6):o!:=⟨aiI w.params,768,(rc w.params).life,b! [],a5,1342,a⟩
def kG:Gs:=oL (pw.main.body.take 63) (dL [744,1293] [1281]) (en "law" 2509 (.ref 1591)) (ob [t0,t0,t0]++[ko (Ņ (Z4 63) "" 2504 1628 1 3 1587 U 1588 .none .none (.ref 1589) 2507),ko (ģ (Z4 63) "" .none (.str "law_te0056_02" 2419) 1590 [] .none)])
def kI(l:Gs):W->Y (W×(lm->xL)):=bm (motive:=λ_=>W->Y (W×(lm->xL))) (λ_=>[]) (λg _ i n=>cond g.1 ((n,g.2)::i (n+1)) (i (n+1))) l
def K(P:lm):WP:=(kI kG 0).map λx=>(x.1,x.2 P)
def keys:Y ii:=(kI kG 0).map (·.1)
def q:zs:={pw with main:={pw.main with body:=pw.main.body.drop 63} }
def loose:Y lw:=pw.boundNames.filter (λn=>n !=("law":lw))
def cut:bf=bf.take 49++bf.drop 49:=(BR 49 bf).symm
def ZB(w:t1)(a:c6):X' pw w 11 (O (.ref 6)) 12 (S0 w a) (topStub pw)=O ((Sa w a).abs,⟨Æ cB,cB,p0,[az p0]⟩):=by kernel_rfl
def t?(w:t1)(a:c6):segRun v2 pw w 11 (O (.ref 6)) 1 1 (Sa w a).abs (blockOf bf qb cB p0 [az p0])=O (.next,(Sa w a).abs,cB,p0):=by kernel_rfl
def size(w:t1):((rc w.params).isNs np,(rc w.params).objs.size,(rc w.params).nsMap np "__annotations__")=(U,11,O (.ref 6)):=by kernel_rfl
def aiJ(w:t1)(a:c6):RA pw w 11 (O (.ref 6)) 1 10366 (Sa w a) (sC (bf.take 49) qb cB p0 [az p0])=O (.next,Sm w a,cB,pM):=by kernel_rfl
def keys_eq(P:lm):keys=(K P).map (·.1):=by kernel_rfl
def Xj:keys.all (λa=>jp a 1592):=by decide+kernel
def Xk(P:lm):(K P).all (λp=>!p.2.isFreed)=U:=by kernel_rfl
abbrev seenQ:=PySem.W.Fast.tw4187177175401517315
def RG:@ki=seenQ:=PySem.W.Fast.te4187177175401517315
def Ã(w:t1)(r:N (Flow×o!×Code×ww)):=r.map λx=>(x.1,x.2.2.1,(nr (sn pw.main.body) (rc w.params) x.2.1.abs.heap&&kq pw x.2.1.abs.heap&&rx x.2.1.abs&&rv (rc w.params) x.2.1.abs.heap),seenQ q loose (sn pw.main.body) (λ_=>U) U x.2.1.abs,(keys.map x.2.1.tree.get,x.2.1.n,x.2.1.toks))
abbrev wF(w:t1):t1:=w.withFollow "special-get-raises" J
abbrev wT(w:t1):t1:=w.withFollow "special-get-raises" U
abbrev aZ(w:t1)(os:c6):=RA pw w 11 (O (.ref 6)) 1 4798 (Sm w os) (sC (bf.drop 49) qb cB pM [az p0])
abbrev Â(w:t1):=(Flow.next,cB,U,kn q loose,(((K w.params).map λp=>O p.2),1592,2510))
def aiK(w:t1)(a:c6):Ã (wF w) (aZ (wF w) a)=O (Â (wF w)):=by kernel_rfl
def aiL(w:t1)(a:c6):Ã (wT w) (aZ (wT w) a)=O (Â (wT w)):=by kernel_rfl
abbrev jt:OpenLaw:=et
abbrev M:W:=12+(1+(10366+(4798+2)))
def opn(w:t1):(fencedOpening v2 pw w M).map (λs=>(s.heap,s.gens,s.drawn,s.toks))=O (rc w.params,b! [],a5,g?):=boot_open (by kernel_rfl) (by decide+kernel) (λs=>by kernel_rfl) w
def RH(w:t1)(h:∀a,Ã w (aZ w a)=O (Â w)):
  (openEnds v2 pw w M).map (λs=>(ki q loose (sn pw.main.body) (λ_=>U) U s,X.obsZ keys s))=O (kn q loose,X.valZ K 1592 2510 w):=by
 refine Xh w (opn w) (size w) λa=>?_;obtain⟨⟨f,c,b,b⟩,e,d⟩:=ab.mp (h a);simp only[UV]at d;obtain⟨rfl,rfl,f,g,b⟩:=d;refine⟨c.abs,Hj (b:=bf) (l:=bf.take 49) (r:=bf.drop 49) cut (ZB w a) (t? w a) (aiJ w a) e,?_⟩;refine pu f (pu ?_ (adm rfl (by rw[b.1,b.2.1,b.2.2]) (Xk _) Xj))
 have a:ki q loose (sn pw.main.body) (λ_=>U) U c.abs=kn q loose:=by rw[RG];exact g
 exact a
def left:LeftO pw q loose (λ_=>U) (X.obsZ keys) (X.valZ K 1592 2510) M:=λw=>by(have e:=World.withFollow_self w "special-get-raises";cases a:w.params.followText "special-get-raises"<;>rw[a]at e);have:=RH (wF w) (aiK w);rw[show wF w=w from e]at this;exact this;have:=RH (wT w) (aiL w);rw[show wT w=w from e]at this;exact this
namespace Said
abbrev l:OpenLaw:=et
abbrev p:zs:=Re
abbrev EA:=PySem.W.Fast.tw13343964577679436407
abbrev V?:=PySem.W.Fast.tw17119622794617984870
abbrev Ċ:=PySem.W.Fast.tw8326940854005059898
def ads:@readsOut=EA:=PySem.W.Fast.te13343964577679436407
def RI:@R4=V?:=PySem.W.Fast.te17119622794617984870
def adt:@noRoadLSs=Ċ:=PySem.W.Fast.te8326940854005059898
def G_:EA p p.main.body ("vars":lw)=J:=by kernel_rfl
def A':EA p p.main.body ("dir":lw)=J:=by kernel_rfl
def b3Q:EA p p.main.body ("locals":lw)=J:=by kernel_rfl
def agZ:(["vars","dir","locals"]:Y lw).filter (readsOut p p.main.body)=[]:=by rw[ads];show List.filter (EA p p.main.body) [("vars":lw),("dir":lw),("locals":lw)]=[];rw[ar,G_,ar,A',ar,b3Q];rfl
def n0Q:Ċ {strict:=!(sn p.main.body).all cThrough.contains,foot:=C,bare:=[]} p.main.body:=by kernel_rfl
def n1Q:noRoadLSs {strict:=!(sn p.main.body).all cThrough.contains,foot:=C,bare:=(["vars","dir","locals"]:Y lw).filter (readsOut p p.main.body)} p.main.body:=by rw[agZ,adt];exact n0Q
def c2':PySem.W.Fast.tw8377067652309620493 p:=by kernel_rfl
theorem c2Q:namesResolve p:=by rw[PySem.W.Fast.te8377067652309620493];exact c2'
def c3:(p.boundNames.all (λn=>!worldNames.contains n)):=by kernel_rfl
def m0:(V? p p.main.body λ_ n=>attrL n):=by kernel_rfl
def m1:(R4 p p.main.body λ_ n=>attrL n):=by rw[RI];exact m0
def c1:(sreFenced p.main&&((moduleNames p.main.body).isEmpty||lookedIntoSs (moduleNames p.main.body) p.main.body)):=by kernel_rfl
def ag0:looksOpen p:=by unfold looksOpen;exact io (io (io (io c1 c2Q) c3) n1Q) m1
def m2:(V? l.prog l.above (λ_ n=>!l.own.contains n)):=by kernel_rfl
def m3:R4 l.prog l.above (λ_ n=>!l.own.contains n):=by rw[RI];exact m2
def ag1:l.row.partSaid:=by
 unfold OpenRow.partSaid;refine io (io (io (io (io (io (io (io (io (io (io (io (io ag0 ?_) ?_) ?_) ?_) ?_) ?_) ?_) ?_) ?_) ?_) ?_) ?_) ?_
 all_goals kernel_rfl
def aiM:l.row.wellSaid:=by unfold OpenRow.wellSaid;exact io (io ag1 (by kernel_rfl)) (by kernel_rfl)
def aiN:l.wellSaid:=by
 unfold OpenLaw.wellSaid;refine io (io (io (io (io (io (io (io (io (io (io (io (io (io (io (io (io (io aiM ?_) ?_) ?_) ?_) ?_) ?_) ?_) ?_) ?_) ?_) ?_) ?_) ?_) ?_) ?_) ?_) m3) ?_
 all_goals kernel_rfl
end Said
def Ez:DefRec:=Ev.ma (Z4 63) ⟨l1,⟨[],[],C,[],[],C,[]⟩,[],⟨.module,[],J,J,[]⟩,p0⟩ (fu:=λa b c d e=>⟨a,b,c,d,e⟩)
def Xl:defOf q jt.row.name=O (Ez,[]):=by kernel_rfl
def Xm:jt.row.prog.theDef jt.row.name=O (Ez.params,Ez.body,Ez.scope):=by kernel_rfl
def adu:kwWritten? Ez.params.kwonlyargs Ez.params.kw_defaults=O []:=by kernel_rfl
def adw:(chainsOk q&&opensWell jt.row.prog&&(frees jt.row.toRowW&&jt.row.within.isEmpty)):=by kernel_rfl
def adx:PySem.W.Fast.tw6116379765354995101 e4 pw.main=U:=by kernel_rfl
def whole:pw.tablesWhole:=by rw[RC pw Z Z Z,PySem.W.Fast.te6116379765354995101];exact adx
def RJ:jt.row.prog.bare:=⟨Z,Z,Z,Z,Z,whole⟩
def Xn:jt.row.toRowW.promised:=⟨[.list []],by decide+kernel,by decide+kernel⟩
def head(b:WalkX q loose (λ_ _=>mf) (X.obsZ keys) (X.valZ K 1592 2510) jt.row.toRowW Ez [] λf a=>dn f a):jt.Holds:=holds_law Said.aiN λa=>holds_openX (r:=jt.row) (q:=q) (loose:=loose) (Xt:=λ_=>U) (XP:=λ_ _=>mf) (Yf:=X.obsZ keys) (Ya:=X.valZ K 1592 2510) (N:=M) left (λ_ _=>trivial) (λ_ _ _ _ _=>trivial) Xl Xm adu (λ_ _=>recFacts_nil Z) Z a adw RJ Xn b
end
end Hd
namespace Ev
section
local macro_rules | `(tactic| trivial) => `(tactic| first | exact aa | exact fun _ => aa | exact fun _ _ => aa | exact ao | exact fun _ => ao | exact fun _ _ => ao | exact id | exact fun _ => id)
abbrev KP(P:lm):WP:=Hd.K P
def SG{a:Type}(w:bv)(d:a)(i:D->a:=λ_=>d)(s:lw->W->a:=λ_ _=>d)(rf:ii->a:=λ_=>d):a:=ø (motive:=λ_=>a) w d d d (λ_=>d) (λj _=>i j) (λ_ _=>d) s (λ_ _=>d) (λ_=>d) (λ_=>d) rf
def tv{a:Type}(o:xL)(d:a)(sq:XV bv->a:=λ_=>d)(ce:eU->a:=λ_=>d)(fu:sB->a:=λ_=>d)(cl:ClassData->a:=λ_=>d)(fl:XV bv->a:=λ_=>d):a:=Data.casesOn (motive:=λ_=>a) o.data d (λ_=>d) (λx _=>sq x) (λ_ _=>d) (λ_ _ _=>d) (λ_ _=>d) ce fu cl fl d
def strOf(w:bv):N (lw×W):=SG w C (s:=λs t=>O (s,t))
def intOf(w:bv):N D:=SG w C (i:=O)
def refOf(w:bv):N ii:=SG w C (rf:=O)
def EB(o:xL):N sB:=tv o C (fu:=O)
def zH(o:xL):N ClassData:=tv o C (cl:=O)
def JU(o:xL):N (XV bv):=tv o C (fl:=O)
def RK(o:xL):N (eU):=tv o C (ce:=O)
def Á(b:FuncBody):N (b9):=FuncBody.casesOn (motive:=λ_=>N (b9)) b O λ_=>C
def RN(o:xL):N (aP):=gd (a? (o.cls=.type "tuple")) (gd o.dict.isNone (gd o.slots.isEmpty (tv o C (sq:=λx=>O x.toList))))
def cst(v:V)(w:bv):I:=dP v J (no:=a? (w=.none)) (bo:=λb=>a? (w=.bool b)) (i:=λi=>oc (intOf w) (λj=>a? (j=i)) J) (s:=λl=>oc (strOf w) (λq=>a? (q.1.cps.toList=l)&&EV q.1) J) (tu:=λl=>l.isEmpty&&a? (w=.ref 784))
def codeB(K:WP)(a:bv)(q:lw):I:=oc (refOf a) (λc=>oc (K.lookup c) (λo=>oc (JU o) (λa=>oc (a[1]?:eU) (λw=>oc (strOf w) (λp=>a? (p.1=q)) J) J) J) J) J
def JV(b:jN):jN×jN:=bm (motive:=λ_=>jN×jN) ([],[]) (λp r a=>oc p.2 (λ_=>([],p::r)) (p::a.1,a.2)) b
def Z2(b:jN):aP->I:=bm (motive:=λ_=>aP->I) (λa=>lc a U λ_ _=>J) (λp _ c a=>oc p.2 (λv=>lc a J λw a=>cst v w&&c a) J) b
def Ŏ(K:WP)(a:jN)(d:bv):I:=oc (refOf d) (λT=>oc (K.lookup T) (λo=>oc (RN o) (Z2 (JV a).2) J) J) (a? (d=.none)&&lc (JV a).2 U λ_ _=>J)
def Xo(a:Y (lw×W1))(k:W1)(l:ae):I:=aH (λx=>a? (a.lookup (IN x)=O k)) l
def xS(l:ae):I:=bm (motive:=λ_=>I) U (λa l b=>!aq l a&&b) l
def Ć(p:l5):I:=p.posonlyargs.isEmpty&&(p.kwonlyargs.isEmpty&&(p.vararg.isNone&&p.kwarg.isNone))
def Y'(K:WP)(a:sB)(c:b9)(b:S)(d e f:ae):I:=lI IN b c&&(codeB K a.code a.qualname&&(!a.scope.isCoroutine&&(!a.scope.isGenerator&&(a? (a.scope.kind=.function)&&(ac a.globals np&&(ac a.builtins wp&&(Ć a.params&&(a? (a.params.args.map (·.arg)=d.map IN)&&(Xo a.scope.names .local e&&Xo a.scope.names .globalImplicit f)))))))))
def Ĥ(K:WP)(d:Def)(o:xL):I:=oc (EB o) (λa=>oc (Á a.body) (λb=>Y' K a b d.body (d.params.map (·.1)) d.lv d.gv&&(a.scope.names.all (λx=>!a? (x.2=.cell))&&(Ŏ K d.params a.defaults&&(uU d.lv d.body&&(aH (λp=>aq d.lv p.1) d.params&&xS (d.params.map (·.1))))))) J) J
def Ħ(K:WP)(c d e f:ae)(b:S)(o:xL):I:=oc (EB o) (λa=>oc (Á a.body) (λg=>Y' K a g b c d e&&(a.closure.isEmpty&&(a? (a.defaults=.none)&&Xo a.scope.names .cell f))) J) J
def SQ(P:lm)(a:ii)(d:Def):I:=oc ((KP P).lookup a) (Ĥ (KP P) d) J
def Wc{M:bv->Prop}(w:bv)(a:M .none:=by trivial)(c:M .ellipsis:=by trivial)(d:M .notImplemented:=by trivial)(e:∀b,M (.bool b):=by trivial)(i:∀j t,M (.int j t):=by trivial)(f:∀j t,M (.float j t):=by trivial)(s:∀s t,M (.str s t):=by trivial)(g:∀j t,M (.bytes j t):=by trivial)(h:∀b,M (.type b):=by trivial)(k:∀b,M (.builtin b):=by trivial)(rf:∀b,M (.ref b):=by trivial):M w:=ø w a c d e i f s g h k rf
def xU{q:lw×W}:strOf w=O q->w=.str q.1 q.2:=Wc (M:=λw=>strOf w=O q->w=.str q.1 q.2) w (s:=λ_ _ h=>au h▸Z)
def RU:intOf w=O j->∃t,w=.int j t:=Wc (M:=λw=>intOf w=O j->∃t,w=.int j t) w (i:=λ_ t h=>⟨t,au h▸Z⟩)
def xV:refOf w=O a->w=.ref a:=Wc (M:=λw=>refOf w=O a->w=.ref a) w (rf:=λ_ h=>au h▸Z)
def Dc{M:Data->Prop}(d:Data)(a:M .plain:=by trivial)(b:∀v,M (.prim v):=by trivial)(sq:∀x n,M (.seq x n):=by trivial)(c:∀x n,M (.dict x n):=by trivial)(se:∀x n t,M (.set x n t):=by exact λ_ _ _=>aa)(e:∀x n,M (.bytearray x n):=by trivial)(ce:∀v,M (.cell v):=by trivial)(fu:∀f,M (.func f):=by trivial)(cl:∀f,M (.cls f):=by trivial)(fl:∀f,M (.fields f):=by trivial)(g:M .freed:=by trivial):M d:=Data.casesOn d a b sq c se e ce fu cl fl g
def sD:EB o=O f->o.data=.func f:=Dc (M:=λd=>EB {o with data:=d}=O f->d=.func f) o.data (fu:=λ_ h=>au h▸Z)
def By:zH o=O f->o.data=.cls f:=Dc (M:=λd=>zH {o with data:=d}=O f->d=.cls f) o.data (cl:=λ_ h=>au h▸Z)
def JW:JU o=O f->o.data=.fields f:=Dc (M:=λd=>JU {o with data:=d}=O f->d=.fields f) o.data (fl:=λ_ h=>au h▸Z)
def Xp:RK o=O f->o.data=.cell f:=Dc (M:=λd=>RK {o with data:=d}=O f->d=.cell f) o.data (ce:=λ_ h=>au h▸Z)
def JX{l:b9}(h:Á b=O l):b=.stmts l:=by induction b with|stmts a=>exact au h▸Z|expr=>exact aa (h)
def adz{s:XV (eU)}{l:aP}:tv ⟨c,C,d,s⟩ C (sq:=λx=>O x.toList)=O l->∃n,d=.seq l.toArray n:=Dc (M:=λd=>tv ⟨c,C,d,s⟩ C (sq:=λx=>O x.toList)=O l->∃n,d=.seq l.toArray n) d (sq:=λx n h=>⟨n,by rw[<-au h]⟩)
def Xq{l:aP}(h:RN o=O l):∃n,o=jU l n:=by obtain⟨c,d,t,s⟩:=o;refine bW h λb h=>bW h λa h=>bW h λe h=>?_;have a:d=C:=vC.mp a;rw[a]at h ⊢;obtain⟨n,h⟩:=adz h;exact⟨n,by rw[show c=.type "tuple" from aO b,h,show s=#[]from Array.isEmpty_iff.mp e];rfl⟩
def Hk(b:B 784 (jU [] 0)){v:V}{w:bv}:cst v w->Rd g B w v:=Vc (M:=λv=>cst v w=U->Rd g B w v) v (no:=aO) (bo:=λ_=>aO) (i:=λi h=>jo h λj c e=>by
  obtain⟨t,a⟩:=RU c;exact⟨t,aO e▸a⟩) (s:=λl h=>jo h λq c e=>ag e λd a=>ag a λa e=>⟨q.1,q.2,xU c,aO d,ay (cw a) (aO Z),e⟩) (tu:=λl h=>ag h λa c=>by
  rw[cO.mp a];exact⟨784,[],0,aO c,b,eG _,Z⟩)
section
variable{K:WP}{g:fC}{B:bl}{q:lw}{cd d w:bv}{F:jN}{ws:aP}{l lv gv G:ae}{f:ii}{o:xL}{D:Def}{b:S}{fd:sB}{body:b9}
def RW(h:codeB K cd q){a:ul}(X:K.In a):a.CodeRec cd q:=jo h λc a h=>jo h λo e h=>jo h λi j h=>jo h λw k h=>jo h λp m h=>⟨c,o,i,p.2,xV a,X _ _ e,JW j,by rw[k,xU m,aO h]⟩
def Bz:F=(JV F).1++(JV F).2/\∀p∈(JV F).1,p.2=C:=by induction F with|nil=>exact⟨Z,λ_ h=>ch h cr⟩|cons p r a=>show p::r=(oc p.2 (λ_=>([],p::r)) (p::(JV r).1,(JV r).2)).1++(oc p.2 (λ_=>([],p::r)) (p::(JV r).1,(JV r).2)).2/\∀q∈(oc p.2 (λ_=>([],p::r)) (p::(JV r).1,(JV r).2)).1,q.2=C;cases e:p.2 with|some v=>exact⟨Z,λ_ h=>ch h cr⟩|none=>exact⟨ah (p::·) a.1,λq h=>(c?.mp h).elim (λz=>z▸e) (a.2 q)⟩
def adA(a:B 784 (jU [] 0)):∀{ws},Z2 F ws->KD g B F ws:=by induction F with|nil=>(intro ws h;induction ws with|nil=>exact⟨[],Z,Z⟩|cons _=>exact ao h)|cons p r c=>refine λ{ws}h=>jo h λv e h=>?_;induction ws with|nil=>exact ao h|cons w ws _=> refine ag h λh i=>?_;obtain⟨j,k,r⟩:=c i;exact⟨v::j,by rw[fS,fS,k,e],w,ws,Z,Hk a h,r⟩
def adB(m:∀e o,K.lookup e=O o->B e o)(k:B 784 (jU [] 0))(h:Ŏ K F d):∃e i a,F=e++i/\(∀p∈e,p.2=C)/\KD g B i a/\((d=.none/\a=[])∨∃T n,d=.ref T/\B T (jU a n)):=by cases c:refOf d with|none=>(have h:oc (refOf d) _ (a? (d=.none)&&lc (JV F).2 U λ_ _=>J)=U:=h;rw[c]at h;refine ag h λe j=>⟨_,_,[],Bz.1,Bz.2,?_,.inl ⟨aO e,Z⟩⟩;cases e:(JV F).2 with|nil=>exact⟨[],Z,Z⟩|cons=>rw[e]at j;exact ao j)|some T=> have h:oc (refOf d) (λT=>oc (K.lookup T) (λo=>oc (RN o) (Z2 (JV F).2) J) J) _=U:=h;rw[c]at h;refine jo h λo i h=>jo h λa j h=>?_;obtain⟨n,e⟩:=Xq j;exact⟨_,_,a,Bz.1,Bz.2,adA k h,.inr ⟨T,n,xV c,e▸m _ _ i⟩⟩
def Hl(h:Xo a k l)(x:W)(c:aq l x):a.lookup (IN x)=O k:=aO (ai h (fU c))
def RX:xS l->l.Nodup:=by induction l with|nil=>exact λ_=>.nil|cons a l c=>exact λh=>ag (h) λa e=>mV.mpr ⟨λq=>by rw[o5 q]at a;exact ao a,c e⟩
def not_of{b:I}(h:(!b)):b=J:=by induction b with|true=>exact ao h|false=>rfl
def ag3{p:l5}(h:Ć p):gr p:=ag h λa h=>ag h λc h=>ag h λe h=>⟨cO.mp a,cO.mp c,vC.mp e,vC.mp h⟩
def ĥ{P:Prop}(c:∀a o,K.lookup a=O o->B a o)(h:Y' K fd body b l lv gv)(k:lI IN b body->(∀h,dq B h->h.CodeRec fd.code fd.qualname)->fd.scope.isCoroutine=J->fd.scope.isGenerator=J->fd.scope.kind=.function->fd.globals=np->fd.builtins=wp->gr fd.params->fd.params.args.map (·.arg)=l.map IN->(∀x,aq lv x->fd.scope.names.lookup (IN x)=O .local)->(∀x,aq gv x->fd.scope.names.lookup (IN x)=O .globalImplicit)->P):P:=ag h λe h=>ag h λi h=>ag h λj h=>ag h λm h=>ag h λn h=>ag h λp h=>ag h λr h=>ag h λs h=>ag h λt h=>ag h λh u=> k e (λe e=>RW i λa o i=>e a o (c a o i)) (not_of j) (not_of m) (aO n) (aK p) (aK r) (ag3 s) (aO t) (Hl h) (Hl u)
variable(H:g.nm=IN)
def ag4(a:∀c o,K.lookup c=O o->B c o)(i:B 784 (jU [] 0))(e:K.lookup f=O o)(h:Ĥ K D o):∃fd body,FnAt g B f D o fd body:=jo h λfd c h=>jo h λbody j h=>ag h λk h=>ag h λm h=>ag h λn h=>ag h λr h=>ag h λh s=>ĥ a k λk t u v x y z A E lv gv=>⟨fd,body,a _ _ e,sD c,JX j,by rw[H];exact k,t,u,v,x,y,z,λx c q=>by have z:=Fd.mp m x c;rw[cF q]at z;exact ao z,A,by rw[E,jx];show _=D.params.map λp=>g.nm p.1;rw[H];rfl,adB a i n,by rw[H];exact lv,by rw[H];exact gv,r,λp a=>ai h a,RX s⟩
def Zb(c:∀a o,K.lookup a=O o->B a o)(e:K.lookup f=O o)(h:Ħ K l lv gv G b o):∃fd body,ð g B f l lv gv G o fd body/\lI g.nm b body:=jo h λfd a h=>jo h λbody i h=>ag h λj h=>ag h λk h=>ag h λh m=>ĥ c j λj n p r s t u v x lv gv=> ⟨fd,body,⟨c _ _ e,sD a,JX i,n,p,r,s,t,u,cO.mp k,v,by rw[H];exact x,aO h,by rw[H];exact lv,by rw[H];exact gv,by rw[H];exact Hl m⟩,by rw[H];exact j⟩
end
section
open Hd (Ex L_)
def qn:Y (W×W):=[(60,690),(100,706),(126,698),(91,713),(31,727),(128,1278),(56,834),(57,827),(51,813),(52,820),(240,1333),(168,1340),(173,1347),(181,1354),(179,1361),(183,1368),(182,1375),(180,1382),(208,1389),(204,1396),(187,1404),(197,1411),(199,1418),(192,1425),(198,1432),(202,1439),(203,1446),(194,1453),(207,1461),(200,1518),(175,792),(177,799),(170,806),(105,841),(90,848),(59,855),(110,862),(45,869),(61,876),(64,890),(66,897),(98,904),(67,911),(103,925),(69,932),(107,946),(73,960),(76,974),(77,981),(78,988),(79,995),(80,1002),(81,1009),(121,1016),(82,1023),(83,1030),(123,1037),(85,1044),(63,1058),(65,1065),(72,1072),(75,1086),(84,1093),(58,1100),(118,1163),(120,1170),(122,1177),(139,1184),(140,1191),(144,1198),(149,1205),(124,1212),(154,1222),(155,1229),(158,1236),(125,1243),(161,1250),(133,1264),(28,720),(37,668),(247,1530),(213,1537),(256,1544),(219,1551),(259,1558),(260,1565),(241,1572),(262,1579),(267,1586),(286,1591)]
def sL:Y (W×W):=[(32,53),(281,114),(174,135),(97,147),(99,159),(95,179),(96,191),(111,203),(115,215),(93,227),(102,239),(104,251),(106,263),(108,275),(113,287),(116,299),(112,311),(109,323),(117,342),(119,361),(134,380),(151,400),(282,427),(283,449),(284,469),(285,481),(172,501),(184,513),(178,533),(185,553),(189,565),(193,585),(191,597),(201,609),(195,621),(205,633),(92,763)]
def A1:Y (W×W):=[(176,1304),(156,1213),(157,1215)]
def gI:W:=1521
def Xr:ae:=[1,2,3,4,5,6,7,8,9,10,11,12,13,14,15,16,17,18,19,38,39,40]
def adr(l:Y (W×W))(x:W):W:=oc (aj x l) id 0
def uZ(l:Y (W×W))(x:W):I:=aq (l.map (·.1)) x
def A5:Y (W×bv):=[(0,.builtin "len"),(1,.builtin "isinstance"),(3,.type "range"),(4,.type "enumerate"),(5,.type "list"),(7,.type "str"),(8,.builtin "max")]
def Zc(b:W):bv:=oc (aj b A5) id (.builtin "len")
def gW(w:t1)(a:I)(b c:ii)(d:I)(e:ii):fC:=⟨Hd.pw,w,adr sL,adr qn,Zc,adr A1,IN,uZ sL,uZ qn,uZ A1,fM,aq Xr,a,b,c,gI,d,e⟩
def SU(s:lw):W:=bm (motive:=λ_=>W) 0 (λc _ i=>c+1+1114113*i) s.cps.toList
def Xs(x:N (eU)):I:=oc x Option.isNone J
variable(P:lm)
def clF(a:ii):=(ty (KP P) (.ref a) "__class__",zn (KP P) (.ref a) "__call__",ty (KP P) (.ref a) "__setattr__",mroIn (KP P) a (.type "object"),Xs (ty (KP P) (.ref a) "__bool__")&&(Xs (ty (KP P) (.ref a) "__len__")&&(j? (KP P) a ""&&(c5 (KP P) a&&(readsIn (KP P) a (.type "type")&&(H? (KP P) a&&(ct (KP P) a&&(oc ((KP P).lookup a) (λo=>(zH o).isSome) J&&aH (λb=>Xs (ty (KP P) (.ref a) (IN b))) Xr))))))))
def aiO(a:ii)(q:W×V):I:=oc (ty (KP P) (.ref a) (IN q.1)) (λu=>oc u (λw=>Xs (zn (KP P) w "__get__")&&(a4 w&&(!b6.contains (IN q.1)&&(cst q.2 w&&oc (findCls (KP P) (.ref a) (.type "type") (IN q.1)) (λr=>CFound.casesOn (motive:=λ_=>I) r (λu=>a? (u=w)) λ_ _ _ _=>J) J)))) J) J
def Ď(m:W):=(ty (KP P) (.ref gI) (IN m),zn (KP P) (.ref (adr qn m)) "__get__",H! (KP P) (.ref (adr qn m)),uZ qn m&&(isFn (KP P) (.ref (adr qn m))&&!b6.contains (IN m)))
def inB(p:W×XK):I:=oc (ty (KP P) (.ref (adr sL p.1)) "__init__") (λu=>oc (bn u refOf) (λf=>SQ P f ⟨(0,C)::p.2.params,0::p.2.params.map (·.1),[],AH p.2.fields⟩&&a? (typeIn (KP P) (.ref f)=O (.type "function"))) J) J&&(aH (λq=>aq Xr q.1) p.2.fields&&(xS (p.2.fields.map (·.1))&&bd p.2.fields.length 1000))
def aiP:oj:=oO++Ń
def X!(x a:W):I:=a? (nsIn (KP P) np (IN x)=O (O (.ref a)))
def N'(k:W):I:=uZ A1 k&&(a? (ty (KP P) (.ref gI) (IN k)=O (O (.ref (adr A1 k))))&&(Xs (zn (KP P) (.ref (adr A1 k)) "__get__")&&(!b6.contains (IN k)&&!(adr A1 k==Do))))
def ō:Y (ol×W×bv):=[("!",2128,.str "!" 2129),("!!",2130,.str "tag:yaml.org,2002:" 2131)]
def Ō:Y (ol×W×bv):=[("0",1905,.str "\x00" 1906),("a",1908,.str "\x07" 1909),("b",1911,.str "\x08" 1912),("t",1914,.str "\t" 1915),("\t",1917,.str "\t" 1918),("n",1920,.str "\n" 1921),("v",1923,.str "\x0b" 1924),("f",1926,.str "\x0c" 1927),("r",1929,.str "\x0d" 1930),("e",1932,.str "\x1b" 1933),(" ",1935,.str " " 1936),("\"",1938,.str "\"" 1939),("\\",1941,.str "\\" 1942),("/",1944,.str "/" 1945),("N",1947,.str "" 1948),("_",1950,.str " " 1951),("L",1953,.str " " 1954),("P",1956,.str " " 1957)]
def ŋ:Y (ol×W×bv):=[("x",1960,.int (2) 1961),("u",1962,.int (4) 1963),("U",1964,.int (8) 1965)]
def É:Y (ae×V):=[([120],.int 2),([117],.int 4),([85],.int 8)]
variable(es:Y (ol×W×bv))
def SV:je:=es.map λx=>(pi x.1,x.2.2)
def D1:Y (ae×V)->I:=bm (motive:=λ_=>Y (ae×V)->I) (λl=>lc l U λ_ _=>J) (λx _ a l=>lc l J λq l=>a? ((pi x.1).cps.toList=q.1)&&(EV (pi x.1)&&(cst q.2 x.2.2&&a l))) es
def fAt:I:=aH (λp=>oc ((KP P).lookup p.2) (λo=>(EB o).isSome) J) qn
def RY:(xS (Sv.map λs=>SU (pi s))&&aH (λs=>lc (pi s).cps.toList J λc _=>!ac c 0) Sv):=by kernel_rfl
def adD:uy.map (λp=>Ď P p.1)=E0 (λp=>(O (O (.ref (adr qn p.1))),O (O (.builtin "function.__get__")),O J,U)) uy:=by kernel_rfl
def adE:aH (λp=>SQ P (adr qn p.1) p.2) uy=U:=by kernel_rfl
def xW:IN jd="append"/\IN wd="extend"/\IN MI="pop"/\IN wc="insert"/\IN Fu="join":=⟨by kernel_rfl,by kernel_rfl,by kernel_rfl,by kernel_rfl,by kernel_rfl⟩
structure aiQ:Prop where
 adF:∀(P:lm),sL.map (λp=>clF P p.2)=E0 (λ_=>(O (O (.builtin "object.__class__")),O (O (.builtin "type.__call__")),O (O (.builtin "object.__setattr__")),O U,U)) sL
 adG:∀(P:lm),aH (λp=>aH (aiO P (adr sL p.1)) p.2.consts) yi=U
 adH:∀(P:lm),aH (λp=>aH (λk=>br (aq p.2.mro k.1) (isIn (KP P) (.ref (adr sL p.1)) k.2) (kin_not (KP P) (adr sL p.1) k.2)) sL) yi=U
 ag8:∀(P:lm),ty (KP P) (.ref gI) "__setattr__"=O (O (.builtin "object.__setattr__"))
 xX:∀(P:lm),(j? (KP P) gI ""&&(c5 (KP P) gI&&(ct (KP P) gI&&(H? (KP P) gI&&aH (λa=>Xs (ty (KP P) (.ref gI) (IN a))) (Kn++y')))))=U
 adI:∀(P:lm),fAt P=U
 adJ:∀(P:lm),(zn (KP P) (.builtin "object.__class__") "__get__",H! (KP P) (.builtin "object.__class__"))=(O (O (.builtin "getset_descriptor.__get__")),O U)
 adK:∀(P:lm),((KP P).lookup Do).isSome=U
 RZ:∀(P:lm),aH (λp=>SQ P (adr qn p.1) p.2) aiP=U
 adL:∀(P:lm),oc ((KP P).lookup (adr qn 286)) (Ħ (KP P) [242] yZ.lv yZ.gv [33] Sw) J=U
 Xu:aH (λp=>aq (pD.map (·.1)) p.1) (oO++pD)=U
 adM:∀(P:lm),aH (inB P) yi=U
 R0:∀(P:lm),aH (λp=>X! P p.1 p.2) ((237,gI)::sL)=U
 R2:∀(P:lm),aH (λp=>X! P p.1 (adr qn p.1)) pD=U
 adN:∀(P:lm),aH (λp=>Xs (nsIn (KP P) np (IN p.1))&&!a? (IN p.1=pi "__name__")) u_=U
 adO:u_.map (λp=>m4 (IN p.1))=E0 (λp=>mp (sS p.2) Zc) u_
 Hm:∀(P:lm),(N' P 176&&(N' P 156&&N' P 157))=U
 adP:∀(P:lm),(KP P).lookup 1304=O (Ex P 2 ō)
 adQ:∀(P:lm),(KP P).lookup 1215=O (Ex P 3 ŋ)
 adR:∀(P:lm),(KP P).lookup 1213=O (Ex P 18 Ō)
 ud:(D1 ō Dl&&(xS (Dl.map λp=>SU ⟨p.1.toArray⟩)&&(D1 Ō Vk&&(xS (Vk.map λp=>SU ⟨p.1.toArray⟩)&&(D1 ŋ É&&xS (É.map λp=>SU ⟨p.1.toArray⟩))))))=U
 È:∀(P:lm),(KP P).lookup 784=O (jU [] 0)
 JY:(aH (λp=>uZ sL p.1) yi&&aH (λp=>uZ qn p.1) pD)=U
def fm:aiQ:=⟨λ_=>by kernel_rfl,λ_=>by kernel_rfl,λ_=>by kernel_rfl,λ_=>by kernel_rfl,λ_=>by kernel_rfl,λ_=>by kernel_rfl,λ_=>by kernel_rfl,λ_=>by kernel_rfl,λ_=>by kernel_rfl,λ_=>by kernel_rfl,by kernel_rfl,λ_=>by kernel_rfl,λ_=>by kernel_rfl,λ_=>by kernel_rfl,λ_=>by kernel_rfl,by kernel_rfl,λ_=>by kernel_rfl,λ_=>by kernel_rfl,λ_=>by kernel_rfl,λ_=>by kernel_rfl,by kernel_rfl,λ_=>by kernel_rfl,by kernel_rfl⟩
end
section
open Hd (Ex L_)
section
variable{n:Type}{f:n->W}{l:Y (W×W)}{x:W}
def ag9:∀{l:Y n}{x y:W}{c b:n},xS (l.map f)->l[x]?=O c->l[y]?=O b->f c=f b->x=y:=λ{l}=>by induction l with|nil=>exact λ_ h=>aa (il List.getElem?_nil h)|cons d l k=>have i:∀{y:W}{b:n},aq (l.map f) (f d)=J->l[y]?=O b->f d≠f b:=λh a e=>ao (il h (o5 (e▸fq (yJ a))));intro x y c b h g a e;refine ag (show(!aq (l.map f) (f d)&&xS (l.map f))from h) λj m=>?_;induction x with|zero=>(induction y with|zero=>rfl|succ y=>exact ch (au g▸e) (i (not_of j) a))|succ x=>induction y with|zero=>exact ch (au a▸e.symm) (i (not_of j) g)|succ y=>exact ah pp (k m g a e)
def vz{i:W}{s:ol}(h:Sv[i]?=O s):IN i=pi s:=by unfold IN;rw[h]
def vA{i:W}(h:Sv[i]?=C):IN i=⟨#[0,i]⟩:=by unfold IN;rw[h]
def Hn(x y:W)(e:IN x=IN y):x=y:=by
 have c:∀{i k:W}{s:ol},Sv[i]?=O s->pi s≠⟨#[0,k]⟩:=λh q=>by have z:=ai (bO RY).2 (yJ h);rw[q]at z;exact ao z
 cases b:Sv[x]? with
 |some s=>cases a:Sv[y]? with
  |some t=>exact ag9 (bO RY).1 b a (ah SU (il (vz b) (e.trans (vz a))))
  |none=>exact ch (il (vz b) (e.trans (vA a))) (c b)
 |none=>cases a:Sv[y]? with
  |some t=>exact ch (il (vz a) (il e (vA b))) (c a)
  |none=>exact(fw (fw (ah (λs:lw=>s.cps.toList) (il (vA b) (e.trans (vA a))))).2).1
def vB(h:uZ l x):(x,adr l x)∈l:=by have h:aq _ x:=h;rw[<-iq]at h;unfold adr;cases e:aj x l with|some a=>exact cV e|none=>rw[e]at h;exact ao h
def uG(h:Xs z):z=O C:=jo h λu a h=>by rw[a,vC.mp h]
end
structure GS(G:cQ):Prop where
 cls:G.cls=λc=>aj c yi
 č:G.du=jE
 cd:G.cA=mM
 iA:(G.dT,G.dD,G.qu,G.ew,G.lH)=(jd,wd,MI,wc,Fu)
structure Start(w:t1)(h:ul)(mg mb:lw->eU):Prop where
 jD:(KP w.params).In h
 g:h.Ns np mg
 b:h.Ns wp mb
 bi:∀x,x≠pi "__name__"->mb x=m4 x
 xY:h.NoLimit
abbrev B0(h:ul):bl:=λa o=>h.get? a=O o
section
variable{w:t1}{h:ul}{R T:lw->eU}{hp ht:I}{par dG aG:ii}{G:cQ}{c:W}{P:lm}
def BA{Q:Prop}(d:uZ sL c)(k:ty (KP P) (.ref (adr sL c)) "__class__"=O (O (.builtin "object.__class__"))->zn (KP P) (.ref (adr sL c)) "__call__"=O (O (.builtin "type.__call__"))->ty (KP P) (.ref (adr sL c)) "__setattr__"=O (O (.builtin "object.__setattr__"))->mroIn (KP P) (adr sL c) (.type "object")=O U->ty (KP P) (.ref (adr sL c)) "__bool__"=O C->ty (KP P) (.ref (adr sL c)) "__len__"=O C->j? (KP P) (adr sL c) ""->c5 (KP P) (adr sL c)->readsIn (KP P) (adr sL c) (.type "type")->H? (KP P) (adr sL c)->ct (KP P) (adr sL c)->(∃o a,(KP P).lookup (adr sL c)=O o/\o.data=.cls a)->(∀b,aq Xr b->ty (KP P) (.ref (adr sL c)) (IN b)=O C)->Q):Q:=by have e:=gE (Ba (fm.adF P) _ (vB d));have d:=gE e.2;have f:=gE d.2;have g:=gE f.2;exact ag g.2 λi z=>ag z λj z=>ag z λl z=>ag z λm z=>ag z λn z=>ag z λp z=>ag z λr z=>ag z λs t=>k e.1 d.1 f.1 g.1 (uG i) (uG j) l m n p r (jo s λo u h=>by cases q:zH o with|some a=>exact⟨o,a,u,By q⟩|none=>rw[q]at h;exact ao h) λb a=>uG (ai t (fU a))
def adT(d:((SV a).map (·.1)).Nodup):(Ex w.params n a).IsDictOf (No b w) (SV a):=
 ⟨_,n,⟨Z,Z,Z⟩,Z,λe e=>by
  obtain⟨x,_,q⟩:=eO.mp (List.mem_toArray.mp e);exact⟨x.1,q▸strKind_is b w x.1 x.2.1,q▸Z⟩,by
  clear d
  induction a with
  |nil=>exact Pairs.nil
  |cons x r f=>exact Pairs.cons (strKind_is b w x.1 x.2.1) Z f,d⟩
def adU{l:Y (ae×V)}(e:(SV a).map (·.1.cps.toList)=l.map (·.1))(b:xS (l.map λp=>SU ⟨p.1.toArray⟩)):((SV a).map (·.1)).Nodup:=by(have q:((SV a).map (·.1)).map (λs:lw=>SU ⟨s.cps.toList.toArray⟩)=l.map λp=>SU ⟨p.1.toArray⟩:=by have:=ah (b? λt:ae=>SU ⟨t.toArray⟩) e;rw[jx,jx]at this;rw[jx];exact this);exact List.Pairwise.of_map _ (λ_ _ n z=>n (z▸Z)) (q▸RX b)
def aha(b:F 784 (jU [] 0)){a:Y (ol×W×bv)}:∀{l:Y (ae×V)},D1 a l->(∀d∈SV a,ig d.1)/\(SV a).map (·.1.cps.toList)=l.map (·.1)/\cD g F ((SV a).map (·.2)) (l.map (·.2)):=by induction a with|nil=> intro l h;rw[Yw h];exact⟨λ_ h=>ch h cr,Z,Z⟩|cons x r e=> refine λ{l}h=>Gr h λq a f h=>ag h λg h=>ag h λi h=>ag h λj k=>?_;obtain⟨m,n,c⟩:=e k;rw[f];exact⟨λd e=>(c?.mp e).elim (λz=>z▸Nz i) (m d),by show(pi x.1).cps.toList::(SV r).map _=q.1::a.map _;rw[aO g,n],_,_,Z,Hk b j,c⟩
def R3(S:Start w h R T){a n:W}{b:Y (ol×W×bv)}{l:Y (ae×V)}(e:(KP w.params).lookup a=O (Ex w.params n b))(s:D1 b l)(d:xS (l.map λp=>SU ⟨p.1.toArray⟩))(f:bd b.length 1000):∃o,h.get? a=O o/\∀p:Pt,(B0 h).le p.F->p.h.get? a=O o->Cg (gW w hp par dG ht aG) p a l:=⟨_,S.jD _ _ e,λp a hp=>by obtain⟨x,y,z⟩:=aha (a _ _ (S.jD _ _ (fm.È w.params))) s;exact⟨SV b,Heap.dictOf_iff.mpr ⟨_,hp,adT (adU y d)⟩,ay (cZ (jb _)) (ay (cw f) (aO Z)),x,y,z⟩⟩
def Ĵ{Q:Prop}{l:Y (ae×V)}(e:mM k=O l)(a:k=176->l=Dl->Q)(b:k=156->l=Vk->Q)(d:k=157->l=É->Q):Q:=jj e (λh e=>a (aK h) (au e).symm) λ_ e=>jj e (λh e=>b (aK h) (au e).symm) λ_ e=>jj e (λh e=>d (aK h) (au e).symm) λ_=>aa
def R5{l:Y (ae×V)}(e:mM k=O l):N' P k:=Ĵ e (λh _=>h▸(bO (fm.Hm P)).1) (λh _=>h▸(bO (bO (fm.Hm P)).2).1) λh _=>h▸(bO (bO (fm.Hm P)).2).2
def ahb(e:jE m):Ď P m=(O (O (.ref (adr qn m))),O (O (.builtin "function.__get__")),O J,U):=by have e:(aj m uy).isSome=U:=e;cases q:aj m uy with|none=>rw[q]at e;exact ao e|some a=>exact Ba (adD P) _ (cV q)
def bi_or(b:W):(∃a,Zc b=.builtin a)∨∃n,Zc b=.type n:=by(have h:∀p∈A5,(∃a,p.2=.builtin a)∨∃n,p.2=.type n:=λp hp=>by simp only[A5,c?,cr,or_false]at hp;rcases hp with q|q|q|q|q|q|q<;>rw[q]<;>first|exact .inl ⟨_,Z⟩|exact .inr ⟨_,Z⟩);unfold Zc;cases q:aj b A5 with|none=>exact .inl ⟨_,Z⟩|some v=>exact h _ (cV q)
def ahc(b:W):a4 (Zc b):=by unfold Zc;cases q:aj b A5 with|none=>kernel_rfl|some v=>exact Fd.mp (show A5.all (λp=>a4 p.2)=U by kernel_rfl) _ (cV q)
def kf(S:Start w h R T)(g:GS G):KF (KP w.params) (gW w hp par dG ht aG) G (B0 h):=
 have t:=S.jD _ _ (fm.È w.params);have n:=gE g.iA;have p:=gE n.2;have n3:=gE p.2;have r:=gE n3.2;have s:=λd i=>uG (ai (bO (bO (bO (bO (fm.xX w.params)).2).2).2).2 (fU i))
 {inj:=Hn
  bool:=λc a=>BA a λ_ _ _ _ h _ _ _ _ _ _ _ _=>h
  len:=λc a=>BA a λ_ _ _ _ _ h _ _ _ _ _ _ _=>h
  handed:=ahc
  Ki:=λc _ a=>BA a λ_ _ _ _ _ _ h _ _ _ _ _ _=>h
  FC:=λc a=>BA a λ_ _ _ _ _ _ _ h _ _ _ _ _=>h
  Tq:=λc d a i=>BA a λ_ _ _ _ _ _ _ _ _ _ _ _ h=>h d i
  Ag:=λc a=>BA a λ_ _ _ _ _ _ _ _ h _ _ _ _=>h
  const:=λc u d v v k=>jo (ai (ai (fm.adG w.params) (cV (il (qq g.cls c) v))) (cV k)) λx v e=>jo e λy z e=>ag e λA e=>ag e λB e=>ag e λE e=>ag e λF e=>jo e λH K e=>by
   refine⟨y,v.trans (ah O z),uG A,B,not_of E,Hk t F,K.trans ?_⟩
   induction H with
   |val x=>rw[aO e]
   |get=>exact ao e
  Cj:=λ_ _=>(bO (fm.xX w.params)).1
  Cm:=λ_=>(bO (bO (fm.xX w.params)).2).1
  Co:=λd _ i=>s d i
  K2:=λ_=>⟨fm.ag8 w.params,(bO (bO (bO (fm.xX w.params)).2).2).1⟩
  HH:=λd _ i=>by show ee (KP w.params) gI (IN d)=O C;unfold ee;rw[s d i];rfl
  Cp:=λi _ i=>by have e:=gE (ahb (P:=w.params) (g.č▸i));have k:=gE e.2;have i:=gE k.2;exact ag i.2 λf b=>ag b λb j=>⟨f,e.1,b,k.1,i.1,not_of j⟩
  Tr:=λc a=>BA a λ_ b _ _ _ _ _ _ _ _ _ j _=>by obtain⟨o,i,d,k⟩:=j;exact⟨o,i,d,k,b⟩
  FD:=λi i=>jo (ai (fm.adI w.params) (vB i)) λo m e=>by
   cases q:EB o with
   |some L=>exact⟨o,L,S.jD _ _ m,sD q⟩
   |none=>rw[q]at e;exact ao e
  N_:=bi_or
  G4:=Z
  O5:=Z
  ZC:=Z
  O4:=Z
  O1:=Z
  N?:=Z
  N!:=Z
  dT:=by rw[n.1];exact xW.1
  dD:=by rw[p.1];exact xW.2
  qu:=by rw[n3.1];exact xW.3
  ew:=by rw[r.1];exact xW.4
  lH:=by rw[r.2];exact xW.5
  E5:=λc k u _ i e=>by have t:=ai (ai (fm.adH w.params) (cV (il (qq g.cls c) e))) (vB i);exact⟨λq=>by rw[q]at t;exact t,λq=>by rw[q]at t;exact t⟩
  Ts:=λc a=>BA a λf _ _ b _ _ _ _ _ _ _ _ _=>⟨f,b⟩
  E3:=gE (fm.adJ w.params)
  Tt:=by obtain⟨o,m⟩:=BM.mp (fm.adK w.params);exact⟨o,S.jD _ _ m⟩
  Cq:=λk l e=>not_of (bO (bO (bO (bO (R5 (P:=w.params) (g.cd▸e))).2).2).2).2
  MT:=λk l e=>Ĵ (g.cd▸e) (λf b=>by rw[f,b];exact R3 S (fm.adP w.params) (bO fm.ud).1 (bO (bO fm.ud).2).1 Z) (λf b=>by rw[f,b];exact R3 S (fm.adR w.params) (bO (bO (bO fm.ud).2).2).1 (bO (bO (bO (bO fm.ud).2).2).2).1 Z) λf b=>by rw[f,b];exact R3 S (fm.adQ w.params) (bO (bO (bO (bO (bO fm.ud).2).2).2).2).1 (bO (bO (bO (bO (bO fm.ud).2).2).2).2).2 Z
  K':=λd l _ e=>ag (R5 (g.cd▸e)) λf z=>ag z λb z=>ag z λj z=>ag z λa _=>⟨f,aO b,uG j,not_of a⟩}
def xZ(S:Start w h R T):(∀a,dq (B0 h) a->a.Ns np R)/\∀a,dq (B0 h) a->a.Ns wp T:=⟨λ_ a=>S.g.keeps a,λ_ a=>S.b.keeps a⟩
def JZ(S:Start w h R T){x a:W}(e:X! w.params x a):R (IN x)=O (.ref a):=mg_of S.jD S.g (aO e)
def ya(S:Start w h R T){b:oj}(g:∀x a,aj x b=O a->∃d,(x,d)∈pD):iW (gW w hp par dG ht aG) (B0 h) (X? b):=λx v e=>md e (λu b e=>by
  have m:=cV b;refine ag (ai (fm.adN w.params) m) λi f=>?_;have j:=Ba fm.adO _ m
  have l:∃k,u=.bi k:=by simp only[u_,c?,cr,or_false,UV]at m;rcases m with q|q|q|q|q|q|q<;>exact⟨_,q.2⟩
  obtain⟨k,b⟩:=l;rw[<-au e,b];refine⟨Zc k,Z,.inr ⟨R,T,(xZ S).1,mg_none_of S.jD S.g (uG i),(xZ S).2,?_⟩⟩;show T (IN x)=_;rw[S.bi _ λq=>by rw[cF q]at f;exact ao f,j,b];rfl) λ_ e=>md e (λb f e=>by
  have b:=ai (bO fm.JY).1 (cV f);rw[<-au e];exact⟨.ref _,⟨Z,b⟩,.inl ⟨R,(xZ S).1,JZ S (ai (fm.R0 w.params) (.tail _ (vB b)))⟩⟩) λ_ e=>iJ e λa b e=>by
  obtain⟨d,m⟩:=g x a b;rw[<-e];exact⟨.ref _,⟨Z,ai (bO fm.JY).2 m⟩,.inl ⟨R,(xZ S).1,JZ S (ai (fm.R2 w.params) m)⟩⟩
end
end
def GS.to(x:GS G)(h:(H.cls,H.du,H.cA,H.dT,H.dD,H.qu,H.ew,H.lH)=(G.cls,G.du,G.cA,G.dT,G.dD,G.qu,G.ew,G.lH)):GS H:=have e:=gE h;have a:=gE e.2;have b:=gE a.2;⟨e.1.trans x.cls,a.1.trans x.č,b.1.trans x.cd,b.2.trans x.iA⟩
def ľ:GS (Gp a fM m f):=⟨Z,Z,Z,Z⟩
def aiR(d:W):GS (pS d):=by cases d<;>exact ľ
def Ľ(d:W):GS (lG d):=by cases d<;>exact ľ.to Z
structure H4(fns:oj)(G:cQ):Prop where
 gs:GS G
 gl:G.gl=X? fns
 bU:G.bw=fM
 sup:G.sup=λ_ _ _=>C
 comp:G.comp=λ_ _ _ _ _ _=>C
 ro:G.ro=J
def R6(d:W):H4 oO (pS d):=⟨aiR d,by cases d<;>rfl,by cases d<;>rfl,by cases d<;>rfl,by cases d<;>rfl,by cases d<;>rfl⟩
def LM(d:W):H4 pD (lG d):=⟨Ľ d,by cases d<;>rfl,by cases d<;>rfl,by cases d<;>rfl,by cases d<;>rfl,by cases d<;>rfl⟩
def ip.two(r:ip k A):A.depth+2<Fa:=fR (ay (d9 (aO Z) _) (gb _ _)) r.depth
def ip.bS(r:ip j A)(h:k<=j):ip k A:=⟨fR (d9 h _) r.depth,fR (d9 (yK 3 h) _) r.units,r.handled⟩
def BC(c:∀p∈a,p∈oO++pD)(h:aj x a=O b):∃a,(x,a)∈pD:=by obtain⟨p,a,e⟩:=eO.mp (fU (ai fm.Xu (c _ (cV h))));exact⟨p.2,(show p.1=x from e)▸a⟩
section
variable{w:t1}{h:ul}{z B:lw->eU}{hp ht:I}{par dG aG:ii}{G:cQ}{A:v6}{k d:W}{E:oj}
def oV(S:Start w h z B):∀a,dq (B0 h) a->a.NoLimit:=λ_ a=>S.xY.keeps a
def EC(S:Start w h z B){b:ii}{a:Def}(e:SQ w.params b a):∃o c f,(KP w.params).lookup b=O o/\FnAt (gW w hp par dG ht aG) (B0 h) b a o c f:=jo e λo b e=>by obtain⟨c,f,a⟩:=ag4 (g:=gW w hp par dG ht aG) Z S.jD (S.jD _ _ (fm.È _)) b e;exact⟨o,c,f,b,a⟩
def adV(S:Start w h z B)(i:GS G)(g:uZ sL k)(n:A.depth+2<Fa):fT (gW w hp par dG ht aG) (B0 h) A (.ref (adr sL k)) [] λb c e=>mp (make G k b c) (·,e):=λb c e v o j=>iJ j λa a _=>bL a λa l _=>by refine ag (ai (fm.adM w.params) (cV (il (qq i.cls k) l))) λa t=>ag t λm t=>ag t λq r=>jo a λu s a=>jo a λfI f a=>ag a λa t=>bL f λx u f=>?_;obtain⟨x,x,x,_,x⟩:=EC S a;exact BA g λ_ _ c1 _ _ _ _ _ _ a c3 _ y=>NY ⟨g,a,s.trans (by rw[u,xV f]),aO t,x,⟨c1,c3⟩,λp hp=>⟨by show ee _ (adr sL k) (IN p.1)=O C;unfold ee;rw[y p.1 (ai m hp)];rfl,ai m hp⟩,RX q,cw r⟩ l (kf S i) S.jD n (oV S) b c e v o j
def LO(w:t1)(h:ul)(hp:I)(par dG:ii)(ht:I)(aG:ii)(G:cQ)(A:v6):=(∀m,hp->uZ qn m->fT (gW w hp par dG ht aG) (B0 h) A (.ref (adr qn m)) [.ref par] (G.av m))/\∀f,uZ qn f->fT (gW w hp par dG ht aG) (B0 h) A (.ref (adr qn f)) [] (G.func f)
def ļ(S:Start w h z B)(f:GS G)(g:ip d A)(x:LO w h hp par dG ht aG G A){b:jP}{c:X->W->X->ae->ae->St->mi}{a:w5}{L:ii}{e:ae}:Cx.eV ⟨A,a,KP w.params,gW w hp par dG ht aG,{G with gl:=b,comp:=c},B0 h,L,e⟩:=⟨x.1,x.2,λ_ a=>adV S (f.to Z) a g.two⟩
def Xv(S:Start w h z B)(a:H4 E G)(c:ip (d+1) A)(x:∀b,ip d b->LO w h hp par dG ht aG G b)(e:Def)(f:sB)(g L:ii):(AD A (KP w.params) (gW w hp par dG ht aG) G (B0 h) e f g L).Calls:=(ļ S a.gs (c.deeper _) (x _ (c.deeper _))).calls a.sup a.comp
def dc(S:Start w h z B)(a:H4 E G)(l:∀p∈E,p∈oO++pD)(i:ip (d+1) A)(x:∀e,ip d e->LO w h hp par dG ht aG G e){c:ii}{b:Def}(j:SQ w.params c b){f:aP}{g:af}(m:cD (gW w hp par dG ht aG) (B0 h) f g):fT (gW w hp par dG ht aG) (B0 h) A (.ref c) f λe f n=>run G 300 b (g++e) f n:=by obtain⟨o,e,f,_,f⟩:=EC S j;exact NX f (kf S a.gs) S.jD (by rw[a.gl];exact ya S λx b h=>BC l h) (λ_ h=>il (qq a.bU _) h) i (oV S) (λL _=>Xv S a i x b e c L) 300 m
def sE:∀p∈oO,p∈oO++pD:=λ_ h=>gX.mpr (.inl h)
def J2:∀p∈pD,p∈oO++pD:=λ_ h=>gX.mpr (.inr h)
def Ļ:cD (gW w hp par dG ht aG) (B0 h) [] []:=Z
def R7(a:hp):cD (gW w hp par dG ht aG) (B0 h) [.ref par] [.par]:=⟨_,_,Z,⟨Z,a⟩,Z⟩
def BD(S:Start w h z B)(d:W):∀A,ip d A->LO w h hp par dG ht aG (pS d) A:=by induction d with|zero=>exact λA _=>⟨λ_ _ _ _ _ _ _ _ e=>aa e,λ_ _ _ _ _ _ _ e=>aa e⟩|succ d i=>exact λA j=>⟨λm l _ a b c v f e=>bL e λm g e=>dc S (R6 d) sE j i (ai (adE w.params) (cV g)) (R7 l) a b c v f e,λl _ a b c v f e=>bL e λm g e=>dc S (R6 d) sE j i (ai (fm.RZ w.params) (gX.mpr (.inl (cV g)))) Ļ a b c v f e⟩
def adW(S:Start w h z B)(d:W):∀A,ip d A->LO w h hp par dG ht aG (lG d) A:=by induction d with|zero=>exact λA _=>⟨λ_ _ _ _ _ _ _ _ e=>aa e,λ_ _ _ _ _ _ _ e=>aa e⟩|succ d a=> exact λA b=>⟨λ_ _ _ _ _ _ _ _ e=>aa e,λf _ c f g v i e=>bL e λj j e=>dc S (LM d) J2 b a (ai (fm.RZ w.params) (gX.mpr (.inr (cV j)))) Ļ c f g v i e⟩
end
structure R8(K:WP)(prog:zs)(C:ii)(selfN mname:lw)(fd:sB)(cc D cda f2:ii):Prop where
 Z':fd.closure.lookup ("__class__":lw)=O cc
 ks:fd.scope.names.lookup ("super":lw)=O .globalImplicit
 kc:fd.scope.names.lookup ("__class__":lw)=O .free
 head:((fd.params.posonlyargs++fd.params.args).head?).map (·.arg)=O selfN
 code:fd.code=.ref cda
 ahh:∃oc vs file tf,K.lookup cda=O oc/\oc.data=.fields vs/\vs[2]?=O (.str file tf)/\((prog.main.file:lw)==file)=U
 cell:∃oc,K.lookup cc=O oc/\oc.data=.cell (O (.ref D))
 cls:∃oD cd,K.lookup D=O oD/\oD.data=.cls cd
 mro:mroIn K C (.ref D)=O U
 top:(prog.main.scope.names.lookup ("super":lw)).isSome=J
 opq:nsIn K cStatics "thirdparty.any"=O none
 av:∃cd,clsIn K C=O cd/\alongIn K mname ((cd.mro.dropWhile (·!=.ref D)).drop 1)=O (O (.ref f2))
 FD:∃o fd,K.lookup f2=O o/\o.cls=.type "function"/\o.data=.func fd
def BE(G:cQ)(d:Def)(e:af->aY->PG->dR)(f:S)(n:W)(b:af)(c:aY)(a:PG):dR:=one b λv=>lc c (ax (e [v] [] a) λ_ a=>ax (pt (yh G d) d.lv n f ⟨[(0,.val .par),(21,.val v)],a⟩) λf s=>O (ku f,s.pg)) λ_ _=>C
section
variable{prog:zs}{w:t1}{A:v6}{E:aT}{s:ge}{c':Code}{env:w5}
def x5(k:(fb a (Gc b env)).all (!·.1)=U)(l:b.length<=20)(m:(e.endLine==a.line))
 (j:b5 (WF prog w) A c' (a8 o d env (Db o env)) (λc g=>∀i,he (WF prog w) A (e! c d i) (λf h=>he (WF prog w) A (o_ a f.1 f.2 (fb a (Gc b env)) (hT a (dg [] env))) Q E h) E g) E s):
  b5 (WF prog w) A c' (Db (.Call (.Attribute o d e) b [] a) env) Q E s:=by
 refine H7 (ks_wpAt_mono j (λc g i=>c_ (bR (uk ?_))) λ_ _ x=>x)
 have g:Ok (b.length+0) (fb a (Gc b env)) (hT a (dg [] env)):=by unfold Ok;rw[k];exact cF (fR l (aO Z))
 have j:a7 U o env e a=H1 a:=by unfold a7;rw[m];rfl
 show he _ _ (holding [c] (calleeOf (Ok (b.length+0) (fb a (Gc b env)) (hT a (dg [] env))) o env c d)>>=_) _ _ _;rw[g];refine bR (ui (jv (i _) (λf h c=>?_) λ_ _ x=>x));exact bR (fN (show a7 (Ok (b.length+0) (fb a (Gc b env)) (hT a (dg [] env))) o env e a=H1 a by rw[g];exact j) c)
end
section
variable{A:v6}{K:WP}{g:fC}{G:cQ}{B:bl}{d:Def}{o:xL}{fd:sB}{body:b9}{f:ii}{k:W}{p:Pt}{pg:PG}{as:af}{ks b:aY}{ws:aP}{kws:je}
def Zd(h:aq c x)(i:aj x a=O (.val e)):ev G c J (.aR x) ⟨a,pg⟩=O (e,⟨a,pg⟩):=by show ax (Kc G c x ⟨a,pg⟩) (fin J)=_;unfold Kc;rw[dM h,i];rfl
variable(D:FnAt g B f d o fd body)
def J3(i:Inj g)(h:pQ d.params as ks=O b)(s:cD g p.F ws as)(t:oy g p.F kws ks)(j:B.le p.F)(l:pF p)(x:qQ g p pg):∃a,m5 p.s fd ⟨ws,kws⟩ a/\(∀y∈a,fd.scope.names.lookup y.1=O .local)/\(∀z v,(z,v)∈b->∃w,a.reverse.lookup (g.nm z)=O w/\Rd g p.F w v)/\
  ∀c,c.Ns p.h.objs.size (λx=>a.reverse.lookup x)->(∀e o,p.h.get? e=O o->c.get? e=O o)->bC (AD A K g G B d fd f p.h.objs.size) {(p.up c (p.s.toks+a.length) p.F p.ow)with ow:=bQ p.h.objs.size (O .frame) p.ow} ⟨b.map λp=>(p.1,.val p.2),pg⟩:=by
 refine gq λP u=>?_;have r:=λe o n=>(x.own.fz e o (j _ _ n)).1;obtain⟨e,e,e,E,F,H,L⟩:=D.Z3
 have P:F5 fd p.s e:=L.elim (λz M A e Q q=>by rw[z.1];exact cP (q C z.2.symm)) λz M A e Q q=>by obtain⟨T,m,e,L⟩:=z;rw[e];exact hF (r _ _ L) Z (q _ Z)
 obtain⟨a,e,r,L⟩:=xa (s:=p.s) i h D.nd s t D.plain D.names E F (H.bS j) P;refine u ?_;have s:(b.map (·.1)).Nodup:=by rw[r];exact D.nd
 have t:(a.map (·.1)).Nodup:=by rw[e.1];exact names_nodup i s
 have h:∀q∈a,a.reverse.lookup q.1=O q.2:=λq h=>lookup_mem (by rw[Fc];exact(EY _).nodup_iff.mpr t) (Fb.mpr h);refine⟨a,L,λy u=>?_,λz v v=>?_,λc t E=>?_⟩
 ·have F:y.1∈b.map λp=>g.nm p.1:=by rw[<-e.1];exact fq u
  obtain⟨z,u,n⟩:=eO.mp F;have F:z.1∈d.params.map (·.1):=by rw[<-r];exact fq u
  obtain⟨u,r,z⟩:=eO.mp F;rw[<-n,<-z];exact D.lv _ (D.par u r)
 ·obtain⟨w,n,r⟩:=e.mem v
  exact⟨w,h _ n,r⟩
 ·have n:=t
  obtain⟨oL,_,_,r,_⟩:=n;exact⟨enter x l r E,dS,⟨_,t,λx=>Iw (m:=λy=>a.reverse.lookup y) i s e h (λx e=>∃t,a.reverse.lookup (g.nm x)=O (.ref t)/\bQ p.h.objs.size (O .frame) p.ow t=O (.loc x)/\wj g {(p.up c (p.s.toks+a.length) p.F p.ow)with ow:=bQ p.h.objs.size (O .frame) p.ow} t e) x⟩,j⟩
def Xw{c:W->lw}{body:b9}{P:Prop}(r:lI c (.cons (.expr (.sup m (.cons (.aR x) .nil))) a) body)
 (k:∀j l h e i n q,body=.Expr (.Call (.Attribute (.Call (.Name "super" j) [] [] l) (c m) h) e [] i) n::q->pz c (.cons (.aR x) .nil) e->(h.endLine==i.line)->e.length<=20->d5 (.Call (.Attribute (.Call (.Name "super" j) [] [] l) (c m) h) e [] i)->lI c a q->P):P:=by
 obtain⟨u,q,w,a,y⟩:=lT r;refine ae2 (f:=λv _=>eK c (.sup m (.cons (.aR x) .nil)) v&&d5 v) a λev n r a=>ag a λa z=>?_;obtain⟨s,e,t,i,F,a⟩:=uw (f:=λs as kws p=>isAt s λv E h=>Ke v (λs e t _=>nu s (λs=>a? (s=("super")))&&e.isEmpty&&t.isEmpty)&&iD c m E&&pz c (.cons (.aR x) .nil) as&&kws.isEmpty&&ac h.endLine p.line&&bd as.length 20) a;obtain⟨s,s,h,t,a⟩:=yY a;refine ag a λa v=>ag a λa x=>ag a λa H=>ag a λa L=>ag a λa M=>?_;obtain⟨E,E,E,l,P,a⟩:=uw a;refine ag a λa j3=>ag a λa j2=>?_;obtain⟨E,j,Q,j1⟩:=kF a;have E:u=.Expr (.Call (.Attribute (.Call (.Name "super" j) [] [] l) (c m) h) e [] i) n:=by rw[r,F,t,P,Q,aO j1,cO.mp j2,cO.mp j3,cO.mp H,show s=c m from aO M]
 exact k j l h e i n q (E▸w) L (gc.mpr (aK x)) (cw v) (by have E:=(r▸E);exact(Stmt.Expr.inj E).1▸z) y
def R9{K:WP}{s:zs}{A:v6}{i:ii}{t:lw}{fd:sB}{D f:ii}{o:xL}{h:ul}{dr:Drawn}{m n r:lw->eU}{p0 S:ww}{whole:e5 bv}
 (a:R8 K s i c z fd E D F H)(V:(t==("__class__":lw))=J)(X:K.In h)(hf:h.get? f=O o)(hd:o.data=.func fd)(l:fd.scope.kind=.function)(g1:h.Ns fd.globals m)(g2:m "super"=C)(g3:h.Ns fd.builtins n)(g4:n "super"=O (.type "super"))
 (hl:fd.scope.names.lookup c=O .local)(hns:h.Ns L r)(hm:r c=O (.ref x))(hx:h.get? x=O e)(hxc:e.cls=.ref i)(hnc:∀M,e.data≠.cls M)
 (q:∀j,j.get? h.objs.size=O {cls:=.type "super",dict:=C,data:=.fields #[.ref D,.ref x,.ref i],slots:=#[]}->(∀y o,h.get? y=O o->j.get? y=O o)->Q (.ref h.objs.size) ⟨j,u,dr,v,w⟩):
  b5 (WF s P) A (.func R (Tm fd L f)) (a8 (.Call (.Name "super" p0) [] [] S) t (Tm fd L f) whole) Q T ⟨h,u,dr,v,w⟩:=by
 refine gq λP h=>?_;obtain⟨oc,c,c,c,c1,i,c3,j⟩:=a.ahh;obtain⟨c,m,n⟩:=a.cell;obtain⟨c,c,c,e⟩:=a.cls;obtain⟨r,r,s⟩:=ab.mp a.head;refine h ?_;refine ks_wpAt_super_base (env:=Tm fd L f) a.ks a.kc V Z hf hd r a.code (X _ _ c1) i c3 j a.top (CK l a.ks (k8 (env:=Tm fd L f) g1 g2 g3 g4 ⟨Z,wpAny_loadName_free l a.kc a.Z' ⟨_,X _ _ m,n⟩ ?_⟩));rw[s];exact EW l hl hns hm (ks_wpAny_isType_cls (X _ _ c) e ⟨Z,ks_wpAny_call_super (X _ _ c) e hx hxc hnc (looks_mroIn X a.mro) q⟩)
def Sb(kf:KF K g G B)(M:∀a o,K.lookup a=O o->B a o)(ya:iW g B G.gl)(P:∀a,G.bw a->g.bw a)(s:ip (k+1) A)(H:∀h,dq B h->h.NoLimit)
 (Q:∀L,(AD A K g G B d fd f L).Calls)(n:g.dj){c:W}{m:S}(w:d.params=[(0,C),(21,C)])(h21:aq d.lv 21)(v:d.body=.cons (.expr (.sup c (.cons (.aR 21) .nil))) m)(hro:G.ro=J)
 {x E F j:ii}(i:R8 K g.prog g.uQ (g.nm 0) (g.nm c) fd x E F j)(y:(g.nm c==("__class__":lw))=J)
 {e r:lw->eU}(g1:∀h,dq B h->h.Ns np e)(R:e "super"=C)(T:∀h,dq B h->h.Ns wp r)(V:r "super"=O (.type "super"))
 {u:af->aY->PG->dR}(hc:∀t:v6,ip k t->fT g B t (.ref j) [.ref g.par] u)(z:W):fT g B A (.ref f) [.ref g.par] (BE G d u m z):=λas ks pg c c e p ws kws l x r t L c q=>ym e λv0 has e=>lh e λhks e=>aQ e λc c er e=>aQ e λfl σ' e3 c=>iy c λh u=>by
 have c:=λa o e=>(x.own.fz a o (r _ _ e)).1;obtain⟨cdC,E,hm⟩:=i.av;obtain⟨a,a,F,hofc,hfd2⟩:=i.FD;have a:pQ d.params (.par::as) ks=O [(0,.par),(21,v0)]:=by rw[w,has,hks];rfl
 obtain⟨binds,k1,k2,k3,k4⟩:=J3 (A:=A) (K:=K) (G:=G) D kf.inj a (⟨_,_,Z,⟨Z,n⟩,t⟩) L r l x;obtain⟨w0,hw0,rw0⟩:=k3 0 .par gY;refine ks_codeAny_call_defAt (fd:=fd) (body:=body) (binds:=binds) (qX (nN _) (qX (nN _) s.two)) (c _ _ D.at_) D.data (H _ c) (D.code _ c) D.A2 k1 D.cell k2 (λa H L=>?_) D.co D.bD D.kind
 let c:Cx:=AD A K g G B d fd f p.h.objs.size
 have r:bC c _ _:=k4 a H L;have a:c.OK:=Iy D kf M ya P s p.h.objs.size;have M:c.Calls:=Q p.h.objs.size;have X:=a.In r;have t:=r.Tu;obtain⟨P,P,P,Q⟩:=qD r n;have P:=D.is;rw[v]at P
 have lR:=by have:=D.loc;rw[v]at this;exact(bO (show(U&&uU d.lv m)from this)).2
 refine Xw P λv v v v P pos0 es1 hbd i4 i6 i7 nc hb1=>?_;rw[hbd];have GL:=(bz a M (.cons (.aR 21) .nil)).2 v i4;refine ks_wpAt_execs_cons (ks_wpAt_Expr_any (x5 (GL.pl P).2 i7 i6 ?_) (zf a) (jf nc));refine R9 i y X (t _ _ D.at_) D.data D.kind (by rw[D.globals];exact g1 _ t) R (by rw[D.builtins];exact T _ t) V (D.lv 0 (D.par (0,C) (by rw[w];exact .head _))) H (hw0.trans (ah O (rw0.1))) Q.at_ Z (λc e=>nomatch e) λt v c=>?_;intro e;have e:=Nx.grow r (p.s.toks+binds.length) c (λ_ _=>id) λ_ _=>.inl;have c:=a.In e.rel;obtain⟨r,r,_,r⟩:=qD e.rel n;refine ks_wpAny_getMethod_super v (looks_opaque c i.opq) (l₀:=cdC.mro) (λA Q i n k q=>bR ((looks_clsIn c E) A _ i n k (cP q))) Z c hm (c _ _ F) hofc (ks_ne c r E) y ?_;have n3:=e.trans (Nx.alloc e.rel {cls:=.type "method",data:=.fields #[.ref j,.ref g.par]} (p.s.toks+binds.length+1) Z)
 refine qE (kxs:=yf) (kws:=[]) (ks:=[]) (kvs:=[]) (kw:=[]) (vs:=[v0]) (σ2:=⟨[(0,.val .par),(21,.val v0)],pg⟩) (first:=[]) GL.pl (λ_=>⟨Z,Z,Z⟩) GL.l Aj (σ1:=⟨[(0,.val .par),(21,.val v0)],pg⟩) (mS (Zd h21 Z)) Z Z n3.rel λi c c c n r=>?_
 ·have e:=c.rel.st _ _ (c.ext.le _ _ (p.F.ib t.objs.size {cls:=.type "method",data:=.fields #[.ref j,.ref g.par]}))
  refine⟨⟨.boundFrame,λj j j=>?_⟩,?_⟩
  ·unfold o1
   refine bR (qs e ?_);refine bR (qs (a.In c.rel _ _ F) ?_);rw[hfd2];exact cP j
  ·rw[vD.mp r.1]
   refine sR (ks_codeAny_call_bound e (call_K (pre:=[.ref g.par]) hro c.rel (hc _ (s.deeper (Tm fd p.h.objs.size f))) er n (show oy g i.F [] []from⟨Z,Z⟩) _ λi e e j=>?_));refine c_ ((oB z m _ a M lR).2 es1 hb1 i _ fl σ' e3 e.rel _ _ λj a a m=>?_);have n:=((n3.trans (c.trans e)).ext.weak λ_=>Ci).trans Z a.ext;have e:=λc i=>q (off j) c Iz (u▸leave l x.own L n) (u▸AG a.rel.pg) i;refine te m (λa c=>?_) (λa c=>?_) λu y a c i=>?_
   ·rw[c];exact e _ (by rw[<-h,a];exact Z)
   ·rw[c];exact e _ (by rw[<-h,a];exact Z)
   ·rw[c];exact e _ (by rw[<-h,a];exact i)
end
def Xx(a:af)(b:aY)(c:PG):dR:=run (pS 20) 300 kY (.par::a) b c
def Sd:S:=yA 1 mj
def Se:S:=yA 1 oh
def Ç:af->aY->PG->dR:=BE (pS 20) jS Xx Sd 300
def Sf:af->aY->PG->dR:=BE (pS 20) pU Ç Se 300
abbrev pZ:cQ:=yh (pS 20) jS
def Ze(t:ae):PG:=⟨GF (.str (t++[0])),[],6⟩
def adY:mj=.cons (.expr (.sup 41 (.cons (.aR 21) .nil))) Sd:=Z
def adZ:oh=.cons (.expr (.sup 41 (.cons (.aR 21) .nil))) Se:=Z
structure aiS:Prop where
 ahi:∀(t x:ae),pt pZ [0,21] 300 Sd ⟨j9 t,⟨oR (.str oQ) (.str x),[],0⟩⟩=O (.next,⟨j9 t,⟨PS (.str x),[],3⟩⟩)
 ahj:∀(t x:ae),pt pZ [0,21] 300 Se ⟨j9 t,⟨PS (.str x),[],3⟩⟩=O (.next,⟨j9 t,⟨GF (.str x),[],6⟩⟩)
def ĺ:aiS:=⟨λ_ _=>by kernel_rfl,λ_ _=>by kernel_rfl⟩
def ad0{t:ae}(b:gH t)(c:t.length<=800):Sf [.str t] [] ⟨[],[],0⟩=O (.none,Ze t):=by(have s:Ç [.str t] [] ⟨[],[],0⟩=O (.none,⟨PS (.str (t++[0])),[],3⟩):=by show ax (Xx [.str t] [] ⟨[],[],0⟩) (λ_ a=>ax (pt pZ [0,21] 300 Sd ⟨j9 t,a⟩) λf s=>O (ku f,s.pg))=_;rw[show Xx [.str t] [] ⟨[],[],0⟩=_ from Lp b c];show ax (pt pZ [0,21] 300 Sd ⟨j9 t,⟨oR (.str oQ) (.str (t++[0])),[],0⟩⟩) (λf s=>O (ku f,s.pg))=_;rw[ĺ.ahi];rfl);show ax (Ç [.str t] [] ⟨[],[],0⟩) (λ_ a=>ax (pt pZ [0,21] 300 Se ⟨j9 t,a⟩) λf s=>O (ku f,s.pg))=_;rw[s];show ax (pt pZ [0,21] 300 Se ⟨j9 t,⟨PS (.str (t++[0])),[],3⟩⟩) (λf s=>O (ku f,s.pg))=_;rw[ĺ.ahj];rfl
def ad1{t:ae}(a:eZ t c)(h:19<=d):Sf [.str t] [] ⟨[],[],0⟩=O (.none,Ze t)/\∃e f,(pS d).av bP [] [] (Ze t)=O (e,f)/\∃i,uH (ev (pR d) qe · DF) (pt (pR d) qe g DG) 300 ⟨fH b [] e,f⟩=O (.next,⟨fH b c .none,i⟩):=⟨ad0 a.good (ay a.len (aO Z)),WI a h⟩
def aiT(P:lm)(d a c b:ii):I:=(oc ((KP P).lookup c) (λo=>oc (JU o) (λc=>oc (c[2]?:eU) (λw=>oc (strOf w) (λq=>(Hd.pw.main.file:lw)==q.1) J) J) J) J&&(oc ((KP P).lookup d) (λo=>a? (RK o=O (O (.ref a)))) J&&(oc ((KP P).lookup a) (λo=>(zH o).isSome) J&&(a? (mroIn (KP P) gI (.ref a)=O U)&&(!(Hd.pw.main.scope.names.lookup ("super":lw)).isSome&&(Xs (nsIn (KP P) cStatics "thirdparty.any")&& (oc (clsIn (KP P) gI) (λc=>a? (alongIn (KP P) (IN 41) ((c.mro.dropWhile (·!=.ref a)).drop 1)=O (O (.ref b)))) J&&oc ((KP P).lookup b) (λo=>a? (o.cls=.type "function")&&(EB o).isSome) J)))))))
def Xy(P:lm)(a b d c e:ii):I:=oc ((KP P).lookup a) (λo=>oc (EB o) (λa=>a? (a.closure.lookup ("__class__":lw)=O b)&&(a? (a.scope.names.lookup ("super":lw)=O .globalImplicit)&&(a? (a.scope.names.lookup ("__class__":lw)=O .free)&&(a? (((a.params.posonlyargs++a.params.args).head?).map (·.arg)=O (IN 0))&&(a? (a.code=.ref c)&&aiT P b d c e))))) J) J
structure aiU:Prop where
 x7:∀(P:lm),(Xy P 783 771 1281 782 682&&(Xy P 1312 1299 1521 1311 783&&(SQ P 682 kY&&(SQ P 783 jS&&SQ P 1312 pU))))=U
 ahl:∀(P:lm),(nsIn (KP P) np "super",m4 "super",(IN 41==("__class__":lw)),a? (("super":lw)=pi "__name__"))=(O C,O (.type "super"),J,J)
def tabS:aiU:=⟨λ_=>by kernel_rfl,λ_=>by kernel_rfl⟩
section
variable{w:t1}{h:ul}{y z:lw->eU}{ht:I}{par dG aG:ii}{A:v6}
def some_of{a:Type}{o:N a}(h:o.isSome):∃a,o=O a:=BM.mp h
def ad2{i:ii}(e:Xy P c d f g i){o:xL}{b:sB}(a:(KP P).lookup c=O o)(j:o.data=.func b):R8 (KP P) Hd.pw gI (IN 0) (IN 41) b d f g i:=jo e λc k e=>jo e λc l e=>ag e λc e=>ag e λd e=>ag e λf e=>ag e λg e=>ag e λi e=>ag e λm e=>ag e λn e=>ag e λp e=>ag e λr e=>ag e λs e=>ag e λt e=>ag e λu v=>by
 have q:=by have e:=sD l;rw[<-au (il a k),j]at e;exact(k7 e).symm
 rw[q]at c d f g i
 exact⟨aO c,aO d,aO f,aO g,aO i,jo m λo a h=>jo h λc d h=>jo h λw e h=>jo h λq f h=>⟨o,c,q.1,q.2,a,JW d,by rw[e,xU f],h⟩,jo n λo a h=>⟨o,a,Xp (aO h)⟩,jo p λo a h=>by
  obtain⟨c,d⟩:=some_of h;exact⟨o,c,a,By d⟩,aO r,not_of s,uG t,jo u λc d h=>⟨c,d,aO h⟩,jo v λo a h=>ag h λc d=>by
  obtain⟨b,e⟩:=some_of d;exact⟨o,b,a,aO c,sD e⟩⟩
variable(S:Start w h y z)
def Xz(A:v6)(a:ip 21 A):fT (gW w U par dG ht aG) (B0 h) A (.ref 682) [.ref par] Xx:=dc S (R6 20) sE a (λa r=>BD S 20 a r) (bO (bO (bO (tabS.x7 w.params)).2).2).1 (R7 Z)
def J4(o:20<=k)(i:ip (k+1) A){e j a l b:ii}{d:Def}(s:Xy w.params e j a l b)(m:SQ w.params e d)(p:d.params=[(0,C),(21,C)])(q:aq d.lv 21){g:Ev.S}(r:d.body=.cons (.expr (.sup 41 (.cons (.aR 21) .nil))) g){f:af->aY->PG->dR}(t:∀c:v6,ip k c->fT (gW w U par dG ht aG) (B0 h) c (.ref b) [.ref par] f):fT (gW w U par dG ht aG) (B0 h) A (.ref e) [.ref par] (BE (pS 20) d f g 300):=by obtain⟨b,g,b,j,a⟩:=EC S m;have n:=gE (tabS.ahl w.params);have f:=gE n.2;have n3:=gE f.2;have b:=R6 20;exact Sb a (kf S b.gs) S.jD (by rw[b.gl];exact ya S λx a h=>BC sE h) (λ_ h=>il (qq b.bU _) h) i (oV S) (λL=>Xv S b (i.bS (eN o)) (λc i=>BD S 20 c i) d g e L) Z p q r b.ro (ad2 s j a.data) n3.1 (xZ S).1 (mg_none_of S.jD S.g n.1) (xZ S).2 ((S.bi _ (of_decide_eq_false n3.2)).trans f.1) t 300
def XA(A:v6)(a:ip 23 A):fT (gW w U par dG ht aG) (B0 h) A (.ref 1312) [.ref par] Sf:=J4 S (aO Z) a (bO (bO (tabS.x7 w.params)).2).1 (bO (bO (bO (bO (tabS.x7 w.params)).2).2).2).2 Z Z adZ λ_ r=>J4 S (aO Z) r (bO (tabS.x7 w.params)).1 (bO (bO (bO (bO (tabS.x7 w.params)).2).2).2).1 Z Z adY λa r=>Xz S a r
end
def si:S:=yA 1 Ca
def Ĺ(d:W)(a:af)(b:aY)(c:PG):dR:=one a λv=>lc b (bn (dW v) λt=>ax (Sf [.str t] [] ⟨[],[],0⟩) λu a=>gd (dP u J (no:=U)) (ax (pt (pR d) qe 300 si ⟨[(236,.val (.str t)),(235,.val .par)],a⟩) λf _=>vN f C C λv=>gd (dat 20 v) (O (v,c)))) λ_ _=>C
abbrev ue:af->aY->PG->dR:=Ĺ 20
def SX(p:Pt):Pt:={p with ow:=λa=>mp (p.ow a) λ_=>.ck}
def tg(k:N Ow):N Ow:=bn k λk=>Ow.casesOn (motive:=λ_=>N Ow) k C aaM C C aaM C (O .ck)
def sF(q:Pt)(L:ii):Pt:=⟨{q.s with heap:=(q.h.push TD).push (c8 gI q.h.objs.size)},q.F,bQ (q.h.objs.size+1) (O .par) (bQ q.h.objs.size (O .dict) (bQ L (O .frame) λa=>tg (q.ow a)))⟩
def ad3(P:lm):(ty (KP P) (.ref gI) "__init__",typeIn (KP P) (.ref 1312),zn (KP P) (.ref gI) "__call__",oc ((KP P).lookup gI) (λo=>(zH o).isSome) J&&(SQ P (adr qn 262) iU&&uU qe si))=(O (O (.ref 1312)),O (.type "function"),O (O (.builtin "type.__call__")),U):=by kernel_rfl
def ad4(n:W):∀v,dat n v->∀w,Rd g F w v->Rd b F w v:=by
 induction n with
 |zero=>exact λv=>Vc (M:=λv=>dat 0 v=U->∀w,Rd g F w v->Rd b F w v) v (no:=λ_ _=>id) (bo:=λ_ _ _=>id) (i:=λ_ _ _=>id) (s:=λ_ _ _=>id)
 |succ n c=>
  have L:∀{l:af},aH _ l=U->∀a,cD g F a l->cD b F a l:=λ{l}=>by
   induction l with
   |nil=>exact λ_ _=>id
   |cons v l d=>exact λh a r=>cp h λe f=>my (c v e) (d f) a r
  exact λv=>Vc (M:=λv=>dat _ v=U->∀w,Rd g F w v->Rd b F w v) v (no:=λ_ _=>id) (bo:=λ_ _ _=>id) (i:=λ_ _ _=>id) (s:=λ_ _ _=>id) (tu:=λl h w=>by
   exact λr=>by obtain⟨b,a,m,e,f,z,r⟩:=r;exact⟨b,a,m,e,f,z,L h a r⟩) (ls:=λl h w=>by
   exact λr=>by obtain⟨b,a,m,e,f,z,r⟩:=r;exact⟨b,a,m,e,f,z,L h a r⟩)
def XB:dP u J (no:=U)=U->u=.none:=Vc (M:=λu=>dP u J (no:=U)=U->u=.none) u (no:=λ_=>Z)
section
variable{g:fC}{p p2:Pt}{pg i m:PG}{a:ii}{k:Ow}
def sI(h:(SX p).ow a=O k):k=.ck/\∃j,p.ow a=O j:=iJ h λj b e=>⟨e.symm,j,b⟩
def XC(h:p.ow a=C):(SX p).ow a=C:=by show mp (p.ow a) _=C;rw[h];rfl
def ad5(h:p.ow a=O k):(SX p).ow a=O .ck:=by show mp (p.ow a) _=_;rw[h];rfl
def J5(x:Own p):Own (SX p):=⟨λa o f=>⟨(x.fz a o f).1,XC (x.fz a o f).2⟩,λa k h=>by obtain⟨_,j,h⟩:=sI h;exact x.sJ a j h,λa b k h _ n=>ch (sI h).1 n⟩
def ĸ:pF (SX p):=λa=>by cases h:(SX p).ow a with|none=>rfl|some k=>rw[(sI h).1];rfl
def aho(x:Own p)(b:g.dj=J)(c:g.rC=J):qQ g (SX p) pg:=⟨J5 x,λe=>ao (il b e),λe=>ao (il c e)⟩
def XD(x:qQ g p pg)(l:pF p)(e:uT (SX p) i p2 m)(c:Own p2):pF {p2 with ow:=p.ow}/\uT p pg {p2 with ow:=p.ow} pg/\qQ g {p2 with ow:=p.ow} pg:=by
 have b:∀a o,p.h.get? a=O o->p2.h.get? a=O o:=λa o h=>e.keep a o h (by
  cases q:(SX p).ow a with
  |none=>rfl
  |some k=>rw[(sI q).1];rfl)
 have d:Own {p2 with ow:=p.ow}:=⟨λa o f=>⟨(c.fz a o f).1,by
  cases q:p.ow a with
  |none=>rfl
  |some k=>exact aa ((c.fz a o f).2.symm.trans ((e.ck a).mp (ad5 q)))⟩,λa k h=>by
  obtain⟨o,c⟩:=x.own.sJ a k h;exact⟨o,b a o c⟩,x.own.inj⟩
 exact⟨l,⟨e.le,e.sh,λa o h _=>b a o h,λa o h=>⟨o,b a o h⟩,λ_ _ _=>.inl Z,λ_=>.rfl,λ_=>.rfl,aU _,λ_=>⟨λ_=>Z,λ_ _=>id⟩⟩,x.to d (λa _ o _ _=>b a o) (λ_ _ h _=>h) e.le⟩
end
section
variable{w:t1}{q e:Pt}{L a:ii}{k:Ow}{pg:PG}{ro:I}
def mU(h:tg j=O k):k=.ck/\j=O .ck:=bL h λj b e=>by rw[b];revert e;exact Ow.casesOn (motive:=λj=>Ow.casesOn (motive:=λ_=>N Ow) j C aaM C C aaM C (O .ck)=O k->k=.ck/\O j=O .ck) j aa bX aa aa bX aa λe=>⟨(au e).symm,Z⟩
def sN{k:Ow}(e:O j=O k)(n:j≠k):Ch:=n (au e)
def uf(o:xL)(e:q.h.get? a=O o):(sF q L).h.get? a=O o:=hJ _ (hJ _ e)
def Zf:(sF q L).h.get? q.h.objs.size=O (fE [] 0):=hJ _ (gZ q.h Z)
def Zg:(sF q L).h.get? (q.h.objs.size+1)=O (lb gI q.h.objs.size):=by have:=gZ (q.h.push TD) (o:=c8 gI q.h.objs.size) Z;rwa [sP]at this
variable(O:Own q)
def Sg(e:q.ow a=some k):(sF q L).ow a=bQ L (some .frame) (λa=>tg (q.ow a)) a:=have n:∀{b},q.h.objs.size<=b->a≠b:=λl z=>aa (il (O.new l) (z▸e));(bp (n (iI _))).trans (bp (n (aU _)))
variable(oL:q.ow L=some .frame)
def Si:(sF q L).ow L=some .frame:=(Sg O oL).trans dS
def XE:Own (sF q L):=by
 have b:∀{a},q.h.objs.size<=a->∀o,¬q.F a o:=λl o f=>aa (il (ju l) (O.fz _ _ f).1);obtain⟨c,c⟩:=O.sJ _ _ oL
 have d:Own ⟨(sF q L).s,q.F,λa=>tg (q.ow a)⟩:=⟨λa o f=>⟨uf (L:=L) o (O.fz _ _ f).1,by
  show tg (q.ow a)=C;rw[(O.fz _ _ f).2];rfl⟩,λa k h=>by
  obtain⟨o,g⟩:=O.sJ a _ (mU h).2;exact⟨o,uf (L:=L) o g⟩,λa g k h _ n=>ch (mU h).1 n⟩
 exact((d.give (t:=L) (k:=.frame) (uf (L:=L) _ c) (λo f=>aa ((O.fz _ _ f).2.symm.trans oL)) λa z=>bx Z (mU z).1).give (t:=q.h.objs.size) (k:=.dict) (Zf (L:=L)) (b (aU _)) λa z=>(aJ z).elim (λz=>sN z.2 (bx Z)) λz=>bx Z (mU z.2).1).give (t:=q.h.objs.size+1) (k:=.par) (Zg (L:=L)) (b (iI _)) λa z=>(aJ z).elim (λz=>sN z.2 (bx Z)) λz=>(aJ z.2).elim (λz=>sN z.2 (bx Z)) λz=>bx Z (mU z.2).1
def ad6:qQ (gW w U (q.h.objs.size+1) q.h.objs.size J 0) (sF q L) ⟨[],[],0⟩:=⟨XE O oL,λ_=>⟨dS,(bp (nO (nN _))).trans dS,Zg,[],0,⟨Zf,Z,eG _,λ_ h=>ch h cr,λ_=>Z⟩⟩,λh=>ao h⟩
def XF(x:Ext (EE ro) e pg q pg)(b:∀a k,e.ow a=some k->(a≠L/\k=.ck)∨(a=L/\k=.frame))(g:e.ow L=some .frame):Ext (lg ro) e pg (sF q L) pg:=by have i:∀{a k},e.ow a=some k->a≠L->q.ow a=some .ck->(sF q L).ow a=some .ck:=λh n z=>(Sg O z).trans ((bp n).trans (by show tg (q.ow _)=_;rw[z];rfl));have bk:∀{a k},(sF q L).ow a=some k->k=.ck->q.ow a=some .ck:=λz c=>(aJ z).elim (λz=>(sN z.2 (by rw[c];exact bx Z)).elim) λz=>(aJ z.2).elim (λz=>(sN z.2 (by rw[c];exact bx Z)).elim) λz=>(aJ z.2).elim (λz=>(sN z.2 (by rw[c];exact bx Z)).elim) λz=>(mU z.2).2;have c:∀{a},(sF q L).ow a=some .frame->a=L:=λz=>(aJ z).elim (λz=>(sN z.2 (bx Z)).elim) λz=>(aJ z.2).elim (λz=>(sN z.2 (bx Z)).elim) λz=>(aJ z.2).elim (λz=>z.1) λz=>(bx Z (mU z.2).1).elim;refine⟨x.le,ah (λs:ge=>({s with heap:=(sF q L).s.heap}:ge)) x.sh,λa o h k=>uf o (x.keep a o h (Ci k)),λa o h=>?_,λa o h=>?_,λa=>⟨λh=>i h (λz=>sN (il (z▸h) g) (bx Z)) ((x.ck a).mp h),λh=>(x.ck a).mpr (bk h Z)⟩,λa=>⟨λh=>(b a _ h).elim (λz=>(bx Z z.2).elim) λz=>by rw[z.1];exact Si O oL,λh=>by rw[c h];exact g⟩,aU _,λ_=>⟨λ_=>Z,λa t h=>(b t _ h).elim (λz=>(bx Z z.2).elim) λz=>(bx Z z.2).elim⟩⟩;obtain⟨d,f⟩:=x.ex a o h;exact⟨d,uf d f⟩;cases z:e.ow a with|some k=>refine(b a k z).elim (λy=>.inl ?_) λy=>.inl ?_;rw[y.2]at z ⊢;exact i z y.1 ((x.ck a).mp z);rw[y.1,y.2];exact Si O oL|none=> refine .inr ?_;have b:q.ow a=C:=(x.to a o h).elim (λy=>y.trans z) id;have nL:a≠L:=λy=>aa (il b (y▸oL));obtain⟨d,f⟩:=x.ex a o h;have c:=pK f;exact(bp (nO (Nat.lt_succ_of_lt c))).trans ((bp (nO c)).trans ((bp nL).trans (by show tg (q.ow a)=C;rw[b];rfl)))
end
section
variable{w:t1}{h:ul}{mg mb:lw->eU}{ht:I}{par dG aG:ii}{A:v6}
abbrev XG(w:t1):fC:=gW w J 0 0 J 0
abbrev F2(w:t1)(x d:ii):fC:=gW w U x d J 0
abbrev cR(w:t1)(h:ul)(A:v6)(fd:sB)(L:ii)(g:fC):Cx:=AD A (KP w.params) g (pS 20) (B0 h) iU fd (adr qn 262) L
theorem Sj(S:Start w h mg mb)(i:ip 40 A):fT (gW w J par dG ht aG) (B0 h) A (.ref (adr qn 262)) [] ue:=λas ks pg v pg' e p a kws l x j r a R q=>ym e λv0 b e=>lh e λd e=>bL e λt f e=>aQ e λa' g k e=>bW e λhu e=>aQ e λfl σ' e2 e=>by have z:=gE (ad3 w.params);have G:=gE z.2;have H:=gE G.2;refine ag H.2 λzc n=>ag n λn zl=>?_;rw[b,gp f]at r;rw[d]at a;have g:dq (B0 h) p.h:=λd o e=>(x.own.fz d o (j _ _ e)).1;obtain⟨o,fd,body,ho,b⟩:=EC (hp:=J) (par:=0) (dG:=0) (ht:=J) (aG:=0) S n;have f:=R6 20;have s:=i.bS (show 21<=40 by decide);obtain⟨binds,u,y,B,B⟩:=J3 (A:=A) (K:=KP w.params) (G:=pS 20) (p:=SX p) (pg:=⟨[],[],0⟩) (as:=[.str t]) (b:=[(236,.str t)]) b Hn Z r ⟨a.1,a.2⟩ j ĸ (aho x.own Z Z);refine EP (fd:=fd) (body:=body) (binds:=binds) (qX (nN _) (qX (nN _) i.two)) (g _ _ b.at_) b.data (oV S _ g) (b.code _ g) b.A2 u b.cell y (λg a K=>?_) b.co b.bD b.kind;let c:Cx:=cR w h A fd p.h.objs.size (XG w);have r:=B g a K;change bC c _ _ at r;(refine wq (M:=M' c) (A:=c.A) (m:=e0 body c.env) λQ E hQ=>?_;have L:∀{hp par dG},iW (gW w hp par dG J 0) (B0 h) (pS 20).gl:=by rw[f.gl];exact ya S λx b h=>BC sE h);have M:∀d,(pS 20).bw d=U->fM d:=λ_ h=>il (qq f.bU _) h;have u:c.OK:=Iy b (kf S f.gs) S.jD L M s p.h.objs.size;have Q:c.Calls:=Xv S f s (λB r=>BD (hp:=J) (par:=0) (dG:=0) (ht:=J) (aG:=0) S 20 B r) iU fd (adr qn 262) p.h.objs.size;obtain⟨a,es1,j,a,hb1⟩:=lT (x:=.set [235] (.bF 237 (.cons (.aR 236) .nil) [] .nil)) (xs:=si) b.is;rw[j];refine rO (f:=λj v _=>bV IN [235] j&&eK IN (.bF 237 (.cons (.aR 236) .nil) [] .nil) v&&!([235]:ae).isEmpty&&d5 v) a λj ev j R a=>ag a λa j=>ag a λa _=>ag a λa i2=>mG (c:=c) a λy1 T V y=>?_;obtain⟨a,as',E,E,E,i2⟩:=uw (f:=λa as kws p=>nu a (λa=>iD IN 237 a&&LS a)&&pz IN (.cons (.aR 236) .nil) as&&oe IN [] kws&&pz IN .nil (kws.map (λP:wn=>P.value))) i2;refine ag i2 λi2 j4=>ag i2 λi2 j3=>ag i2 λj1 j2=>?_;obtain⟨a,F,F,j1⟩:=kF j1;refine ag j1 λj1 j5=>?_;rw[R,V,(cO.mp y:T=[]),E,F,show a=IN 237 from aO j1,cO.mp j3];rw[E,F,show a=IN 237 from aO j1,cO.mp j3]at j;have GL:=(bz u Q (.cons (.aR 236) .nil)).2 as' j2;refine yI (zT (yP (qY ?_ (not_of (show(!(IN 237==("__debug__":lw)))=U by kernel_rfl)))) (jf j));refine CK b.kind (b.gv 237 Z) (l2 (env:=Tm fd p.h.objs.size (adr qn 262)) (by show g.Ns fd.globals mg;rw[b.globals];exact(xZ S).1 _ r.Tu) (JZ S (ai (fm.R0 w.params) gY)) ?_);refine qE (kxs:=yf) (kws:=[]) (ks:=[]) (kvs:=[]) (kw:=[]) (vs:=[.str t]) (σ1:=⟨[(236,.val (.str t))],⟨[],[],0⟩⟩) (σ2:=⟨[(236,.val (.str t))],⟨[],[],0⟩⟩) (first:=[]) GL.pl (λ_=>⟨Z,Z,Z⟩) GL.l Aj (mS (Zd Z Z)) Z Z r λp4 E a g r4 rk4=>?_;have j:=u.In g.rel;obtain⟨⟨a,Q,R,T,V⟩,u,F⟩:=p4;rw[vD.mp rk4.1];refine⟨⟨.machine,λE' Q' q'=>jo zc λoC hoC hc=>?_⟩,sR ?_⟩;obtain⟨cd,hcd⟩:=some_of hc;unfold o1;refine bR (qs (j _ _ hoC) ?_);rw[By hcd];exact bR ((ö j H.1).here (cP q'));refine make_core (makes_of j (bO (bO (bO (bO (fm.xX w.params)).2).2).2).1) (qo j z.1) (λH=>bind_fn j H G.1) (.inl Z) ?_;have oL:F p.h.objs.size=O .frame:=g.rel.kx;have G:=g.rel.pg.own;have j:ip 23 ((A.deeper (Tm fd p.h.objs.size (adr qn 262))).under (.builtin "type.__call__" ⟨.ref gI::E,[]⟩)):=⟨by have:=i.depth;show A.depth+1+1+10+23<Fa;lia,by have:=i.units;show A.units+3+1+100+3*23<RT;lia,i.handled⟩;let i:Cx:={cR w h A fd p.h.objs.size (F2 w (a.objs.size+1) a.objs.size)with A:=(A.deeper (Tm fd p.h.objs.size (adr qn 262))).under (.builtin "type.__call__" ⟨.ref gI::E,[]⟩)};(have H:bC i (sF ⟨⟨a,Q,R,T,V⟩,u,F⟩ p.h.objs.size) ⟨[(236,.val (.str t))],⟨[],[],0⟩⟩:=by refine⟨ad6 G oL,Si G oL,?_,g.rel.base⟩;obtain⟨m,y,hl⟩:=g.rel.loc;refine⟨m,y.keeps λd o e=>uf (q:=⟨⟨a,Q,R,T,V⟩,u,F⟩) o e,λy=>?_⟩;by_cases i:ac 236 y=U;have:=hl y;rw[fF i]at this ⊢;exact this;rw[dH (d8.mpr i)];exact trivial);refine call_K (pre:=[.ref (a.objs.size+1)]) Z H (XA S _ j) k (show cD (F2 w (a.objs.size+1) a.objs.size) u E [.str t]from r4) (show oy (F2 w (a.objs.size+1) a.objs.size) u [] []from⟨Z,Z⟩) _ λo t i j=>⟨?_,?_⟩;have j:Rd (F2 w (a.objs.size+1) a.objs.size) o.F t a':=j;rw[XB hu]at j;exact j;obtain⟨j,o,j,t,j⟩:=EC (hp:=U) (par:=a.objs.size+1) (dG:=a.objs.size) (ht:=J) (aG:=0) S n;(have n:o=fd:=by have k:=j.data;rw[au (il t ho),b.data]at k;exact(k7 k).symm);rw[n]at j;let c1:Cx:=cR w h A fd p.h.objs.size (F2 w (a.objs.size+1) a.objs.size);have b:c1.OK:=Iy j (kf S f.gs) S.jD L M s p.h.objs.size;have j:c1.Calls:=Xv S f s (λB r=>BD (hp:=U) (par:=a.objs.size+1) (dG:=a.objs.size) (ht:=J) (aG:=0) S 20 B r) iU fd (adr qn 262) p.h.objs.size;refine iV (c:=c1) (v:=.par) b ⟨i.rel.pg,i.rel.kx,i.rel.loc,i.rel.base⟩ (show aq iU.lv 235 from Z) ⟨Z,Z⟩ λf a=>?_;refine(oB 300 si _ b j zl).2 es1 hb1 f _ fl σ' e2 a.rel _ _ λf b b j=>?_;have k:=(XF (ro:=J) G oL g.ext (λd P e=>(aJ e).elim (λz=>.inr ⟨z.1,(au z.2).symm⟩) λz=>.inl ⟨z.1,(sI z.2).1⟩) dS).trans Z ((i.ext.weak λ_=>Ci).trans Z (a.ext.trans Z b.ext));have X:=leave ĸ (J5 x.own) K k;obtain⟨d,g,i⟩:=XD x l X (AG b.rel.pg).own;refine hQ _ _ ?_;refine te j (λa _=>?_) (λa _=>?_) λy z a b j=>?_;rw[a]at e;exact aa e;rw[a]at e;exact aa e;rw[a]at e;refine bW (show gd (dat 20 y) (O (y,pg))=O (v,pg')from e) λa e=>iy e λe hp=>?_;rw[b];rw[<-hp,<-e]at q;exact q {off f with ow:=p.ow} z d g i (ad4 20 y a z j)
end
section
variable{d:W}{pg:PG}{t:ae}{i:af}
def ahp(g:(pS d).av bP [] [] (Ze t)=O (e,a))(h:uH (ev (pR d) qe · DF) (pt (pR d) qe 300 DG) 300 ⟨fH (.str t) [] e,a⟩=O (.next,⟨fH (.str t) i .none,b⟩)):∃b,pt (pR d) qe 300 si ⟨[(236,.val (.str t)),(235,.val .par)],Ze t⟩=O (.ret (.lst i),b):=by
 have b:ev (pR d) qe J Ln ⟨[(236,.val (.str t)),(235,.val .par),(238,.own [])],Ze t⟩=O (e,⟨[(236,.val (.str t)),(235,.val .par),(238,.own [])],a⟩):=by unfold Ln;rw[Dx Z Z PK qc Z,show(pR d).av bP [] [] (Ze t)=O (e,a)from g];rfl
 exact⟨_,cY (cY (cY (JD Z Z) h) (dI b Z)) Z⟩
def Hj(b:eZ t i)(h:dat 20 (.lst i))(c:19<=d):Ĺ d [.str t] [] pg=O (.lst i,pg):=by refine gq λP e=>?_;obtain⟨g,a,a,g1,f,f⟩:=ad1 b c;obtain⟨b,R⟩:=ahp g1 f;refine e ?_;show ax (Sf [.str t] [] ⟨[],[],0⟩) (λu a=>gd (dP u J (no:=U)) (ax (pt (pR d) qe 300 si ⟨[(236,.val (.str t)),(235,.val .par)],a⟩) λf _=>vN f C C λv=>gd (dat 20 v) (O (v,pg))))=_;rw[g];show ax (pt (pR d) qe 300 si ⟨[(236,.val (.str t)),(235,.val .par)],Ze t⟩) (λf _=>vN f C C λv=>gd (dat 20 v) (O (v,pg)))=_;rw[R];exact agn h
def Zh:Ru ue:=⟨λa h=>Hj a h (aO Z)⟩
end
section
variable{c:Cx}{p:Pt}{σ σ1:St}{E:aT}{cv:ae}{gi gl1:jP}{elt it:X}{y x:W}{cs:ae}{rs:af}
def ED(s:c.OK)(u:c.eV)(A:c.G.sup=λ_ _ _=>C)(t:kR c cv gi gl1)(j:c.G.ro=J){k d:Expr}{i:c7}{l o:ww}(e:rR c.G gi cv elt y it cs c.lv σ=O (.lst rs,σ1))(H:eK c.g.nm elt k)(F:eK c.g.nm it d)(v:D2 c.g.nm elt y cs i)(z:n9 d)
 (G:bC c p σ){r:N (bv->e5 df)}{Q:aT}(q:∀f h a B b g n m,Nx c p σ.pg f h->oA c (EE J) [a,B] f h.pg b σ1->f.h.get? a=C->f.h.get? B=C->a≠B->b.h.get? a=O (eE g n)->jV g->cD c.g b.F g rs->b.h.Ns B m->compPost (M' c) c.A E r Q (.ref a) B (.ok .next) b.s):
  he (M' c) c.A (õ (.ListComp k [⟨.Name (c.g.nm y) l,d,[],0⟩] i o) i c.env (firstIterPos [⟨.Name (c.g.nm y) l,d,[],0⟩] o) (newList []) J (Db d c.env) r) Q E p.s:=
 bW e λi e=>aQ e λd h k e=>aQ e λd d l e=>iy e λo r=>by
  have d:=N5 v
  obtain⟨e,v,K⟩:=xd λp w L=>by obtain⟨M,e,P⟩:=d.free p w L;refine ag i λw _=>ag (ai w e) λL Q=>?_;obtain⟨w,R⟩:=BM.mp Q;obtain⟨Q,_,S,_⟩:=t.cell M w L R;exact⟨Q,P▸S⟩
  refine j_ Z (lQ z) v d.kind d.names (CP s (u.x9 A) j k F G λf k n k k v z=>?_);obtain⟨A,P,A,A,w,F⟩:=v;refine xc j A w z F k.rel d.cell d.kind d.S' (G':=UC c.G gi elt) j (λB=>(bz (N7 s t d i K B) u.Ux elt).1 _ H) l λa B b g n m L d fB i j e l s=>?_;exact q f h a B b g n m k (r▸L) d fB i j e ((au (ah jc o))▸l) s
def Sk(g:c.OK)(P:c.eV)(R:c.G.sup=λ_ _ _=>C)(S:kR c cv gi gl1)(H:c.G.ro=J){i:a9}(V:aq c.lv x)(r:XU c.g.nm (.setC x elt y it cs) i)(t:rR c.G gi cv elt y it cs c.lv σ=O (.lst rs,σ1))(T:bC c p σ){Q:yn}
 (q:∀b f n u m j s,(∀a o,p.h.get? a=O o->EE J (p.ow a)->a≠c.L->j.get? a=O o)->p.h.get? b=C->b≠c.L->j.get? b=O (eE f n)->jV f->cD c.g u f rs->j.Ns c.L m->m (c.g.nm x)=O (.ref b)->Q .next {p.s with heap:=j,toks:=s}):he (M' c) c.A (exec i c.env) Q E p.s:=by
 refine rO r λu u spos hs' r=>ag r λu hE=>qH u λX ht u=>?_;obtain⟨X,p0,hn,u⟩:=kF u;rw[hs',ht,hn,g6 u];obtain⟨a,u,sc,pos,u,r⟩:=MA hE;refine AJ r λpx iter r h1 j h h4=>?_;rw[u,r]
 have fin:∀{k v b B d f n h mL},Nx c p σ.pg k v->oA c _ [b,B] k v.pg d σ1->k.h.get? b=C->d.h.get? b=O _->jV f->cD c.g d.F f rs->(∀a,a≠c.L->a≠B->h.get? a=d.h.get? a)->b≠B->k.h.get? B=C->h.Ns c.L mL->mL (c.g.nm x)=O _->∀s,Q .next {d.s with heap:=h,toks:=s}:=λ{k v b B d f n h mL}e L l w A F r G fB Q hm s=>by
  have sh:d.s={p.s with heap:=d.h,toks:=d.s.toks}:=(L.ext.sh).trans (ah (λX:ge=>{X with heap:=d.h,toks:=d.s.toks}) e.ext.sh);have X:=e.rel.kx
  have u:b≠c.L:=λz=>by obtain⟨o,K⟩:=e.rel.pg.own.sJ _ _ X;exact aa (il l (z▸K))
  rw[sh];refine q b f n d.F mL h s (λa o i s nL=>?_) ?_ u ((r b u G).trans w) A F Q hm
  ·have t:=e.ext.keep a o i (H.symm▸s)
   have z:=(e.ext.to a o i).elim (λz=>z.symm▸s) λz=>z.symm▸Z;exact(r a nL λz=>aa (il fB (z▸t))).trans (L.ext.keep a o t z)
  ·cases i:p.h.get? b with
   |none=>rfl
   |some o=> obtain⟨r,K⟩:=e.ext.ex b o i;exact aa (il l K)
 obtain⟨M,hb⟩:∃M,lN (.ListComp a [⟨.Name (c.g.nm y) px,iter,[],0⟩] sc pos) (O (.Name (c.g.nm x) p0)) spos.line c.env=H1 M:=⟨_,Z⟩
 induction M with
 |false=> refine zT ?_ hb;refine ED g P R S H t h1 j h h4 T λk v b B d f n m e L l fB G w A F u=>?_;refine⟨m,u,λM o=>?_⟩;obtain⟨mL,nL,_⟩:=L.rel.loc;have s:c.L≠B:=λz=>bx Z (au (il (z▸L.rel.kx) (L.ck B aaz)));refine BP (g.loc x V) (g.locals▸nL.sameBut o s) (λh n3 r=>?_) (mF g);rw[g.locals]at n3 r;exact fin e L l w A F (λa e K=>(r.2 a e).trans (o.2 a K)) G fB n3 (eP Z) _
 |true=> rw[nq _ _ _ _ hb];refine bR (uk (bR ?_));refine bR (jv (ED g P R S H t h1 j h h4 T λk v b B d f n m e L l fB G w A F u=>?_) (λ_ b b=>cP (cP b)) λ_ _ i=>i);obtain⟨mL,nL,_⟩:=L.rel.loc;have s:c.L≠B:=λz=>bx Z (au (il (z▸L.rel.kx) (L.ck B aaz)));refine zI (BP (g.loc x V) (g.locals▸nL) (λM n3 o=>?_) (mF g));rw[g.locals]at n3 o;refine⟨m,u.sameBut o λz=>s z.symm,λh r=>?_⟩;exact fin e L l w A F (λa e K=>(r.2 a K).trans (o.2 a e)) G fB (n3.sameBut r s) (eP Z) _
end
def Zi(B:S):I:=S.casesOn (motive:=λ_=>I) B J (λ_ _=>U) aaE aaE J J (λ_ _=>J) (λ_ _ _ _ _=>J) (λ_ _=>J) (λ_ _ _=>J) (λ_ _ _=>J) (λ_ _=>J) (λ_ _ _=>J) (λ_ _ _ _=>J) (λ_ _ _=>J) (λ_ _=>J) (λ_ _ _=>J) aaE aaE J
def Sl(a:ae)(k:W):S->I:=ut (motive:=λ_=>S->I) aaF (λ_ b B=>Zi B&&(uU a (xN B).1&&b (xN B).2)) k
def XH(p:Pt)(L:ii):Pt:=⟨{p.s with heap:={p.s.heap with objs:=#[]} },λ_ _=>Ch,bQ L (O .frame) λ_=>C⟩
def XI(h:Zi B):B=.cons (xN B).1 (xN B).2:=by induction B with|cons a b _=>rfl|_=>exact ao h
section
variable{c:Cx}{p:Pt}{v w:St}{E:aT}{n:W}{a:ii}{Q:yn}
def So(h:c.OK)(i:c.Calls)(j:c.G.ro=J):∀(k:W){B:S}{d:b9}{p:Pt}{v:St},Sl c.lv k B->lI c.g.nm B d->stK c.G c.lv n k B v w->bC c p v->(∀e f,lI c.g.nm (yA k B) f->bC c e w->Ext (lg J) p v.pg e w.pg->he (M' c) c.A (e0 f c.env) Q E e.s)->he (M' c) c.A (e0 d c.env) Q E p.s:=by
 intro k
 induction k with
 |zero=> intro B d p v _ b g r H;rw[g]at r H;exact H p d b r .refl
 |succ k l=> intro B d p v d b g r H;refine ag d λc1 d=>ag d λk d=>?_;obtain⟨m,o,q⟩:=g;have g:=XI c1;rw[g]at b;obtain⟨g,s,s,t,b⟩:=lT b;rw[s];refine yI ((oB n (xN B).1 c h i k).1 g t p v .next m o r _ _ λg g i g=>te g (λ_ k=>?_) (λg _=>ao (ah (λh=>vN h J U λ_=>J) g)) λ_ _ g _ _=>ao (ah (λh=>vN h J J λ_=>U) g));rw[k];exact l d b q i.rel λe f b d g=>H e f b d ((j▸i.ext).trans Z g)
def Ho(h:(XH p L).ow b=O j):b=L/\j=.frame:=(aJ (show bQ L _ aaM b=O j from h)).elim (λz=>⟨z.1,(au z.2).symm⟩) λz=>aa z.2
def BI.mk0(r:bC c p v)(f:p.ow a=O .ck)(i:∀b,p.ow b=O .ck->b=a):(∀b∈[a],(XH p c.L).h.get? b=C)/\BI c [a] (XH p c.L) v.pg p v:=by have d:∀b,(XH p c.L).h.get? b=C:=λb=>ju (eG _);have nL:c.L≠a:=λq=>bx Z (au (il (q▸r.kx) f));have u:∀b,b≠a->(un [a] p).ow b=p.ow b:=λb h=>nC λm=>h (eC.mp m);have g:(un [a] p).ow a=C:=w6 gY;refine⟨λb _=>d b,r,⟨λ_ _ h=>h.elim,Z,λb o e=>aa (il (d b) e),λb o e=>aa (il (d b) e),λb o e=>aa (il (d b) e),λb=>⟨λh=>(bx Z (Ho h).2).elim,λh=>?_⟩,λb=>⟨λh=>?_,λh=>?_⟩,aU _,λ_=>⟨λ_=>Z,λb t h=>(bx Z (Ho h).2).elim⟩⟩,λb m=>eC.mp m▸f⟩;by_cases q:b=a;rw[q,g]at h;exact aa h;exact ch (i b (il (u b q) h)) q;rw[(Ho h).1,u _ nL];exact r.kx;by_cases q:b=a;rw[q,g]at h;exact aa h;rw[r.pg.own.inj b c.L .frame (il (u b q) h) r.kx (λz=>bx Z z)];exact(dS:bQ c.L _ aaM c.L=_)
end
def Sq:X:=.bin .Mod (.aR 212) (.int 27720)
def Ĝ:X:=.cut (.aR 242) .nil (.int 12)
def J6(a:Y D):ae:=(a.take 12).map λi=>(TE i 27720).toNat
abbrev LN(d:W):jP:=yg (Bu ue (d+5)).gl [267]
def ad7:(Sl g9 12 yE&&(Sl g9 6 (yA 13 yE)&&uU g9 (yA 19 yE))):=by kernel_rfl
section
variable{f:Y D}{G:cQ}{pg:PG}{d:W}
def aiV(d:W):H4 pD (Bu ue d):=⟨(Ľ d).to Z,(LM d).gl,(LM d).bU,(LM d).sup,(LM d).comp,(LM d).ro⟩
def aiW(i:D):ev (UC G a Sq) [212] J Sq ⟨[(212,.val (.int i))],pg⟩=O (iv (TE i 27720).toNat,⟨[(212,.val (.int i))],pg⟩):=(show O (V.int (TE i 27720),St.mk [_] pg)=_ by rw[show V.int (TE i 27720)=iv (TE i 27720).toNat from ah V.int (yL (Int.emod_nonneg _ (aO Z))).symm])
def ahq(l:Y D):CM (sk (ev (UC G a Sq) [212] · Sq) 212) (l.map V.int) pg=O ((l.map λi=>(TE i 27720).toNat).map iv,pg):=by induction l with|nil=>rfl|cons i l c=>show ax (sk (ev (UC G a Sq) [212] · Sq) 212 (.int i) pg) (λv pg=>ax (CM _ _ pg) λb pg=>O (v::b,pg))=_;(have e:sk (ev (UC G a Sq) [212] · Sq) 212 (.int i) pg=O (iv (TE i 27720).toNat,pg):=by show ax (ev _ [212] J Sq ⟨[_],pg⟩) (λv s=>O _)=_;rw[aiW];rfl);rw[e];show ax _ (λb pg=>O (_::b,pg))=_;rw[c];rfl
def ad8:rR (GW ue d) (LN d) [33] Sq 212 Ĝ [] g9 ⟨[(242,.val (.lst (f.map .int)))],pg⟩=O (.lst ((J6 f).map iv),⟨[(242,.val (.lst (f.map .int)))],pg⟩):=by show ax (ax (O (V.lst _,St.mk [_] pg)) λv s=>bn (jc v) λa=>gd _ (O (a,s))) (λa s=>ax (CM _ a s.pg) λb pg=>O (V.lst b,(⟨s.loc,pg⟩:St)))=_;rw[<-List.map_take];show ax (gd (bd (ak ((f.take 12).map V.int)) 1000) (O ((f.take 12).map V.int,St.mk [_] pg))) (λa s=>ax _ λb pg=>O _)=_;rw[aB,jb,Mm,hH (ay (Nat.min_le_left _ _) (aO Z))];show ax _ (λb pg=>O (V.lst b,(⟨[_],pg⟩:St)))=_;rw[ahq];rfl
def ahr{l:ae}:∀{a},cD g F a (l.map iv)->cD b c a (l.map iv):=by induction l with|nil=>exact id|cons n l e=>exact λr=>my (λ_=>id) (λ_=>e) _ r
end
def SY(a b:ge):=b={a with heap:=b.heap,toks:=b.toks}
def SY.trans(h:SY a b)(k:SY b c):SY a c:=l? k (by rw[show b={a with heap:=b.heap,toks:=b.toks}from h])
section
variable{w:t1}{h:ul}{mg mb:lw->eU}{ht:I}{par dG aG:ii}{A:v6}{d:W}
def ad9(S:Start w h mg mb)(i:d+5<=40)(a:ip 40 A):LO w h J par dG ht aG (Bu ue (d+5)) A:=⟨λ_ h=>ao h,λj k b c f v g e=>jj e (λl e=>by rw[aK l];exact Sj S a b c f v g e) λ_ e=>(adW S (d+5) A (a.bS i)).2 j k b c f v g e⟩
def Sr(d:W)(E:d+5<=40){s:ge}(S:Start w s.heap mg mb)(m:ip 41 A){sa:ii}{l:aP}{n:W}{k:Y D}(K:s.heap.get? sa=O (eE l n))(L:jV l)(Q:cD (XG w) (B0 s.heap) l (k.map .int)){R:ep->ge->Prop}
 (q:∀j u,(∀a o,s.heap.get? a=O o->j.get? a=O o)->R (.ok (.ret (.bool U))) {s with heap:=j,toks:=u}):Uf (WF Hd.pw w) A (.call (.ref (adr qn 286)) ⟨[.ref sa],[]⟩) R s:=jo (fm.adL w.params) λo ho t=>by
 refine gq λP V=>?_;have con:=bO ad7;have con2:=bO con.2;obtain⟨fd,body,g,hb⟩:=Zb (g:=XG w) (B:=B0 s.heap) Z S.jD ho t;have i:=aiV (d+5);have B:dq (B0 s.heap) s.heap:=λ_ _ e=>e;have x0:qQ (XG w) ⟨s,B0 s.heap,λ_=>C⟩ ⟨[],[],0⟩:=⟨⟨λ_ _ e=>⟨e,Z⟩,λ_ _=>aa,λ_ _ _=>aa⟩,ao,ao⟩;have r:∀{ht aG},iW (gW w J 0 0 ht aG) (B0 s.heap) (Bu ue (d+5)).gl:=by rw[i.gl];exact ya S λx g h=>BC J2 h
 have isA:∀a,(Bu ue (d+5)).bw a=U->fM a:=λ_ h=>il (qq i.bU _) h;have R:∀{ht aG},(F? A (KP w.params) (gW w J 0 0 ht aG) (GW ue d) g9 fd (adr qn 286) (B0 s.heap) s.heap.objs.size).eV:=ļ S i.gs (m.deeper _) (ad9 S E (m.deeper _));have hgi:∀z,aq [33] z->aq [267] z=J:=λz h=>by rw[eC.mp (fU h)];rfl
 obtain⟨E,T,E,G⟩:=xa (s:=s) (fd:=fd) (p1:=[(242,C)]) (p2:=[]) (g:=XG w) (F:=B0 s.heap) Hn (show pQ [(242,C)] [.lst (k.map .int)] []=O [(242,.lst (k.map .int))]from Z) (mV.mpr ⟨cr,zU⟩) (show cD (XG w) (B0 s.heap) [.ref sa] [.lst (k.map .int)]from⟨_,_,Z,⟨sa,l,n,Z,K,L,Q⟩,Z⟩) (show oy (XG w) (B0 s.heap) [] []from⟨Z,Z⟩) g.plain g.names Z (λ_ h=>by rw[eC.mp h]) ⟨[],Z,Z⟩ (λM A E Q q=>by rw[g.nod];exact cP (q C Z));obtain⟨w0,l,K⟩:=aaB T;rw[l]at G;obtain⟨a,T⟩:=F9 (n:=s.heap.objs.size+1) (g.cv 33 Z);refine V ?_;refine call_cells (fd:=fd) (body:=body) (qX (nN _) (qX (nN _) m.two)) (B _ _ g.at_) g.data (oV S _ B) (g.code _ B) g.A2 G g.Z' (λy V=>by rw[eC.mp V];exact .inl (g.lv 242 Z)) (λl X=>?_) g.co g.bD g.kind
 suffices H:∀(Q:yn)(E:aT),(∀j u,(∀a o,s.heap.get? a=O o->j.get? a=O o)->Q (.ret (.bool U)) {s with heap:=j,toks:=u})->he (WF Hd.pw w) _ (e0 body _) Q E l from H _ _ q
 intro Q E q;obtain⟨u,tk,L⟩:=X.toInCall.same;have kl:(xz fd s.heap.objs.size (adr qn 286)).kindOf ((XG w).nm 242)=O .local:=g.lv 242 Z;have l:=X.toInCall.ns;have B:=X.toInCall.keep;have j:=X.cell (IN 33) a T;have G:s.heap.objs.size<a:=X.above _ _ (Sc T);rw[L]at l B j ⊢;have one:∀{b},b∈[a]->b=a:=eC.mp
 let c:Cx:=F? A (KP w.params) (XG w) (GW ue d) g9 fd (adr qn 286) (B0 s.heap) s.heap.objs.size
 obtain⟨L,p1,g1,g2,g3,L,L⟩:=CS (c:=c) (v:=[(242,.val (.lst (k.map .int)))]) (pk:=[a]) (h0:=u) (t:=tk) x0 (λ_=>Z) Z (λ_ _=>id) B l (λb h=>one h▸G) (λb h=>one h▸(by obtain⟨o,h,_⟩:=j;exact⟨o,h⟩)) λl B b=>by
  by_cases l:ac 242 b=U
  ·rw[fF l,<-aK l]
   exact⟨w0,by simp[bindL,kl];rfl,B▸K⟩
  ·rw[dH (d8.mpr l)];exact trivial
 have l:∃B,p1.h.IsCell a B:=⟨_,by rw[show p1.h=u from ah Shared.heap g2];exact j⟩;obtain⟨uc,u,hoa,hda⟩:=l;rw[<-g2];have j:c.OK:=Ob g (kf S i.gs) S.jD r isA m _;have l:kR c [33] (LN d) (Bu ue (d+5)).gl:=ID g r hgi _;obtain⟨B,K,he1,i1,hb1⟩:=lT (x:=.setC 211 Sq 212 Ĝ []) (xs:=yE) hb;rw[he1];show he (M' c) c.A (e0 (B::K) c.env) Q E p1.s;refine yI (Sk (rs:=(J6 k).map iv) j R i.sup l i.ro (show aq g9 211 from Z) i1 ad8 L.rel λj wt nt F a' l B keep fresh nL hD hzt E hL hm=>?_);have nz:∀{b:ii}{o:xL},s.heap.get? b=O o->b≠s.heap.objs.size:=λe=>nO (pK e);have na:∀{b:ii}{o:xL},s.heap.get? b=O o->b≠a:=λe=>nO (qX (pK e) G);have K:∀b o,s.heap.get? b=O o->p1.h.get? b=O o/\p1.ow b=C:=λb o e=>L.rel.pg.own.fz b o (by rw[g3];exact e);have kp:∀b o,s.heap.get? b=O o->l.get? b=O o:=λb o e=>keep b o (K b o e).1 (by rw[(K b o e).2];rfl) (nz e);have nD:∀{b:ii}{o:xL},s.heap.get? b=O o->b≠j:=λe z=>aa (il fresh (z▸(K _ _ e).1));have aD:a≠j:=λz=>aa (il fresh (z▸hoa));have aL:a≠s.heap.objs.size:=ed G;have ha2:l.get? a=O u:=keep a u hoa (by rw[L.ck a gY];rfl) aL;have G:=hL;obtain⟨oL,_,_,K,_⟩:=G
 let G:=bQ j (O .aG) (bQ s.heap.objs.size (O .frame) (bQ a (O .ck) λ_=>C))
 let P:Pt:=⟨{p1.s with heap:=l,toks:=B},B0 s.heap,G⟩
 let c1:Cx:=F? A (KP w.params) (gW w J 0 0 U j) (GW ue d) g9 fd (adr qn 286) (B0 s.heap) s.heap.objs.size
 have L:Own ⟨{p1.s with heap:=l,toks:=B},B0 s.heap,bQ a (O .ck) λ_=>C⟩:=(show Own ⟨{p1.s with heap:=l,toks:=B},B0 s.heap,λ_=>C⟩from⟨λb o e=>⟨kp b o e,Z⟩,λ_ _=>aa,λ_ _ _=>aa⟩).give (t:=a) (k:=.ck) ha2 (λo e=>na e Z) λ_=>aa;have O2:=L.give (t:=s.heap.objs.size) (k:=.frame) K (λo e=>nz e Z) λb e=>(aJ (show bQ a (O .ck) aaM b=O .frame from e)).elim (λy=>bx Z (au y.2)) λy=>aa y.2;have K:Own P:=O2.give (t:=j) (k:=.aG) hD (λo e=>nD e Z) λb e=>(aJ (show bQ s.heap.objs.size (O .frame) (bQ a (O .ck) λ_=>C) b=O .aG from e)).elim (λy=>bx Z (au y.2)) λy=>(aJ y.2).elim (λy=>bx Z (au y.2)) λy=>aa y.2
 have r1:bC c1 P ⟨[(211,.val .aG)],da (J6 k)⟩:=by
  refine⟨⟨K,ao,λ_=>⟨dS,wt,nt,hD,hzt,ahr E⟩⟩,(bp λz=>nL z.symm).trans dS,⟨a',hL,λy=>?_⟩,λ_ _=>id⟩;by_cases K:ac 211 y=U
  ·rw[fF K,<-aK K]
   exact⟨.ref j,hm,Z,Z⟩
  ·rw[dH (d8.mpr K)];exact trivial
 have far2:∀b,G b=O .ck->b=a:=λb e=>(aJ e).elim (λy=>(bx Z (au y.2)).elim) λy=>(aJ y.2).elim (λy=>(bx Z (au y.2)).elim) λy=>(aJ y.2).elim (λy=>y.1) λy=>aa y.2;have P:G a=O .ck:=(bp aD).trans ((bp aL).trans dS);obtain⟨L,K,K,_⟩:=Zb (g:=gW w J 0 0 U j) (B:=B0 s.heap) Z S.jD ho t
 have hfd:L=fd:=by have L:=K.data;rw[g.data]at L;exact(k7 L).symm
 rw[hfd]at K;have L:c1.OK:=Ob K (kf S i.gs) S.jD r isA m _;have cap1:kR c1 [33] (LN d) (Bu ue (d+5)).gl:=ID K r hgi _;have m:=(R (ht:=U) (aG:=j)).comp L i.sup cap1 Z;obtain⟨r,r,r,r,r,r,K,nl,x,y,z,tt,b',c',D20,hw,NE,K12⟩:=agU (d:=d) Zh (J6 k);obtain⟨p,k,k,σ3,e13,K6,hdue,hret⟩:=agX (d:=d) (h:=r) (c:=K) (pg:=da b') (nl:=nl) (x:=x) (y:=y) (z:=z) (t:=tt) Zh hw (ay c'.whole.tl (aO Z)) NE;refine So L m i.ro 12 con.1 hb1 K12 r1 λk k r K x3=>?_;obtain⟨k,k,he4,k,hb4⟩:=lT r;rw[he4];refine rO (f:=λr v _=>bV IN [33] r&&eK IN J1 v&&!([33]:ae).isEmpty&&d5 v) k λr r ps hs' k=>ag k λk nc=>ag k λk _=>ag k λk i5=>mG (c:=c1) k λy1 k hn1 hn=>?_;rw[hs',hn1,(cO.mp hn:k=[])];refine yI (zT (((bz L m J1).1 r i5).val e13 K _ _ λk m r K=>?_) (jf nc));have m:Ext (lg J) _ _ k _:=x3.trans Z (r.ext.weak λ_=>Ci);have fa4:k.ow a=O .ck:=(m.ck a).mp P;have c4:k.h.IsCell a uc:=⟨u,m.keep a u ha2 (by show lg J (G a)=U;rw[P];rfl),hda⟩;obtain⟨a,u⟩:=BI.mk0 r.rel fa4 λb e=>far2 b ((m.ck b).mpr e);refine Gd (gi:=LN d) (v:=b8 p) L cap1 (show aq [33] 33 from Z) T (g.cv 33 Z) cr a (λb h=>ch h cr) u c4 K λG _ _ a K r u=>?_;have g:=((R (ht:=U) (aG:=j)).lj r).comp a i.sup K Z;refine So a g i.ro 6 con2.1 hb4 K6 u.rel λK L P R T=>?_;obtain⟨i,j,j,n7,_,_⟩:=Nx.freeze R hdue;rw[<-j];refine(oB 300 (yA 19 yE) _ a g con2.2).2 L P i _ _ σ3 hret n7.rel _ _ λa g g L=>?_;have sh:=SY.trans (b:=p1.s) (by rw[g2];rfl) (SY.trans (b:={p1.s with heap:=l,toks:=B}) Z (SY.trans (b:=k.s) m.sh (SY.trans (b:=G.s) u.ext.sh (SY.trans (b:=K.s) T.sh (SY.trans (b:=i.s) (by rw[j];rfl) g.ext.sh)))));have i:=λb o e=>(g.rel.pg.own.fz b o (g.rel.base b o (r b o e))).1;have e:Q (.ret (.bool U)) a.s:=by rw[show a.s={s with heap:=a.s.heap,toks:=a.s.toks}from sh];exact q a.h a.s.toks i
 refine te L (λa _=>ao (ah (λf=>vN f U J λ_=>J) a)) (λa _=>ao (ah (λf=>vN f J U λ_=>J) a)) λy z a g E=>?_;have V:=au (ah (λf=>vN f C C O) a);rw[<-V]at E;rw[g,show z=.bool U from E];exact e
end
def aea(h:IntsAre a b):cD g F a (b.map .int):=by induction h with|nil=>exact Z|cons n t _ c=>exact⟨_,_,Z,⟨t,Z⟩,c⟩
def XJ(h:IntsAre a b):a.length=b.length:=by induction h with|nil=>rfl|cons n t _ c=>exact ah pp c
def aeb:(286,yZ)∈pD:=cV (Z)
theorem walk:WalkX Hd.q Hd.loose (λ_ _=>mf) (X.obsZ Hd.keys) (X.valZ Hd.K 1592 2510) Hd.jt.row.toRowW Hd.Ez [] λf c=>dn f c:=by intro w c a c d G y e o f f f dV kV f f f f f g h h h L h i j k l;obtain⟨_,m,n,_⟩:=X.z_facts Hd.keys_eq y;have n:=Frag.In.keeps m L.keeps;have T:=G.T;wrow_args h i j k l;rename_i h _ _ _ _ _ _ _ sa p _ h _ _ _ b _ i _;have S:Start w a.heap c d:=⟨n,T.g,T.b,T.builtins,T.nolimit⟩;have r:=X.script_obj L h;(have s:e=adr qn 286:=by have c:=JZ S (ai (fm.R2 w.params) aeb);have:=il f c;cases this;rfl);rw[s];refine sR ?_;have c:ip 41 callerA:=⟨by show 1+300+10+41<1000;decide,by show 4+100+3*41<9900;decide,Z⟩;(have d:=by show p.length<=lim;rw[XJ b];exact ay (by lia) (show 63<=lim by decide));refine Sr 3 (aO Z) S c r d (aea b) λb b c=>?_;refine⟨.inl ⟨_,.bool U,[],Z,λ_=>Z,.bool U,?_,λ_=>⟨.nil,λ_ q=>nomatch q⟩⟩,⟨λb o e=>.inl (c b o e),λb o e=>⟨o,c b o e⟩⟩,Z,?_⟩;wrow_post;intro y b;have:a.gens=#[]:=g;rw[this]at b;simp at b
end
end Ev
theorem PySem.Challenge.cw_te0056_02_holds : PySem.Challenge.rw_te0056_02.Holds :=
 Hd.head Ev.walk
