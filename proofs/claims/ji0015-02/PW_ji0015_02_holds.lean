import PyProof.Rows.All
import Wide.All
import OpenK.AllK
import Wide.FinOn
import KE.KDictList
import KE.KDictOf
import PyProof.Rows.SortRev
import KE.KOpsOwn
import PyProof.ForAny
import KE.KSuper
import Lean
import PySem.Challenge.RW_ji0015_02
set_option autoImplicit true
set_option maxRecDepth 100000
set_option linter.all false
set_option Elab.async false
set_option maxHeartbeats 8000000
set_option bootstrap.genMatcherCode false
set_option genInjectivity false
set_option genSizeOf false
set_option genSizeOfSpec false
set_option tactic.hygienic false
set_option compiler.extract_closed false
noncomputable section
namespace Mine
def QG:=@List.perm_append_comm_assoc
def QH:=@List.drop_eq_getElem_cons
def QJ:=@List.getElem?_eq_some_iff
def QK:=@List.getElem?_eq_getElem
def QM:=@PySem.Heap.get?_push_of_some
def QW:=@Option.map_eq_some_iff
def QZ:=@List.mem_append_right
def Q0:=@List.take_append_drop
def Q5:=@List.length_singleton
def Q6:=@Nat.le_of_ble_eq_true
def Q7:=@List.getElem?_eq_none
def Q8:=@List.eq_nil_or_concat
def Q9:=@List.mem_append_left
def Ra:=@List.pairwise_append
def Rb:=@List.flatten_append
def Rc:=@PySem.Heap.get?_push_size
def Rd:=@List.length_append
def Rf:=@List.mem_singleton
def Rg:=@List.append_assoc
def Rh:=@List.size_toArray
def Ri:=@List.flatten_cons
def Rj:=@of_decide_eq_true
def Rm:=@List.getElem?_map
def Rn:=@List.length_cons
def Ro:=@Bool.and_eq_true
def Rp:=@List.length_take
def Rq:=@List.cons_append
def Rr:=@decide_eq_false
def Rt:=@List.length_map
def Ru:=@Option.some.inj
def Rv:=@List.map_append
def Rx:=@List.append_nil
def Ry:=@List.mem_append
def Rz:=@List.find?_cons
def RB:=@decide_eq_true
def RG:=@List.Perm.refl
def RJ:=@List.mem_cons
def RK:=@List.map_cons
def RL:=@PySem.Heap.lt_size
def RM:=@Nat.le_trans
def RN:=@Nat.le_refl
def RP:=@PySem.wpAny_mono
def RQ:=@PySem.wpAny_bind
def RT:=@PySem.wpAny_pure
def RV:=@beq_iff_eq
theorem aV{α:Type}{x:α}{P:Prop}(h:none=some x):P:=nomatch h
section
variable{R:Prop}
section
variable{A B C D E F:Prop}
theorem ex02(h:A/\B)(k:A->B->R):R:=k h.1 h.2
theorem ex03(h:A/\B/\C)(k:A->B->C->R):R:=k h.1 h.2.1 h.2.2
theorem ex04(h:A/\B/\C/\D)(k:A->B->C->D->R):R:=k h.1 h.2.1 h.2.2.1 h.2.2.2
theorem ex05(h:A/\B/\C/\D/\E)(k:A->B->C->D->E->R):R:=k h.1 h.2.1 h.2.2.1 h.2.2.2.1 h.2.2.2.2
theorem ex06(h:A/\B/\C/\D/\E/\F)(k:A->B->C->D->E->F->R):R:=k h.1 h.2.1 h.2.2.1 h.2.2.2.1 h.2.2.2.2.1 h.2.2.2.2.2
end
section
variable{α:Type}
variable{A B C D E F:α->Prop}
theorem ex11(h:∃a,A a)(k:∀a,A a->R):R:=h.elim λa h=>k a h
theorem ex12(h:∃a,A a/\B a)(k:∀a,A a->B a->R):R:=h.elim λa h=>ex02 h (k a)
theorem ex13(h:∃a,A a/\B a/\C a)(k:∀a,A a->B a->C a->R):R:=h.elim λa h=>ex03 h (k a)
theorem ex14(h:∃a,A a/\B a/\C a/\D a)(k:∀a,A a->B a->C a->D a->R):R:=h.elim λa h=>ex04 h (k a)
theorem ex15(h:∃a,A a/\B a/\C a/\D a/\E a)(k:∀a,A a->B a->C a->D a->E a->R):R:=h.elim λa h=>ex05 h (k a)
theorem ex16(h:∃a,A a/\B a/\C a/\D a/\E a/\F a)(k:∀a,A a->B a->C a->D a->E a->F a->R):R:=h.elim λa h=>ex06 h (k a)
end
section
variable{α β:Type}
variable{A B C D E F:α->β->Prop}
theorem ex21(h:∃a b,A a b)(k:∀a b,A a b->R):R:=h.elim λa h=>ex11 h (k a)
theorem ex22(h:∃a b,A a b/\B a b)(k:∀a b,A a b->B a b->R):R:=h.elim λa h=>ex12 h (k a)
theorem ex23(h:∃a b,A a b/\B a b/\C a b)(k:∀a b,A a b->B a b->C a b->R):R:=h.elim λa h=>ex13 h (k a)
theorem ex24(h:∃a b,A a b/\B a b/\C a b/\D a b)(k:∀a b,A a b->B a b->C a b->D a b->R):R:=h.elim λa h=>ex14 h (k a)
theorem ex25(h:∃a b,A a b/\B a b/\C a b/\D a b/\E a b)(k:∀a b,A a b->B a b->C a b->D a b->E a b->R):R:=h.elim λa h=>ex15 h (k a)
theorem ex26(h:∃a b,A a b/\B a b/\C a b/\D a b/\E a b/\F a b)(k:∀a b,A a b->B a b->C a b->D a b->E a b->F a b->R):R:=h.elim λa h=>ex16 h (k a)
end
section
variable{α β γ:Type}
variable{A B C D E F:α->β->γ->Prop}
theorem ex31(h:∃a b c,A a b c)(k:∀a b c,A a b c->R):R:=h.elim λa h=>ex21 h (k a)
theorem ex32(h:∃a b c,A a b c/\B a b c)(k:∀a b c,A a b c->B a b c->R):R:=h.elim λa h=>ex22 h (k a)
theorem ex33(h:∃a b c,A a b c/\B a b c/\C a b c)(k:∀a b c,A a b c->B a b c->C a b c->R):R:=h.elim λa h=>ex23 h (k a)
theorem ex34(h:∃a b c,A a b c/\B a b c/\C a b c/\D a b c)(k:∀a b c,A a b c->B a b c->C a b c->D a b c->R):R:=h.elim λa h=>ex24 h (k a)
theorem ex35(h:∃a b c,A a b c/\B a b c/\C a b c/\D a b c/\E a b c)(k:∀a b c,A a b c->B a b c->C a b c->D a b c->E a b c->R):R:=h.elim λa h=>ex25 h (k a)
theorem ex36(h:∃a b c,A a b c/\B a b c/\C a b c/\D a b c/\E a b c/\F a b c)(k:∀a b c,A a b c->B a b c->C a b c->D a b c->E a b c->F a b c->R):R:=h.elim λa h=>ex26 h (k a)
end
section
variable{α β γ δ:Type}
variable{A B C D E F:α->β->γ->δ->Prop}
theorem ex42(h:∃a b c d,A a b c d/\B a b c d)(k:∀a b c d,A a b c d->B a b c d->R):R:=h.elim λa h=>ex32 h (k a)
theorem ex43(h:∃a b c d,A a b c d/\B a b c d/\C a b c d)(k:∀a b c d,A a b c d->B a b c d->C a b c d->R):R:=h.elim λa h=>ex33 h (k a)
theorem ex44(h:∃a b c d,A a b c d/\B a b c d/\C a b c d/\D a b c d)(k:∀a b c d,A a b c d->B a b c d->C a b c d->D a b c d->R):R:=h.elim λa h=>ex34 h (k a)
theorem ex45(h:∃a b c d,A a b c d/\B a b c d/\C a b c d/\D a b c d/\E a b c d)(k:∀a b c d,A a b c d->B a b c d->C a b c d->D a b c d->E a b c d->R):R:=h.elim λa h=>ex35 h (k a)
theorem ex46(h:∃a b c d,A a b c d/\B a b c d/\C a b c d/\D a b c d/\E a b c d/\F a b c d)(k:∀a b c d,A a b c d->B a b c d->C a b c d->D a b c d->E a b c d->F a b c d->R):R:=h.elim λa h=>ex36 h (k a)
end
section
variable{α β γ δ ε:Type}
variable{A B C D E F:α->β->γ->δ->ε->Prop}
theorem ex53(h:∃a b c d e,A a b c d e/\B a b c d e/\C a b c d e)(k:∀a b c d e,A a b c d e->B a b c d e->C a b c d e->R):R:=h.elim λa h=>ex43 h (k a)
theorem ex54(h:∃a b c d e,A a b c d e/\B a b c d e/\C a b c d e/\D a b c d e)(k:∀a b c d e,A a b c d e->B a b c d e->C a b c d e->D a b c d e->R):R:=h.elim λa h=>ex44 h (k a)
theorem ex55(h:∃a b c d e,A a b c d e/\B a b c d e/\C a b c d e/\D a b c d e/\E a b c d e)(k:∀a b c d e,A a b c d e->B a b c d e->C a b c d e->D a b c d e->E a b c d e->R):R:=h.elim λa h=>ex45 h (k a)
theorem ex56(h:∃a b c d e,A a b c d e/\B a b c d e/\C a b c d e/\D a b c d e/\E a b c d e/\F a b c d e)(k:∀a b c d e,A a b c d e->B a b c d e->C a b c d e->D a b c d e->E a b c d e->F a b c d e->R):R:=h.elim λa h=>ex46 h (k a)
end
section
variable{α β γ δ ε ζ:Type}
variable{A B C D E:α->β->γ->δ->ε->ζ->Prop}
theorem ex63(h:∃a b c d e f,A a b c d e f/\B a b c d e f/\C a b c d e f)(k:∀a b c d e f,A a b c d e f->B a b c d e f->C a b c d e f->R):R:=h.elim λa h=>ex53 h (k a)
theorem ex64(h:∃a b c d e f,A a b c d e f/\B a b c d e f/\C a b c d e f/\D a b c d e f)(k:∀a b c d e f,A a b c d e f->B a b c d e f->C a b c d e f->D a b c d e f->R):R:=h.elim λa h=>ex54 h (k a)
theorem ex65(h:∃a b c d e f,A a b c d e f/\B a b c d e f/\C a b c d e f/\D a b c d e f/\E a b c d e f)(k:∀a b c d e f,A a b c d e f->B a b c d e f->C a b c d e f->D a b c d e f->E a b c d e f->R):R:=h.elim λa h=>ex55 h (k a)
end
end
@[elab_as_elim] theorem PJ{α:Type}{a b:α}{P:α->Prop}(h:a=b)(p:P b):P a:=h▸p
theorem sI{α:Type}{a b:α}{P:Prop}(h:some a=some b)(k:a=b->P):P:=k (Ru h)
section
open Lean
def aM(s:String):Syntax:=.atom .none s
def nU(l:List Syntax):Syntax:=.node .none `null l.toArray
def tN(k:String)(l:List Syntax):Syntax:=.node .none (.str `Lean.Parser.Tactic k) l.toArray
def sQ(l:List Syntax):Syntax:=tN "tacticSeq" [tN "tacticSeq1Indented" [nU (l.intersperse (aM ";"))]]
def fI(l:List (List Syntax)):Syntax:=tN "first" [aM "first",nU (l.map λt=>.node .none `group #[aM "|",sQ t])]
def aP(f:Name)(l:List Syntax):Syntax:=.node .none `Lean.Parser.Term.app #[mkIdent f,nU l]
def t1(k:String)(x:Syntax):Syntax:=tN k [aM k,x]
def hO:Syntax:=.node .none `Lean.Parser.Term.syntheticHole #[aM "?",aM "_"]
def rF(f:Name)(x:Syntax):Syntax:=t1 "refine" (aP f [x,hO])
def i1(k:String)(x:Syntax):Syntax:=t1 k (nU [x])
def ct:List Name:=[`List,`Option,`Bool,`Mine.V,`Mine.CE,`Mine.CS,`Mine.CT,`Mine.Th,`Mine.Kd,`Mine.Cell,`Mine.Fl,`Mine.Rs,`Mine.Tr,`Or,`PySem.Expr,`PySem.Stmt,`PySem.Value]
def PL(s:Syntax):Syntax :=
 let h:=s[1][0][1]
 let q:=mkIdent `hx0
 let e:=nU []
 if s[3].getNumArgs==0 then fI [[t1 "exact" (aP `Mine.aV [h])],[t1 "exact" (aP `False.elim [h])],[rF `Mine.sI h,i1 "clear" h,i1 "intro" q,fI [[i1 "subst" q],[tN "cases" [aM "cases",nU [tN "elimTarget" [e,q]],e,e]]]],
  [tN "rcases" [aM "rcases",s[1],nU [aM "with",tN "rcasesPatLo" [tN "rcasesPatMed" [nU [.node .none `Lean.Parser.Tactic.rcasesPat.tuple #[aM "⟨",e,aM "⟩"]]],e]]]]]
 else fI (ct.map λn=>[tN "induction" [aM "induction",s[1],nU [aM "using",mkIdent (.str n "casesOn")],e,s[3]]])
def JF(m:Syntax):List Syntax :=
 let q:=mkIdent `hq0
 let a:=m[0][0]
 if m[0].getNumArgs==1&&a[0].isIdent&&a[0].getId != `rfl then [i1 "intro" a[0]] else if a.isOfKind `Lean.Parser.Tactic.rcasesPat.ignore then [i1 "intro" (.node .none `Lean.Parser.Term.hole #[aM "_"])] else [i1 "intro" q,tN "obtain" [aM "obtain",nU [m],nU [],nU [aM ":=",nU [q]]]]
def PN(s:Syntax):MacroM Syntax :=
 let alts:=s[1][0][0].getSepArgs
 let ps:=alts[0]![1].getSepArgs.toList
 let e:=s[3][1][0]
 let e:=if s[2].getNumArgs==0 then e else .node .none `Lean.Parser.Term.typeAscription #[.node .none `Lean.Parser.Term.hygienicLParen #[aM "(",.node .none `hygieneInfo #[mkIdent .anonymous]],e,aM ":",nU [s[2][1]],aM ")"]
 if alts.size != 1 || alts[0]![0].getAtomVal != "⟨" || ps.length<2 || ps.any (·[1].getNumArgs != 0) then Macro.throwUnsupported else
 let post:=ps.flatMap λp=>JF p[0]
 let cl:=if e.isIdent then [i1 "clear" e] else []
 let tup (l:List Syntax):Syntax:=tN "rcasesPatMed" [nU [alts[0]!.setArg 1 (nU (l.intersperse (aM ",")))]]
 return fI ((List.range 7).map (λi=>rF (.str `Mine s!"ex{i}{ps.length - i}") e::cl++post)++if ps.length<3 then [] else [`Mine.ex02,`Mine.ex11].map λn=>rF n e::cl++JF ps.head![0]++JF (tup ps.tail))
def PX(s:Syntax):MacroM Syntax :=
 let e:=s[1][0][1]
 let m:=s[2][1][0]
 let ps:=m[0].getSepArgs.toList
 let cl:=if e.isIdent then [i1 "clear" e] else []
 match ps with
 | [p,q]=>if s[1].getNumArgs != 1 || s[1][0][0].getNumArgs != 0 then Macro.throwUnsupported else
  return tN "paren" [aM "(",sQ (tN "refine" [aM "refine",.node .none `Lean.Parser.Term.app #[mkIdent `Or.elim,nU [e,hO,hO]]]::cl++JF (m.setArg 0 (nU [p]))++[tN "rotateLeft" [aM "rotate_left",nU []]]++cl++JF (m.setArg 0 (nU [q]))++[tN "rotateRight" [aM "rotate_right",nU []]]),aM ")"]
 | _=>Macro.throwUnsupported
def P0(s:Syntax):Syntax:=tN "paren" [aM "(",sQ (s[2][1].getSepArgs.toList.map (λr =>
 let t:=if r[0].getNumArgs==0 then r[1] else aP `Eq.symm [r[1]]
 let w:=[tN "rewriteSeq" [aM "rewrite",tN "optConfig" [nU []],tN "rwRuleSeq" [aM "[",nU [r],aM "]"],nU []]]
 fI (if (r.find? (·.isOfKind `Lean.Parser.Term.syntheticHole)).isSome then [w] else (List.range 3).map (λi=>[rF `Mine.PJ (if i==0 then t else .node .none `Lean.Parser.Term.app #[t,nU (.replicate i (.node .none `Lean.Parser.Term.hole #[aM "_"]))])])++[w]))++[tN "tacticTry_" [aM "try",sQ [tN "withReducible" [aM "with_reducible",sQ [tN "tacticRfl" [aM "rfl"]]]]]]),aM ")"]
end
local macro_rules (kind:=Lean.Parser.Tactic.cases)|s=>if s[1].getNumArgs==1&&s[2].getNumArgs==0&&s[1][0][1].isIdent&&s[1][0][0].getNumArgs==0 then return Mine.PL s else Lean.Macro.throwUnsupported
local macro_rules (kind:=Lean.Parser.Tactic.obtain)|s=>Mine.PN s
local macro_rules (kind:=Lean.Parser.Tactic.rwSeq)|s=>if s[3].getNumArgs==0 then return Mine.P0 s else Lean.Macro.throwUnsupported
local macro_rules (kind:=Lean.Parser.Tactic.rcases)|s=>Mine.PX s
section
open PySem PySem.W PySem.Calls PyProof.Rows
noncomputable def nP:List Str:=["self","t","creator","is_leaf","elts","children","_key","_value","root","size","cursors","_immutable","in_order","btree","current_node","current_index","recurse","increasing","parents","parked","parking_key","parking_key_read","_wall","Element","_MIN","_MAX","_Creator","_Node","Cursor","Immutable","BTree","KV","BTreeDict","_law_draw","_law_full","_law_thin","_law_leaves","_law_shape","_law_stands","law","__name__","DEFAULT_T","key","__init__","is_maximal","is_minimal","search_in_node","maybe_cow_child","_get_node","get","optimize_in_order_insertion","insert_nonfull","split","try_left_steal","try_right_steal","adopt","merge","minimum","maximum","balance","delete","visit_in_order","_visit_preorder_by_node","maybe_cow","clone","_seek_least","_seek_greatest","park","_maybe_unpark","prev","next","_adjust_for_before","seek","seek_first","seek_last","Exception","make_immutable","_check_mutable_and_park","insert_element","get_element","_delete","delete_key","delete_exact","__len__","cursor","register_cursor","deregister_cursor","value","__str__","__repr__","__getitem__","__setitem__","__delitem__","_LAW_PLAIN","k","script","place","count","cuts","rest","node","sizes","room","low","high","top","last","elt","total","depth","tree","pairs","seen","first","cut","start","full","thin","old_full","old_thin","step","NotImplementedError","l","i","r","equal","index","child","cloned","left","element","right","middle","parent","exact","original_key","visit","before","original","oelt","max","len","range","below","above","deep","much","append","m","list","insert","pop","extend","least_successor","enumerate","old_root","KeyError","old","min","ValueError","super","_law_above","_law_below","_law_same","_law_next","_law_prev","_law_seek","_law_cursors","_law_change","_law_deed","_law_sweep","plain","each","found","row","plains","kind","home","second","trees","rows","held","gone","number","arg","fill","order","stride","side","sorted","young","reverse","spread","dict","_law_lacks","_law_copy","_law_cold","_law_refused","_law_set","_law_delete","probe","frozen","source","mother","refused","live","cold","which","wished","made","items"].map Str.ofString
inductive V where
 | none
 | bool (b:Bool)
 | int (i:Int)
 | ref (a:Nat)
inductive Cell where
 | inst (c:Nat) (d:Nat)
 | ns (fs:List (Nat × V))
 | list (xs:List V)
 | tup (xs:List V)
 | dict (es:List (Int × V))
 | ro (ns:List Int)
abbrev AH:=Nat->Option Cell
abbrev Loc:=List (Nat × V)
noncomputable def upd(H:AH)(a:Nat)(c:Cell):AH:=λx=>if x=a then some c else H x
theorem jh(H:AH)(a:Nat)(c:Cell):upd H a c a=some c:=if_pos rfl
theorem fX(H:AH)(c:Cell)(h:x≠a):upd H a c x=H x:=if_neg h
noncomputable def look{α:Type}:List (Nat × α)->Nat->Option α
 | [],_=>none
 | p::r,x=>match Nat.beq p.1 x with
  | true=>some p.2
  | false=>look r x
noncomputable def put{α:Type}:List (Nat × α)->Nat->α->List (Nat × α)
 | [],x,v=>[(x,v)]
 | p::r,x,v=>match Nat.beq p.1 x with
  | true=>(x,v)::r
  | false=>p::put r x v
theorem aJ(h:Nat.beq a b=true):a=b:=Nat.eq_of_beq_eq_true h
theorem cF(a:Nat):Nat.beq a a=true:=Nat.beq_refl a
theorem aW(h:a≠b):Nat.beq a b=false:=by
 cases q:Nat.beq a b with|false=>rfl|true=>exact absurd (aJ q) h
theorem pI(m:List (Nat × α))(x y:Nat)(v:α):look (put m x v) y=if x=y then some v else look m y:=by
 induction m with
 | nil =>
  show(match Nat.beq x y with|true=>some v|false=>none)=_
  by_cases h:x=y
  ·subst h;rw[cF];simp
  ·rw[aW h];simp [h,look]
 | cons p r ih =>
  show look (match Nat.beq p.1 x with|true=>(x,v)::r|false=>p::put r x v) y=_
  by_cases h:p.1=x
  ·rw[show Nat.beq p.1 x=true by rw[h];exact cF _]
   show(match Nat.beq x y with|true=>some v|false=>look r y)=if x=y then some v else (match Nat.beq p.1 y with|true=>some p.2|false=>look r y)
   by_cases q:x=y
   ·subst q;rw[cF];simp
   ·rw[aW q,show Nat.beq p.1 y=false from aW (h▸q)];simp [q]
  ·rw[aW h]
   show(match Nat.beq p.1 y with|true=>some p.2|false=>look (put r x v) y)=if x=y then some v else (match Nat.beq p.1 y with|true=>some p.2|false=>look r y)
   by_cases q:x=y
   ·subst q;rw[aW h];simp only [ih,if_true]
   ·rw[ih];simp [q]
noncomputable def Gg:List (List (Nat × Option V)):=[
 [(94,none)],
 [(0,none)],
 [(1,none)],
 [(1,none)],
 [(0,none),(1,none),(2,none),(3,none)],
 [(0,none)],
 [(0,none)],
 [(0,none),(42,none)],
 [(0,none),(126,none)],
 [(0,none),(42,none)],
 [(0,none),(42,none)],
 [(0,none),(126,none)],
 [(0,none),(130,none),(12,none)],
 [(0,none)],
 [(0,none),(133,none),(126,none)],
 [(0,none),(133,none),(126,none)],
 [(0,none),(129,none),(132,none),(131,none)],
 [(0,none),(133,none),(126,none)],
 [(0,none)],
 [(0,none)],
 [(0,none),(133,none),(126,none)],
 [(0,none),(42,none),(133,none),(134,none)],
 [(0,none),(136,none)],
 [(0,none),(136,none)],
 [(0,none),(2,none)],
 [(0,none),(2,none)],
 [(0,none),(13,none)],
 [(0,none)],
 [(0,none)],
 [(0,none)],
 [(0,none)],
 [(0,none)],
 [(0,none)],
 [(0,none),(137,none),(123,none)],
 [(0,none),(42,none),(137,some (.bool true))],
 [(0,none)],
 [(0,none)],
 [(0,none),(1,some (.int 127)),(138,some .none)],
 [(0,none)],
 [(0,none)],
 [(0,none),(107,none),(12,some (.bool false))],
 [(0,none),(42,none)],
 [(0,none),(42,none),(134,none)],
 [(0,none),(42,none)],
 [(0,none),(130,none)],
 [(0,none)],
 [(0,none),(136,none)],
 [(0,none),(136,none)],
 [(0,none)],
 [(0,none),(84,none)],
 [(0,none),(84,none)],
 [(0,none),(42,none),(87,none)],
 [(0,none)],
 [(0,none)],
 [(0,none)],
 [(0,none)],
 [(0,none),(1,some (.int 127)),(138,some .none),(12,some (.bool false))],
 [(0,none),(42,none)],
 [(0,none),(42,none),(87,none)],
 [(0,none),(42,none)],
 [(95,none),(96,none)],
 [(171,none),(96,none)],
 [(171,none),(96,none)],
 [(107,none),(173,none),(171,none)],
 [(174,none),(175,none)],
 [(174,none),(175,none)],
 [(174,none),(176,none),(99,none)],
 [(110,none),(177,none)],
 [(179,none),(175,none),(180,none),(174,none),(176,none),(99,none),(87,none)],
 [(179,none),(175,none),(180,none),(183,none),(87,none)],
 [(84,none),(171,none)],
 [(95,none)]]
def cU(f:Nat):List (Nat × Option V):=(Gg[f]?).getD []
noncomputable def iR:List (List (Nat × Nat)):=[
 [(42,1)],
 [],
 [(43,4),(44,5),(45,6),(46,7),(47,8),(48,9),(49,10),(50,11),(51,12),(52,13),(53,14),(54,15),(55,16),(56,17),(57,18),(58,19),(59,20),(60,21),(61,22),(62,23),(63,24),(64,25)],
 [(43,26),(65,27),(66,28),(67,29),(68,30),(69,31),(70,32),(71,33),(72,34),(73,35),(74,36)],
 [],
 [(43,37),(76,38),(77,39),(78,40),(79,41),(80,42),(81,43),(82,44),(83,45),(61,46),(62,47),(84,48),(85,49),(86,50)],
 [(43,51),(42,52),(87,53),(88,54),(89,55)],
 [(43,56),(90,57),(91,58),(92,59),(76,38),(77,39),(78,40),(79,41),(80,42),(81,43),(82,44),(83,45),(61,46),(62,47),(84,48),(85,49),(86,50)]]
def bL(c n:Nat):Option Nat:=look ((iR[c]?).getD []) n
set_option genCtorIdx false in
inductive CE where
 | none|tt|ff|edict
 | int (i:Int)
 | var (x:Nat)
 | attr (e:CE) (f:Nat)
 | bin (o:Nat) (a b:CE)
 | neg (a:CE)
 | cmp (o:Nat) (a b:CE)
 | not (a:CE)
 | and (a b:CE)
 | or (a b:CE)
 | fn (f:Nat) (as:List CE)
 | mk (c:Nat) (as:List CE) (kn:List Nat) (kv:List CE)
 | meth (o:CE) (n:Nat) (as:List CE)
 | methS (o:CE) (n:Nat) (a:CE)
 | bi (b:Nat) (as:List CE)
 | sub (e i:CE)
 | gsub (g:List Int) (i:CE)
 | slice (e lo hi:CE)
 | tup (as:List CE)
 | list (as:List CE)
noncomputable def Gh:CE->Bool
 | .tt=>true
 | _=>false
theorem Ae(h:Gh a=true):a=.tt:=by cases a<;>first|rfl|exact nomatch h
set_option genCtorIdx false in
inductive CT where
 | var (x:Nat)
 | attr (o:CE) (f:Nat)
 | sub (o i:CE)
 | tup (ts:List CT)
set_option genCtorIdx false in
inductive CS where
 | expr (e:CE)
 | brk|cont
 | ret (e:CE)
 | asg (t:CT) (e:CE)
 | augv (x:Nat) (o:Nat) (e:CE)
 | auga (e:CE) (f:Nat) (o:Nat) (v:CE)
 | ite (c:CE) (a b:List CS)
 | whl (c:CE) (b:List CS)
 | eU (t:CT) (e:CE) (b:List CS)
 | ji (t:CT) (as:List CE) (b:List CS)
 | asrt (c:CE)
 | rais
noncomputable def eX(c:Nat):Bool:=Nat.beq c 1 || Nat.beq c 2 || Nat.beq c 3 || Nat.beq c 6 || Nat.beq c 7
noncomputable def Af(x:Str):List Str->Nat->Option Nat
 | [],_=>none
 | y::r,n=>if x==y then some n else Af x r (n+1)
def idOf(x:Str):Option Nat:=Af x nP 0
set_option genCtorIdx false in
inductive GK where
 | fn (f:Nat)|cls (c:Nat)|bi (b:Nat)
abbrev GT:=List (Nat × GK)
structure CX where
 gs:GT
 tabs:List (Nat × List Int)
 Qa:Nat
noncomputable def builtins:GT:=[(141,.bi 0),(149,.bi 1),(189,.bi 2),(158,.bi 4),(140,.bi 5),(193,.bi 6)]
noncomputable def iT(sc:Scope)(x:Str):Bool:=sc.names.lookup x==some .local&&!(x == "__debug__")
noncomputable def dg(sc:Scope)(x:Str):Bool:=sc.names.lookup x==some .globalImplicit&&!(x == "__debug__")
noncomputable def Ep:Operator->Option Nat
 | .Add=>some 0 | .Sub=>some 1 | .Mult=>some 2 | .FloorDiv=>some 3 | .Mod=>some 4
 | _=>none
noncomputable def Ag:CmpOp->Option Nat
 | .Eq=>some 0 | .NotEq=>some 1 | .Lt=>some 2 | .LtE=>some 3 | .Gt=>some 4 | .GtE=>some 5 | .Is=>some 6 | .IsNot=>some 7 | .In=>some 8 | .NotIn=>some 9
noncomputable def q9:Const->Option CE
 | .none=>some .none
 | .bool true=>some .tt
 | .bool false=>some .ff
 | .int i=>some (.int i)
 | _=>none
noncomputable def glue:BoolOp->CE->CE->CE
 | .And,x,y=>.and x y
 | .Or,x,y=>.or x y
def cBool(o:BoolOp):List CE->Option CE
 | []=>none
 | [x]=>some x
 | x::r=>(cBool o r).map (glue o x)
def vZ(cx:CX)(n:Nat)(as:List CE)(kn:List Nat)(kv:List CE):Option CE :=
 match look cx.gs n with
 | some (.fn f)=>if kn.isEmpty&&kv.isEmpty then some (.fn f as) else none
 | some (.cls c)=>if eX c then some (.mk c as kn kv) else none
 | some (.bi b)=>if kn.isEmpty&&kv.isEmpty then some (.bi b as) else if Nat.beq b 2&&kn==[191] then (match kv with|[y]=>if Gh y then some (.bi 3 as) else none|_=>none) else none
 | none=>none
set_option genCtorIdx false in
inductive EV where
 | cst (d:Const) (j:Nat) (p:Pos)
 | nm (x:Str) (p:Pos)
 | attr (v:Expr) (f:Str) (p:Pos)
 | bin (l:Expr) (o:Operator) (r:Expr) (p:Pos)
 | un (o:UnaryOp) (x:Expr) (p:Pos)
 | bool (o:BoolOp) (vs:List Expr) (p:Pos)
 | cmp (l:Expr) (os:List CmpOp) (es:List Expr) (p:Pos)
 | call (f:Expr) (as:List Expr) (ks:List Keyword) (p:Pos)
 | sub (v i:Expr) (p:Pos)
 | slice (lo hi st:Option Expr) (p:Pos)
 | tup (es:List Expr) (j:Nat) (p:Pos)
 | list (es:List Expr) (p:Pos)
 | dict (ks:List (Option Expr)) (vs:List Expr) (p:Pos)
 | star (e:Expr) (p:Pos)
 | oth (e:Expr)
noncomputable def EV.e:EV->Expr
 | .cst d j p=>.Constant d j p
 | .nm x p=>.Name x p
 | .attr v f p=>.Attribute v f p
 | .bin l o r p=>.BinOp l o r p
 | .un o x p=>.UnaryOp o x p
 | .bool o vs p=>.BoolOp o vs p
 | .cmp l os es p=>.Compare l os es p
 | .call f as ks p=>.Call f as ks p
 | .sub v i p=>.Subscript v i p
 | .slice lo hi st p=>.Slice lo hi st p
 | .tup es j p=>.Tuple es j p
 | .list es p=>.List es p
 | .dict ks vs p=>.Dict ks vs p
 | .star e p=>.Starred e p
 | .oth e=>e
noncomputable def mX:Expr->EV
 | .Constant d j p=>.cst d j p
 | .Name x p=>.nm x p
 | .Attribute v f p=>.attr v f p
 | .BinOp l o r p=>.bin l o r p
 | .UnaryOp o x p=>.un o x p
 | .BoolOp o vs p=>.bool o vs p
 | .Compare l os es p=>.cmp l os es p
 | .Call f as ks p=>.call f as ks p
 | .Subscript v i p=>.sub v i p
 | .Slice lo hi st p=>.slice lo hi st p
 | .Tuple es j p=>.tup es j p
 | .List es p=>.list es p
 | .Dict ks vs p=>.dict ks vs p
 | .Starred e p=>.star e p
 | e=>.oth e
theorem fB(e:Expr):(mX e).e=e:=by cases e<;>rfl
set_option genCtorIdx false in
inductive SV where
 | exp (e:Expr) (p:Pos)
 | brk (p:Pos)
 | cont (p:Pos)
 | ret (e:Option Expr) (p:Pos)
 | asg (ts:List Expr) (e:Expr) (p:Pos)
 | aug (t:Expr) (o:Operator) (e:Expr) (p:Pos)
 | ite (t:Expr) (a b:List Stmt) (p:Pos)
 | whl (t:Expr) (b e:List Stmt) (p:Pos)
 | for_ (t i:Expr) (b e:List Stmt) (p:Pos)
 | asrt (t:Expr) (m:Option Expr) (p:Pos)
 | rais (e c:Option Expr) (p:Pos)
 | oth (s:Stmt)
noncomputable def SV.s:SV->Stmt
 | .exp e p=>.Expr e p
 | .brk p=>.Break p
 | .cont p=>.Continue p
 | .ret e p=>.Return e p
 | .asg ts e p=>.Assign ts e p
 | .aug t o e p=>.AugAssign t o e p
 | .ite t a b p=>.If t a b p
 | .whl t b e p=>.While t b e p
 | .for_ t i b e p=>.For t i b e p
 | .asrt t m p=>.Assert t m p
 | .rais e c p=>.Raise e c p
 | .oth s=>s
noncomputable def MN:Stmt->SV
 | .Expr e p=>.exp e p
 | .Break p=>.brk p
 | .Continue p=>.cont p
 | .Return e p=>.ret e p
 | .Assign ts e p=>.asg ts e p
 | .AugAssign t o e p=>.aug t o e p
 | .If t a b p=>.ite t a b p
 | .While t b e p=>.whl t b e p
 | .For t i b e p=>.for_ t i b e p
 | .Assert t m p=>.asrt t m p
 | .Raise e c p=>.rais e c p
 | s=>.oth s
theorem Gi(s:Stmt):(MN s).s=s:=by cases s<;>rfl
def nameV:(w:EV)->Option {q:Str × Pos // w.e=.Name q.1 q.2}
 | .nm x p=>some ⟨(x,p),rfl⟩
 | _=>none
def JG:(w:EV)->Option {q:Expr × Pos // w.e=.Starred q.1 q.2}
 | .star x p=>some ⟨(x,p),rfl⟩
 | _=>none
def MP:(w:EV)->Option {q:List Expr × Nat × Pos // w.e=.Tuple q.1 q.2.1 q.2.2}
 | .tup es j p=>some ⟨(es,j,p),rfl⟩
 | _=>none
def JH:(w:EV)->Option {q:Expr × List Expr × List Keyword × Pos // w.e=.Call q.1 q.2.1 q.2.2.1 q.2.2.2}
 | .call f as ks p=>some ⟨(f,as,ks,p),rfl⟩
 | _=>none
def nameOf(e:Expr):Option Str:=(nameV (mX e)).map λq=>q.1.1
def Er(e:Expr):Option (List Expr):=(MP (mX e)).map λq=>q.1.1
def cV:Expr->Bool
 | .Call f _ _ _=>(nameOf f).isNone
 | _=>true
noncomputable def dO(p q:Pos):Bool:=p.endLine==q.line
noncomputable def iI{α β:Type}(f:α->Option β):List α->Option (List β)
 | []=>some []
 | x::r=>(f x).bind λa=>(iI f r).map λb=>a::b
def JK(f:Expr->Option CE):List Keyword->Option (List Nat × List CE)
 | []=>some ([],[])
 | w::r=>w.arg.bind λx=>(idOf x).bind λi=>(f w.value).bind λa=>(JK f r).map λb=>(i::b.1,a::b.2)
noncomputable def one{α:Type}:List α->Option α
 | [x]=>some x
 | _=>none
noncomputable def tB(r:Expr->Option CE):Option Expr->Option CE
 | none=>some .none
 | some e=>r e
section
variable(cx:CX)(r:Scope->Expr->Option CE)(sc:Scope)
def JL(v:Expr)(f:Str):Option CE:=if cV v then (r sc v).bind λa=>(idOf f).map λn=>.attr a n else none
noncomputable def Oz(x:Expr):UnaryOp->Option CE
 | .Not=>(r sc x).map .not
 | .USub=>(r sc x).map .neg
 | _=>none
def Es(l:Expr)(os:List CmpOp)(es:List Expr):Option CE:=(one os).bind λo=>(one es).bind λe=>(r sc l).bind λa=>(r sc e).bind λb=>(Ag o).map λk=>.cmp k a b
def v7(x:Str)(as:List Expr)(ks:List Keyword):Option CE:=(iI (r sc) as).bind λbs=>(JK (r sc) ks).bind λkv=>(idOf x).bind λn=>if dg sc x then vZ cx n bs kv.1 kv.2 else none
def v8(es:List Expr):Option Expr:=(one es).bind λe=>(JG (mX e)).map λq=>q.1.1
def v9(o:Expr)(n:Str)(ap:Pos)(as:List Expr)(ks:List Keyword)(p:Pos):Option CE :=
 if ks.isEmpty&&(dO ap p&&cV o&&Nat.blt as.length 29) then (r sc o).bind λa=>(idOf n).bind λm=>match v8 as with
  | some e=>(r sc e).map λb=>.methS a m b
  | none=>(iI (r sc) as).map λbs=>.meth a m bs
 else none
def Et(as:List Expr)(ks:List Keyword)(p:Pos):EV->Option CE
 | .nm x _=>v7 cx r sc x as ks
 | .attr o n ap=>v9 r sc o n ap as ks p
 | _=>none
def wj(e:Expr):Option Str:=(nameOf e).bind λx=>if dg sc x then some x else none
def Gj(v i:Expr):Option CE:=match wj sc v with
 | some x=>(idOf x).bind λn=>(look cx.tabs n).bind λg=>(r sc i).map λa=>.gsub g a
 | none=>(r sc v).bind λa=>(r sc i).map λb=>.sub a b
def Eu(v i:Expr):EV->Option CE
 | .slice lo hi st _=>if st.isNone then (r sc v).bind λa=>(tB (r sc) lo).bind λb=>(tB (r sc) hi).map λc=>.slice a b c else none
 | _=>Gj cx r sc v i
def Ew:EV->Option CE
 | .cst c _ _=>q9 c
 | .nm x _=>if iT sc x then (idOf x).map .var else none
 | .attr v f _=>JL r sc v f
 | .bin l o e _=>(r sc l).bind λa=>(r sc e).bind λb=>(Ep o).map λk=>.bin k a b
 | .un o x _=>Oz r sc x o
 | .bool o vs _=>(iI (r sc) vs).bind λas=>cBool o as
 | .cmp l os es _=>Es r sc l os es
 | .call f as ks p=>Et cx r sc as ks p (mX f)
 | .sub v i _=>Eu cx r sc v i (mX i)
 | .tup es _ _=>(iI (r sc) es).map .tup
 | .list es _=>(iI (r sc) es).map .list
 | .dict ks vs _=>if ks.isEmpty&&vs.isEmpty then some .edict else none
 | .slice _ _ _ _=>none
 | .star _ _=>none
 | .oth _=>none
end
def cE(cx:CX):Nat->Scope->Expr->Option CE
 | 0,_,_=>none
 | n+1,sc,e=>Ew cx (cE cx n) sc (mX e)
section
variable(r:Expr->Option CE)(sc:Scope)
def OD:EV->Option CT
 | .nm x _=>if iT sc x then (idOf x).map .var else none
 | .attr o f _=>(r o).bind λa=>(idOf f).bind λn=>if Nat.blt n 22 then some (.attr a n) else none
 | .sub o i _=>(r o).bind λa=>(r i).map λb=>.sub a b
 | _=>none
def cT(t:Expr):Option CT:=OD r sc (mX t)
def Jv(t:Expr):Option CT:=match Er t with
 | some es=>(iI (cT r sc) es).map .tup
 | none=>cT r sc t
noncomputable def Gk:EV->Bool
 | .oth _=>true
 | _=>false
noncomputable def isSeq:EV->Bool
 | .tup _ _ _=>true
 | .list _ _=>true
 | _=>false
def fJ(t e:Expr):Bool:=!Gk (mX e)&&!(isSeq (mX t)&&isSeq (mX e))
def tC(e:Expr):Option (Str × List Expr):=(JH (mX e)).bind λq=>if q.1.2.2.1.isEmpty then (wj sc q.1.1).map λx=>(x,q.1.2.1) else none
variable(q:List Stmt->Option (List CS))
def JM(o:Operator)(e:Expr):EV->Option CS
 | .nm x _=>if iT sc x then (idOf x).bind λn=>(Ep o).bind λk=>(r e).map λb=>.augv n k b else none
 | .attr v f _=>(r v).bind λa=>(idOf f).bind λn=>if Nat.blt n 22 then (Ep o).bind λk=>(r e).map λb=>.auga a n k b else none
 | _=>none
def JN(t i:Expr)(b:List Stmt):Option CS:=(q b).bind λy=>match tC sc i with
 | some (x,as)=>if x == "range" then (Jv r sc t).bind λu=>(iI r as).map λbs=>.ji u bs y
  else (Jv r sc t).bind λu=>(r i).map λe=>.eU u e y
 | none=>(Jv r sc t).bind λu=>(r i).map λe=>.eU u e y
def Ey:SV->Option CS
 | .exp e _=>if fJ e e then (r e).map .expr else none
 | .brk _=>some .brk
 | .cont _=>some .cont
 | .ret e _=>(tB r e).map .ret
 | .asg ts e _=>(one ts).bind λt=>if fJ t e then (Jv r sc t).bind λa=>(r e).map λb=>.asg a b else none
 | .aug t o e _=>JM r sc o e (mX t)
 | .ite t a b _=>(r t).bind λc=>(q a).bind λx=>(q b).map λy=>.ite c x y
 | .whl t b e _=>if e.isEmpty then (r t).bind λc=>(q b).map λx=>.whl c x else none
 | .for_ t i b e _=>if e.isEmpty then JN r sc q t i b else none
 | .asrt t m _=>if m.isNone then (r t).map .asrt else none
 | .rais _ _ _=>some .rais
 | .oth _=>none
end
def cS(cx:CX):Nat->Scope->Stmt->Option CS
 | 0,_,_=>none
 | n+1,sc,s=>Ey (cE cx 40 sc) sc (iI (cS cx n sc)) (MN s)
def JQ(cx:CX)(sc:Scope):List Stmt->Option (List CS):=iI (cS cx 40 sc)
end
section
open PySem PySem.W PySem.Calls PyProof.Rows
abbrev QV:=V->AH->Prop
abbrev QX:=Nat->AH->Prop
abbrev bI:=Nat->List V->AH->QV->QX->Prop
inductive Fl where
 | next|brk|cont
 | ret (v:V)
def gG:List (Nat × Option V)->List V->List (Nat × V)->Option (List V)
 | [],[],_=>some []
 | [],_::_,_=>none
 | _::r,v::vs,kw=>(gG r vs kw).map (v::·)
 | (x,d)::r,[],kw=>match look kw x with
  | some v=>(gG r [] kw).map (v::·)
  | none=>match d with
   | some v=>(gG r [] kw).map (v::·)
   | none=>none
def mY(f np:Nat)(kn:List Nat):Bool:=match f with
 | 37=>Nat.beq np 1&&kn==[1,138]
 | 56=>Nat.beq np 1&&(kn==[1,12] || kn==[1] || kn==[138,12] || kn==[138])
 | 40=>(Nat.beq np 2 || Nat.beq np 3)&&kn.isEmpty
 | 34=>(Nat.beq np 2 || Nat.beq np 3)&&kn.isEmpty
 | f=>Nat.beq np (cU f).length&&kn.isEmpty
def mZ(f:Nat)(pos:List V)(kn:List Nat)(kv:List V):Option (List V):=match mY f pos.length kn&&Nat.beq kn.length kv.length with
 | true=>gG (cU f) pos (kn.zip kv)
 | false=>none
def bO(Γ:bI)(f:Nat)(pos:List V)(kn:List Nat)(kv:List V)(H:AH)(Q:QV)(X:QX):Prop :=
 match mZ f pos kn kv with
 | some us=>Γ f us H Q X
 | none=>False
def newC(c:Cell)(H:AH)(Q:QV):Prop:=∀a,H a=none->Q (.ref a) (upd H a c)
def mV(o:Nat)(x y:V)(H:AH)(Q:QV):Prop:=match o with
 | 0=>match x,y with
  | .int i,.int j=>Q (.int (i+j)) H
  | _,_=>False
 | 1=>match x,y with | .int i,.int j=>Q (.int (i - j)) H|_,_=>False
 | 2=>match x,y with
  | .int i,.int j=>(i.natAbs<=1000000/\j.natAbs<=1000000)/\Q (.int (i * j)) H
  | _,_=>False
 | 3=>match x,y with | .int i,.int j=>(0<j/\j<1000000000)/\Q (.int (i / j)) H|_,_=>False
 | 4=>match x,y with | .int i,.int j=>0<j/\Q (.int (i % j)) H|_,_=>False
 | _=>False
noncomputable def bK(es:List (Int × V))(k:Int):Option V:=(es.find? λp=>decide (p.1=k)).map (·.2)
noncomputable def dput:List (Int × V)->Int->V->List (Int × V)
 | [],k,v=>[(k,v)]
 | p::r,k,v=>if p.1=k then (k,v)::r else p::dput r k v
noncomputable def fC(es:List (Int × V))(k:Int):List (Int × V):=es.filter λp=>!decide (p.1=k)
noncomputable def cG(xs:List Int):List Int:=xs.mergeSort λa b=>decide (a<=b)
theorem fY(l:List Int):(cG l).Perm l:=List.mergeSort_perm _ _
theorem lq(p:l.Perm l')(s:l'.Pairwise (·<=·)):cG l=l':=by
 have h:(cG l).Pairwise (·<=·):=(List.pairwise_mergeSort (le:=λa b:Int=>decide (a<=b)) (λa b c h1 h2=>RB (Int.le_trans (Rj h1) (Rj h2))) (λa b=>by
  rcases Int.le_total a b with h|h
  ·rw[RB h];rfl
  ·rw[RB h,Bool.or_true]) l).imp λh=>Rj h
 exact List.Perm.eq_of_pairwise (λa b _ _ h1 h2=>Int.le_antisymm h1 h2) h s ((fY l).trans p)
noncomputable def bZ(H:AH):V->Option Cell
 | .ref a=>H a
 | _=>none
def Ah(x y:V)(H:AH)(Q:Bool->Prop):Prop:=match x,y with
 | .int i,.int j=>Q (decide (i=j))
 | .ref a,.ref b=>match H a with
  | some (.inst c _)=>(a=b/\c=2)/\Q true
  | _=>False
 | _,_=>False
def cj(o:Nat)(x y:V)(H:AH)(Q:Bool->Prop):Prop:=match o with
 | 0=>Ah x y H Q
 | 1=>Ah x y H λt=>Q (!t)
 | 2=>match x,y with | .int i,.int j=>Q (decide (i<j))|_,_=>False
 | 3=>match x,y with | .int i,.int j=>Q (decide (i<=j))|_,_=>False
 | 4=>match x,y with | .int i,.int j=>Q (decide (j<i))|_,_=>False
 | 5=>match x,y with | .int i,.int j=>Q (decide (j<=i))|_,_=>False
 | 6=>match x,y with
  | .none,.none=>Q true | .int _,.none=>Q false | .ref _,.none=>Q false | .bool _,.none=>Q false
  | .ref a,.ref b=>match H a with
   | some (.inst _ _)=>(match H b with|some (.inst _ _)=>Q (Nat.beq a b)|_=>False)
   | _=>False
  | _,_=>False
 | 8=>match x,y with
  | .int i,.ref d=>match H d with|some (.dict es)=>Q (bK es i).isSome|_=>False
  | _,_=>False
 | 9=>match x,y with
  | .int i,.ref d=>match H d with|some (.dict es)=>Q (bK es i).isNone|_=>False
  | .ref _,.ref l=>match H l with|some (.list [])=>Q true|_=>False
  | _,_=>False
 | 7=>match x,y with
  | .none,.none=>Q false | .int _,.none=>Q true | .ref _,.none=>Q true | .bool _,.none=>Q true
  | .ref a,.ref b=>match H a with
   | some (.inst _ _)=>(match H b with|some (.inst _ _)=>Q (!Nat.beq a b)|_=>False)
   | _=>False
  | _,_=>False
 | _=>False
def cW(v:V)(H:AH)(Q:Bool->Prop):Prop:=match v with
 | .none=>Q false
 | .bool b=>Q b
 | .int i=>Q (!decide (i=0))
 | .ref a=>match H a with
  | some (.inst c d)=>(match H d with|some (.ns _)=>c=2/\Q true|_=>False)
  | _=>False
def jZ(v:V)(f:Nat)(H:AH)(Q:QV):Prop:=match v with
 | .ref a=>match H a with
  | some (.inst _ d)=>match H d with
   | some (.ns fs)=>match look fs f with|some u=>Q u H|none=>False
   | _=>False
  | _=>False
 | _=>False
noncomputable def idxV{α:Type}(xs:List α)(i:Int):Option α:=if 0<=i then xs[i.toNat]? else if i = -1 then xs.getLast? else none
def subV(Γ:bI)(v i:V)(H:AH)(Q:QV)(X:QX):Prop:=match v with
 | .ref a=>match H a with
  | some (.list xs)=>match i with
   | .int k=>match idxV xs k with|some u=>Q u H|none=>False
   | _=>False
  | some (.tup xs)=>match i with
   | .int k=>match idxV xs k with|some u=>Q u H|none=>False
   | _=>False
  | some (.ro ns)=>match i with
   | .int k=>match (if 0<=k then ns[k.toNat]? else none) with|some u=>Q (.int u) H|none=>False
   | _=>False
  | some (.dict es)=>match i with
   | .int k=>match bK es k with|some u=>Q u H|none=>False
   | _=>False
  | some (.inst c d)=>match H d with
   | some (.ns _)=>match bL c 90 with|some f=>bO Γ f [v,i] [] [] H Q X|none=>False
   | _=>False
  | _=>False
 | _=>False
def jG(v lo hi:V)(H:AH)(Q:QV):Prop:=match v with
 | .ref a=>match H a with
  | some (.list xs)=>match lo,hi with
   | .none,.int k=>0<=k/\newC (.list (xs.take k.toNat)) H Q
   | .int k,.none=>0<=k/\newC (.list (xs.drop k.toNat)) H Q
   | _,_=>False
  | _=>False
 | _=>False
noncomputable def fD(n:Nat):Option String:=match n with
 | 147=>some "list.append" | 150=>some "list.insert" | 151=>some "list.pop" | 152=>some "list.extend"
 | _=>none
noncomputable def Gl(xs:List V):List V->Option (V × List V)
 | [x]=>some (.none,xs++[x])
 | _=>none
noncomputable def Gm(xs:List V):List V->Option (V × List V)
 | [.int i,x]=>if 0<=i/\i<=xs.length then some (.none,xs.take i.toNat++x::xs.drop i.toNat) else none
 | _=>none
noncomputable def u9(xs:List V):List V->Option (V × List V)
 | []=>(xs.getLast?).map λu=>(u,xs.dropLast)
 | [.int i]=>if 0<=i then (xs[i.toNat]?).map λu=>(u,xs.take i.toNat++xs.drop (i.toNat+1)) else none
 | _=>none
noncomputable def wk(H:AH)(xs:List V):List V->Option (V × List V)
 | [.ref b]=>match H b with
  | some (.list ys)=>if xs.length+ys.length<=1000000 then some (.none,xs++ys) else none
  | _=>none
 | _=>none
def lop(H:AH)(n:Nat)(vs xs:List V):Option (V × List V):=match n with
 | 147=>Gl xs vs
 | 150=>Gm xs vs
 | 151=>u9 xs vs
 | 152=>wk H xs vs
 | _=>none
def bQ(a:Nat)(n:Nat)(vs:List V)(H:AH)(Q:QV):Prop:=∃xs u ys,H a=some (.list xs)/\xs.length<=1000000/\lop H n vs xs=some (u,ys)/\Q u (upd H a (.list ys))
def lu(a:Nat)(n:Nat)(vs:List V)(H:AH)(Q:QV):Prop:=∃es k u,H a=some (.dict es)/\vs=[.int k]/\bK es k=some u/\Q u (upd H a (.dict (fC es k)))
def lenV(Γ:bI)(v:V)(H:AH)(Q:QV)(X:QX):Prop:=match v with
 | .ref a=>match H a with
  | some (.list xs)=>Q (.int xs.length) H
  | some (.tup xs)=>Q (.int xs.length) H
  | some (.ro xs)=>Q (.int xs.length) H
  | some (.dict xs)=>Q (.int xs.length) H
  | some (.inst c d)=>match H d with
   | some (.ns _)=>match bL c 83 with
    | some f=>bO Γ f [v] [] [] H (λu H'=>match u with | .int n=>(0<=n/\n<1000000)/\Q (.int n) H'|_=>False) X
    | none=>False
   | _=>False
  | _=>False
 | _=>False
def mU(Γ:bI)(b:Nat)(vs:List V)(H:AH)(Q:QV)(X:QX):Prop:=match b with
 | 0=>match vs with|[v]=>lenV Γ v H Q X|_=>False
 | 1=>match vs with
  | [v]=>match bZ H v with|some (.list xs)=>newC (.list xs) H Q|_=>False
  | _=>False
 | 2=>match vs with
  | [v]=>match bZ H v with|some (.dict es)=>es.length<64/\newC (.list ((cG (es.map (·.1))).map .int)) H Q|_=>False
  | _=>False
 | 3=>match vs with
  | [v]=>match bZ H v with|some (.dict es)=>es.length<64/\newC (.list ((cG (es.map (·.1))).reverse.map .int)) H Q|_=>False
  | _=>False
 | 6=>match vs with
  | [v]=>match bZ H v with|some (.dict es)=>es.length<64/\newC (.dict es) H Q|_=>False
  | _=>False
 | 4=>match vs with|[.int i,.int j]=>Q (.int (min i j)) H|_=>False
 | 5=>match vs with|[.int i,.int j]=>Q (.int (max i j)) H|_=>False
 | _=>False
def M4(Γ:bI)(c:Nat)(vs:List V)(kn:List Nat)(kv:List V)(H:AH)(Q:QV)(X:QX):Prop :=
 ∀a d,a≠d->H a=none->H d=none ->
  match bL c 43 with
  | some f=>bO Γ f (.ref a::vs) kn kv (upd (upd H d (.ns [])) a (.inst c d)) (λu H'=>u=.none/\Q (.ref a) H') X
  | none=>vs=[]/\kn=[]/\Q (.ref a) (upd (upd H d (.ns [])) a (.inst c d))
mutual
def DE(Γ:bI)(m:Loc):CE->AH->QV->QX->Prop
 | .none,H,Q,_=>Q .none H
 | .tt,H,Q,_=>Q (.bool true) H
 | .ff,H,Q,_=>Q (.bool false) H
 | .edict,H,Q,_=>newC (.dict []) H Q
 | .int i,H,Q,_=>Q (.int i) H
 | .var x,H,Q,_=>match look m x with|some v=>Q v H|none=>False
 | .attr e f,H,Q,X=>DE Γ m e H (λv H=>jZ v f H Q) X
 | .bin o a b,H,Q,X=>DE Γ m a H (λx H=>DE Γ m b H (λy H=>mV o x y H Q) X) X
 | .neg a,H,Q,X=>DE Γ m a H (λx H=>match x with | .int i=>Q (.int (-i)) H|_=>False) X
 | .cmp o a b,H,Q,X=>DE Γ m a H (λx H=>DE Γ m b H (λy H=>cj o x y H λt=>Q (.bool t) H) X) X
 | .not a,H,Q,X=>DE Γ m a H (λx H=>cW x H λt=>Q (.bool (!t)) H) X
 | .and a b,H,Q,X=>DE Γ m a H (λx H=>cW x H λt=>match t with|true=>DE Γ m b H Q X|false=>Q x H) X
 | .or a b,H,Q,X=>DE Γ m a H (λx H=>cW x H λt=>match t with|true=>Q x H|false=>DE Γ m b H Q X) X
 | .fn f as,H,Q,X=>jH Γ m as H (λvs H=>bO Γ f vs [] [] H Q X) X
 | .mk c as kn kv,H,Q,X=>jH Γ m as H (λvs H=>jH Γ m kv H (λus H=>M4 Γ c vs kn us H Q X) X) X
 | .meth o n as,H,Q,X=>DE Γ m o H (λv H=>match v with
   | .ref a=>match H a with
    | some (.inst c d)=>match H d with
     | some (.ns _)=>match bL c n with
      | some f=>jH Γ m as H (λvs H=>bO Γ f (v::vs) [] [] H Q X) X
      | none=>False
     | _=>False
    | some (.list _)=>(match fD n with|some _=>jH Γ m as H (λvs H=>bQ a n vs H Q) X|none=>False)
    | some (.dict _)=>n=151/\jH Γ m as H (λvs H=>lu a n vs H Q) X
    | _=>False
   | _=>False) X
 | .methS o n e,H,Q,X=>DE Γ m o H (λv H=>match v with
   | .ref a=>match H a with
    | some (.inst c d)=>match H d with
     | some (.ns _)=>match bL c n with
      | some f=>DE Γ m e H (λu H=>match bZ H u with|some (.tup vs)=>bO Γ f (v::vs) [] [] H Q X|_=>False) X
      | none=>False
     | _=>False
    | _=>False
   | _=>False) X
 | .bi b as,H,Q,X=>jH Γ m as H (λvs H=>mU Γ b vs H Q X) X
 | .sub e i,H,Q,X=>DE Γ m e H (λv H=>DE Γ m i H (λk H=>subV Γ v k H Q X) X) X
 | .gsub g i,H,Q,X=>DE Γ m i H (λk H=>match k with
   | .int k=>(match (if 0<=k then g[k.toNat]? else none) with|some u=>Q (.int u) H|none=>False)
   | _=>False) X
 | .slice e lo hi,H,Q,X=>DE Γ m e H (λv H=>DE Γ m lo H (λa H=>DE Γ m hi H (λb H=>jG v a b H Q) X) X) X
 | .tup as,H,Q,X=>jH Γ m as H (λvs H=>vs.length<=1000000/\newC (.tup vs) H Q) X
 | .list as,H,Q,X=>jH Γ m as H (λvs H=>vs.length<=1000000/\newC (.list vs) H Q) X
def jH(Γ:bI)(m:Loc):List CE->AH->(List V->AH->Prop)->QX->Prop
 | [],H,Q,_=>Q [] H
 | e::r,H,Q,X=>DE Γ m e H (λv H=>jH Γ m r H (λvs H=>Q (v::vs) H) X) X
end
def DB(Γ:bI)(m:Loc):CE->AH->(Bool->AH->Prop)->QX->Prop
 | .not a,H,Q,X=>DB Γ m a H (λt H=>Q (!t) H) X
 | .and a b,H,Q,X=>DB Γ m a H (λt H=>match t with|true=>DB Γ m b H Q X|false=>Q false H) X
 | .or a b,H,Q,X=>DB Γ m a H (λt H=>match t with|true=>Q true H|false=>DB Γ m b H Q X) X
 | .cmp o a b,H,Q,X=>DE Γ m a H (λx H=>DE Γ m b H (λy H=>cj o x y H λt=>Q t H) X) X
 | e,H,Q,X=>DE Γ m e H (λv H=>cW v H λt=>Q t H) X
noncomputable def iU:List (Nat × Option V)->List V->Loc
 | p::ps,u::us=>(p.1,u)::iU ps us
 | _,_=>[]
noncomputable def Fl.val:Fl->V
 | .ret v=>v
 | _=>.none
abbrev QS:=Fl->Loc->AH->Prop
abbrev QY:=Nat->Loc->AH->Prop
def iJ(Γ:bI)(o i v:V)(H:AH)(Q:AH->Prop)(X:QX):Prop:=match o with
 | .ref a=>match H a with
  | some (.list xs)=>match i with
   | .int k=>(0<=k/\k<xs.length)/\Q (upd H a (.list (xs.set k.toNat v)))
   | _=>False
  | some (.dict es)=>match i with
   | .int k=>es.length<=1000/\Q (upd H a (.dict (dput es k v)))
   | _=>False
  | some (.inst c d)=>match H d with
   | some (.ns _)=>match bL c 91 with
    | some f=>bO Γ f [o,i,v] [] [] H (λ_ H'=>Q H') X
    | none=>False
   | _=>False
  | _=>False
 | _=>False
def nQ(o:V)(f:Nat)(v:V)(H:AH)(Q:AH->Prop):Prop:=match o with
 | .ref a=>match H a with
  | some (.inst _ d)=>match H d with
   | some (.ns fs)=>fs.length<=100/\Q (upd H d (.ns (put fs f v)))
   | _=>False
  | _=>False
 | _=>False
def lA(o:Nat)(x y:V)(H:AH)(Q:QV):Prop:=match o with
 | 0=>match x,y with | .int i,.int j=>Q (.int (i+j)) H|_,_=>False
 | 1=>match x,y with | .int i,.int j=>Q (.int (i - j)) H|_,_=>False
 | _=>False
mutual
def DT(Γ:bI):CT->V->Loc->AH->(Loc->AH->Prop)->QY->Prop
 | .var x,v,m,H,Q,_=>Q (put m x v) H
 | .attr o f,v,m,H,Q,X=>DE Γ m o H (λw H=>nQ w f v H λH=>Q m H) (λx H=>X x m H)
 | .sub o i,v,m,H,Q,X=>DE Γ m o H (λw H=>DE Γ m i H (λk H=>iJ Γ w k v H (λH=>Q m H) (λx H=>X x m H)) (λx H=>X x m H)) (λx H=>X x m H)
 | .tup ts,v,m,H,Q,X=>match bZ H v with
  | some (.tup vs)=>ts.length=vs.length/\Jw Γ ts vs m H Q X
  | _=>False
def Jw(Γ:bI):List CT->List V->Loc->AH->(Loc->AH->Prop)->QY->Prop
 | [],[],m,H,Q,_=>Q m H
 | t::ts,v::vs,m,H,Q,X=>DT Γ t v m H (λm H=>Jw Γ ts vs m H Q X) X
 | _,_,_,_,_,_=>False
end
def dR(again:Loc->AH->Prop)(Q:QS):Fl->Loc->AH->Prop
 | .next,m,H=>again m H
 | .cont,m,H=>again m H
 | .brk,m,H=>Q .next m H
 | .ret v,m,H=>Q (.ret v) m H
mutual
def DS(Γ:bI):CS->Loc->AH->QS->QY->Prop
 | .expr e,m,H,Q,X=>DE Γ m e H (λ_ H=>Q .next m H) (λx H=>X x m H)
 | .brk,m,H,Q,_=>Q .brk m H
 | .cont,m,H,Q,_=>Q .cont m H
 | .ret e,m,H,Q,X=>DE Γ m e H (λv H=>Q (.ret v) m H) (λx H=>X x m H)
 | .asg t e,m,H,Q,X=>DE Γ m e H (λv H=>DT Γ t v m H (λm H=>Q .next m H) X) (λx H=>X x m H)
 | .augv x o e,m,H,Q,X=>match look m x with
   | some u=>DE Γ m e H (λv H=>lA o u v H λw H=>Q .next (put m x w) H) (λx H=>X x m H)
   | none=>False
 | .auga o f k e,m,H,Q,X=>DE Γ m o H (λa H=>jZ a f H λu H=>DE Γ m e H (λv H=>lA k u v H λw H=>nQ a f w H λH=>Q .next m H) (λx H=>X x m H)) (λx H=>X x m H)
 | .ite c a b,m,H,Q,X=>DB Γ m c H (λt H=>match t with|true=>gH Γ a m H Q X|false=>gH Γ b m H Q X) (λx H=>X x m H)
 | .whl c b,m,H,Q,X=>∃I:Nat->Loc->AH->Prop,(∃n,I n m H)/\∀n m H,I n m H ->
   ∃m':Loc,(∀x v,look m' x=some v->look m x=some v)/\DB Γ m' c H (λt H=>match t with
    | true=>gH Γ b m' H (dR (λm H=>∃k,k<n/\I k m H) Q) X
    | false=>∃m'':Loc,(∀x v,look m'' x=some v->look m' x=some v)/\Q .next m'' H) (λx H=>X x m' H)
 | .eU t e b,m,H,Q,X=>DE Γ m e H (λv H=>match bZ H v with
   | some (.list xs)=>∃I:Nat->Loc->AH->Prop,I 0 m H/\∀i m H,I i m H->bZ H v=some (.list xs) /\
     match xs[i]? with
     | some x=>DT Γ t x m H (λm H=>gH Γ b m H (dR (I (i+1)) Q) X) X
     | none=>Q .next m H
   | _=>False) (λx H=>X x m H)
 | .ji t as b,m,H,Q,X=>jH Γ m as H (λvs H=>match (match vs with|[.int n]=>some (0,n)|[.int k,.int n]=>some (k,n)|_=>none:Option (Int × Int)) with
   | some (lo,hi)=>((-1000000<=lo/\lo<=1000000)/\(-1000000<=hi/\hi<=1000000))/\∃I:Int->Loc->AH->Prop,I lo m H/\∀i m H,I i m H->lo<=i ->
     if i<hi then DT Γ t (.int i) m H (λm H=>gH Γ b m H (dR (I (i+1)) Q) X) X else Q .next m H
   | none=>False) (λx H=>X x m H)
 | .asrt c,m,H,Q,X=>DB Γ m c H (λt H=>t=true/\Q .next m H) (λx H=>X x m H)
 | .rais,_,_,_,_=>False
def gH(Γ:bI):List CS->Loc->AH->QS->QY->Prop
 | [],m,H,Q,_=>Q .next m H
 | s::r,m,H,Q,X=>∃m':Loc,(∀x v,look m' x=some v->look m x=some v)/\DS Γ s m' H (λf m H=>match f with
   | .next=>gH Γ r m H Q X
   | f=>Q f m H) X
end
end
section
open PySem PySem.W PySem.Calls PyProof.Rows
def bY:Value->V->Prop
 | .none,.none=>True
 | .bool b,.bool c=>b=c
 | .int i _,.int j=>i=j
 | .ref a,.ref b=>a=b
 | _,_=>False
theorem bY.none(h:bY v .none):v=.none:=by cases v<;>first|rfl|cases h
theorem bY.bool(h:bY v (.bool b)):v=.bool b:=by cases v<;>first|(cases h;rfl)|cases h
theorem bY.int(h:bY v (.int i)):∃t,v=.int i t:=by cases v<;>first|(cases h;exact⟨_,rfl⟩)|cases h
theorem bY.ref(h:bY v (.ref a)):v=.ref a:=by cases v<;>first|(cases h;rfl)|cases h
inductive aK:List Value->List V->Prop
 | nil:aK [] []
 | cons {v:Value} {x:V} {vs:List Value} {xs:List V}:bY v x->aK vs xs->aK (v::vs) (x::xs)
namespace aK
theorem length{xs:List V}(h:aK vs xs):vs.length=xs.length:=by
 induction h with
 | nil=>rfl
 | cons _ _ ih=>simp [ih]
theorem get{xs:List V}(h:aK vs xs):∀{i:Nat} {x:V},xs[i]?=some x->∃v,vs[i]?=some v/\bY v x:=by
 induction h with
 | nil=>intro i x e;simp at e
 | cons a _ ih =>
  intro i x e
  cases i with
  | zero=>simp at e;subst e;exact⟨_,by simp,a⟩
  | succ n=>simp at e;obtain⟨v,h1,h2⟩:=ih e;exact⟨v,by simpa using h1,h2⟩
theorem append{xs:List V}(h:aK vs xs)(g:aK us ys):aK (vs++us) (xs++ys):=by
 induction h with
 | nil=>exact g
 | cons a _ ih=>exact .cons a ih
theorem one(h:bY v x):aK [v] [x]:=.cons h .nil
theorem take{xs:List V}(h:aK vs xs):∀n,aK (vs.take n) (xs.take n):=by
 induction h with
 | nil=>intro n;simp;exact .nil
 | cons a _ ih=>intro n;cases n with|zero=>exact .nil|succ n=>exact .cons a (ih n)
theorem drop{xs:List V}(h:aK vs xs):∀n,aK (vs.drop n) (xs.drop n):=by
 induction h with
 | nil=>intro n;simp;exact .nil
 | cons a h ih=>intro n;cases n with|zero=>exact .cons a h|succ n=>exact ih n
theorem set{xs:List V}(h:aK vs xs)(hv:bY v x):∀n,aK (vs.set n v) (xs.set n x):=by
 induction h with
 | nil=>intro n;simp;exact .nil
 | cons a h ih=>intro n;cases n with|zero=>exact .cons hv h|succ n=>exact .cons a (ih n)
theorem getLast{xs:List V}(h:aK vs xs)(e:xs.getLast?=some x):∃v,vs.getLast?=some v/\bY v x:=by
 rw[List.getLast?_eq_getElem?] at e
 obtain⟨v,h1,h2⟩:=h.get e
 exact⟨v,by rw[List.getLast?_eq_getElem?,h.length];exact h1,h2⟩
theorem nil_inv(h:aK vs []):vs=[]:=by cases h;rfl
theorem cons_inv{xs:List V}(h:aK vs (x::xs)):∃v us,vs=v::us/\bY v x/\aK us xs:=by cases h;exact⟨_,_,rfl,by assumption,by assumption⟩
end aK
set_option tactic.hygienic true in
theorem fK:∀(l:List Str) (n k:Nat),Af x l n=some k->n<=k/\l[k - n]?=some x
 | [],_,_,e=>by cases e
 | y::r,n,k,e=>by
  unfold Af at e
  split at e
  ·rename_i q;cases e;rw[Nat.sub_self];exact⟨RN _,by rw[show x=y from RV.mp q];rfl⟩
  ·obtain⟨h1,h2⟩:=fK r (n+1) k e
   refine⟨by lia,?_⟩
   rw[show k - n=(k - (n+1))+1 by lia];exact h2
theorem idOf_inj(hx:idOf x=some k)(hy:idOf y=some k):x=y:=by
 have a:=(fK _ _ _ hx).2
 have b:=(fK _ _ _ hy).2
 rw[a] at b;exact Ru b
def iV(x:Nat):Str:=(nP[x]?).getD ""
theorem tD(h:idOf y=some x):iV x=y:=by
 have e:nP[x - 0]?=some y:=(fK _ _ _ h).2
 rw[Nat.sub_zero] at e
 unfold iV
 rw[e]
 rfl
inductive cP:List DictEntry->List (Nat × V)->Prop
 | nil:cP [] []
 | cons {hsh:Int} {y:Str} {t:Tok} {v:Value} {x:Nat} {u:V} {es:List DictEntry} {fs:List (Nat × V)} :
   idOf y=some x->x<22->bY v u->cP es fs->cP (⟨hsh,.str y t,v⟩::es) ((x,u)::fs)
namespace cP
theorem noRef(h:cP es fs):es.any (·.refKey)=false:=by
 induction h with
 | nil=>rfl
 | cons _ _ _ _ ih=>rw[List.any_cons,ih];rfl
theorem find(h:cP es fs)(hy:idOf y=some x) :
  match look fs x with
  | some u=>∃e,es.find? (·.key.isStr y)=some e/\bY e.val u
  | none=>es.find? (·.key.isStr y)=none:=by
 induction h with
 | nil=>rfl
 | @cons hsh z t v k u es fs hz _ hv _ ih =>
  rw[Rz]
  show match (match Nat.beq k x with|true=>some u|false=>look fs x) with
  | some u=>∃e,(match z==y with|true=>some (⟨hsh,.str z t,v⟩:DictEntry)|false=>es.find? (·.key.isStr y))=some e/\bY e.val u
  | none=>(match z==y with|true=>some (⟨hsh,.str z t,v⟩:DictEntry)|false=>es.find? (·.key.isStr y))=none
  by_cases q:k=x
  ·subst q
   rw[cF,show(z==y)=true from RV.mpr (idOf_inj hz hy)]
   exact⟨_,rfl,hv⟩
  ·rw[aW q,show(z==y)=false from by
    cases p:z==y with
    | false=>rfl
    | true=>rw[show z=y from RV.mp p,hy] at hz;exact absurd (Ru hz).symm q]
   exact ih
theorem get(h:cP es fs)(hy:idOf y=some x)(e:look fs x=some u):∃v,getL y es=some (some v)/\bY v u:=by
 have:=h.find hy
 rw[e] at this
 obtain⟨en,h1,h2⟩:=this
 exact⟨en.val,by unfold getL;rw[h1],h2⟩
theorem none(h:cP es fs)(hy:idOf y=some x)(e:look fs x=.none):getL y es=some .none:=by
 have:=h.find hy
 rw[e] at this
 unfold getL;rw[this,h.noRef];rfl
theorem big(h:cP es fs)(hx:22<=x):look fs x=.none:=by
 induction h with
 | nil=>rfl
 | @cons _ _ _ _ k _ _ fs _ hk _ _ ih =>
  show(match Nat.beq k x with|true=>_|false=>look fs x)=_
  rw[aW (show k≠x by lia)];exact ih
theorem put(h:cP es fs)(hy:idOf y=some x)(hx:x<22)(hv:bY v u)(hsh:Int)(t:Tok) :
  cP (putL y hsh (.str y t) v es) (Mine.put fs x u):=by
 induction h with
 | nil=>exact .cons hy hx hv .nil
 | @cons hs z t' w k u' es fs hz hk hw hr ih =>
  show cP (if (z==y)=true then ⟨hs,.str z t',v⟩::es else ⟨hs,.str z t',w⟩::putL y hsh (.str y t) v es) (match Nat.beq k x with|true=>(x,u)::fs|false=>(k,u')::Mine.put fs x u)
  by_cases q:k=x
  ·subst q
   rw[cF,if_pos (RV.mpr (idOf_inj hz hy))]
   exact .cons hz hk hv hr
  ·rw[aW q,if_neg (λp=>q (by
    rw[show z=y from RV.mp p,hy] at hz;exact(Ru hz).symm))]
   exact .cons hz hk hw ih
theorem length(h:cP es fs):es.length=fs.length:=by
 induction h with
 | nil=>rfl
 | cons _ _ _ _ ih=>simp [ih]
end cP
def j4(K:Frag)(C:Addr):Bool :=
 plainGet K C "" && hasDictIn K C&&(findIn K (.ref C) "__setattr__" == some (some (.builtin "object.__setattr__")))&&plainOver K C&&makesIn K C&&noSeq K C &&
 (nP.take 22).all λy=>((findIn K (.ref C) y).any λa=>noGet K a)&&takerIn K C y==some none
noncomputable def ru(K:Frag)(C f:Addr)(y:Str):Bool:=findIn K (.ref C) y==some (some (.ref f))&&isFn K (.ref f)&&keepIn K (.ref f)&&fnIn K f&&(specialIn K (.ref f) "__get__" == some (some (.builtin "function.__get__")))&&(takesIn K (.ref f)==some false)&&!copiedNames.contains y
def dK(K:Frag)(fn:Nat->Addr)(C:Addr):List (Nat × Nat)->Bool
 | []=>true
 | p::r=>(match nP[p.1]? with|some y=>ru K C (fn p.2) y|none=>false)&&dK K fn C r
structure Setup where
 prog:Program
 w:World
 K:Frag
 p:Program
 loose:List Str
 mg:Str->Option Value
 mb:Str->Option Value
 os:OsState
 h0:Heap
 cls:Nat->Addr
 fn:Nat->Addr
 cx:CX
noncomputable def pJ:Nat->Option (Str × Value)
 | 0=>some ("len",.builtin "len")
 | 1=>some ("list",.type "list")
 | 2=>some ("sorted",.builtin "sorted")
 | 6=>some ("dict",.type "dict")
 | 4=>some ("min",.builtin "min")
 | 5=>some ("max",.builtin "max")
 | _=>none
inductive gA:List Str->List Nat->Prop
 | nil:gA [] []
 | cons {y:Str} {x:Nat} {ys:List Str} {xs:List Nat}:idOf y=some x->gA ys xs->gA (y::ys) (x::xs)
inductive fZ:List (Str × Value)->List (Nat × Option V)->List V->Prop
 | nil:fZ [] [] []
 | cons {y:Str} {x:Nat} {v:Value} {u:V} {d:Option V} {bs:List (Str × Value)} {ps:List (Nat × Option V)} {us:List V}:idOf y=some x->bY v u->fZ bs ps us->fZ ((y,v)::bs) ((x,d)::ps) (u::us)
structure Ml(Z:Setup):Prop where
 cls:∀c,eX c=true->j4 Z.K (Z.cls c)=true
 meth:∀c,eX c=true->dK Z.K Z.fn (Z.cls c) ((iR[c]?).getD [])=true
 bind:∀f fo fd,Z.K.lookup (Z.fn f)=some fo->fo.data=.func fd->∀pos vs kn ys kv ws us,aK vs pos->gA ys kn->aK ws kv->mZ f pos kn kv=some us ->
  ∃binds,(∀s':Shared,Z.K.In s'.heap->BindsTo s' fd ⟨vs,ys.zip ws⟩ binds)/\fZ binds (cU f) us
 len:findIn Z.K (.ref (Z.cls 2)) "__len__" = some none
 bool:findIn Z.K (.ref (Z.cls 2)) "__bool__" = some none
 fns:∀n f,look Z.cx.gs n=some (.fn f)->∃y,nP[n]?=some y/\nsIn Z.K mainGlobals y=some (some (.ref (Z.fn f)))/\keepIn Z.K (.ref (Z.fn f))=true/\fnIn Z.K (Z.fn f)=true
 clss:∀n c,look Z.cx.gs n=some (.cls c)->∃y,nP[n]?=some y/\nsIn Z.K mainGlobals y=some (some (.ref (Z.cls c)))/\keepIn Z.K (.ref (Z.cls c))=true
 bis:∀n b,look Z.cx.gs n=some (.bi b)->∃y v,nP[n]?=some y/\pJ b=some (y,v)/\nsIn Z.K mainGlobals y=some none
 range:nsIn Z.K mainGlobals "range" = some none
 big:sysModules<Z.h0.objs.size
 wu:findIn Z.K (.ref (Z.cls 1)) "__init__" = some (some (.builtin "object.__init__"))
 tabs:∀n g,look Z.cx.tabs n=some g->∃y a l dd sl j,nP[n]?=some y/\nsIn Z.K mainGlobals y=some (some (.ref a))/\Z.K.lookup a=some ⟨.type "tuple",dd,.seq l.toArray j,sl⟩/\IntsAre l g/\g.length<=1000000
structure Stat(Z:Setup)(h:Heap):Prop where
 S:Ml Z
 X:Z.K.In h
 T:TopRead Z.p Z.loose Z.mg Z.mb h
 cmp:CmpCls h (Z.cls 2)
inductive cQ:List (Int × Value)->List (Int × V)->Prop
 | nil:cQ [] []
 | cons {i:Int} {v:Value} {u:V} {es:List (Int × Value)} {fs:List (Int × V)}:bY v u->cQ es fs->cQ ((i,v)::es) ((i,u)::fs)
def bJ(Z:Setup)(h:Heap)(a:Addr):Cell->Prop
 | .inst c d=>eX c=true/\h.get? a=some (instObj (Z.cls c) d)
 | .ns fs=>∃es n,h.get? a=some (dictOf es n)/\cP es fs
 | .list xs=>xs.length<=2000000/\∃vs n,h.get? a=some (listOf vs.toArray n)/\aK vs xs
 | .tup xs=>xs.length<=2000000/\∃vs n,h.get? a=some { cls:=.type "tuple",data:=.seq vs.toArray n }/\aK vs xs
 | .dict es=>(a==sysModules)=false/\es.length<=2000/\∃ds,h.DictOf (intKind Z.prog Z.w) a ds/\cQ ds es
 | .ro ns=>ns.length<=2000000/\∃vs,h.IsList a vs.toArray/\IntsAre vs ns
noncomputable def Cell.own:Cell->Bool
 | .ro _=>false
 | _=>true
theorem bJ.at(x:bJ Z h a c)(e:∀o,h.get? a=some o->h'.get? a=some o):bJ Z h' a c:=by
 cases c with
 | inst c d=>exact⟨x.1,e _ x.2⟩
 | ns fs=>obtain⟨es,n,h1,h2⟩:=x;exact⟨es,n,e _ h1,h2⟩
 | list xs=>obtain⟨h0,es,n,h1,h2⟩:=x;exact⟨h0,es,n,e _ h1,h2⟩
 | tup xs=>obtain⟨h0,es,n,h1,h2⟩:=x;exact⟨h0,es,n,e _ h1,h2⟩
 | dict xs=>obtain⟨hm,h0,ds,h1,h2⟩:=x;exact⟨hm,h0,ds,h1.at e,h2⟩
 | ro ns=>obtain⟨h0,vs,⟨o,h1,h2⟩,h3⟩:=x;exact⟨h0,vs,⟨o,e _ h1,h2⟩,h3⟩
theorem bJ.some(x:bJ Z h a c):∃o,h.get? a=some o:=by
 cases c with
 | inst c d=>exact⟨_,x.2⟩
 | ns fs=>obtain⟨es,n,h1,h2⟩:=x;exact⟨_,h1⟩
 | list xs=>obtain⟨_,es,n,h1,h2⟩:=x;exact⟨_,h1⟩
 | tup xs=>obtain⟨_,es,n,h1,h2⟩:=x;exact⟨_,h1⟩
 | dict xs=>obtain⟨_,_,ds,⟨o,es,ep,h1,_⟩,h2⟩:=x;exact⟨_,h1⟩
 | ro ns=>obtain⟨_,vs,⟨o,h1,h2⟩,h3⟩:=x;exact⟨_,h1⟩
structure Rel(Z:Setup)(base:Heap)(H:AH)(s:Shared):Prop where
 stat:Stat Z Z.h0
 cu:∀b o,Z.h0.get? b=some o->base.get? b=some o
 size:Z.h0.objs.size<=s.heap.objs.size
 keep:∀b o,base.get? b=some o->s.heap.get? b=some o
 cell:∀a c,H a=some c->bJ Z s.heap a c
 out:∀a c,H a=some c->c.own=true->base.get? a=none
 ro:∀a ns,H a=some (.ro ns)->bJ Z Z.h0 a (.ro ns)
 gens:s.gens=#[]
 os:s.os=Z.os
def Gn(m:Loc)(mm:Str->Option Value):Prop:=∀x u,look m x=some u->∀y,idOf y=some x->∃v,mm y=some v/\bY v u
theorem Gn.put(M:Gn m mm)(hy:idOf y=some x)(hv:bY v u):Gn (put m x u) (λz=>if z=y then some v else mm z):=by
 intro k w e z hz
 rw[pI] at e
 by_cases q:x=k
 ·subst q
  rw[if_pos rfl] at e
  cases e
  exact⟨v,if_pos (idOf_inj hz hy),hv⟩
 ·rw[if_neg q] at e
  obtain⟨v',h1,h2⟩:=M k w e z hz
  refine⟨v',?_,h2⟩
  show(if z=y then _ else _)=_
  rw[if_neg (λp=>q (by rw[p,hy] at hz;exact Ru hz))];exact h1
structure aA(Z:Setup)(base:Heap)(L:Addr)(m:Loc)(H:AH)(s:Shared):Prop extends Rel Z base H s where
 fr:∃mm,Fr Z.h0 L s.heap mm/\Gn m mm
 away:H L=none
 fL:base.get? L=none
theorem Rel.k0(R:Rel Z base H s):∀b o,Z.h0.get? b=some o->s.heap.get? b=some o:=λb o e=>R.keep _ _ (R.cu _ _ e)
noncomputable def snap(H:AH)(h:Heap):Heap:=⟨h.objs.mapIdx λi o=>match H i with
 | some (.ro _)=>o
 | some _=>{ o with data:=.freed }
 | none=>o,h.life⟩
theorem jJ(H:AH)(h:Heap)(e:H a=some c)(ho:c.own=true):(snap H h).get? a=none:=by
 cases q:(snap H h).get? a with
 | none=>rfl
 | some o =>
  obtain⟨h1,h2⟩:=Heap.get?_some_iff.mp q
  simp only [snap,Array.getElem?_mapIdx,QW] at h1
  obtain⟨o',_,h4⟩:=h1
  rw[e] at h4
  cases c with
  | ro ns=>cases ho
  | _=>(dsimp only at h4;subst h4;cases h2)
set_option tactic.hygienic true in
theorem jK(H:AH)(h:Heap)(e:h.get? a=some o)(hn:∀c,H a=some c->c.own=false):(snap H h).get? a=some o:=by
 obtain⟨h1,h2⟩:=Heap.get?_some_iff.mp e
 refine Heap.get?_some_iff.mpr ⟨?_,h2⟩
 simp only [snap,Array.getElem?_mapIdx,h1,Option.map_some,Option.some.injEq]
 split
 ·rfl
 ·rename_i c hq hr
  have:=hn _ hr
  cases c with
  | ro ns=>exact absurd rfl (hq ns)
  | _=>cases this
 ·rfl
theorem kh(H:AH)(h:Heap)(e:(snap H h).get? a=some o):h.get? a=some o:=by
 obtain⟨h1,h2⟩:=Heap.get?_some_iff.mp e
 refine Heap.get?_some_iff.mpr ⟨?_,h2⟩
 simp only [snap,Array.getElem?_mapIdx,QW] at h1
 obtain⟨o',h3,h4⟩:=h1
 rw[h3]
 split at h4
 ·rw[h4]
 ·subst h4;cases h2
 ·rw[h4]
section
variable{Z:Setup}{base:Heap}{L:Addr}{m:Loc}{H:AH}{s:Shared}
theorem Rel.fM(R:Rel Z base H s):∀b o,base.get? b=some o->(snap H s.heap).get? b=some o:=λb o e =>
 jK H _ (R.keep b o e) λc hc=>by
  cases q:c.own with
  | false=>rfl
  | true=>rw[R.out _ _ hc q] at e;cases e
theorem Rel.snap(R:Rel Z base H s):Rel Z (snap H s.heap) H s where
 stat:=R.stat
 cu:=λb o e=>R.fM b o (R.cu b o e)
 size:=R.size
 keep:=λb o e=>kh H _ e
 cell:=R.cell
 out:=λa c e ho=>jJ H _ e ho
 ro:=R.ro
 gens:=R.gens
 os:=R.os
theorem aA.back(R:aA Z base L m H s)(R':Rel Z (Mine.snap H s.heap) H' s'):aA Z base L m H' s':=by
 obtain⟨mm,F,M⟩:=R.fr
 have kk:∀b o,base.get? b=some o->s'.heap.get? b=some o:=λb o e=>R'.keep _ _ (R.fM b o e)
 obtain⟨o,es,ep,h1,h2⟩:=F.ns
 have hL:(Mine.snap H s.heap).get? L=some o:=jK H _ h1 λc hc=>by rw[R.away] at hc;cases hc
 refine⟨⟨R.stat,R.cu,R'.size,kk,R'.cell,λa c e ho=>?_,R'.ro,R'.gens,R'.os⟩,⟨mm,⟨?_,λb o e=>kk _ _ (R.cu _ _ e),F.above⟩,M⟩,?_,R.fL⟩
 ·cases q:base.get? a with
  | none=>rfl
  | some o=>have:=R'.out a c e ho;rw[R.fM _ _ q] at this;cases this
 ·exact⟨o,es,ep,R'.keep _ _ hL,h2⟩
 ·cases q:H' L with
  | none=>rfl
  | some c =>
   cases p:c.own with
   | true=>have:=R'.out _ _ q p;rw[hL] at this;cases this
   | false =>
    exfalso
    cases c with
    | ro ns =>
     obtain⟨o,ho⟩:=(R'.ro _ _ q).some
     exact absurd (Nat.lt_of_lt_of_le (RL ho) F.above) (Nat.lt_irrefl _)
    | _=>cases p
theorem dM(h:upd H a c x=some c'):(x=a/\c'=c)\/(x≠a/\H x=some c'):=by
 by_cases q:x=a
 ·subst q;rw[jh] at h;exact .inl ⟨rfl,(Ru h).symm⟩
 ·rw[fX _ _ q] at h;exact .inr ⟨q,h⟩
theorem aA.change(R:aA Z base L m H s)(hc:H a=some c)(ho:c.own=true)(ho':c'.own=true)(hs:Heap.SameBut a s.heap h')(hn:bJ Z h' a c') :
  aA Z base L m (upd H a c') { s with heap:=h',toks:=t }:=by
 obtain⟨mm,F,M⟩:=R.fr
 have hb:=R.out _ _ hc ho
 have hne:∀b o,base.get? b=some o->b≠a:=λb o e q=>by rw[q,hb] at e;cases e
 have hLa:L≠a:=λq=>by rw[<-q,R.away] at hc;cases hc
 refine⟨⟨R.stat,R.cu,by rw[hs.1];exact R.size,λb o e=>(hs.2 b (hne b o e)).trans (R.keep b o e),λx d e=>?_,λx d e q=>?_,λx ns e=>?_,R.gens,R.os⟩,⟨mm,⟨F.ns.sameBut hs hLa,λb o e=>(hs.2 b (hne b o (R.cu _ _ e))).trans (F.keep b o e),F.above⟩,M⟩,?_,R.fL⟩
 ·rcases dM e with ⟨rfl,rfl⟩|⟨q,e⟩
  ·exact hn
  ·exact(R.cell _ _ e).at λo eo=>(hs.2 x q).trans eo
 ·rcases dM e with ⟨rfl,rfl⟩|⟨_,e⟩
  ·exact hb
  ·exact R.out _ _ e q
 ·rcases dM e with ⟨rfl,rfl⟩|⟨_,e⟩
  ·cases ho'
  ·exact R.ro _ _ e
 ·rw[fX _ _ hLa];exact R.away
theorem Rel.lt(R:Rel Z base H s)(e:H a=some c):a<s.heap.objs.size:=by
 obtain⟨o,ho⟩:=(R.cell _ _ e).some
 exact RL ho
theorem Rel.fresh(R:Rel Z base H s):H s.heap.objs.size=none:=by
 cases q:H s.heap.objs.size with
 | none=>rfl
 | some c=>exact absurd (R.lt q) (Nat.lt_irrefl _)
theorem aA.ext(R:aA Z base L m H s)(hz:s.heap.objs.size<=h'.objs.size)(hk:∀b o,s.heap.get? b=some o->h'.get? b=some o):aA Z base L m H { s with heap:=h',toks:=t }:=by
 obtain⟨mm,F,M⟩:=R.fr
 exact⟨⟨R.stat,R.cu,RM R.size hz,λb o e=>hk _ _ (R.keep b o e),λx d e=>(R.cell _ _ e).at λo eo=>hk _ _ eo,R.out,R.ro,R.gens,R.os⟩,⟨mm,⟨F.ns.keeps hk,λb o e=>hk _ _ (F.keep b o e),F.above⟩,M⟩,R.away,R.fL⟩
theorem aA.ext0(R:aA Z base L m H s)(hk:∀b o,s.heap.get? b=some o->h'.get? b=some o):aA Z base L m H { s with heap:=h',toks:=t }:=by
 obtain⟨mm,F,M⟩:=R.fr
 obtain⟨o,es,ep,h1,h2⟩:=F.ns
 exact⟨⟨R.stat,R.cu,RM F.above (Nat.le_of_lt (RL (hk _ _ h1))),λb o e=>hk _ _ (R.keep b o e),λx d e=>(R.cell _ _ e).at λo eo=>hk _ _ eo,R.out,R.ro,R.gens,R.os⟩,⟨mm,⟨F.ns.keeps hk,λb o e=>hk _ _ (F.keep b o e),F.above⟩,M⟩,R.away,R.fL⟩
theorem aA.extBut(R:aA Z base L m H s)(hk:Heap.ExtBut i s.heap h')(hi:H i=none)(hb:base.get? i=none)(hL:L≠i):aA Z base L m H { s with heap:=h',toks:=t }:=by
 obtain⟨mm,F,M⟩:=R.fr
 have hne:∀b o,base.get? b=some o->b≠i:=λb o e q=>by rw[q,hb] at e;cases e
 have hz:Z.h0.objs.size<=h'.objs.size:=by obtain⟨o,es,ep,h1,h2⟩:=F.ns;exact RM F.above (Nat.le_of_lt (RL (hk _ _ hL h1)))
 refine⟨⟨R.stat,R.cu,hz,λb o e=>hk _ _ (hne b o e) (R.keep b o e),λx d e=>(R.cell _ _ e).at λo eo=>hk _ _ (λq=>by rw[q,hi] at e;cases e) eo,R.out,R.ro,R.gens,R.os⟩,⟨mm,⟨?_,λb o e=>hk _ _ (hne b o (R.cu _ _ e)) (F.keep b o e),F.above⟩,M⟩,R.away,R.fL⟩
 obtain⟨o,es,ep,h1,h2⟩:=F.ns
 exact⟨o,es,ep,hk _ _ hL h1,h2⟩
theorem aA.push(R:aA Z base L m H s)(ho:c.own=true)(hn:bJ Z (s.heap.push o) s.heap.objs.size c) :
  aA Z base L m (upd H s.heap.objs.size c) { s with heap:=s.heap.push o,toks:=t }:=by
 have R':=R.ext (h':=s.heap.push o) (t:=t) (by rw[Heap.size_push];exact Nat.le_succ _) λb o' e=>QM _ e
 obtain⟨mm,F,M⟩:=R'.fr
 have hL:L≠s.heap.objs.size:=by
  obtain⟨mm,F,M⟩:=R.fr
  obtain⟨o,es,ep,h1,h2⟩:=F.ns
  exact Nat.ne_of_lt (RL h1)
 refine⟨⟨R'.stat,R'.cu,R'.size,R'.keep,λx d e=>?_,λx d e q=>?_,λx ns e=>?_,R'.gens,R'.os⟩,⟨mm,F,M⟩,?_,R.fL⟩
 ·rcases dM e with ⟨rfl,rfl⟩|⟨q,e⟩
  ·exact hn
  ·exact R'.cell _ _ e
 ·rcases dM e with ⟨rfl,rfl⟩|⟨_,e⟩
  ·cases q:base.get? s.heap.objs.size with
   | none=>rfl
   | some o=>exact absurd (RL (R.keep _ _ q)) (Nat.lt_irrefl _)
  ·exact R'.out _ _ e q
 ·rcases dM e with ⟨rfl,rfl⟩|⟨_,e⟩
  ·cases ho
  ·exact R'.ro _ _ e
 ·rw[fX _ _ hL];exact R'.away
def Ai(H:AH)(L:Addr)(h:Heap):Heap:=snap (upd H L (.ns [])) h
theorem jj(e:h.get? a=some o)(hL:a≠L)(hn:∀c,H a=some c->c.own=false):(Ai H L h).get? a=some o :=
 jK _ _ e λc hc=>by rw[fX _ _ hL] at hc;exact hn c hc
theorem aA.gJ(R:aA Z base L m H s):∀b o,base.get? b=some o->(Ai H L s.heap).get? b=some o:=λb o e =>
 jj (R.keep b o e) (λq=>by rw[q,R.fL] at e;cases e) λc hc=>by
  cases q:c.own with
  | false=>rfl
  | true=>rw[R.out _ _ hc q] at e;cases e
theorem aA.protect(R:aA Z base L m H s):aA Z (Ai H L s.heap) L m H s:=by
 refine⟨⟨R.stat,λb o e=>R.gJ b o (R.cu b o e),R.size,λb o e=>kh _ _ e,R.cell,λa c e ho=>?_,R.ro,R.gens,R.os⟩,R.fr,R.away,jJ _ _ (jh _ _ _) rfl⟩
 by_cases q:a=L
 ·rw[q,R.away] at e;cases e
 ·exact jJ _ _ ((fX _ _ q).trans e) ho
theorem aA.relax(R:aA Z base L m H s)(R':aA Z base' L m' H' s')(hk:∀b o,base.get? b=some o->base'.get? b=some o):aA Z base L m' H' s' :=
 ⟨⟨R'.stat,R.cu,R'.size,λb o e=>R'.keep _ _ (hk _ _ e),R'.cell,λa c e ho=>by
  cases q:base.get? a with
  | none=>rfl
  | some o=>exact absurd (R'.out a c e ho) (by rw[hk _ _ q];exact λh=>by cases h),R'.ro,R'.gens,R'.os⟩,R'.fr,R'.away,R.fL⟩
theorem aA.toks(R:aA Z base L m H s):aA Z base L m H { s with toks:=t }:=R.ext (RN _) λ_ _ e=>e
end
end
section
open PySem PySem.W PySem.Calls PyProof.Rows
def QE(Z:Setup)(base:Heap)(L:Addr)(m:Loc)(Q:QV):Value->Shared->Prop:=λv s'=>∃x H',bY v x/\aA Z base L m H' s'/\Q x H'
def QB(Z:Setup)(base:Heap)(L:Addr)(m:Loc)(Q:Bool->AH->Prop):Bool->Shared->Prop:=λb s'=>∃H',aA Z base L m H' s'/\Q b H'
def QU(Z:Setup)(base:Heap)(L:Addr)(m:Loc)(Q:AH->Prop):Unit->Shared->Prop:=λ_ s'=>∃H',aA Z base L m H' s'/\Q H'
section
variable{Z:Setup}{A:Around}{base:Heap}{L:Addr}{m:Loc}{H:AH}{s:Shared}{E:Value->Shared->Prop}
theorem qe(hv:bY v x)(R:aA Z base L m H s)(q:Q x H):QE Z base L m Q v s:=⟨x,H,hv,R,q⟩
theorem gB(R:aA Z base L m H s)(q:Q (.int i) H):QE Z base L m Q (.int i t) { s with toks:=t' }:=⟨.int i,H,rfl,R.toks,q⟩
theorem cX(R:aA Z base L m H s)(q:Q (.bool b) H):QE Z base L m Q (.bool b) s:=⟨.bool b,H,rfl,R,q⟩
theorem kj(R:aA Z base L m H s)(h:newC c H Q)(ho:c.own=true)(hn:bJ Z (s.heap.push o) s.heap.objs.size c) :
  QE Z base L m Q (.ref s.heap.objs.size) { s with heap:=s.heap.push o,toks:=t }:=⟨.ref s.heap.objs.size,_,rfl,R.push ho hn,h _ R.fresh⟩
theorem tE{h:Heap}{vs:List Value}:∀{xs:List V},aK vs xs->xs.length<=2000000->bJ Z (h.push (listOf vs.toArray 0)) h.objs.size (.list xs):=λhv hl =>
 ⟨hl,vs,0,Rc _ rfl,hv⟩
theorem Gq{h:Heap}{vs:List Value}:∀{xs:List V},aK vs xs->xs.length<=2000000->bJ Z (h.push { cls:=.type "tuple",data:=.seq vs.toArray }) h.objs.size (.tup xs):=λhv hl =>
 ⟨hl,vs,0,Rc _ rfl,hv⟩
theorem cY{h:Heap}{vs:List Value}(e:h.get? a=some (listOf vs.toArray n)):h.IsList a vs.toArray:=⟨_,e,rfl,n,rfl⟩
theorem lB {h:Heap}  {vs:List Value}  (e:h.get? a=some { cls:=.type "tuple",data:=.seq vs.toArray n }):IsTup h a vs.toArray:=⟨_,e,rfl,n,rfl⟩
theorem jk{x y:V}{P:Int->Int->Prop}(h:(match x,y with | .int i,.int j=>P i j|_,_=>False)):∃i j,x=.int i/\y=.int j/\P i j:=by
 cases x<;>cases y<;>first|exact h.elim|exact⟨_,_,rfl,rfl,h⟩
theorem vd{o:Operator}{k:Nat}{a b:Value}{x y:V}{Q:QV}(ho:Ep o=some k)(R:aA Z base L m H s)(ha:bY a x)(hb:bY b y)(h:mV k x y H Q) :
  wpAny (model Z.prog Z.w) A (binaryOp o a b) (QE Z base L m Q) E s:=by
 cases o<;>first|(cases ho;done)|skip
 case Add =>
  cases ho
  obtain⟨i,j,rfl,rfl,h⟩:=jk (P:=λi j=>Q (.int (i+j)) H) h
  obtain⟨t,rfl⟩:=ha.int;obtain⟨u,rfl⟩:=hb.int
  exact PyProof.Rows.add_int (gB R h)
 case Sub =>
  cases ho
  obtain⟨i,j,rfl,rfl,h⟩:=jk (P:=λi j=>Q (.int (i - j)) H) h
  obtain⟨t,rfl⟩:=ha.int;obtain⟨u,rfl⟩:=hb.int
  exact PyProof.Rows.sub_int' (gB R h)
 case Mult =>
  cases ho
  obtain⟨i,j,rfl,rfl,h⟩:=jk (P:=λi j=>(i.natAbs<=1000000/\j.natAbs<=1000000)/\Q (.int (i * j)) H) h
  obtain⟨t,rfl⟩:=ha.int;obtain⟨u,rfl⟩:=hb.int
  exact PyProof.Rows.mul_int (gB R h.2) (IntMulOk.of_right (intBits_le_64 (by have:=h.1;omega) (by have:=h.1;grind)))
 case FloorDiv =>
  cases ho
  obtain⟨i,j,rfl,rfl,h⟩:=jk (P:=λi j=>(0<j/\j<1000000000)/\Q (.int (i / j)) H) h
  obtain⟨t,rfl⟩:=ha.int;obtain⟨u,rfl⟩:=hb.int
  obtain⟨⟨c1,c2⟩,h⟩:=h
  refine PyProof.Rows.floordiv_int (by lia) ?_ (.inl (PyProof.noPylong_small (by omega)))
  rw[show i.fdiv j=i / j from Int.fdiv_eq_ediv_of_nonneg _ (by lia)]
  exact gB R h
 case Mod =>
  cases ho
  obtain⟨i,j,rfl,rfl,h⟩:=jk (P:=λi j=>0<j/\Q (.int (i % j)) H) h
  obtain⟨t,rfl⟩:=ha.int;obtain⟨u,rfl⟩:=hb.int
  obtain⟨c1,h⟩:=h
  refine PyProof.Rows.mod_int' (by lia) ?_
  rw[show i.fmod j=i % j from Int.fmod_eq_emod_of_nonneg _ (by lia)]
  exact gB R h
end
end
section
open PySem PySem.W PySem.Calls PyProof.Rows
theorem rz(hy:idOf y=some f)(hf:f<22):y∈nP.take 22:=by
 have h:=(fK _ _ _ hy).2
 rw[Nat.sub_zero] at h
 exact List.mem_of_getElem? (i:=f) (by rw[List.getElem?_take,if_pos hf];exact h)
structure M5(K:Frag)(C:Addr):Prop where
 get:∀y,plainGet K C y=true
 dict:hasDictIn K C=true
 set:findIn K (.ref C) "__setattr__" = some (some (.builtin "object.__setattr__"))
 over:plainOver K C=true
 makes:makesIn K C=true
 noSeq:W.noSeq K C=true
 fld:∀y f,idOf y=some f->f<22->(∃attr,findIn K (.ref C) y=some attr/\noGet K attr=true)/\takerIn K C y=some none
theorem vf{K:Frag}{C:Addr}(h:j4 K C=true):M5 K C:=by
 unfold j4 at h
 simp only [Ro,RV] at h
 obtain⟨⟨⟨⟨⟨⟨h1,h2⟩,h3⟩,h4⟩,h5⟩,h7⟩,h6⟩:=h
 refine⟨λy=>h1,h2,h3,h4,h5,h7,λy f hy hf=>?_⟩
 have q:=List.all_eq_true.mp h6 y (rz hy hf)
 simp only [Ro,RV] at q
 obtain⟨a,e,n⟩:=any_some q.1
 exact⟨⟨a,e,n⟩,q.2⟩
set_option tactic.hygienic true in
theorem lC{K:Frag}{fn:Nat->Addr}{C:Addr}:∀{l:List (Nat × Nat)},dK K fn C l=true->∀{n f:Nat},look l n=some f->∃y,nP[n]?=some y/\ru K C (fn f) y=true
 | [],_,_,_,e=>by cases e
 | p::r,h,n,f,e=>by
  unfold dK at h
  rw[Ro] at h
  unfold look at e
  cases q:Nat.beq p.1 n with
  | true =>
   rw[q] at e
   cases e
   rw[aJ q] at h
   split at h
   ·rename_i y hy;exact⟨y,hy,h.1⟩
   ·cases h.1
  | false=>rw[q] at e;exact lC h.2 e
theorem jl(hy:idOf y=some n)(hz:nP[n]?=some z):z=y:=by
 have h:=(fK _ _ _ hy).2
 rw[Nat.sub_zero,hz] at h
 exact Ru h
structure Ez(K:Frag)(C f:Addr)(y:Str):Prop where
 find:findIn K (.ref C) y=some (some (.ref f))
 fn:isFn K (.ref f)=true
 keep:keepIn K (.ref f)=true
 fnIn:W.fnIn K f=true
 get:specialIn K (.ref f) "__get__" = some (some (.builtin "function.__get__"))
 takes:takesIn K (.ref f)=some false
 cop:copiedNames.contains y=false
theorem m5{Z:Setup}(S:Ml Z){c n f:Nat}{y:Str}(hc:eX c=true)(hy:idOf y=some n)(e:bL c n=some f):Ez Z.K (Z.cls c) (Z.fn f) y:=by
 obtain⟨z,hz,h⟩:=lC (S.meth c hc) e
 rw[jl hy hz] at h
 unfold ru at h
 simp only [Ro,RV,Bool.not_eq_true'] at h
 obtain⟨⟨⟨⟨⟨⟨h1,h2⟩,h3⟩,h4⟩,h5⟩,h6⟩,h7⟩:=h
 exact⟨h1,h2,h3,h4,h5,h6,h7⟩
section
variable{Z:Setup}{A:Around}{base:Heap}{L:Addr}{m:Loc}{H:AH}{s:Shared}{E:Value->Shared->Prop}
theorem aA.X(R:aA Z base L m H s):Z.K.In s.heap:=R.stat.X.keeps R.k0
theorem aA.fG(R:aA Z base L m H s)(ha:H a=some (.inst c d))(hd:H d=some (.ns fs)) :
  eX c=true/\∃es n,W.InstAt s.heap a (instObj (Z.cls c) d) (Z.cls c) (some (dictOf es n))/\cP es fs/\s.heap.get? d=some (dictOf es n):=by
 obtain⟨h1,h2⟩:=R.cell _ _ ha
 obtain⟨es,n,h3,h4⟩:=R.cell _ _ hd
 exact⟨h1,es,n,⟨h2,rfl,rfl,h3⟩,h4,h3⟩
theorem bY.handed(h:bY v x):handedIn v=true:=by cases v<;>first|rfl|(cases x<;>cases h)
theorem cP.lt(h:cP es fs)(e:look fs x=some u):x<22:=by
 by_cases q:x<22
 ·exact q
 ·rw[h.big (by lia)] at e;cases e
theorem rB{a c d f:Nat}{fs:List (Nat × V)}{u:V}{y:Str}{Q:QV}(R:aA Z base L m H s)(ha:H a=some (.inst c d))(hd:H d=some (.ns fs))(hu:look fs f=some u)(hy:idOf y=some f)(q:Q u H) :
  wpAny (model Z.prog Z.w) A (getAttr (.ref a) y true) (QE Z base L m Q) E s:=by
 obtain⟨hc,es,n,I,F,_⟩:=R.fG ha hd
 obtain⟨mm,Fm,_⟩:=R.fr
 have C:=vf (R.stat.S.cls c hc)
 obtain⟨v,hv,hvu⟩:=F.get hy hu
 obtain⟨⟨attr,ha,hn⟩,_⟩:=C.fld y f hy (F.lt hu)
 exact get_own Fm R.stat.X I (C.get y) C.dict ha hn hv hvu.handed (qe hvu R.toks q)
theorem rC(m:List (Nat × α))(x:Nat)(v:α):(put m x v).length=if (look m x).isSome then m.length else m.length+1:=by
 induction m with
 | nil=>rfl
 | cons p r ih =>
  show(match Nat.beq p.1 x with|true=>(x,v)::r|false=>p::put r x v).length=if (match Nat.beq p.1 x with|true=>some p.2|false=>look r x).isSome then _ else _
  cases Nat.beq p.1 x with
  | true=>rfl
  | false =>
   simp only [Rn,ih]
   split<;>rfl
theorem rE{a c d f:Nat}{fs:List (Nat × V)}{u:V}{v:Value}{y:Str}{Q:AH->Prop}(R:aA Z base L m H s)(ha:H a=some (.inst c d))(hd:H d=some (.ns fs))(hl:fs.length<=100)(hy:idOf y=some f)(hf:f<22)(hv:bY v u)(q:Q (upd H d (.ns (put fs f u)))) :
  wpAny (model Z.prog Z.w) A (setAttr (.ref a) y v) (QU Z base L m Q) E s:=by
 obtain⟨hc,es,n,I,F,hD⟩:=R.fG ha hd
 have C:=vf (R.stat.S.cls c hc)
 have X:=R.X
 refine set_plain X I C.set (osa_open (s:={ s with toks:=s.toks+1 }) X I C.over (C.fld y f hy hf).2 λb=>?_)
 obtain⟨cd,hcd,hdict⟩:=any_some C.dict
 have hx:=I.at_
 refine RQ (RT (RQ (RQ (wpAny_loadPart hx (RQ (looks_clsIn (M:=model Z.prog Z.w) X hcd _ _ _ _ (λ_ _ e=>e) ?_))))))
 rw[hdict]
 refine RT (a:=some d) (RQ (RT (RQ ?_)))
 unfold nsSet
 refine RQ (RQ (wpAny_askSetting (RT (RQ (wpAny_mkText (RQ (wpAny_loadPart hD ?_)))))))
 dsimp only
 have nr:es.toArray.any (·.refKey)=false:=by rw[<-Array.any_toList];exact F.noRef
 rw[aRefKeyMayBeTheName_at,nr,Bool.and_false]
 have hup:=Heap.get?_update_self (Obj.putName y (PyData.keyHash Z.w.params y) (.str y (s.toks+1)) v) hD (by rw[putName_dict];rfl)
 rw[putName_dict] at hup
 have hlen:(putL y (PyData.keyHash Z.w.params y) (.str y (s.toks+1)) v es).length<=101:=by
  rw[(F.put hy hf hv _ _).length,rC]
  split<;>lia
 refine wpAny_updatePart hD ?_
 refine RQ (wpAny_lookBehind hup (pastItsLine_dict (by rw[Rh,sizeLine_eq];lia)) ?_)
 refine RT ?_
 have hn:bJ Z (s.heap.update d (Obj.putName y (PyData.keyHash Z.w.params y) (.str y (s.toks+1)) v)) d (.ns (put fs f u)):=⟨_,_,hup,F.put hy hf hv _ _⟩
 exact⟨_,R.change hd rfl rfl (Heap.SameBut.update _ _ _) hn,q⟩
end
end
section
open PySem PySem.W PySem.Calls PyProof.Rows
section
variable{Z:Setup}{A:Around}{base:Heap}{L:Addr}{m:Loc}{H:AH}{s:Shared}{E:Value->Shared->Prop}
theorem aA.list(R:aA Z base L m H s){xs:List V}(ha:H a=some (.list xs)):∃vs n,s.heap.get? a=some (listOf vs.toArray n)/\aK vs xs/\xs.length<=2000000:=by
 obtain⟨h0,vs,n,h1,h2⟩:=R.cell _ _ ha;exact⟨vs,n,h1,h2,h0⟩
theorem dh(R:aA Z base L m H s){xs ys:List V}{vs us:List Value}(ha:H a=some (.list xs))(e:s.heap.get? a=some (listOf vs.toArray n))(f:Array Value->Array Value)
  (hf:f vs.toArray=us.toArray) (hy:aK us ys) (hl:ys.length<=2000000):aA Z base L m (upd H a (.list ys)) { s with heap:=s.heap.update a (Obj.mapSeq f),toks:=t }:=by
 have q:=PySem.IsL.update (n:=n) e f
 rw[hf] at q
 have hn:bJ Z (s.heap.update a (Obj.mapSeq f)) a (.list ys):=⟨hl,us,_,q,hy⟩
 exact R.change ha rfl rfl (Heap.SameBut.update _ _ _) hn
theorem g8{xs:List V}(h:aK vs xs)(hl:xs.length<=2000000):vs.toArray.size<=sizeLine:=by
 rw[Rh,h.length,sizeLine_eq];lia
theorem nR{xs:List V}(R:aA Z base L m H s)(ha:H a=some (.list xs))(hl:xs.length<=1000000)(hv:bY v x)(q:Q .none (upd H a (.list (xs++[x])))) :
  wpAny (model Z.prog Z.w) A (call (.builtin "list.append") [.ref a,v]) (QE Z base L m Q) E s:=by
 obtain⟨vs,n,e,h,hz⟩:=R.list ha
 refine append_at e (λh' hs hg=>?_) (g8 h hz)
 rw[show vs.toArray.push v=(vs++[v]).toArray by simp] at hg
 have hn:bJ Z h' a (.list (xs++[x])):=⟨by rw[Rd];simp;lia,_,_,hg,h.append (.one hv)⟩
 exact⟨.none,_,trivial,R.change ha rfl rfl hs hn,q⟩
theorem nT{xs:List V}{i:Int}(R:aA Z base L m H s)(ha:H a=some (.list xs))(hl:xs.length<=1000000)(h0:0<=i)(h1:i<=xs.length)(hv:bY v x)
  (q:Q .none (upd H a (.list (xs.take i.toNat++x::xs.drop i.toNat)))) :
  wpAny (model Z.prog Z.w) A (call (.builtin "list.insert") [.ref a,.int i u,v]) (QE Z base L m Q) E s:=by
 obtain⟨vs,n,e,h,hz⟩:=R.list ha
 refine call_meets PySem.F.slot_list_insert ⟨_,e,rfl⟩ PySem.F.entry_list_insert (PySem.F.args_list_insert_3 _ _ _) (PySem.AutoSeq1.list_insert_list_int_val_1 a vs.toArray n i u v (by simp [Builtin.List.listFitsIndex];lia) (g8 h hz)) ⟨e,?_⟩
 refine⟨.none,_,trivial,dh (us:=vs.take i.toNat++v::vs.drop i.toNat) R ha e _ ?_ ((h.take _).append (.cons hv (h.drop _))) (by rw[Rd,Rn,Rp,List.length_drop];grind),q⟩
 have e1:(if i<0 then (i+(vs.toArray.size:Int)).toNat else min i.toNat vs.toArray.size)=i.toNat:=by
  rw[if_neg (by lia),Rh,h.length];grind
 show(vs.toArray.extract 0 (if i<0 then (i+(vs.toArray.size:Int)).toNat else min i.toNat vs.toArray.size)).push v++vs.toArray.extract (if i<0 then (i+(vs.toArray.size:Int)).toNat else min i.toNat vs.toArray.size)=_
 rw[kl_ins_eq,e1]
theorem vg{xs:List V}(R:aA Z base L m H s)(ha:H a=some (.list xs))(hx:xs.getLast?=some x)(q:Q x (upd H a (.list xs.dropLast))) :
  wpAny (model Z.prog Z.w) A (call (.builtin "list.pop") [.ref a]) (QE Z base L m Q) E s:=by
 obtain⟨vs,n,e,h,hz⟩:=R.list ha
 obtain⟨v,hv,hvx⟩:=h.getLast hx
 have hy:vs.toArray[vs.toArray.size - 1]?=some v:=by rw[Rh,List.getElem?_toArray,<-List.getLast?_eq_getElem?];exact hv
 refine call_meets PySem.F.slot_list_pop ⟨_,e,rfl⟩ PySem.F.entry_list_pop (PySem.F.args_list_pop_1 _) (PySem.MeetsSeq.list_pop_last a _ n v hy (g8 h hz)) ⟨e,?_⟩
 refine⟨x,_,hvx,dh (us:=vs.dropLast) R ha e _ ?_ (by rw[List.dropLast_eq_take,List.dropLast_eq_take,h.length];exact h.take _) (by rw[List.length_dropLast];lia),q⟩
 have hlt:vs.toArray.size - 1<vs.toArray.size:=by
  cases vs with
  | nil=>cases hv
  | cons=>exact Nat.lt_succ_self _
 show vs.toArray.eraseIdxIfInBounds (vs.toArray.size - 1)=_
 unfold Array.eraseIdxIfInBounds
 rw[dif_pos hlt]
 apply Array.toList_inj.mp
 rw[Array.toList_eraseIdx,Rh]
 show vs.eraseIdx (vs.length - 1)=vs.dropLast
 rw[List.dropLast_eq_take,List.eraseIdx_eq_take_drop_succ,List.drop_of_length_le (by lia),Rx]
theorem pK{xs:List V}(R:aA Z base L m H s)(ha:H a=some (.list xs))(h0:0<=i)(hx:xs[i.toNat]?=some x)(q:Q x (upd H a (.list (xs.take i.toNat++xs.drop (i.toNat+1))))) :
  wpAny (model Z.prog Z.w) A (call (.builtin "list.pop") [.ref a,.int i u]) (QE Z base L m Q) E s:=by
 obtain⟨vs,n,e,h,hz⟩:=R.list ha
 obtain⟨v,hv,hvx⟩:=h.get hx
 have hlt:i.toNat<vs.length:=by
  rcases Nat.lt_or_ge i.toNat vs.length with q|q
  ·exact q
  ·rw[Q7 q] at hv;cases hv
 have hi:i.toNat<2000000:=by rw[h.length] at hlt;lia
 refine call_meets PySem.F.slot_list_pop ⟨_,e,rfl⟩ PySem.F.entry_list_pop (PySem.F.args_list_pop_2 _ _) (PySem.MeetsSeq.list_pop_at a _ n i u i.toNat v (by simp [Builtin.List.listFitsIndex];lia) (by
  unfold seqIndex?
  rw[Rh]
  simp only [if_neg (show ¬i<0 by lia)]
  rw[if_pos (by simp only [Ro,decide_eq_true_eq];lia)]) (by simpa using hv) (g8 h hz)) ⟨e,?_⟩
 refine⟨x,_,hvx,dh (us:=vs.take i.toNat++vs.drop (i.toNat+1)) R ha e _ ?_ ((h.take _).append (h.drop _)) (by rw[Rd,Rp,List.length_drop];grind),q⟩
 have hlt':i.toNat<vs.toArray.size:=by rw[Rh];exact hlt
 show vs.toArray.eraseIdxIfInBounds i.toNat=_
 unfold Array.eraseIdxIfInBounds
 rw[dif_pos hlt']
 apply Array.toList_inj.mp
 rw[Array.toList_eraseIdx]
 show vs.eraseIdx i.toNat=_
 rw[List.eraseIdx_eq_take_drop_succ]
theorem extend_sound{xs:List V}(R:aA Z base L m H s)(ha:H a=some (.list xs))(hb:H b=some (.list ys))(hl:xs.length+ys.length<=1000000)(q:Q .none (upd H a (.list (xs++ys)))) :
  wpAny (model Z.prog Z.w) A (call (.builtin "list.extend") [.ref a,.ref b]) (QE Z base L m Q) E s:=by
 obtain⟨vs,n,e,h,hz⟩:=R.list ha
 obtain⟨us,k,e2,h2,hz2⟩:=R.list hb
 have l1:=h.length
 have l2:=h2.length
 refine call_meets PySem.F.slot_list_extend ⟨_,e,rfl⟩ PySem.F.entry_list_extend (PySem.F.args_list_extend_2 _ _) (PySem.AutoSeq1.list_extend_list_list_0 a vs.toArray n b us.toArray k (by
  simp only [Builtin.List.listTooLong,Rh,sizeLine_eq];simp;intro _;lia) (by rw[Rh,sizeLine_eq];lia) (by rw[Rh,Rh,sizeLine_eq];lia)) ⟨e,e2,?_⟩
 refine⟨.none,_,trivial,dh (us:=vs++us) R ha e _ ?_ (h.append h2) (by rw[Rd];lia),q⟩
 show vs.toArray++us.toArray=_
 simp
end
end
section
open PySem PySem.W PySem.Calls PyProof.Rows
section
variable{Z:Setup}{A:Around}{base:Heap}{L:Addr}{m:Loc}{H:AH}{s:Shared}{E:Value->Shared->Prop}
theorem aA.jL(R:aA Z base L m H s)(ha:s.heap.objs.size<=a):base.get? a=none:=by
 cases q:base.get? a with
 | none=>rfl
 | some o=>exact absurd (Nat.lt_of_lt_of_le (RL (R.keep _ _ q)) ha) (Nat.lt_irrefl _)
theorem aA.wz(R:aA Z base L m H s):L<s.heap.objs.size:=by
 obtain⟨mm,F,M⟩:=R.fr
 obtain⟨o,es,ep,h1,h2⟩:=F.ns
 exact RL h1
theorem aA.add(R:aA Z base L m H s)(ho:c.own=true)(hb:base.get? a=none)(hL:L≠a)(hn:bJ Z s.heap a c):aA Z base L m (upd H a c) s:=by
 refine⟨⟨R.stat,R.cu,R.size,R.keep,λx d e=>?_,λx d e q=>?_,λx ns e=>?_,R.gens,R.os⟩,R.fr,?_,R.fL⟩
 ·rcases dM e with ⟨rfl,rfl⟩|⟨q,e⟩
  ·exact hn
  ·exact R.cell _ _ e
 ·rcases dM e with ⟨rfl,rfl⟩|⟨_,e⟩
  ·exact hb
  ·exact R.out _ _ e q
 ·rcases dM e with ⟨rfl,rfl⟩|⟨_,e⟩
  ·cases ho
  ·exact R.ro _ _ e
 ·rw[fX _ _ hL];exact R.away
theorem aA.came(R:aA Z base L m H s)(hk:∀b o,s.heap.get? b=some o->h'.get? b=some o)(ho:c.own=true)(hn:bJ Z h' s.heap.objs.size c) :
  aA Z base L m (upd H s.heap.objs.size c) { s with heap:=h',toks:=t }:=by
 obtain⟨o,e⟩:=hn.some
 exact(R.ext (h':=h') (t:=t) (Nat.le_of_lt (RL e)) hk).add ho (R.jL (RN _)) (Nat.ne_of_lt R.wz) hn
noncomputable def nW(base:Heap)(L:Addr)(h:Heap):List (Addr × Obj):=(List.range h.objs.size).filterMap λa=>if a=L then none else match base.get? a with
 | some _=>none
 | none=>(h.get? a).map λo=>(a,o)
theorem pL(e:h.get? a=some o)(hb:base.get? a=none)(hL:a≠L):(a,o)∈nW base L h:=by
 refine List.mem_filterMap.mpr ⟨a,List.mem_range.mpr (RL e),?_⟩
 rw[if_neg hL,hb,e];rfl
set_option tactic.hygienic true in
theorem jm:News base L h (nW base L h):=by
 intro p hp
 obtain⟨a,_,e⟩:=List.mem_filterMap.mp hp
 split at e
 ·cases e
 ·rename_i hL
  split at e
  ·cases e
  ·rename_i hb
   obtain⟨o,h1,h2⟩:=QW.mp e
   subst h2
   exact⟨h1,hL,hb⟩
theorem aA.OJ(R:aA Z base L m H s)(F:PyProof.Rows.Fr Z.h0 L h' mm)(M:Gn m mm)(N:News Z.h0 L h' (nW Z.h0 L s.heap)):aA Z base L m H { s with heap:=h',toks:=t }:=by
 have kk:∀b o,b≠L->s.heap.get? b=some o->h'.get? b=some o:=λb o hb e=>by
  cases q:Z.h0.get? b with
  | some o'=>rw[F.keep _ _ q,<-R.k0 _ _ q,e]
  | none=>exact(N _ (pL e q hb)).1
 obtain⟨o,es,ep,h1,h2⟩:=F.ns
 have hz:Z.h0.objs.size<=h'.objs.size:=Nat.le_of_lt (Nat.lt_of_le_of_lt F.above (RL h1))
 exact⟨⟨R.stat,R.cu,hz,λb o e=>kk _ _ (λq=>by rw[q,R.fL] at e;cases e) (R.keep _ _ e),λx d e=>(R.cell _ _ e).at λo eo=>kk _ _ (λq=>by rw[q,R.away] at e;cases e) eo,R.out,R.ro,R.gens,R.os⟩,⟨mm,F,M⟩,R.away,R.fL⟩
theorem m6{xs:List V}(e:idxV xs k=some u):(0<=k/\xs[k.toNat]?=some u)\/(k = -1/\xs.getLast?=some u):=by
 unfold idxV at e
 split at e
 ·exact .inl ⟨by assumption,e⟩
 ·split at e
  ·exact .inr ⟨by assumption,e⟩
  ·cases e
theorem gK{xs:List α}(h:xs[i]?=some x):i<xs.length:=by
 rcases Nat.lt_or_ge i xs.length with q|q
 ·exact q
 ·rw[Q7 q] at h;cases h
set_option tactic.hygienic true in
theorem bA(slice:Expr)(hs:∀a b c d,slice≠.Slice a b c d)(o i:Value):subscripted slice false o i=operate [o,i] (getItem o i):=by
 unfold subscripted
 split
 ·rename_i a b c _ _;exact absurd rfl (hs _ _ _ _)
 ·rename_i q;cases q
 ·rfl
theorem list_item(hs:∀a b c d,slice≠.Slice a b c d){xs:List V}(R:aA Z base L m H s)(ha:H a=some (.list xs))(e:idxV xs k=some u)(q:Q u H) :
  wpAny (model Z.prog Z.w) A (subscriptTail value slice (.ref a) (.int k t)) (QE Z base L m Q) E s:=by
 obtain⟨vs,n,h1,h2,hz⟩:=R.list ha
 have hl:=cY h1
 rcases m6 e with ⟨h0,hx⟩|⟨h0,hx⟩
 ·obtain⟨v,hv,hvu⟩:=h2.get hx
  have:=gK hx
  exact tail_any hl.typeIs slot_list_getitem.lookup (wpAny_getItem_list hl h0 (by lia) (by simpa using hv) (qe hvu R q)) (bA slice hs _ _)
 ·obtain⟨v,hv,hvu⟩:=h2.getLast hx
  rw[List.getLast?_eq_getElem?] at hv
  have hlt:=gK hv
  subst h0
  refine tail_any hl.typeIs slot_list_getitem.lookup (kde_getNeg (j:=vs.length - 1) hl (by decide) (by decide) ?_ hv (qe hvu R q)) (bA slice hs _ _)
  unfold seqIndex?
  simp only [if_pos (show(-1:Int)<0 by decide)]
  rw[if_pos (by simp only [Ro,decide_eq_true_eq];lia)]
  congr 1;grind
theorem wA(hs:∀a b c d,slice≠.Slice a b c d){xs:List V}{k:Int}(R:aA Z base L m H s)(ha:H a=some (.tup xs))(e:idxV xs k=some u)(q:Q u H) :
  wpAny (model Z.prog Z.w) A (subscriptTail value slice (.ref a) (.int k t)) (QE Z base L m Q) E s:=by
 obtain⟨hz,vs,n,h1,h2⟩:=R.cell _ _ ha
 have hl:=lB h1
 have key:∃j v,seqIndex? k vs.length=some j/\vs[j]?=some v/\bY v u/\-(2 ^ 63)<=k/\k<2 ^ 63:=by
  rcases m6 e with ⟨h0,hx⟩|⟨h0,hx⟩
  ·obtain⟨v,hv,hvu⟩:=h2.get hx
   have:=gK hx
   have:=gK hv
   refine⟨k.toNat,v,?_,hv,hvu,by lia,by lia⟩
   unfold seqIndex?
   simp only [if_neg (show ¬k<0 by lia)]
   rw[if_pos (by simp only [Ro,decide_eq_true_eq];lia)]
  ·obtain⟨v,hv,hvu⟩:=h2.getLast hx
   rw[List.getLast?_eq_getElem?] at hv
   have hlt:=gK hv
   subst h0
   refine⟨vs.length - 1,v,?_,hv,hvu,by decide,by decide⟩
   unfold seqIndex?
   simp only [if_pos (show(-1:Int)<0 by decide)]
   rw[if_pos (by simp only [Ro,decide_eq_true_eq];lia)]
   congr 1;grind
 obtain⟨j,v,h3,h4,h5,h6,h7⟩:=key
 exact item_tupleT hl h6 h7 h3 h4 (qe h5 R q) (bA slice hs _ _)
theorem IntsAre.get(h:IntsAre vs ns):∀{i:Nat} {n:Int},ns[i]?=some n->∃t,vs[i]?=some (.int n t):=by
 induction h with
 | nil=>intro i n e;simp at e
 | cons k t _ ih =>
  intro i n e
  cases i with
  | zero=>simp at e;subst e;exact⟨t,by simp⟩
  | succ i=>simp at e;obtain⟨t,h⟩:=ih e;exact⟨t,by simpa using h⟩
theorem Aj(hs:∀a b c d,slice≠.Slice a b c d){k:Int}(R:aA Z base L m H s)(ha:H a=some (.ro ns))(h0:0<=k)(e:ns[k.toNat]?=some u)(q:Q (.int u) H) :
  wpAny (model Z.prog Z.w) A (subscriptTail value slice (.ref a) (.int k t)) (QE Z base L m Q) E s:=by
 obtain⟨hz,vs,hl,h2⟩:=R.cell _ _ ha
 obtain⟨t',hv⟩:=IntsAre.get h2 e
 have:=gK e
 exact tail_any hl.typeIs slot_list_getitem.lookup (wpAny_getItem_list (x:=.int u t') hl h0 (by lia) (by simpa using hv) (qe (x:=.int u) rfl R q)) (bA slice hs _ _)
theorem vh{vs:List Value}{y:Int}(h0:0<=y):slicePick vs.toArray none (some y) none=(vs.take y.toNat).toArray:=by
 have e:y=(y.toNat:Int):=by lia
 rw[e,slicePick_upto' vs.toArray y.toNat,<-e]
theorem pick_from{vs:List Value}{x:Int}(h0:0<=x):slicePick vs.toArray (some x) none none=(vs.drop x.toNat).toArray:=by
 have e:x=(x.toNat:Int):=by lia
 rw[e,slicePick_from' vs.toArray x.toNat,<-e]
set_option tactic.hygienic true in
theorem pN{value:Expr}{lo hi:Option Expr}{p:Pos}{v a b:Value}{x y z:V}{Q:QV}(R:aA Z base L m H s)(hv:bY v x)(ha:bY a y)(hb:bY b z)(h:jG x y z H Q) :
  wpAny (model Z.prog Z.w) A (subscriptTail value (.Slice lo hi none p) v (.ref s.heap.objs.size)) (QE Z base L m Q) E { s with heap:=s.heap.push { cls:=.type "slice",data:=.fields #[a,b,.none] } }:=by
 unfold jG at h
 split at h
 ·rename_i l
  obtain rfl:=hv.ref
  split at h
  ·rename_i xs hl
   obtain⟨vs,n,h1,h2,hz⟩:=R.list hl
   have R1:=R.ext (h':=s.heap.push { cls:=.type "slice",data:=.fields #[a,b,.none] }) (t:=s.toks) (by rw[Heap.size_push];exact Nat.le_succ _) λb o' e=>QM _ e
   have hL:=cY h1
   have key:∀(lo' hi':Option Int) (us:List Value) (ys:List V),IsPart a lo'->IsPart b hi'->slicePick vs.toArray lo' hi' none=us.toArray->aK us ys->ys.length<=2000000->newC (.list ys) H Q ->
     wpAny (model Z.prog Z.w) A (subscriptTail value (.Slice lo hi none p) (.ref l) (.ref s.heap.objs.size)) (QE Z base L m Q) E { s with heap:=s.heap.push { cls:=.type "slice",data:=.fields #[a,b,.none] } }:=by
    intro lo' hi' us ys pl pu hp hy hlen hq
    refine tail_any (ops:=[.ref s.heap.objs.size,.ref l]) (Heap.IsList.typeIs (s:={ s with heap:=s.heap.push { cls:=.type "slice",data:=.fields #[a,b,.none] } }) (hL.push _)) list_getitem_lookup
     (wpAny_getItem_list_slice (hL.push _) (Heap.IsSliceOf.new ..) pl pu .none (by simp) ?_ (g8 h2 hz)) rfl
    rw[hp]
    exact kj (s:={ s with heap:=s.heap.push { cls:=.type "slice",data:=.fields #[a,b,.none] } }) R1 hq rfl (tE hy hlen)
   split at h
   ·rename_i k
    obtain rfl:=ha.none
    obtain⟨t,rfl⟩:=hb.int
    exact key none (some k) _ _ .none (.int _ _) (vh h.1) (h2.take _) (by rw[Rp];lia) h.2
   ·rename_i k
    obtain rfl:=hb.none
    obtain⟨t,rfl⟩:=ha.int
    exact key (some k) none _ _ (.int _ _) .none (pick_from h.1) (h2.drop _) (by rw[List.length_drop];lia) h.2
   ·cases h
  ·cases h
 ·cases h
theorem gM(R:aA Z base L m H s)(h:(∃xs,H a=some (.list xs)/\n=xs.length)\/(∃xs,H a=some (.tup xs)/\n=xs.length)\/(∃xs,H a=some (.ro xs)/\n=xs.length))(q:Q (.int n) H) :
  wpAny (model Z.prog Z.w) A (call (.builtin "len") [.ref a]) (QE Z base L m Q) E s:=by
 have fin:∀k t,k=n->QE Z base L m Q (.int (k:Nat) t) { s with toks:=s.toks+1+1 }:=λk t e=>by subst e;exact gB R q
 rcases h with ⟨xs,ha,rfl⟩|⟨xs,ha,rfl⟩|⟨xs,ha,rfl⟩
 ·obtain⟨vs,k,h1,h2,hz⟩:=R.list ha
  refine PyProof.Rows.len_list (cY h1) (by rw[Rh,h2.length];lia) ?_
  exact fin _ _ (by rw[Rh,h2.length])
 ·obtain⟨hz,vs,k,h1,h2⟩:=R.cell _ _ ha
  refine PyProof.Rows.len_tuple (lB h1) (by rw[Rh,h2.length];lia) ?_
  exact fin _ _ (by rw[Rh,h2.length])
 ·obtain⟨hz,vs,h1,h2⟩:=R.cell _ _ ha
  refine PyProof.Rows.len_list h1 (by rw[Rh,h2.length];lia) ?_
  exact fin _ _ (by rw[Rh,h2.length])
theorem nY{xs:List V}(R:aA Z base L m H s)(ha:H a=some (.list xs))(q:newC (.list xs) H Q):wpAny (model Z.prog Z.w) A (call (.type "list") [.ref a]) (QE Z base L m Q) E s:=by
 obtain⟨vs,k,h1,h2,hz⟩:=R.list ha
 refine call_list_seq (hsz:=g8 h2 hz) a (.inl rfl) h1 rfl rfl λh' c' hk hD=>?_
 have hn:bJ Z h' s.heap.objs.size (.list xs):=⟨hz,vs,c',hD,h2⟩
 exact⟨.ref s.heap.objs.size,_,rfl,R.came hk rfl hn,q _ R.fresh⟩
theorem vm(hh:A.handled=none)(R:aA Z base L m H s)(q:Q (.int (max i j)) H):wpAny (model Z.prog Z.w) A (call (.builtin "max") [.int i t,.int j u]) (QE Z base L m Q) E s:=by
 obtain⟨mm,F,M⟩:=R.fr
 refine max_two_N hh F jm λh' tk F' N'=>?_
 refine⟨.int (max i j),H,?_,R.OJ F' M N',q⟩
 show(if j > i then j else i)=max i j
 split<;>lia
theorem vo(hh:A.handled=none)(R:aA Z base L m H s)(q:Q (.int (min i j)) H):wpAny (model Z.prog Z.w) A (call (.builtin "min") [.int i t,.int j u]) (QE Z base L m Q) E s:=by
 obtain⟨mm,F,M⟩:=R.fr
 refine min_two_N hh F jm λh' tk F' N'=>?_
 refine⟨.int (min i j),H,?_,R.OJ F' M N',q⟩
 show(if j<i then j else i)=min i j
 split<;>grind
end
end
section
open PySem PySem.W PySem.Calls PyProof.Rows
structure Ok(A:Around)(k:Nat):Prop where
 handled:A.handled=none
 depth:A.depth+4 * k+4<recursionLimit
 units:A.units+12 * k+100<cLine
theorem Ok.room(h:Ok A k):A.depth<recursionLimit:=by have:=h.depth;lia
structure Bo(A:Around)(k:Nat):Prop where
 handled:A.handled=none
 depth:A.depth+4 * k+7<recursionLimit
 units:A.units+12 * k+109<cLine
theorem Ok.bo(h:Ok A (k+1)):Bo (A.deeper env) k:=⟨h.handled,by have:=h.depth;show A.depth+1+4 * k+7<_;lia,by have:=h.units;rw[Around.deeper_units];lia⟩
theorem Bo.ok(h:Bo A k):Ok A k:=⟨h.handled,by have:=h.depth;lia,by have:=h.units;lia⟩
theorem Bo.in1(h:Bo A k):Ok A.in1 k:=⟨h.handled,by have:=h.depth;show A.depth+4 * k+4<_;lia,by have:=h.units;show A.units+1+12 * k+100<_;lia⟩
theorem Bo.make(h:Bo A k)(C:Addr)(rest:List Value)(kw:List (Str × Value)):Ok (A.under (.builtin "type.__call__" ⟨.ref C::rest,kw⟩)) k:=by
 refine⟨h.handled,?_,?_⟩
 ·have:=h.depth
  have e:(Code.builtin "type.__call__" ⟨.ref C::rest,kw⟩).weight=1:=by kernel_rfl
  show A.depth+(Code.builtin "type.__call__" ⟨.ref C::rest,kw⟩).weight+4 * k+4<_
  lia
 ·have:=h.units
  have e:(Code.builtin "type.__call__" ⟨.ref C::rest,kw⟩).cUnits=1:=by kernel_rfl
  show A.units+(Code.builtin "type.__call__" ⟨.ref C::rest,kw⟩).cUnits+12 * k+100<_
  lia
theorem fZ.find(h:fZ bs ps us):∀{x:Nat} {u:V},look (iU ps us) x=some u->∀{y:Str},idOf y=some x->∃v,bs.lookup y=some v/\bY v u:=by
 induction h with
 | nil=>intro x u e;cases e
 | @cons z k v w d bs ps us hz hv _ ih =>
  intro x u e y hy
  have e':(match Nat.beq k x with|true=>some w|false=>look (iU ps us) x)=some u:=e
  by_cases q:k=x
  ·subst q
   rw[cF] at e'
   cases e'
   exact⟨v,by rw[List.lookup_cons,show(y==z)=true from RV.mpr (idOf_inj hy hz)],hv⟩
  ·rw[aW q] at e'
   obtain⟨v',h1,h2⟩:=ih e' hy
   refine⟨v',?_,h2⟩
   rw[List.lookup_cons,show(y==z)=false from by
    cases p:y==z with
    | false=>rfl
    | true=>rw[RV.mp p,hz] at hy;exact absurd (Ru hy) q]
   exact h1
theorem lD{l:List (Str × Value)}(hn:(l.map (·.1)).Nodup)(y:Str):l.reverse.lookup y=l.lookup y:=by
 induction l with
 | nil=>rfl
 | cons p r ih =>
  obtain⟨k,v⟩:=p
  simp only [RK,List.nodup_cons] at hn
  rw[List.reverse_cons,List.lookup_append,ih hn.2]
  cases q:y==k with
  | true =>
   have e:y=k:=RV.mp q
   subst e
   have:r.lookup y=none:=by
    rw[List.lookup_eq_none_iff]
    intro p hp
    cases z:y==p.1 with
    | false=>simp [bne,z]
    | true=>exact absurd (List.mem_map.mpr ⟨p,hp,(RV.mp z).symm⟩) hn.1
   rw[this,List.lookup_cons,List.lookup_cons,beq_self_eq_true];rfl
  | false=>rw[List.lookup_cons,List.lookup_cons,q];cases r.lookup y<;>rfl
theorem fZ.nodup(h:fZ bs ps us)(hn:(ps.map (·.1)).Nodup):(bs.map (·.1)).Nodup:=by
 induction h with
 | nil=>exact List.Pairwise.nil
 | @cons z k v w d bs ps us hz hv hr ih =>
  simp only [RK,List.nodup_cons] at hn |-
  refine⟨λhm=>hn.1 ?_,ih hn.2⟩
  obtain⟨p,hp,e⟩:=List.mem_map.mp hm
  clear ih hn hv hm
  induction hr with
  | nil=>cases hp
  | @cons z' k' v' w' d' bs' ps' us' hz' _ _ ih' =>
   rcases RJ.mp hp with rfl|hp
   ·dsimp only at e;subst e
    rw[hz] at hz';cases hz';exact List.mem_cons_self
   ·exact List.mem_cons_of_mem _ (ih' hp)
theorem fZ.mis(h:fZ bs ps us)(hn:(ps.map (·.1)).Nodup):Gn (iU ps us) (λy=>bs.reverse.lookup y):=by
 intro x u e y hy
 obtain⟨v,h1,h2⟩:=h.find e hy
 exact⟨v,(lD (h.nodup hn) y).trans h1,h2⟩
def Back(Z:Setup)(base:Heap)(Q:QV)(r:Result)(s':Shared):Prop:=match r with
 | .ok (.ret v)=>∃u H',bY v u/\Rel Z base H' s'/\Q u H'
 | _=>False
def Call(Z:Setup)(k:Nat)(f:Nat)(us:List V)(H:AH)(Q:QV)(_X:QX):Prop :=
 ∀(A:Around) (base:Heap) (s:Shared) (args:Args) (fo:Obj) (fd:FuncData) (binds:List (Str × Value)),Ok A k->Rel Z base H s->Z.K.lookup (Z.fn f)=some fo->fo.data=.func fd ->
  (∀s':Shared,Z.K.In s'.heap->BindsTo s' fd args binds)->fZ binds (cU f) us ->
  codeAny (model Z.prog Z.w) A (.call (.ref (Z.fn f)) args) (Back Z base Q) s
def JR:Flow->Fl->Prop
 | .next,.next=>True
 | .brk,.brk=>True
 | .cont,.cont=>True
 | .ret v,.ret u=>bY v u
 | _,_=>False
def QF(Z:Setup)(base:Heap)(L:Addr)(Q:QS):Flow->Shared->Prop:=λf s'=>∃g m' H',JR f g/\aA Z base L m' H' s'/\Q g m' H'
abbrev EF:Value->Shared->Prop:=λ_ _=>False
def Ac(K:Frag)(f:Nat)(fd:FuncData):Prop:=fd.globals=mainGlobals/\fd.builtins=builtinsNs/\codeIn K fd.code fd.qualname=true/\fd.scope.isCoroutine=false/\fd.scope.isGenerator=false/\fd.scope.kind=.function/\(∀x∈fd.scope.names,x.2≠.cell)/\(∀q∈cU f,fd.scope.names.lookup (iV q.1)=some .local)/\((cU f).map (·.1)).Nodup
theorem Rel.Gr(R:Rel Z base H s)(R':Rel Z (Mine.snap H s.heap) H' s'):Rel Z base H' s' where
 stat:=R.stat
 cu:=R.cu
 size:=R'.size
 keep:=λb o e=>R'.keep _ _ (R.fM b o e)
 cell:=R'.cell
 out:=λa c e ho=>by
  cases q:base.get? a with
  | none=>rfl
  | some o=>have:=R'.out a c e ho;rw[R.fM _ _ q] at this;cases this
 ro:=R'.ro
 gens:=R'.gens
 os:=R'.os
theorem fZ.mem(h:fZ bs ps us):∀y∈bs,∃x d,idOf y.1=some x/\(x,d)∈ps:=by
 induction h with
 | nil=>intro y hy;cases hy
 | cons hz _ _ ih =>
  intro y hy
  rcases RJ.mp hy with rfl|hy
  ·exact⟨_,_,hz,List.mem_cons_self⟩
  ·obtain⟨x,d,h1,h2⟩:=ih y hy
   exact⟨x,d,h1,List.mem_cons_of_mem _ h2⟩
theorem lE(h1:fd.globals=mainGlobals)(h2:fd.builtins=builtinsNs)(L a:Addr):callEnv fd L a=envX fd.qualname fd.scope L a fd.code fd.closure:=by
 unfold callEnv
 rw[h1,h2]
 rfl
section
variable{Z:Setup}{k f:Nat}{fd:FuncData}{bd:List Stmt}{fo:Obj}{us:List V}{H:AH}{Q:QV}{s:Shared}{base:Heap}{binds:List (Str × Value)}
theorem Ac.loc(O:Ac Z.K f fd)(hB:fZ binds (cU f) us)(y:Str × Value)(hy:y∈binds):fd.scope.names.lookup y.1=some .local:=by
 obtain⟨x,d,h1,h2⟩:=hB.mem y hy
 rw[<-tD h1]
 exact O.2.2.2.2.2.2.2.1 _ h2
theorem Ac.frame(O:Ac Z.K f fd)(R:Rel Z base H s)(hB:fZ binds (cU f) us)(hns:h₀.Ns s.heap.objs.size (λx=>binds.reverse.lookup x))(hk:∀b o,s.heap.get? b=some o->h₀.get? b=some o)(t:Nat) :
  aA Z (Mine.snap H s.heap) s.heap.objs.size (iU (cU f) us) H { s with heap:=h₀,toks:=t }:=by
 have hz:s.heap.objs.size<h₀.objs.size:=by
  obtain⟨o,_,_,e,_⟩:=hns
  exact RL e
 have kk:∀b o,(Mine.snap H s.heap).get? b=some o->h₀.get? b=some o:=λb o e=>hk _ _ (kh H _ e)
 exact⟨⟨R.stat,R.snap.cu,RM R.size (Nat.le_of_lt hz),kk,λa d e=>(R.cell _ _ e).at λo eo=>hk _ _ eo,R.snap.out,R.ro,R.gens,R.os⟩,
  ⟨_,⟨hns,λb o e=>kk _ _ (R.snap.cu _ _ e),R.size⟩,hB.mis O.2.2.2.2.2.2.2.2⟩,R.fresh,by
   cases q:(Mine.snap H s.heap).get? s.heap.objs.size with
   | none=>rfl
   | some o=>exact absurd (RL (kh H _ q)) (Nat.lt_irrefl _)⟩
theorem tG(R:Rel Z base H s){fl:Flow}(h:QF Z (Mine.snap H s.heap) L (λfl _ H'=>Q fl.val H') fl s'):Back Z base Q (.ok (.ret (match (generalizing:=false) fl with | .ret v=>v|_=>.none))) s':=by
 obtain⟨g,m',H',hf,R',q⟩:=h
 refine⟨g.val,H',?_,R.Gr R'.toRel,q⟩
 cases fl<;>cases g<;>first|exact hf.elim|trivial|exact hf
theorem Call.body(O:Ac Z.K f fd)(at_:Z.K.lookup (Z.fn f)=some fo)(data:fo.data=.func fd)(st:fd.body=.stmts bd)
  (h:∀(A:Around) (base:Heap) (s:Shared) (L:Addr),Bo A k->aA Z base L (iU (cU f) us) H s ->
   wpAny (model Z.prog Z.w) A (execs bd (envX fd.qualname fd.scope L (Z.fn f) fd.code fd.closure)) (QF Z base L λfl _ H'=>Q fl.val H') EF s):Call Z (k+1) f us H Q X:=by
 intro A base s args fo' fd' binds ok R ho hd hb hB
 rw[at_] at ho
 cases ho
 rw[data] at hd
 cases hd
 have X:=R.stat.X.keeps R.k0
 refine codeAny_call_def (binds:=binds) ok.room (X _ _ at_) data (R.stat.T.nolimit.keeps R.k0) (codeRec_of X O.2.2.1) st (hb s X) O.2.2.2.2.2.2.1 (O.loc hB) (λh₀ hns hk=>?_) O.2.2.2.1 O.2.2.2.2.1 O.2.2.2.2.2.1
 rw[lE O.1 O.2.1]
 exact RP (h _ _ _ _ ok.bo (O.frame R hB hns hk _)) (λfl s' hq=>tG R hq) λ_ _ e=>e.elim
end
theorem Call.use(h:Call Z k f us H Q X)
  (ok:Ok A k) (R:aA Z base L m H s) (ho:Z.K.lookup (Z.fn f)=some fo) (hd:fo.data=.func fd) (hb:∀s':Shared,Z.K.In s'.heap->BindsTo s' fd args binds) (hB:fZ binds (cU f) us) {E:Value->Shared->Prop} :
  wpAny (model Z.prog Z.w) A (call (.ref (Z.fn f)) args.pos args.kw) (QE Z base L m Q) E s:=by
 refine wpAny_call (codeAny_mono (h A _ s args fo fd binds ok R.toRel.snap ho hd hb hB) λr s' hr=>?_)
 rcases r with e|(v|_|_|_)<;>first|exact hr.elim|skip
 obtain⟨u,H',hv,R',q⟩:=hr
 exact⟨u,H',hv,R.back R',q⟩
theorem Call.M6(h:Call Z k f us H Q X)
  (ok:Ok A k) (R:aA Z base L m H s) (ho:Z.K.lookup (Z.fn f)=some fo) (hd:fo.data=.func fd) (hb:∀s':Shared,Z.K.In s'.heap->BindsTo s' fd args binds) (hB:fZ binds (cU f) us)  (hP:∀v s',QE Z base L m Q v s'->P (.ok (.ret v)) s') :
  codeAny (model Z.prog Z.w) A (.call (.ref (Z.fn f)) args) P s:=by
 refine codeAny_mono (h A _ s args fo fd binds ok R.toRel.snap ho hd hb hB) λr s' hr=>?_
 rcases r with e|(v|_|_|_)<;>first|exact hr.elim|skip
 obtain⟨u,H',hv,R',q⟩:=hr
 exact hP _ _ ⟨u,H',hv,R.back R',q⟩
end
section
open PySem PySem.W PySem.Calls PyProof.Rows
def QL(Z:Setup)(base:Heap)(L:Addr)(m:Loc)(Q:List V->AH->Prop):List Value->Shared->Prop:=λvs s'=>∃xs H',aK vs xs/\aA Z base L m H' s'/\Q xs H'
section
variable{Z:Setup}{A:Around}{base:Heap}{L:Addr}{m:Loc}{H:AH}{s:Shared}{E:Value->Shared->Prop}{k:Nat}
set_option tactic.hygienic true in
theorem dj{v:Value}{x:V}{Q:Bool->AH->Prop}(R:aA Z base L m H s)(hv:bY v x)(h:cW x H λt=>Q t H):wpAny (model Z.prog Z.w) A (truthy v) (QB Z base L m Q) E s:=by
 cases x with
 | none=>obtain rfl:=hv.none;exact truthy_none ⟨H,R,h⟩
 | bool b=>obtain rfl:=hv.bool;exact wpAny_truthy_bool ⟨H,R,h⟩
 | int i =>
  obtain⟨t,rfl⟩:=hv.int
  refine PyProof.Rows.truthy_int ⟨H,R,?_⟩
  have h':Q (!decide (i=0)) H:=h
  rw[show(i != 0)=(!decide (i=0)) by by_cases q:i=0<;>simp [q]]
  exact h'
 | ref a =>
  obtain rfl:=hv.ref
  change (match H a with|some (.inst c d)=>(match H d with|some (.ns _)=>c=2/\Q true H|_=>False)|_=>False) at h
  split at h
  ·rename_i c d ha
   split at h
   ·rename_i fs hd
    obtain⟨rfl,h⟩:=h
    obtain⟨hc,es,n,I,_,_⟩:=R.fG ha hd
    obtain⟨mm,F,_⟩:=R.fr
    exact truthy_K0 F R.stat.X I R.stat.S.bool R.stat.S.len ⟨H,R,h⟩
   ·cases h
  ·cases h
theorem cQ.len{ds:List (Int × Value)}{es:List (Int × V)}(h:cQ ds es):ds.length=es.length:=by
 induction h with
 | nil=>rfl
 | cons _ _ ih=>exact congrArg (·+1) ih
theorem cQ.get{ds:List (Int × Value)}{es:List (Int × V)}(h:cQ ds es){k:Int}:match bK es k with
  | some u=>∃v,valueAt ds k=some v/\bY v u
  | none=>valueAt ds k=none:=by
 induction h with
 | nil=>rfl
 | @cons i v u es fs hv h ih =>
  unfold bK valueAt at ih |-
  rw[Rz,Rz]
  cases decide (i=k) with
  | true=>exact⟨v,rfl,hv⟩
  | false=>exact ih
theorem cQ.has{ds:List (Int × Value)}{es:List (Int × V)}(h:cQ ds es){k:Int}:(valueAt ds k).isSome=(bK es k).isSome:=by
 have:=h.get (k:=k)
 cases hd:bK es k with
 | none=>rw[hd] at this;rw[show valueAt ds k=none from this];rfl
 | some u=>rw[hd] at this;obtain⟨v,e,_⟩:=this;rw[e];rfl
theorem cQ.del{ds:List (Int × Value)}{es:List (Int × V)}(h:cQ ds es)(k:Int):cQ (without ds k) (fC es k):=by
 induction h with
 | nil=>exact .nil
 | @cons i v u es fs hv h ih =>
  unfold without fC at ih |-
  rw[List.filter_cons,List.filter_cons]
  by_cases e:i=k
  ·rw[if_neg (by simp [e]),if_neg (by simp [e])];exact ih
  ·rw[if_pos (by simp [e]),if_pos (by simp [e])];exact .cons hv ih
set_option tactic.hygienic true in
theorem cQ.put{ds:List (Int × Value)}{es:List (Int × V)}(h:cQ ds es){k:Int}{v:Value}{u:V}(hv:bY v u):(ds.map (·.1)).Nodup->cQ (stored ds k v) (dput es k u):=by
 induction h with
 | nil=>exact λ_=>.cons hv .nil
 | @cons i v0 u0 es fs h0 h ih =>
  intro hn
  obtain⟨hn1,hn2⟩:=List.nodup_cons.mp hn
  unfold stored dput
  by_cases e:i=k
  ·have e1:es.map (λkv=>if kv.1=k then (kv.1,v) else kv)=es:=by
    refine(List.map_congr_left λp hp=>?_).trans (List.map_id es)
    rw[if_neg λq=>hn1 (List.mem_map.mpr ⟨p,hp,q.trans e.symm⟩)];rfl
   rw[if_pos (by simp [e]),if_pos e,RK,if_pos e,e1,e]
   exact .cons hv h
  ·have ih:=ih hn2
   unfold stored at ih
   rw[if_neg e]
   rw[List.any_cons,Rr e,Bool.false_or,RK,if_neg e]
   split
   ·rename_i q;rw[if_pos q] at ih;exact .cons h0 ih
   ·rename_i q;rw[if_neg q] at ih;exact .cons h0 ih
theorem cQ.keys{ds:List (Int × Value)}{es:List (Int × V)}(h:cQ ds es):ds.map (·.1)=es.map (·.1):=by
 induction h with
 | nil=>rfl
 | cons _ _ ih=>exact congrArg (_::·) ih
theorem nZ{h:Heap}{a:Addr}{ds:List (Int × Value)}{knd:KeyKind Z.prog Z.w Int}(x:h.DictOf knd a ds):(ds.map (·.1)).Nodup:=by
 obtain⟨_,_,_,_,_,_,_,_,hn⟩:=x
 exact hn
set_option tactic.hygienic true in
theorem m8{a b:Value}{x y:V}{Q:Bool->Prop}(hu:A.units+100<cLine)(R:aA Z base L m H s)(ha:bY a x)(hb:bY b y)(h:Ah x y H Q)(Q':Value->Shared->Prop)
  (neg:Bool) (hq:∀t,Q t->Q' (.bool (if neg then !t else t)) s):wpAny (model Z.prog Z.w) A (compareOp (if neg then .NotEq else .Eq) a b) Q' E s:=by
 cases x<;>cases y<;>first|(cases h;done)|skip
 ·obtain⟨t,rfl⟩:=ha.int;obtain⟨u,rfl⟩:=hb.int
  rename_i i j
  have z:=hq _ h
  cases neg with
  | false=>exact PyProof.Rows.eq_int (by rw[show(i==j)=decide (i=j) by by_cases q:i=j<;>simp [q]];exact z)
  | true=>exact PyProof.Rows.ne_int (by rw[show(i != j)=!decide (i=j) by by_cases q:i=j<;>simp [q]];exact z)
 ·obtain rfl:=ha.ref;obtain rfl:=hb.ref
  rename_i p q
  change (match H p with|some (.inst c _)=>(p=q/\c=2)/\Q true|_=>False) at h
  split at h
  ·rename_i c d hp
   obtain⟨⟨rfl,rfl⟩,h⟩:=h
   obtain⟨hc,h2⟩:=R.cell _ _ hp
   obtain⟨N,mN,cl,he,hn⟩:=R.stat.cmp.keeps R.k0
   obtain⟨nm,qn,bs,sn,sub,col,dd,k0,k1,k2,k3,k5,hC⟩:=cl.obj
   have I:s.heap.CmpInst p (Z.cls 2) [.type "object"]:=⟨_,nm,qn,N,bs,true,sn,sub,false,col,dd,k0,k1,k2,k3,k5, "object.__new__",mN,h2,rfl,hC,cl.ns,he,hn⟩
   obtain⟨hh,g,d',t,os⟩:=s
   have z:=hq _ h
   cases neg with
   | false=>exact compareOp_eq_same PySem.F.cmp_object I (by lia) z
   | true=>exact compareOp_ne_same PySem.F.cmp_object I (by lia) z
  ·cases h
set_option tactic.hygienic true in
theorem pO{a b:Value}{x y:V}{Q:Bool->Prop}(R:aA Z base L m H s)(ha:bY a x)(hb:bY b y)(h:cj 6 x y H Q)(Q':Value->Shared->Prop)(neg:Bool)(hq:∀t,Q t->Q' (.bool (if neg then !t else t)) s) :
  wpAny (model Z.prog Z.w) A (compareOp (if neg then .IsNot else .Is) a b) Q' E s:=by
 have plain:∀c,plainIs a b=true->(a==b)=c->Q c->wpAny (model Z.prog Z.w) A (compareOp (if neg then .IsNot else .Is) a b) Q' E s:=by
  intro c hp e q
  have z:=hq _ q
  cases neg with
  | false=>exact wpAny_is_plain hp (by rw[e];exact z)
  | true=>exact wpAny_isNot_plain hp (by rw[e];exact z)
 cases y with
 | none =>
  obtain rfl:=hb.none
  cases x with
  | none=>obtain rfl:=ha.none;exact plain true rfl rfl h
  | bool b=>obtain rfl:=ha.bool;exact plain false rfl rfl h
  | int i=>obtain⟨t,rfl⟩:=ha.int;exact plain false rfl rfl h
  | ref p=>obtain rfl:=ha.ref;exact plain false rfl rfl h
 | bool b=>cases x<;>cases h
 | int b=>cases x<;>cases h
 | ref q =>
  obtain rfl:=hb.ref
  cases x with
  | none=>cases h
  | bool b=>cases h
  | int i=>cases h
  | ref p =>
   obtain rfl:=ha.ref
   change (match H p with|some (.inst _ _)=>(match H q with|some (.inst _ _)=>Q (Nat.beq p q)|_=>False)|_=>False) at h
   split at h
   ·rename_i c d hp
    split at h
    ·rename_i c' d' hq'
     have z:=hq _ h
     by_cases e:p=q
     ·subst e
      rw[cF] at z
      cases neg with
      | false=>exact wpAny_is_ref_self z
      | true=>exact wpAny_isNot_ref_self z
     ·rw[aW e] at z
      obtain⟨_,h1⟩:=R.cell _ _ hp
      obtain⟨_,h2⟩:=R.cell _ _ hq'
      cases neg with
      | false=>exact wpAny_is_ref_other e h1 h2 (by intro z;cases z) z
      | true=>exact wpAny_isNot_ref_other e h1 h2 (by intro z;cases z) z
    ·cases h
   ·cases h
theorem M7(x y:V)(Q:Bool->Prop):cj 7 x y H Q=cj 6 x y H λt=>Q (!t):=by
 cases x<;>cases y<;>rfl
set_option tactic.hygienic true in
theorem m9{o:CmpOp}{n:Nat}{a b:Value}{x y:V}{Q:QV}(ho:Ag o=some n)(hu:A.units+100<cLine)(R:aA Z base L m H s)(ha:bY a x)(hb:bY b y)(h:cj n x y H λt=>Q (.bool t) H) :
  wpAny (model Z.prog Z.w) A (compareOp o a b) (QE Z base L m Q) E s:=by
 cases o<;>cases ho
 case Eq=>exact m8 (Q:=λt=>Q (.bool t) H) hu R ha hb h _ false λt q=>cX R q
 case NotEq=>exact m8 (Q:=λt=>Q (.bool (!t)) H) hu R ha hb h _ true λt q=>cX R q
 case Lt =>
  obtain⟨i,j,rfl,rfl,h⟩:=jk (P:=λi j=>Q (.bool (decide (i<j))) H) h
  obtain⟨t,rfl⟩:=ha.int;obtain⟨u,rfl⟩:=hb.int
  exact PyProof.Rows.lt_int (cX R h)
 case LtE =>
  obtain⟨i,j,rfl,rfl,h⟩:=jk (P:=λi j=>Q (.bool (decide (i<=j))) H) h
  obtain⟨t,rfl⟩:=ha.int;obtain⟨u,rfl⟩:=hb.int
  exact PyProof.Rows.le_int (cX R h)
 case Gt =>
  obtain⟨i,j,rfl,rfl,h⟩:=jk (P:=λi j=>Q (.bool (decide (j<i))) H) h
  obtain⟨t,rfl⟩:=ha.int;obtain⟨u,rfl⟩:=hb.int
  exact PyProof.Rows.gt_int (cX R h)
 case GtE =>
  obtain⟨i,j,rfl,rfl,h⟩:=jk (P:=λi j=>Q (.bool (decide (j<=i))) H) h
  obtain⟨t,rfl⟩:=ha.int;obtain⟨u,rfl⟩:=hb.int
  exact PyProof.Rows.ge_int (cX R h)
 case Is=>exact pO R ha hb h _ false λt q=>cX R q
 case IsNot=>exact pO R ha hb (by rw[M7] at h;exact h) _ true λt q=>cX R q
 case In =>
  cases x<;>first|(cases h;done)|skip
  cases y<;>first|(cases h;done)|skip
  obtain⟨t,rfl⟩:=ha.int
  obtain rfl:=hb.ref
  rename_i i d
  change (match H d with|some (.dict es)=>Q (.bool (bK es i).isSome) H|_=>False) at h
  split at h
  ·rename_i es hd
   obtain⟨hm,_,ds,h1,h2⟩:=R.cell _ _ hd
   exact wpAny_in_of (knd:=intKind Z.prog Z.w) (k:=i) (by simp [intKind,Value.isInt]) hm h1.mapOf (by rw[h2.has];exact cX R.toks h)
  ·cases h
 case NotIn =>
  cases x<;>first|(cases h;done)|skip
  ·cases y<;>first|(cases h;done)|skip
   obtain⟨t,rfl⟩:=ha.int
   obtain rfl:=hb.ref
   rename_i i d
   change (match H d with|some (.dict es)=>Q (.bool (bK es i).isNone) H|_=>False) at h
   split at h
   ·rename_i es hd
    obtain⟨hm,_,ds,h1,h2⟩:=R.cell _ _ hd
    refine wpAny_notIn_of (knd:=intKind Z.prog Z.w) (k:=i) (by simp [intKind,Value.isInt]) hm h1.mapOf ?_
    rw[h2.has,show(!(bK es i).isSome)=(bK es i).isNone by cases bK es i<;>rfl]
    exact cX R.toks h
   ·cases h
  ·cases y<;>first|(cases h;done)|skip
   obtain rfl:=ha.ref
   obtain rfl:=hb.ref
   rename_i p l
   change (match H l with|some (.list [])=>Q (.bool true) H|_=>False) at h
   split at h
   ·rename_i hl
    obtain⟨_,vs,n,h1,h2⟩:=R.cell _ _ hl
    obtain rfl:=h2.nil_inv
    exact PySem.SeqAt.notIn_listAt (items:=#[]) (λ_=>false) (cY h1) (λy hy=>(Array.not_mem_empty y hy).elim) (by rw[show(!(#[]:Array Value).any λ_=>false)=true by simp];exact cX R h)
   ·cases h
end
end
section
open PySem PySem.W PySem.Calls PyProof.Rows
def SE(Z:Setup)(k:Nat)(env:Env)(L:Addr)(e:Expr)(c:CE):Prop :=
 ∀(A:Around) (base:Heap) (m:Loc) (H:AH) (s:Shared) (Q:QV) (X:QX),Bo A k->aA Z base L m H s->DE (Call Z k) m c H Q X->wpAny (model Z.prog Z.w) A (eval e env) (QE Z base L m Q) EF s
def ST(Z:Setup)(k:Nat)(env:Env)(L:Addr)(e:Expr)(c:CE):Prop :=
 ∀(A:Around) (base:Heap) (m:Loc) (H:AH) (s:Shared) (Q:Bool->AH->Prop) (X:QX),Bo A k->aA Z base L m H s->DB (Call Z k) m c H Q X->wpAny (model Z.prog Z.w) A (isTrue e env (eval e env)) (QB Z base L m Q) EF s
inductive dH(Z:Setup)(k:Nat)(env:Env)(L:Addr):List Expr->List CE->Prop
 | nil:dH Z k env L [] []
 | cons {e:Expr} {c:CE} {es:List Expr} {cs:List CE}:(∀x p,e≠.Starred x p)->SE Z k env L e c->ST Z k env L e c->dH Z k env L es cs->dH Z k env L (e::es) (c::cs)
section
variable{Z:Setup}{k:Nat}{qual:Str}{sc:Scope}{L fa:Addr}{cdv:Value}{cl:List (Str × Addr)}{env:Env}
theorem f9(h:iT sc x=true):sc.names.lookup x=some .local/\(x==("__debug__" : Str))=false:=by
 unfold iT at h
 rw[Ro,RV,Bool.not_eq_true'] at h
 exact h
theorem gb(h:dg sc x=true):sc.names.lookup x=some .globalImplicit/\(x==("__debug__" : Str))=false:=by
 unfold dg at h
 rw[Ro,RV,Bool.not_eq_true'] at h
 exact h
structure NmOk(Z:Setup)(env:Env)(L:Addr)(sc:Scope):Prop where
 globals:env.globals=mainGlobals
 builtins:env.builtins=builtinsNs
 loc:∀{A:Around} {E:Value->Shared->Prop} {s:Shared} {h₀:Heap} {mm:Str->Option Value} {x:Str} {v:Value} {p:Pos} {Q:Value->Shared->Prop},Fr h₀ L s.heap mm->mm x=some v->Q v s->iT sc x=true->wpAny (model Z.prog Z.w) A (eval (.Name x p) env) Q E s
 O1:∀{A:Around} {E:Value->Shared->Prop} {s:Shared} {h₀:Heap} {mm:Str->Option Value} {x:Str} {v:Value} {p:Pos} {Q:Value->Shared->Prop},Fr h₀ L s.heap mm->Z.K.In h₀->TopRead Z.p Z.loose Z.mg Z.mb h₀->nsIn Z.K mainGlobals x=some (some v)->Q v s->dg sc x=true->wpAny (model Z.prog Z.w) A (eval (.Name x p) env) Q E s
 bi:∀{A:Around} {E:Value->Shared->Prop} {s:Shared} {h₀:Heap} {mm:Str->Option Value} {x:Str} {v:Value} {p:Pos} {Q:Value->Shared->Prop},Fr h₀ L s.heap mm->Z.K.In h₀->TopRead Z.p Z.loose Z.mg Z.mb h₀->nsIn Z.K mainGlobals x=some none->bootBuiltins x=some v->x ≠ "__name__" -> Q v s->dg sc x=true->wpAny (model Z.prog Z.w) A (eval (.Name x p) env) Q E s
theorem Ak(hk:sc.kind=.function):NmOk Z (envX qual sc L fa cdv cl) L sc where
 globals:=rfl
 builtins:=rfl
 loc:=λF hv h hl=>nameX_L F hv h hk (f9 hl).1 (f9 hl).2
 O1:=λF X T e h hg=>nameX_K F X T e h hk (gb hg).1 (gb hg).2
 bi:=λF X T e hb hn h hg=>nameX_B F X T e hb hn h hk (gb hg).1 (gb hg).2
set_option tactic.hygienic true in
theorem Gs(hk:NmOk Z env L sc)(hl:iT sc x=true)(hx:idOf x=some n):SE Z k env L (.Name x p) (.var n):=by
 intro A base m H s Q X ok R h
 change (match look m n with|some v=>Q v H|none=>False) at h
 split at h
 ·rename_i u hu
  obtain⟨mm,F,M⟩:=R.fr
  obtain⟨v,hv,hvu⟩:=M _ _ hu _ hx
  exact hk.loc F hv (qe hvu R h) hl
 ·cases h
theorem wC(h:q9 c=some d):SE Z k env L (.Constant c j p) d:=by
 intro A base m H s Q X ok R hd
 cases c with
 | none=>cases h;exact wpAny_Constant_none (qe (x:=.none) trivial R hd)
 | bool b=>cases b<;>(cases h;exact wpAny_Constant_bool (cX R hd))
 | int i=>cases h;exact wpAny_Constant_int (gB R hd)
 | _=>cases h
theorem Gu(ho:Ep o=some j)(h1:SE Z k env L l a)(h2:SE Z k env L r b):SE Z k env L (.BinOp l o r p) (.bin j a b):=by
 intro A base m H s Q X ok R h
 refine wpAny_BinOp (RP (h1 A base m H s _ X ok R h) (λv s₁ hv=>?_) λ_ _ e=>e)
 obtain⟨x,H₁,hx,R₁,q⟩:=hv
 refine RP (h2 A base m H₁ s₁ _ X ok R₁ q) (λu s₂ hu=>?_) λ_ _ e=>e
 obtain⟨y,H₂,hy,R₂,q⟩:=hu
 exact vd ho R₂ hx hy q
theorem Gv(h1:SE Z k env L e a):SE Z k env L (.UnaryOp .USub e p) (.neg a):=by
 intro A base m H s Q X ok R h
 refine wpAny_UnaryOp (RP (h1 A base m H s _ X ok R h) (λv s₁ hv=>?_) λ_ _ e=>e)
 obtain⟨x,H₁,hx,R₁,q⟩:=hv
 cases x<;>first|(cases q;done)|skip
 obtain⟨t,rfl⟩:=hx.int
 exact PyProof.Rows.neg_int (gB R₁ q)
theorem Gw(h1:SE Z k env L e a):SE Z k env L (.UnaryOp .Not e p) (.not a):=by
 intro A base m H s Q X ok R h
 refine wpAny_UnaryOp (RP (h1 A base m H s _ X ok R h) (λv s₁ hv=>?_) λ_ _ e=>e)
 obtain⟨x,H₁,hx,R₁,q⟩:=hv
 refine not_of (RP (dj (Q:=λt H=>Q (.bool (!t)) H) R₁ hx q) (λc s₂ hc=>?_) λ_ _ e=>e)
 obtain⟨H₂,R₂,q⟩:=hc
 exact cX R₂ q
theorem Gx(ho:Ag o=some j)(hm:behindInMarks o r=false)(h1:SE Z k env L l a)(h2:SE Z k env L r b):SE Z k env L (.Compare l [o] [r] p) (.cmp j a b):=by
 intro A base m H s Q X ok R h
 refine wpAny_Compare1 (RP (h1 A base m H s _ X ok R h) (λv s₁ hv=>?_) λ_ _ e=>e) hm
 obtain⟨x,H₁,hx,R₁,q⟩:=hv
 refine RP (h2 A base m H₁ s₁ _ X ok R₁ q) (λu s₂ hu=>?_) λ_ _ e=>e
 obtain⟨y,H₂,hy,R₂,q⟩:=hu
 exact m9 ho (by have:=ok.units;lia) R₂ hx hy q
theorem Gy(ho:Ag o=some j)(hm:behindInMarks o r=false)(h1:SE Z k env L l a)(h2:SE Z k env L r b):ST Z k env L (.Compare l [o] [r] p) (.cmp j a b):=by
 intro A base m H s Q X ok R h
 refine wpAny_isTrue_Compare1 (RP (h1 A base m H s _ X ok R h) (λv s₁ hv=>?_) λ_ _ e=>e) hm
 obtain⟨x,H₁,hx,R₁,q⟩:=hv
 refine RP (h2 A base m H₁ s₁ _ X ok R₁ q) (λu s₂ hu=>?_) λ_ _ e=>e
 obtain⟨y,H₂,hy,R₂,q⟩:=hu
 refine RP (m9 (Q:=λv H=>cW v H λt=>Q t H) ho (by have:=ok.units;lia) R₂ hx hy q) (λc s₃ hc=>?_) λ_ _ e=>e
 obtain⟨z,H₃,hz,R₃,q⟩:=hc
 exact dj R₃ hz q
theorem Gz(h1:ST Z k env L e a):ST Z k env L (.UnaryOp .Not e p) (.not a):=by
 intro A base m H s Q X ok R h
 refine wpAny_isTrue_Not (RP (h1 A base m H s _ X ok R h) (λc s₁ hc=>?_) λ_ _ e=>e)
 obtain⟨H₁,R₁,q⟩:=hc
 exact⟨H₁,R₁,q⟩
noncomputable def GC:CE->Bool
 | .not _ | .and _ _ | .or _ _ | .cmp _ _ _=>true
 | _=>false
noncomputable def jM:Expr->Bool
 | .UnaryOp .Not _ _ | .BoolOp _ _ _ | .IfExp _ _ _ _ | .Compare _ _ _ _=>false
 | _=>true
theorem wD(hp:jM e=true):isTrue e env (eval e env)=(do let v <-eval e env;standAt e.pos;holding [v] (truthy v)):=by
 cases e with
 | UnaryOp o x p=>cases o<;>first|rfl|exact nomatch hp
 | BoolOp=>exact nomatch hp
 | IfExp=>exact nomatch hp
 | Compare=>exact nomatch hp
 | _=>rfl
theorem wF(hp:jM e=true)(ht:GC c=false)(h1:SE Z k env L e c):ST Z k env L e c:=by
 intro A base m H s Q X ok R h
 have hd:DE (Call Z k) m c H (λv H=>cW v H λt=>Q t H) X:=by
  cases c<;>first|(cases ht;done)|exact h
 refine wpAny_isTrue_value (RP (h1 A base m H s _ X ok R hd) (λv s₁ hv=>?_) λ_ _ e=>e) (wD hp)
 obtain⟨x,H₁,hx,R₁,q⟩:=hv
 exact dj R₁ hx q
theorem ni{P:List Expr->CE->Prop}(one:∀e a,SE Z k env L e a->ST Z k env L e a->P [e] a)(more:∀e a e₂ es y,SE Z k env L e a->ST Z k env L e a->P (e₂::es) y->P (e::e₂::es) (glue o a y)){es:List Expr}{cs:List CE}(h:dH Z k env L es cs):∀{c:CE},cBool o cs=some c->P es c:=by
 induction h with
 | nil=>intro c hc;cases hc
 | @cons e a es cs hn h1 h2 hr ih =>
  intro c hc
  cases hr with
  | nil=>cases hc;exact one e a h1 h2
  | @cons e₂ a₂ es cs _ _ _ _ =>
   have hc':(cBool o (a₂::cs)).map (glue o a)=some c:=hc
   obtain⟨y,hy,e1⟩:=QW.mp hc'
   subst e1
   exact more e a e₂ es y h1 h2 (ih hy)
theorem Am{es:List Expr}{cs:List CE}(h:dH Z k env L es cs)(hc:cBool o cs=some c):SE Z k env L (.BoolOp o es p) c:=by
 refine ni (o:=o) (P:=λes c=>SE Z k env L (.BoolOp o es p) c) (λe a h1 _ A base m H s Q X ok R h=>BoolOp_one (h1 A base m H s Q X ok R h)) (λe a e₂ es y h1 _ ih=>?_) h hc
 intro A base m H s Q X ok R h
 cases o with
 | And =>
  refine BoolOp_and (RP (h1 A base m H s _ X ok R h) (λv s₁ hv=>?_) λ_ _ e=>e)
  obtain⟨x,H₁,hx,R₁,q⟩:=hv
  refine RP (dj (Q:=λt H=>match t with|true=>DE (Call Z k) m y H Q X|false=>Q x H) R₁ hx q) (λt s₂ ht=>?_) λ_ _ e=>e
  obtain⟨H₂,R₂,q⟩:=ht
  cases t with
  | true=>exact ih A base m H₂ s₂ Q X ok R₂ q
  | false=>exact qe hx R₂ q
 | Or =>
  refine BoolOp_or (RP (h1 A base m H s _ X ok R h) (λv s₁ hv=>?_) λ_ _ e=>e)
  obtain⟨x,H₁,hx,R₁,q⟩:=hv
  refine RP (dj (Q:=λt H=>match t with|true=>Q x H|false=>DE (Call Z k) m y H Q X) R₁ hx q) (λt s₂ ht=>?_) λ_ _ e=>e
  obtain⟨H₂,R₂,q⟩:=ht
  cases t with
  | true=>exact qe hx R₂ q
  | false=>exact ih A base m H₂ s₂ Q X ok R₂ q
theorem Ao{es:List Expr}{cs:List CE}(h:dH Z k env L es cs)(hc:cBool o cs=some c):∀(A:Around) (base:Heap) (m:Loc) (H:AH) (s:Shared) (Q:Bool->AH->Prop) (X:QX),Bo A k->aA Z base L m H s->DB (Call Z k) m c H Q X ->
  wpAny (model Z.prog Z.w) A (allTrue o es env) (QB Z base L m Q) EF s:=by
 refine ni (o:=o) (P:=λes c=>∀(A:Around) (base:Heap) (m:Loc) (H:AH) (s:Shared) (Q:Bool->AH->Prop) (X:QX),Bo A k->aA Z base L m H s->DB (Call Z k) m c H Q X->wpAny (model Z.prog Z.w) A (allTrue o es env) (QB Z base L m Q) EF s) (λe a _ h1=>?_) (λe a e₂ es y _ h1 ih=>?_) h hc<;>intro A base m H s Q X ok R h
 ·cases o with
  | And =>
   refine wpAny_allTrue_And_cons (RP (h1 A base m H s _ X ok R h) (λt s₁ ht=>?_) λ_ _ e=>e)
   cases t with
   | true=>exact wpAny_allTrue_And_nil ht
   | false=>exact ht
  | Or =>
   refine wpAny_allTrue_Or_cons (RP (h1 A base m H s _ X ok R h) (λt s₁ ht=>?_) λ_ _ e=>e)
   cases t with
   | true=>exact ht
   | false=>exact wpAny_allTrue_Or_nil ht
 ·cases o with
  | And =>
   refine wpAny_allTrue_And_cons (RP (h1 A base m H s _ X ok R h) (λt s₁ ht=>?_) λ_ _ e=>e)
   obtain⟨H₂,R₂,q⟩:=ht
   cases t with
   | true=>exact ih A base m H₂ s₁ Q X ok R₂ q
   | false=>exact⟨H₂,R₂,q⟩
  | Or =>
   refine wpAny_allTrue_Or_cons (RP (h1 A base m H s _ X ok R h) (λt s₁ ht=>?_) λ_ _ e=>e)
   obtain⟨H₂,R₂,q⟩:=ht
   cases t with
   | true=>exact⟨H₂,R₂,q⟩
   | false=>exact ih A base m H₂ s₁ Q X ok R₂ q
theorem Aq(h:dH Z k env L es cs)(hc:cBool o cs=some c):ST Z k env L (.BoolOp o es p) c :=
 λA base m H s Q X ok R hd=>wpAny_isTrue_BoolOp (Ao h hc A base m H s Q X ok R hd)
theorem cL(h:∀x p,e≠.Starred x p)(es:List Expr):starEach (e::es) env=(false,eval e env)::starEach es env:=by
 cases e<;>first|rfl|exact absurd rfl (h _ _)
theorem jq{pos:Pos}:∀{es:List Expr} {cs:List CE},dH Z k env L es cs->∀(A:Around) (base:Heap) (m:Loc) (H:AH) (s:Shared) (Q:List V->AH->Prop) (X:QX),Bo A k->aA Z base L m H s->jH (Call Z k) m cs H Q X ->
  wpAny (model Z.prog Z.w) A (spliced (backTo pos (starEach es env))) (QL Z base L m Q) EF s
 | _,_,.nil=>λA base m H s Q X ok R h=>Calls.spliced_nil ⟨[],H,.nil,R,h⟩
 | _,_,.cons (e:=e) (c:=a) (es:=es) (cs:=cs) hn h1 _ hr=>λA base m H s Q X ok R h=>by
  rw[cL hn]
  refine Calls.spliced_cons ?_
  refine RP (h1 A base m H s _ X ok R h) (λv s₁ hv=>?_) λ_ _ e=>e
  obtain⟨x,H₁,hx,R₁,q⟩:=hv
  refine RP (jq (pos:=pos) hr A base m H₁ s₁ _ X ok R₁ q) (λvs s₂ hvs=>?_) λ_ _ e=>e
  obtain⟨xs,H₂,hxs,R₂,q⟩:=hvs
  exact⟨x::xs,H₂,.cons hx hxs,R₂,q⟩
theorem bC{pos:Pos}:∀{es:List Expr} {cs:List CE},dH Z k env L es cs->(backTo pos (starEach es env)).any (·.1)=false/\(backTo pos (starEach es env)).length=es.length
 | _,_,.nil=>⟨rfl,rfl⟩
 | _,_,.cons (e:=e) (es:=es) hn _ _ hr=>by
  obtain⟨h1,h2⟩:=bC (pos:=pos) hr
  rw[cL hn]
  refine⟨?_,?_⟩
  ·show(false || (backTo pos (starEach es env)).any (·.1))=false
   rw[h1];rfl
  ·show(backTo pos (starEach es env)).length+1=es.length+1
   rw[h2]
theorem dU{pos:Pos}(h:dH Z k env L es cs)(A:Around)(base:Heap)(m:Loc)(H:AH)(s:Shared)(Q:List V->AH->Prop)(X:QX)(ok:Bo A k)(R:aA Z base L m H s)(hd:jH (Call Z k) m cs H Q X) :
  wpAny (model Z.prog Z.w) A (evalArgs f true (backTo pos (starEach es env)) []) (λa s'=>a.kw=[]/\QL Z base L m Q a.pos s') EF s:=by
 cases h with
 | nil=>exact evalArgs_nil3 ⟨rfl,[],H,.nil,R,hd⟩
 | @cons e c es cs hn h1 h2 hr =>
  have z:=jq (pos:=pos) (dH.cons hn h1 h2 hr) A base m H s Q X ok R hd
  rw[cL hn] at z |-
  exact Calls.evalArgs_plain (RP z (λvs s' q=>⟨rfl,q⟩) λ_ _ e=>e)
end
end
section
open PySem PySem.W PySem.Calls PyProof.Rows
section
variable{Z:Setup}{k:Nat}{qual:Str}{sc:Scope}{L fa:Addr}{cdv:Value}{cl:List (Str × Addr)}{env:Env}
set_option tactic.hygienic true in
theorem jN{K:Frag}(h:fnIn K f=true):∃fo fd,K.lookup f=some fo/\fo.data=.func fd:=by
 unfold W.fnIn at h
 split at h
 ·rename_i fd sl e;exact⟨_,_,e,rfl⟩
 ·cases h
set_option tactic.hygienic true in
theorem vp{pos:List V}{ys:List Str}(h:bO (Call Z k) f pos kn kv H Q X)(ok:Ok A k)(R:aA Z base L m H s)
  (hv:aK vs pos) (hy:gA ys kn) (hw:aK ws kv) (hf:fnIn Z.K (Z.fn f)=true) {E:Value->Shared->Prop}:wpAny (model Z.prog Z.w) A (call (.ref (Z.fn f)) vs (ys.zip ws)) (QE Z base L m Q) E s:=by
 unfold bO at h
 split at h
 ·rename_i us hus
  obtain⟨fo,fd,h1,h2⟩:=jN hf
  obtain⟨binds,hb,hB⟩:=R.stat.S.bind f fo fd h1 h2 pos vs kn ys kv ws us hv hy hw hus
  exact Call.use h (args:=⟨vs,ys.zip ws⟩) ok R h1 h2 hb hB
 ·cases h
set_option tactic.hygienic true in
theorem iW{pos:List V}{ys:List Str}(h:bO (Call Z k) f pos kn kv H Q X)(ok:Ok A k)(R:aA Z base L m H s)
  (hv:aK vs pos) (hy:gA ys kn) (hw:aK ws kv) (hf:fnIn Z.K (Z.fn f)=true)  (hP:∀v s',QE Z base L m Q v s'->P (.ok (.ret v)) s'):codeAny (model Z.prog Z.w) A (.call (.ref (Z.fn f)) ⟨vs,ys.zip ws⟩) P s:=by
 unfold bO at h
 split at h
 ·rename_i us hus
  obtain⟨fo,fd,h1,h2⟩:=jN hf
  obtain⟨binds,hb,hB⟩:=R.stat.S.bind f fo fd h1 h2 pos vs kn ys kv ws us hv hy hw hus
  exact Call.M6 h (args:=⟨vs,ys.zip ws⟩) ok R h1 h2 hb hB hP
 ·cases h
theorem dW{pos:List V}(h:bO (Call Z k) f pos [] [] H Q X)(ok:Ok A k)(R:aA Z base L m H s)
  (hv:aK vs pos) (hf:fnIn Z.K (Z.fn f)=true) {E:Value->Shared->Prop}:wpAny (model Z.prog Z.w) A (call (.ref (Z.fn f)) vs []) (QE Z base L m Q) E s:=vp (ys:=[]) (ws:=[]) h ok R hv .nil .nil hf
theorem gO(hk:NmOk Z env L sc)(hg:dg sc x=true)(hx:idOf x=some n)(hy:nP[n]?=some y)(R:aA Z base L m H s)
  (e:nsIn Z.K mainGlobals y=some (some v))  {E:Value->Shared->Prop} (h:Q v s):wpAny (model Z.prog Z.w) A (eval (.Name x p) env) Q E s:=by
 obtain⟨mm,F,M⟩:=R.fr
 rw[jl hx hy] at e
 exact hk.O1 F R.stat.X R.stat.T e h hg
theorem gj(hk:NmOk Z env L sc)(hg:dg sc x=true)(R:aA Z base L m H s)
  (e:nsIn Z.K mainGlobals x=some none) (hb:bootBuiltins x=some v) (hn:x ≠ "__name__") {Q:Value->Shared->Prop} {E:Value->Shared->Prop} (h:Q v s):wpAny (model Z.prog Z.w) A (eval (.Name x p) env) Q E s:=by
 obtain⟨mm,F,M⟩:=R.fr
 exact hk.bi F R.stat.X R.stat.T e hb hn h hg
theorem JT(hk:NmOk Z env L sc)(hg:dg sc x=true)(hx:idOf x=some n)(hf:look Z.cx.gs n=some (.fn f))(hs:dH Z k env L es cs) :
  SE Z k env L (.Call (.Name x np) es [] p) (.fn f cs):=by
 intro A base m H s Q X ok R h
 obtain⟨y,hy,e1,e2,e3⟩:=R.stat.S.fns n f hf
 refine wpAny_Call_ofName (gO hk hg hx hy R e1 ?_)
 refine callWith_of (P:=Z.K.In) (by rw[(bC hs).1];rfl) (λh' X'=>keeps_K e2 h' X') ?_
 refine RP (dU hs A base m H s _ X ok R h) (λa s₁ ha=>?_) λ_ _ e=>e
 obtain⟨hkw,xs,H₁,hxs,R₁,q⟩:=ha
 refine⟨R₁.X,?_⟩
 rw[hkw]
 exact dW q ok.ok R₁ hxs e3
theorem cA(h:cV o=true):attributeBase o attr env whole=whole:=by
 cases o with
 | Call f as ks p=>cases f<;>first|rfl|exact nomatch h
 | _=>rfl
set_option tactic.hygienic true in
theorem j5{E:Value->Shared->Prop}(R:aA Z base L m H s)(hv:bY v x)(hy:idOf y=some f)(h:jZ x f H Q) :
  wpAny (model Z.prog Z.w) A (getAttr v y true) (QE Z base L m Q) E s:=by
 cases x<;>first|(cases h;done)|skip
 obtain rfl:=hv.ref
 simp only [jZ] at h
 split at h
 ·rename_i c d ha
  split at h
  ·rename_i fs hd
   split at h
   ·rename_i u hu
    exact rB R ha hd hu hy h
   ·cases h
  ·cases h
 ·cases h
theorem Ar(hp:cV e=true)(hy:idOf y=some f)(h1:SE Z k env L e a):SE Z k env L (.Attribute e y p) (.attr a f):=by
 intro A base m H s Q X ok R h
 refine Attribute_any_ (RP (h1 A base m H s _ X ok R h) (λv s₁ hv=>?_) λ_ _ e=>e) (by rw[arm_eval_Attribute,cA hp])
 obtain⟨x,H₁,hx,R₁,q⟩:=hv
 exact j5 R₁ hx hy q
theorem vq{E:Value->Shared->Prop}(hp:cV o=true)(hl:dO ap p=true)(hn:Nat.blt es.length 29=true)(hs:(backTo p (starEach es env)).any (·.1)=false)
  (h:wpAny M A (eval o env) (λov s₁=>wpAny M A (getMethod ov y (do return (<-importBound o env).getD true)) (λfx s₂=>wpAny M A (callWith p fx.1 fx.2 (backTo p (starEach es env)) []) Q E s₂) E s₁) E s) :
  wpAny M A (eval (.Call (.Attribute o y ap) es [] p) env) Q E s:=by
 have hfew:methodCallForm (es.length+([]:List Keyword).length) (backTo p (starEach es env)) (backToKw p (keywordEach [] env))=true:=by
  unfold methodCallForm
  have a1:(backTo p (starEach es env)).all (λx=>!x.1)=true:=by
   rw[List.all_eq_true]
   intro x hx
   have:=List.any_eq_false.mp hs x hx
   simpa using this
  have a2:es.length+([]:List Keyword).length+(if (backToKw p (keywordEach [] env)).isEmpty then 0 else 1)<30:=by
   have:es.length<29:=Q6 hn
   show es.length+0+0<30
   lia
  rw[a1]
  simp only [Bool.true_and]
  rw[RB a2]
  rfl
 rw[arm_eval_Call,cA hp]
 refine RQ (RP h (λov s₁ h₁=>RQ (wpAny_standAt ?_)) λ_ _ e=>e)
 unfold methodCall
 rw[hfew]
 refine RQ (wpAny_holding ?_)
 unfold calleeOf
 rw[if_pos rfl]
 refine RP h₁ (λfx s₂ h₂=>?_) λ_ _ e=>e
 refine RQ ?_
 unfold methodCallPos
 rw[if_pos (by rw[show(ap.endLine==p.line)=true from hl];rfl)]
 exact RT h₂
theorem pP{E:Value->Shared->Prop}{pl:Sem Bool}(R:aA Z base L m H s)(ha:H a=some (.inst c d))(hd:H d=some (.ns fs))(hy:idOf y=some n)(hm:bL c n=some f)(hn:22<=n)
  (h:Ez Z.K (Z.cls c) (Z.fn f) y->Q (.ref (Z.fn f),[.ref a]) s):wpAny (model Z.prog Z.w) A (getMethod (.ref a) y pl) Q E s:=by
 obtain⟨hc,es,nn,I,F,_⟩:=R.fG ha hd
 obtain⟨mm,Fm,_⟩:=R.fr
 have C:=vf (R.stat.S.cls c hc)
 have MF:=m5 R.stat.S hc hy hm
 exact method_inst Fm R.stat.X I (C.get y) MF.find MF.fn (F.none hy (F.big hn)) (h MF)
theorem vA:∀c:Nat,(((iR[c]?).getD []).all λp=>Nat.ble 22 p.1)=true:=by
 intro c
 by_cases h:c<8
 ·have:∀c<8,(((iR[c]?).getD []).all λp=>Nat.ble 22 p.1)=true:=by decide +kernel
  exact this c h
 ·rw[Q7 (by show iR.length<=c;exact Nat.le_of_not_lt h)];rfl
theorem pQ:∀{l:List (Nat × α)} {n:Nat} {v:α},look l n=some v->(n,v)∈l
 | [],_,_,e=>by cases e
 | p::r,n,v,e=>by
  unfold look at e
  cases q:Nat.beq p.1 n with
  | true=>rw[q] at e;cases e;rw[<-aJ q];exact List.mem_cons_self
  | false=>rw[q] at e;exact List.mem_cons_of_mem _ (pQ e)
theorem nj(h:bL c n=some f):22<=n:=by
 have:=List.all_eq_true.mp (vA c) _ (pQ h)
 exact Q6 this
end
end
section
open PySem PySem.W PySem.Calls PyProof.Rows
section
variable{Z:Setup}{k:Nat}{qual:Str}{sc:Scope}{L fa:Addr}{cdv:Value}{cl:List (Str × Addr)}{env:Env}
theorem bind_some(h:o.bind f=some b):∃a,o=some a/\f a=some b:=by
 cases o with
 | none=>cases h
 | some a=>exact⟨a,rfl,h⟩
theorem map_some(h:o.map f=some b):∃a,o=some a/\f a=b:=by
 cases o with
 | none=>cases h
 | some a=>exact⟨a,rfl,Ru h⟩
theorem aO[Decidable t](h:(if t then x else y)=some b):(t/\x=some b)\/(¬t/\y=some b):=by
 split at h
 ·exact .inl ⟨by assumption,h⟩
 ·exact .inr ⟨by assumption,h⟩
theorem vB:idOf "append" = some 147:=by decide +kernel
theorem vC:idOf "insert" = some 150:=by decide +kernel
theorem wG:idOf "pop" = some 151:=by decide +kernel
theorem vD:idOf "extend" = some 152:=by decide +kernel
theorem pR{A:Around}{base:Heap}{m:Loc}{H:AH}{s:Shared}{E:Value->Shared->Prop}{a n:Nat}{xs:List V}{y:Str}{id:String}{pl:Sem Bool}{Q:Value × List Value->Shared->Prop}(R:aA Z base L m H s)(ha:H a=some (.list xs))(hy:idOf y=some n)(hi:fD n=some id)
  (h:Q (.builtin id,[.ref a]) s):wpAny (model Z.prog Z.w) A (getMethod (.ref a) y pl) Q E s:=by
 obtain⟨vs,c,h1,h2,hz⟩:=R.list ha
 have key:∀(name:Str) (i:String),Slot "list" name i->typeOf (.builtin i)=pure (.type "method_descriptor")->i=id->y=name->wpAny (model Z.prog Z.w) A (getMethod (.ref a) y pl) Q E s:=by
  intro name i sl ty e1 e2
  subst e1 e2
  exact getMethod_builtin ⟨_,h1,rfl⟩ PySem.F.plainAttrs_list sl ty (λb e=>by cases e;exact⟨_,h1,rfl⟩) h
 unfold fD at hi
 split at hi<;>first|(cases hi;done)|cases hi
 ·exact key _ _ PySem.F.slot_list_append PySem.F.type_list_append rfl (idOf_inj hy vB)
 ·exact key _ _ PySem.F.slot_list_insert PySem.F.type_list_insert rfl (idOf_inj hy vC)
 ·exact key _ _ PySem.F.slot_list_pop PySem.F.type_list_pop rfl (idOf_inj hy wG)
 ·exact key _ _ PySem.F.slot_list_extend PySem.F.type_list_extend rfl (idOf_inj hy vD)
set_option tactic.hygienic true in
theorem pU{A:Around}{base:Heap}{m:Loc}{H:AH}{s:Shared}{E:Value->Shared->Prop}{a n:Nat}{id:String}{us:List V}{ws:List Value}{Q:QV}(R:aA Z base L m H s)(hi:fD n=some id)(hw:aK ws us)(h:bQ a n us H Q) :
  wpAny (model Z.prog Z.w) A (call (.builtin id) (.ref a::ws)) (QE Z base L m Q) E s:=by
 obtain⟨xs,u,ys,ha,hl,h,q⟩:=h
 unfold fD at hi
 split at hi<;>first|(cases hi;done)|cases hi
 ·have h:Gl xs us=some (u,ys):=h
  unfold Gl at h
  split at h<;>cases h
  obtain⟨v,vs,rfl,hv,hr⟩:=hw.cons_inv
  obtain rfl:=hr.nil_inv
  exact nR R ha hl hv q
 ·have h:Gm xs us=some (u,ys):=h
  unfold Gm at h
  split at h
  ·rcases aO h with ⟨c,h⟩|⟨_,h⟩<;>cases h
   obtain⟨v,vs,rfl,hv,hr⟩:=hw.cons_inv
   obtain⟨v',vs',rfl,hv',hr'⟩:=hr.cons_inv
   obtain rfl:=hr'.nil_inv
   obtain⟨t,rfl⟩:=hv.int
   exact nT R ha hl c.1 c.2 hv' q
  ·cases h
 ·have h:u9 xs us=some (u,ys):=h
  unfold u9 at h
  split at h
  ·obtain⟨x,hx,h⟩:=map_some h
   cases h
   obtain rfl:=hw.nil_inv
   exact vg R ha hx q
  ·rcases aO h with ⟨c,h⟩|⟨_,h⟩
   ·obtain⟨x,hx,h⟩:=map_some h
    cases h
    obtain⟨v,vs,rfl,hv,hr⟩:=hw.cons_inv
    obtain rfl:=hr.nil_inv
    obtain⟨t,rfl⟩:=hv.int
    exact pK R ha c hx q
   ·cases h
  ·cases h
 ·have h:wk H xs us=some (u,ys):=h
  unfold wk at h
  split at h
  ·split at h
   ·rename_i zs hb
    rcases aO h with ⟨c,h⟩|⟨_,h⟩<;>cases h
    obtain⟨v,vs,rfl,hv,hr⟩:=hw.cons_inv
    obtain rfl:=hr.nil_inv
    obtain rfl:=hv.ref
    exact extend_sound R ha hb c q
   ·cases h
  ·cases h
theorem pW{E:Value->Shared->Prop}{pl:Sem Bool}(R:aA Z base L m H s)(ha:H a=some (.dict es))(hy:idOf y=some 151)
  (h:Q (.builtin "dict.pop",[.ref a]) s):wpAny (model Z.prog Z.w) A (getMethod (.ref a) y pl) Q E s:=by
 obtain⟨hm,_,ds,h1,h2⟩:=R.cell _ _ ha
 obtain rfl:=idOf_inj hy wG
 obtain⟨o,es',ep,g1,g2,_⟩:=id h1
 exact getMethod_builtin h1.typeIs PySem.F.plainAttrs_dict PySem.F.slot_dict_pop PySem.F.type_dict_pop (λb e=>by cases e;exact⟨_,g1,g2.2.1⟩) h
theorem pX{E:Value->Shared->Prop}(R:aA Z base L m H s)(hw:aK ws us)(h:lu a n us H Q) :
  wpAny (model Z.prog Z.w) A (call (.builtin "dict.pop") (.ref a::ws)) (QE Z base L m Q) E s:=by
 obtain⟨es,k,u,ha,rfl,hu,q⟩:=h
 obtain⟨v,vs,rfl,hv,hr⟩:=hw.cons_inv
 obtain rfl:=hr.nil_inv
 obtain⟨t,rfl⟩:=hv.int
 obtain⟨hm,hl,ds,h1,h2⟩:=R.cell _ _ ha
 have g:=h2.get (k:=k)
 rw[hu] at g
 obtain⟨v,hv,hvu⟩:=g
 refine call_meetsIn PySem.F.slot_dict_pop h1.typeIs PySem.F.entry_dict_pop (PySem.F.args_dict_pop_2 _ _) (meets_dict_pop_there (intKind Z.prog Z.w) a (k:=k) (by simp [intKind,Value.isInt]) [] (.inl rfl) rfl) ⟨ds,v,h1,by rw[h2.len,sizeLine_eq];lia,hv,λh' hd' hs=>?_⟩
 exact⟨u,_,hvu,R.change (c':=.dict (fC es k)) ha rfl rfl hs ⟨hm,RM (List.length_filter_le _ _) hl,_,hd',h2.del k⟩,q⟩
theorem j6{A:Around}{base:Heap}{m:Loc}{H:AH}{s:Shared}{id:String}{first:List Value}{p:Pos}{es:List Expr}{cs:List CE}{QQ:List V->AH->Prop}{X:QX}{Q:Value->Shared->Prop}(hs:dH Z k env L es cs)(ok:Bo A k)(R:aA Z base L m H s)(hd:jH (Call Z k) m cs H QQ X)
  (h:∀vs xs H' s',aK vs xs->aA Z base L m H' s'->QQ xs H'->wpAny (model Z.prog Z.w) A (call (.builtin id) (first++vs)) Q EF s') :
  wpAny (model Z.prog Z.w) A (callWith p (.builtin id) first (backTo p (starEach es env)) []) Q EF s:=by
 refine Calls.callWith_builtin (bC hs).1 (RP (dU hs A base m H s _ X ok R hd) (λa s₁ ha=>?_) λ_ _ e=>e)
 obtain⟨hkw,xs,H₁,hxs,R₁,q⟩:=ha
 rw[hkw]
 exact h _ _ _ _ hxs R₁ q
set_option tactic.hygienic true in
theorem Av(hp:cV o=true)(hl:dO ap p=true)(hn:Nat.blt es.length 29=true)(hy:idOf y=some n)(h1:SE Z k env L o c)(hs:dH Z k env L es cs) :
  SE Z k env L (.Call (.Attribute o y ap) es [] p) (.meth c n cs):=by
 intro A base m H s Q X ok R h
 refine vq hp hl hn (bC hs).1 ?_
 refine RP (h1 A base m H s _ X ok R h) (λv s₁ hv=>?_) λ_ _ e=>e
 obtain⟨x,H₁,hx,R₁,q⟩:=hv
 cases x<;>first|(cases q;done)|skip
 obtain rfl:=hx.ref
 rename_i a
 dsimp only at q
 split at q
 ·rename_i cc d ha
  split at q
  ·rename_i fs hd
   split at q
   ·rename_i f hf
    refine pP R₁ ha hd hy hf (nj hf) λMF=>?_
    refine callWith_of (P:=Z.K.In) (by rw[(bC hs).1];rfl) (λh' X'=>keeps_K MF.keep h' X') ?_
    refine RP (dU hs A base m H₁ s₁ _ X ok R₁ q) (λb s₂ hb=>?_) λ_ _ e=>e
    obtain⟨hkw,xs,H₂,hxs,R₂,q⟩:=hb
    refine⟨R₂.X,?_⟩
    rw[hkw]
    exact dW q ok.ok R₂ (aK.cons (show bY (.ref a) (.ref a) from rfl) hxs) MF.fnIn
   ·cases q
  ·cases q
 ·rename_i xs ha
  split at q
  ·rename_i id hi
   refine pR R₁ ha hy hi ?_
   exact j6 hs ok R₁ q λvs xs H' s' hv R' q=>pU R' hi hv q
  ·cases q
 ·rename_i es ha
  obtain⟨rfl,q⟩:=q
  refine pW R₁ ha hy ?_
  exact j6 hs ok R₁ q λvs xs H' s' hv R' q=>pX R' hv q
 ·cases q
end
end
section
open PySem PySem.W PySem.Calls PyProof.Rows
section
variable{Z:Setup}{k:Nat}{qual:Str}{sc:Scope}{L fa:Addr}{cdv:Value}{cl:List (Str × Addr)}{env:Env}
theorem wH   {E:Value->Shared->Prop}       (D:s.heap.get? a=some { cls:=.type T,data:=.seq its n }) (hT:T = "list" \/ T = "tuple") (e:M=model Z.prog Z.w)
  (hz:its.size<=sizeLine) (h:∀h',(∀b o,s.heap.get? b=some o->h'.get? b=some o)->Q its.toList { s with heap:=h' }):StarOf M A E (.ref a) Q s:=by
 subst e
 have hT':s.TypeIs (.ref a) T:=⟨_,D,rfl⟩
 have z:wpAny (model Z.prog Z.w) A (collect (.ref a)) Q E s:=wpAny_collect_seq a hT D rfl rfl (λh' hk=>h h' hk) hz
 unfold StarOf notIterableAtAll
 rcases hT with rfl|rfl
 ·exact RQ (wpAny_specialOf hT' PySem.F.slot_list_iter.lookup (RT ⟨rfl,z⟩))
 ·exact RQ (wpAny_specialOf hT' PySem.F.slot_tuple_iter.lookup (RT ⟨rfl,z⟩))
set_option tactic.hygienic true in
theorem wI(hp:cV o=true)(hl:dO ap p=true)(hy:idOf y=some n)(h1:SE Z k env L o c)(h2:SE Z k env L e d) :
  SE Z k env L (.Call (.Attribute o y ap) [.Starred e q] [] p) (.methS c n d):=by
 intro A base m H s Q X ok R h
 rw[arm_eval_Call,cA hp]
 refine RQ (RP (h1 A base m H s _ X ok R h) (λv s₁ hv=>RQ (wpAny_standAt ?_)) λ_ _ e=>e)
 obtain⟨x,H₁,hx,R₁,hq⟩:=hv
 cases x<;>first|(cases hq;done)|skip
 obtain rfl:=hx.ref
 rename_i a
 dsimp only at hq
 split at hq
 ·rename_i cc dd ha
  split at hq
  ·rename_i fs hd
   split at hq
   ·rename_i f hf
    obtain⟨hc,es,nn,I,F,_⟩:=R₁.fG ha hd
    obtain⟨mm,Fm,_⟩:=R₁.fr
    have C:=vf (R₁.stat.S.cls cc hc)
    have MF:=m5 R₁.stat.S hc hy hf
    unfold methodCall
    refine RQ (wpAny_holding ?_)
    have few:methodCallForm ([Expr.Starred e q].length+([]:List Keyword).length) (backTo p (starEach [.Starred e q] env)) (backToKw p (keywordEach [] env))=false:=rfl
    rw[few]
    unfold calleeOf
    rw[if_neg (by decide)]
    refine RQ ?_
    refine get_bind (R₁.X) I (plainGet_of (C.get y)).1 (findObj_fn C.dict MF.find MF.get MF.takes MF.cop (by show lookIn y (dictOf es nn)=_;rw[lookIn_dict,F.none hy (F.big (nj hf))])) (plainGet_of (C.get y)).2
     (wpAny_call (fn_get (s:={ s₁ with toks:=s₁.toks+1 }) R₁.X (RV.mp MF.fn) (handed_on rfl ?_)))
    refine RT (RQ ?_)
    unfold methodCallPos
    rw[if_pos (by rfl)]
    refine RT ?_
    have R₂:aA Z base L m H₁ { s₁ with heap:=s₁.heap.push (methodObj (.ref (Z.fn f)) (.ref a)),toks:=s₁.toks+1 }:=R₁.ext (by rw[Heap.size_push];exact Nat.le_succ _) λb o e=>QM _ e
    have hm:(s₁.heap.push (methodObj (.ref (Z.fn f)) (.ref a))).get? s₁.heap.objs.size=some (methodObj (.ref (Z.fn f)) (.ref a)):=Rc _ rfl
    have hn:∀c,H₁ s₁.heap.objs.size=some c->c.own=false:=λc hc=>by rw[R₁.fresh] at hc;cases hc
    have hsn:(Ai H₁ L (s₁.heap.push (methodObj (.ref (Z.fn f)) (.ref a)))).get? s₁.heap.objs.size=some (methodObj (.ref (Z.fn f)) (.ref a)):=jj hm (Ne.symm (Nat.ne_of_lt R₁.wz)) hn
    refine ks_call (P:=MethP Z.K s₁.heap.objs.size (Z.fn f) (.ref a)) rfl (λh' X'=>keeps_M MF.fnIn h' X') ?_
    show wpAny (model Z.prog Z.w) A (evalArgs _ true [(true,(do let v <-eval e env;standAt p;pure v))] []) _ EF _
    refine ks_lone (RP (h2 A _ m H₁ _ _ X ok R₂.protect hq) (λu s₃ hu=>?_) λ_ _ e=>e)
    obtain⟨z,H₃,hz,R₃,hq⟩:=hu
    have hm3:s₃.heap.get? s₁.heap.objs.size=some (methodObj (.ref (Z.fn f)) (.ref a)):=R₃.keep _ _ hsn
    have R₄:=R₂.relax R₃ R₂.gJ
    cases z<;>first|(cases hq;done)|skip
    rename_i ta
    obtain rfl:=hz.ref
    dsimp only [bZ] at hq
    split at hq
    ·rename_i vs ht
     obtain⟨hzz,ws,nw,hw1,hw2⟩:=R₄.cell _ _ ht
     obtain⟨mm',F',M'⟩:=R₄.fr
     refine wH hw1 (.inr rfl) rfl (by rw[Rh,hw2.length,sizeLine_eq];lia) λh' hk=>?_
     have R₅:=R₄.ext0 (h':=h') (t:=s₃.toks) hk
     have hm5:=hk _ _ hm3
     refine⟨⟨hm5,R₅.X⟩,?_⟩
     refine wpAny_call ?_
     refine method_call (s:={ s₃ with heap:=h' }) hm5 ?_
     exact iW (ys:=[]) (ws:=[]) hq ok.ok R₅ (aK.cons (show bY (.ref a) (.ref a) from rfl) hw2) .nil .nil MF.fnIn λv s' q=>q
    ·cases hq
   ·cases hq
  ·cases hq
 ·cases hq
end
end
section
open PySem PySem.W PySem.Calls PyProof.Rows
section
variable{Z:Setup}{k:Nat}{qual:Str}{sc:Scope}{L fa:Addr}{cdv:Value}{cl:List (Str × Addr)}{env:Env}
theorem GD(hs:dH Z k env L es cs):SE Z k env L (.Tuple es j p) (.tup cs):=by
 intro A base m H s Q X ok R h
 refine wpAny_Tuple (RP (jq hs A base m H s _ X ok R h) (λvs s₁ hv=>?_) λ_ _ e=>e)
 obtain⟨xs,H₁,hx,R₁,hl,q⟩:=hv
 have:=hx.length
 exact⟨by rw[sizeLine_eq];lia,kj (t:=s₁.toks) R₁ q rfl (Gq hx (by lia))⟩
theorem Aw(hs:dH Z k env L es cs):SE Z k env L (.List es p) (.list cs):=by
 intro A base m H s Q X ok R h
 refine wpAny_List (RP (jq hs A base m H s _ X ok R h) (λvs s₁ hv=>?_) λ_ _ e=>e)
 obtain⟨xs,H₁,hx,R₁,hl,q⟩:=hv
 have:=hx.length
 exact⟨by rw[sizeLine_eq];lia,kj (t:=s₁.toks) R₁ q rfl (tE hx (by lia))⟩
theorem wJ:SE Z k env L (.Dict [] [] p) .edict:=by
 intro A base m H s Q X ok R h
 refine wpAny_Dict_empty ?_
 obtain⟨mm,F,M⟩:=R.fr
 refine kj (t:=s.toks) R h rfl ⟨F.notModules R.stat.S.big,by simp,[],?_,.nil⟩
 exact Heap.DictOf.new s.heap
set_option tactic.hygienic true in
theorem jO(slice:Expr)(hs:∀a b c d,slice≠.Slice a b c d)(o i:Value):subscripted slice true o i=runValue (.builtin "lifetime.subscript" ⟨[o,i],[]⟩):=by
 unfold subscripted
 split
 ·rename_i a b c _ _;exact absurd rfl (hs _ _ _ _)
 ·rfl
 ·rename_i q;cases q
set_option tactic.hygienic true in
theorem n6(hs:∀a b c d,slice≠.Slice a b c d)(ok:Bo A k)(R:aA Z base L m H s)(hv:bY v x)(hi:bY i y)(h:subV (Call Z k) x y H Q X) :
  wpAny (model Z.prog Z.w) A (subscriptTail value slice v i) (QE Z base L m Q) EF s:=by
 unfold subV at h
 split at h
 ·rename_i a
  obtain rfl:=hv.ref
  split at h
  ·rename_i xs ha
   split at h
   ·rename_i n
    obtain⟨t,rfl⟩:=hi.int
    split at h
    ·rename_i u hu
     exact list_item hs R ha hu h
    ·cases h
   ·cases h
  ·rename_i xs ha
   split at h
   ·rename_i n
    obtain⟨t,rfl⟩:=hi.int
    split at h
    ·rename_i u hu
     exact wA hs R ha hu h
    ·cases h
   ·cases h
  ·rename_i xs ha
   split at h
   ·rename_i n
    obtain⟨t,rfl⟩:=hi.int
    split at h
    ·rename_i u hu
     split at hu
     ·exact Aj hs R ha (by assumption) hu h
     ·cases hu
    ·cases h
   ·cases h
  ·rename_i es ha
   split at h
   ·rename_i n
    obtain⟨t,rfl⟩:=hi.int
    split at h
    ·rename_i u hu
     obtain⟨hm,_,ds,h1,h2⟩:=R.cell _ _ ha
     have g:=h2.get (k:=n)
     rw[hu] at g
     obtain⟨v,hv,hvu⟩:=g
     exact tail_any h1.typeIs PySem.F.slot_dict_getitem.lookup (wpAny_getItem_of (knd:=intKind Z.prog Z.w) (k:=n) (by simp [intKind,Value.isInt]) h1.mapOf hv (qe hvu R.toks h)) (bA slice hs _ _)
    ·cases h
   ·cases h
  ·rename_i c d ha
   split at h
   ·rename_i fs hd
    split at h
    ·rename_i f hf
     have y90:idOf "__getitem__" = some 90:=by decide +kernel
     obtain⟨hc,es,nn,I,F',_⟩:=R.fG ha hd
     have MF:=m5 R.stat.S hc y90 hf
     obtain⟨mm,F,M⟩:=R.fr
     refine sub_K F R.stat.X I MF.find MF.fnIn MF.fn ?_ (jO slice hs _ _)
     exact dW h ok.in1 R (aK.cons (show bY (.ref a) (.ref a) from rfl) (.one hi)) MF.fnIn
    ·cases h
   ·cases h
  ·cases h
 ·cases h
theorem GF(hs:∀a b c d,i≠.Slice a b c d)(h1:SE Z k env L e c)(h2:SE Z k env L i d):SE Z k env L (.Subscript e i p) (.sub c d):=by
 intro A base m H s Q X ok R h
 refine Subscript_ (RP (h1 A base m H s _ X ok R h) (λv s₁ hv=>?_) λ_ _ e=>e)
 obtain⟨x,H₁,hx,R₁,q⟩:=hv
 refine RP (h2 A base m H₁ s₁ _ X ok R₁ q) (λu s₂ hu=>?_) λ_ _ e=>e
 obtain⟨y,H₂,hy,R₂,q⟩:=hu
 exact n6 hs ok R₂ hx hy q
inductive SO(Z:Setup)(k:Nat)(env:Env)(L:Addr):Option Expr->CE->Prop
 | none:SO Z k env L none .none
 | some {e:Expr} {c:CE}:SE Z k env L e c->SO Z k env L (some e) c
theorem tH(h:SO Z k env L o c)(A:Around)(base:Heap)(m:Loc)(H:AH)(s:Shared)(Q:QV)(X:QX)(ok:Bo A k)(R:aA Z base L m H s)(hd:DE (Call Z k) m c H Q X) :
  wpAny (model Z.prog Z.w) A (evalPart o env) (QE Z base L m Q) EF s:=by
 cases h with
 | none=>exact RT (qe (x:=.none) trivial R hd)
 | some h=>exact h A base m H s Q X ok R hd
theorem wK{e:Expr}{lo hi:Option Expr}{p q:Pos}{c a b:CE}(h1:SE Z k env L e c)(h2:SO Z k env L lo a)(h3:SO Z k env L hi b):SE Z k env L (.Subscript e (.Slice lo hi none q) p) (.slice c a b):=by
 intro A base m H s Q X ok R h
 refine Subscript_ (RP (h1 A base m H s _ X ok R h) (λv s₁ hv=>?_) λ_ _ e=>e)
 obtain⟨x,H₁,hx,R₁,hq⟩:=hv
 refine wpAny_Slice (RP (tH h2 A base m H₁ s₁ _ X ok R₁ hq) (λv2 s₂ hv=>?_) λ_ _ e=>e)
 obtain⟨y,H₂,hy,R₂,hq⟩:=hv
 refine RP (tH h3 A base m H₂ s₂ _ X ok R₂ hq) (λv3 s₃ hv=>?_) λ_ _ e=>e
 obtain⟨z,H₃,hz,R₃,hq⟩:=hv
 refine RT ?_
 exact pN R₃ hx hy hz hq
set_option tactic.hygienic true in
theorem Ax(hk:NmOk Z env L sc)(hg:dg sc y=true)(hy:idOf y=some n)(ht:look Z.cx.tabs n=some g)(hs:∀a b c d,e≠.Slice a b c d)(h2:SE Z k env L e d):SE Z k env L (.Subscript (.Name y q) e p) (.gsub g d):=by
 intro A base m H s Q X ok R h
 obtain⟨y',a,l,dd,sl,j,e1,e2,e3,e4,e5⟩:=R.stat.S.tabs n g ht
 refine Subscript_ (gO hk hg hy e1 R e2 ?_)
 refine RP (h2 A base m H s _ X ok R h) (λu s₂ hu=>?_) λ_ _ e=>e
 obtain⟨z,H₂,hz,R₂,hq⟩:=hu
 cases z<;>first|(cases hq;done)|skip
 rename_i i
 obtain⟨t,rfl⟩:=hz.int
 dsimp only at hq
 split at hq
 ·rename_i u hu
  split at hu
  ·have hlt:=gK hu
   obtain⟨mm,F,M⟩:=R₂.fr
   refine topTupAny_K F R.stat.X e3 e4 (by assumption) (by lia) (by lia) (λt'=>?_) (bA e hs _ _)
   rw[List.getD_eq_getElem?_getD,hu]
   exact qe (x:=.int u) rfl R₂ hq
  ·cases hu
 ·cases hq
end
end
section
open PySem PySem.W PySem.Calls PyProof.Rows
section
variable{Z:Setup}{k:Nat}{qual:Str}{sc:Scope}{L fa:Addr}{cdv:Value}{cl:List (Str × Addr)}{env:Env}
inductive wL(Z:Setup)(k:Nat)(env:Env)(L:Addr):List Keyword->List Nat->List CE->Prop
 | nil:wL Z k env L [] [] []
 | cons {x:Str} {i:Nat} {v:Expr} {p:Pos} {c:CE} {ks:List Keyword} {kn:List Nat} {kv:List CE}:idOf x=some i->SE Z k env L v c->wL Z k env L ks kn kv->wL Z k env L (⟨some x,v,p⟩::ks) (i::kn) (c::kv)
theorem fO(h:wL Z k env L ks kn kv)(pos:Pos) :
  (backToKw pos (keywordEach ks env)).all (·.1.isSome)=true/\(backToKw pos (keywordEach ks env)).any (·.1.isNone)=false/\gA ((backToKw pos (keywordEach ks env)).filterMap (·.1)) kn:=by
 induction h with
 | nil=>exact⟨rfl,rfl,.nil⟩
 | cons hx h1 _ ih =>
  rw[arm_keywordEach_cons]
  refine⟨?_,?_,?_⟩
  ·show(true&&_)=true
   exact ih.1
  ·show(false || _)=false
   exact ih.2.1
  ·exact .cons hx ih.2.2
theorem pY{pos:Pos}(h:wL Z k env L ks kn kv):∀(A:Around) (base:Heap) (m:Loc) (H:AH) (s:Shared) (Q:List V->AH->Prop) (X:QX),Bo A k->aA Z base L m H s->jH (Call Z k) m kv H Q X ->
  wpAny (model Z.prog Z.w) A (evalAll ((backToKw pos (keywordEach ks env)).map (·.2))) (QL Z base L m Q) EF s:=by
 induction h with
 | nil=>intro A base m H s Q X ok R h;exact wpAny_evalAll_nil ⟨[],H,.nil,R,h⟩
 | cons hx h1 _ ih =>
  intro A base m H s Q X ok R h
  rw[arm_keywordEach_cons]
  refine wpAny_evalAll_cons ?_
  refine RQ (RP (h1 A base m H s _ X ok R h) (λv s₁ hv=>RQ (wpAny_standAt (RT ?_))) λ_ _ e=>e)
  obtain⟨x,H₁,hx,R₁,q⟩:=hv
  refine RP (ih A base m H₁ s₁ _ X ok R₁ q) (λvs s₂ hvs=>?_) λ_ _ e=>e
  obtain⟨xs,H₂,hxs,R₂,q⟩:=hvs
  exact⟨x::xs,H₂,.cons hx hxs,R₂,q⟩
def QA(Z:Setup)(base:Heap)(L:Addr)(m:Loc)(kn:List Nat)(Q:List V->List V->AH->Prop)(a:Args)(s':Shared):Prop :=
 ∃vs us ys ws H',a.kw=ys.zip ws/\aK a.pos vs/\gA ys kn/\aK ws us/\aA Z base L m H' s'/\Q vs us H'
theorem gk{pos:Pos}(h:dH Z k env L es cs)(hk:wL Z k env L ks kn kv)(A:Around)(base:Heap)(m:Loc)(H:AH)(s:Shared)(Q:List V->List V->AH->Prop)(X:QX)(ok:Bo A k)(R:aA Z base L m H s)
  (hd:jH (Call Z k) m cs H (λvs H=>jH (Call Z k) m kv H (λus H=>Q vs us H) X) X) :
  wpAny (model Z.prog Z.w) A (evalArgs f true (backTo pos (starEach es env)) (backToKw pos (keywordEach ks env))) (QA Z base L m kn Q) EF s:=by
 obtain⟨k1,k2,k3⟩:=fO hk pos
 cases h with
 | nil =>
  refine evalArgs_kw_nil k1 (RP (pY hk A base m H s _ X ok R hd) (λvs s₁ hv=>?_) λ_ _ e=>e)
  obtain⟨us,H₁,hu,R₁,q⟩:=hv
  exact⟨[],us,_,_,H₁,rfl,.nil,k3,hu,R₁,q⟩
 | @cons e c es cs hn h1 h2 hr =>
  have z:=jq (pos:=pos) (dH.cons hn h1 h2 hr) A base m H s _ X ok R hd
  rw[cL hn] at z |-
  refine evalArgs_kw k1 (RP z (λvs s₁ hv=>?_) λ_ _ e=>e)
  obtain⟨xs,H₁,hx,R₁,q⟩:=hv
  refine RP (pY hk A base m H₁ s₁ _ X ok R₁ q) (λvs s₂ hv=>?_) λ_ _ e=>e
  obtain⟨us,H₂,hu,R₂,q⟩:=hv
  exact⟨xs,us,_,_,H₂,rfl,hx,k3,hu,R₂,q⟩
theorem wM(R:aA Z base L m H s)(hc:eX c=true) :
  aA Z base L m (upd (upd H s.heap.objs.size (.ns [])) (s.heap.objs.size+1) (.inst c s.heap.objs.size)) { s with heap:=(s.heap.push W.emptyDict).push (instObj (Z.cls c) s.heap.objs.size) }/\H (s.heap.objs.size+1)=none:=by
 have R1:=R.push (o:=W.emptyDict) (c:=.ns []) (t:=s.toks) rfl ⟨[],0,Rc _ rfl,.nil⟩
 have hz:(s.heap.push W.emptyDict).objs.size=s.heap.objs.size+1:=Heap.size_push ..
 have R2:=R1.push (o:=instObj (Z.cls c) s.heap.objs.size) (c:=.inst c s.heap.objs.size) (t:=s.toks) rfl ⟨hc,Rc _ rfl⟩
 dsimp only at R2
 rw[hz] at R2
 refine⟨R2,?_⟩
 cases q:H (s.heap.objs.size+1) with
 | none=>rfl
 | some c=>exact absurd (R.lt q) (Nat.not_lt_of_le (Nat.le_succ _))
theorem Ay(c:Nat)(hc:eX c=true)(h:bL c 43=none):c=1:=by
 have:∀c<8,eX c=true->bL c 43=none->c=1:=by decide +kernel
 refine this c ?_ hc h
 rcases Nat.lt_or_ge c 8 with q|q
 ·exact q
 ·exfalso
  unfold eX at hc
  simp only [Bool.or_eq_true] at hc
  rcases hc with (((hc|hc)|hc)|hc)|hc<;>(have:=aJ hc;lia)
theorem rG(ok:Bo A k)(R:aA Z base L m H s)(hc:eX c=true)(hp:aK ps vs)(hy:gA ys kn)(hw:aK ws us)(h:M4 (Call Z k) c vs kn us H Q X) :
  wpAny (model Z.prog Z.w) A (call (.ref (Z.cls c)) ps (ys.zip ws)) (QE Z base L m Q) EF s:=by
 have C:=vf (R.stat.S.cls c hc)
 obtain⟨R2,hf⟩:=wM R hc
 have h:=h _ _ (Nat.succ_ne_self _) hf R.fresh
 have Y:=makes_of (M:=model Z.prog Z.w) R.X C.makes
 refine wpAny_call ?_
 cases hi:bL c 43 with
 | some f =>
  rw[hi] at h
  dsimp only at h
  have y43:idOf "__init__" = some 43:=by decide +kernel
  have MF:=m5 R.stat.S hc y43 hi
  obtain⟨hh,g,d,t,os⟩:=s
  refine make_core Y (looks_findIn R.X MF.find) (λself=>bind_fn R.X self (RV.mp MF.fn)) (.inl rfl) ?_
  refine iW h (ok.make _ _ _) R2 (aK.cons (show bY (.ref (hh.objs.size+1)) (.ref (hh.objs.size+1)) from rfl) hp) hy hw MF.fnIn λv s' hv=>?_
  obtain⟨x,H',hx,R',rfl,q⟩:=hv
  exact⟨hx.none,.ref (hh.objs.size+1),H',rfl,R',q⟩
 | none =>
  rw[hi] at h
  obtain⟨rfl,rfl,q⟩:=h
  obtain rfl:=hp.nil_inv
  have hy:ys.zip ws=[]:=by cases hy;rfl
  rw[hy]
  obtain rfl:=Ay c hc hi
  obtain⟨mm,F,M⟩:=R.fr
  obtain⟨hh,g,d,t,os⟩:=s
  have hi':=R.stat.S.wu
  refine make_core Y (looks_findIn R.X hi') (λself=>Looks.of_pure (oi_bind self)) (.inr ⟨rfl,rfl⟩) ?_
  have hx:((hh.push W.emptyDict).push (instObj (Z.cls 1) hh.objs.size)).get? (hh.objs.size+1)=some (instObj (Z.cls 1) hh.objs.size):=by
   have:=Rc (hh.push W.emptyDict) (o:=instObj (Z.cls 1) hh.objs.size) rfl
   rw[Heap.size_push] at this;exact this
  have t1:Looks (model Z.prog Z.w) ((hh.push W.emptyDict).push (instObj (Z.cls 1) hh.objs.size)) (typeOf (.ref (hh.objs.size+1))) (.ref (Z.cls 1)):=(Looks.ld hx).andThen .now
  have t2:Looks (model Z.prog Z.w) ((hh.push W.emptyDict).push (instObj (Z.cls 1) hh.objs.size)) (isInstance (.ref (hh.objs.size+1)) (.type "object")) true:=t1.andThen (Y.top.keeps λb o e=>QM _ (QM _ e))
  refine codeAny_call_builtin oi_plain entry_oi (@check_slot (model Z.prog Z.w) _ _ _ "object.__init__" "object" "__init__" (.ref (hh.objs.size+1)) [] [] _ oi_kind oi_split t2 (oi_args (.ref (hh.objs.size+1))) ?_)
  rw[oi_run]
  exact RT (And.intro rfl ⟨.ref (hh.objs.size+1),_,rfl,R2,q⟩)
theorem JV(hkd:NmOk Z env L sc)(hg:dg sc x=true)(hx:idOf x=some n)(hc:look Z.cx.gs n=some (.cls c))(hi:eX c=true)(hs:dH Z k env L es cs)(hk:wL Z k env L ks kn kv) :
  SE Z k env L (.Call (.Name x np) es ks p) (.mk c cs kn kv):=by
 intro A base m H s Q X ok R h
 obtain⟨y,hy,e1,e2⟩:=R.stat.S.clss n c hc
 refine wpAny_Call_ofName (gO hkd hg hx hy R e1 ?_)
 refine callWith_of (P:=Z.K.In) (by rw[(bC hs).1,(fO hk p).2.1];rfl) (λh' X'=>keeps_K e2 h' X') ?_
 refine RP (gk hs hk A base m H s _ X ok R h) (λa s₁ ha=>?_) λ_ _ e=>e
 obtain⟨vs,us,ys,ws,H₁,e3,hv,hn,hu,R₁,q⟩:=ha
 refine⟨R₁.X,?_⟩
 rw[e3]
 exact rG ok R₁ hi hv hn hu q
end
end
section
open PySem PySem.W PySem.Calls PyProof.Rows
section
variable{prog:Program}{w:World}{A:Around}{E:Value->Shared->Prop}{s:Shared}{T:String}{r d:Addr}{n:Nat}{P:Nat->Value->Prop}{OK:Heap->Prop}
theorem wN  (K:KdlSrc prog w T r d n P OK) (hh:A.handled=none) (hok:OK s.heap) (S:Addr) (hSr:S≠r) (hSd:S≠d) (hS:s.heap.get? S=some { cls:=.type "list",data:=.seq #[] 0 })
  (hR:∀h' tk acc' c',(∀b o,b≠S->s.heap.get? b=some o->h'.get? b=some o)->h'.get? S=some { cls:=.type "list",dict:=none,data:=.seq acc' c',slots:=#[] }->ItemsOf P acc' n->R (.ok (.ret (.ref S))) { s with heap:=h',toks:=tk }) (hn:n<=sizeLine) :
  codeAny (model prog w) A (.builtin "list.__iadd__" ⟨[.ref S,.ref r],[]⟩) R s:=by
 refine codeAny_builtin F.entry_list_iadd ?_
 rw[Around.under_plainId F.plain_list_iadd _]
 exact kdl_extend K hh hok S hSr hSd (.ref S) 0 hS hR hn
theorem j7(K:KdlSrc prog w T r d n P OK)(hh:A.handled=none)(hok:OK s.heap)(hn:n<=sizeLine)
  (hQ:∀h' tk acc,(∀b o,s.heap.get? b=some o->h'.get? b=some o)->s.heap.objs.size<=h'.objs.size->ItemsOf P acc n->Q acc.toList { s with heap:=h',toks:=tk }):wpAny (model prog w) A (collect (.ref r)) Q E s:=by
 have lt:=K.there _ hok
 unfold collect
 refine RQ (wpAny_runValue (codeAny_builtin F.entry_proto_collect ?_))
 rw[Around.under_plainId F.plain_proto_collect _]
 show wpAny _ A.in1 (newList []>>=λl=>again (.builtin "list.__iadd__" ⟨[l,.ref r],[]⟩)) _ _ s
 refine RQ (wpAny_newObj_type ?_)
 refine RT ⟨plainId_quiet F.plain_list_iadd _,?_⟩
 have hS0:({ s with heap:=s.heap.push { cls:=.type "list",data:=.seq ([]:List Value).toArray } }:Shared).heap.get? s.heap.objs.size=some { cls:=.type "list",data:=.seq #[] 0 }:=Rc _ rfl
 refine wN K hh (K.keep _ _ hok λb _ o e=>QM _ e) s.heap.objs.size (Nat.ne_of_gt lt.1) (Nat.ne_of_gt lt.2) hS0 (λh' tk acc c hk hS hacc=>?_) hn
 show wpAny _ A (load s.heap.objs.size>>=_) _ _ _
 exact RQ (wpAny_load hS (RT (hQ h' tk acc (λb o e=>hk b o (Nat.ne_of_lt (RL e)) (QM _ e)) (Nat.le_of_lt (RL hS)) hacc)))
theorem rH(K:KdlSrc prog w T r d n P OK)(hh:A.handled=none)(hok:OK s.heap)(hI:∀acc,ItemsOf P acc n->IntsAre acc.toList ns)(hn:n<64)
  (hQ:∀h' tk a out ns' e,(∀b o,s.heap.get? b=some o->h'.get? b=some o)->s.heap.objs.size<=a->h'.get? a=some (seqObj "list" out e)->IntsAre out.toList ns'->ns'.Perm ns->ns'.Pairwise (·<=·)->Q (.ref a) { s with heap:=h',toks:=tk }) :
  wpAny (model prog w) A (call (.builtin "sorted") [.ref r]) Q E s:=by
 refine Calls.call_function_entry kind_sorted plain_sorted entry_sorted (args_sorted1 _) ?_
 unfold Builtin.«sorted»
 refine RQ (m:=checkCount "sorted" 1 1 _) (RT ?_)
 refine RQ (j7 K hh hok (by rw[sizeLine_eq];omega) λh' tk acc hk hz hacc=>?_)
 have hl:acc.toList.length<64:=by rw[Array.length_toList,hacc.1];exact hn
 have hoL:(h'.push (seqObj "list" acc.toList.toArray 0)).get? h'.objs.size=some (seqObj "list" acc.toList.toArray 0):=Rc _ rfl
 refine RQ (wpAny_newList (hsz:=by rw[sizeLine_eq];omega) ?_)
 refine RQ (wpAny_holding (wpAny_call_entry slot_list_sort ⟨_,hoL,rfl⟩ entry_list_sort (list_sort_tree hoL (hI acc hacc) hl λout ns' a1 a2 a3=>⟨_,rfl,?_⟩) (args_list_sort _)))
 obtain⟨e,he⟩:=sortedHeap_at (out:=out) hoL
 refine RT ⟨_,rfl,hQ _ _ _ out ns' e (λb o g=>?_) hz he a1 a2 a3⟩
 rw[sortedHeap_old (Nat.ne_of_lt (RL (hk b o g))) (by rw[size_push'];exact Nat.lt_succ_of_lt (RL (hk b o g)))]
 exact QM _ (hk b o g)
theorem lF(K:KdlSrc prog w T r d n P OK)(hh:A.handled=none)(hok:OK s.heap)(hI:∀acc,ItemsOf P acc n->IntsAre acc.toList ns)(hn:n<64)
  (hQ:∀h' tk a out ns' e,(∀b o,s.heap.get? b=some o->h'.get? b=some o)->s.heap.objs.size<=a->h'.get? a=some (seqObj "list" out e)->IntsAre out.toList ns'->ns'.Perm ns->ns'.Pairwise (·≥·)->Q (.ref a) { s with heap:=h',toks:=tk }) :
  wpAny (model prog w) A (call (.builtin "sorted") [.ref r] [(Str.ofString "reverse",.bool true)]) Q E s:=by
 refine call_function_entry_kw kind_sorted plain_sorted entry_sorted (args_sorted_rev _ _) ?_
 unfold Builtin.«sorted»
 refine RQ (m:=checkCount "sorted" 1 1 _) (RT ?_)
 refine RQ (j7 K hh hok (by rw[sizeLine_eq];omega) λh' tk acc hk hz hacc=>?_)
 have hl:acc.toList.length<64:=by rw[Array.length_toList,hacc.1];exact hn
 have hoL:(h'.push (seqObj "list" acc.toList.toArray 0)).get? h'.objs.size=some (seqObj "list" acc.toList.toArray 0):=Rc _ rfl
 refine RQ (wpAny_newList (hsz:=by rw[sizeLine_eq];omega) ?_)
 refine RQ (wpAny_holding (wpAny_call_entry_kw slot_list_sort ⟨_,hoL,rfl⟩ entry_list_sort (list_sort_tree_rev hoL (hI acc hacc) hl λout ns' a1 a2 a3=>⟨_,rfl,?_⟩) (args_list_sort_rev _ _)))
 obtain⟨e,he⟩:=sortedHeap_at (out:=out) hoL
 refine RT ⟨_,rfl,hQ _ _ _ out ns' e (λb o g=>?_) hz he a1 a2 a3⟩
 rw[sortedHeap_old (Nat.ne_of_lt (RL (hk b o g))) (by rw[size_push'];exact Nat.lt_succ_of_lt (RL (hk b o g)))]
 exact QM _ (hk b o g)
end
end
section
open PySem PySem.W PySem.Calls PyProof.Rows
section
variable{Z:Setup}{k:Nat}{qual:Str}{sc:Scope}{L fa:Addr}{cdv:Value}{cl:List (Str × Addr)}{env:Env}
theorem tK(h:pJ b=some (y,v)):bootBuiltins y=some v/\y ≠ "__name__" := by
 unfold pJ at h
 split at h<;>first|(cases h;done)|skip
 all_goals (injection h with h;injection h with h1 h2;subst h1 h2;exact⟨by decide +kernel,by decide +kernel⟩)
theorem Az(h:pJ b=some (y,v)):(∃id,v=.builtin id)\/(∃T,v=.type T):=by
 unfold pJ at h
 split at h<;>first|(cases h;done)|skip
 all_goals (injection h with h;injection h with h1 h2;subst h2;first|exact .inl ⟨_,rfl⟩|exact .inr ⟨_,rfl⟩)
theorem ints_of{ds:List (Int × Value)}:∀vs:List Value,vs.length=ds.length->(∀(j:Nat) (v:Value),vs[j]?=some v->∃(k:Int) (x:Value),ds[j]?=some (k,x)/\(intKind prog w).is k v=true)->IntsAre vs (ds.map (·.1)):=by
 induction ds with
 | nil=>intro vs hl _;rw[List.eq_nil_of_length_eq_zero hl];exact .nil
 | cons p r ih =>
  intro vs hl h
  cases vs with
  | nil=>cases hl
  | cons v vs =>
   obtain⟨k,x,e,hk⟩:=h 0 v rfl
   obtain rfl:=Ru e
   obtain⟨t,rfl⟩:=Value.isInt_shape hk
   exact .cons k t (ih vs (Nat.succ.inj hl) λj u hu=>h (j+1) u hu)
theorem Ba(h:IntsAre vs ns):aK vs (ns.map .int):=by
 induction h with
 | nil=>exact .nil
 | cons n t _ ih=>exact .cons (show bY (.int n t) (.int n) from rfl) ih
theorem pZ          (R:aA Z base L m H s) (hk:∀b o,s.heap.get? b=some o->h'.get? b=some o) (ha:s.heap.objs.size<=a) (he:h'.get? a=some (seqObj "list" out e)) (hi:IntsAre out.toList ns) (hl:ns.length<64) (q:newC (.list (ns.map .int)) H Q) :
  QE Z base L m Q (.ref a) { s with heap:=h',toks:=tk }:=by
 have h0:H a=none:=by
  cases e:H a with
  | none=>rfl
  | some c=>exact absurd (R.lt e) (Nat.not_lt_of_le ha)
 have hn:bJ Z h' a (.list (ns.map .int)):=by
  refine⟨by rw[Rt];lia,out.toList,e,?_,Ba hi⟩
  rw[Array.toArray_toList];exact he
 exact⟨.ref a,_,rfl,(R.ext0 (t:=tk) hk).add rfl (R.jL ha) (λe=>absurd R.wz (Nat.not_lt_of_le (e▸ha))) hn,q _ h0⟩
theorem n7{A:Around}{es:List (Int × V)}(hh:A.handled=none)(R:aA Z base L m H s)(ha:H a=some (.dict es))(hl:es.length<64)(q:newC (.list ((cG (es.map (·.1))).map .int)) H Q) :
  wpAny (model Z.prog Z.w) A (call (.builtin "sorted") [.ref a]) (QE Z base L m Q) EF s:=by
 obtain⟨lo,hz,ds,hD,hds⟩:=R.cell _ _ ha
 obtain⟨ep,hat⟩:=hD.dictAt
 refine rH (kdl_dict (knd:=intKind Z.prog Z.w) (kvs:=ds) (ep:=ep) lo) hh hat (λacc h=>ints_of acc.toList (by rw[Array.length_toList];exact h.1) λj v e=>h.2 j v (by rw[<-Array.getElem?_toList];exact e)) (by rw[hds.len];exact hl) λh' tk b out ns' e hk hb he hi hp hs=>?_
 rw[hds.keys] at hp
 rw[lq hp.symm hs] at q
 exact pZ R hk hb he hi (by rw[hp.length_eq,Rt];exact hl) q
theorem rI{A:Around}{es:List (Int × V)}(hh:A.handled=none)(R:aA Z base L m H s)(ha:H a=some (.dict es))(hl:es.length<64)(q:newC (.list ((cG (es.map (·.1))).reverse.map .int)) H Q) :
  wpAny (model Z.prog Z.w) A (call (.builtin "sorted") [.ref a] [(Str.ofString "reverse",.bool true)]) (QE Z base L m Q) EF s:=by
 obtain⟨lo,hz,ds,hD,hds⟩:=R.cell _ _ ha
 obtain⟨ep,hat⟩:=hD.dictAt
 refine lF (kdl_dict (knd:=intKind Z.prog Z.w) (kvs:=ds) (ep:=ep) lo) hh hat (λacc h=>ints_of acc.toList (by rw[Array.length_toList];exact h.1) λj v e=>h.2 j v (by rw[<-Array.getElem?_toList];exact e)) (by rw[hds.len];exact hl) λh' tk b out ns' e hk hb he hi hp hs=>?_
 rw[hds.keys] at hp
 rw[lq (hp.symm.trans (List.reverse_perm _).symm) (List.pairwise_reverse.mpr hs),List.reverse_reverse] at q
 exact pZ R hk hb he hi (by rw[hp.length_eq,Rt];exact hl) q
theorem n8(R:aA Z base L m H s)(ha:H a=some (.dict es))(hl:es.length<64)(q:newC (.dict es) H Q) :
  wpAny (model Z.prog Z.w) A (call (.type "dict") [.ref a]) (QE Z base L m Q) EF s:=by
 obtain⟨lo,hz,ds,hD,hds⟩:=R.cell _ _ ha
 refine kt_call_dict lo hD (by rw[hds.len,sizeLine_eq];lia) λh' hm hs=>?_
 obtain⟨mm,F,M⟩:=R.fr
 have hn:bJ Z h' s.heap.objs.size (.dict es):=⟨F.notModules R.stat.S.big,hz,ds,hm,hds⟩
 exact⟨.ref s.heap.objs.size,_,rfl,R.came (t:=s.toks) (λb o e=>(hs.2 b (Nat.ne_of_lt (RL e))).trans (QM _ e)) rfl hn,q _ R.fresh⟩
set_option tactic.hygienic true in
theorem vG(ok:Bo A k)(R:aA Z base L m H s)(hv:bY v x)(h:lenV (Call Z k) x H Q X) :
  wpAny (model Z.prog Z.w) A (call (.builtin "len") [v]) (QE Z base L m Q) EF s:=by
 unfold lenV at h
 split at h
 ·rename_i a
  obtain rfl:=hv.ref
  split at h
  ·rename_i xs ha
   exact gM R (.inl ⟨xs,ha,rfl⟩) h
  ·rename_i xs ha
   exact gM R (.inr (.inl ⟨xs,ha,rfl⟩)) h
  ·rename_i xs ha
   exact gM R (.inr (.inr ⟨xs,ha,rfl⟩)) h
  ·rename_i es ha
   obtain⟨lo,hz,ds,hD,hds⟩:=R.cell _ _ ha
   refine call_len_dict lo hD (by rw[hds.len];lia) ?_
   rw[hds.len]
   exact gB R h
  ·rename_i c d ha
   split at h
   ·rename_i fs hd
    split at h
    ·rename_i f hf
     have y83:idOf "__len__" = some 83:=by decide +kernel
     obtain⟨hc,es,nn,I,F',_⟩:=R.fG ha hd
     have MF:=m5 R.stat.S hc y83 hf
     obtain⟨mm,F,M⟩:=R.fr
     refine W.len_K F R.stat.X I MF.find MF.fn ?_
     refine RP (dW h ok.in1 R (aK.one (show bY (.ref a) (.ref a) from rfl)) MF.fnIn) (λu s₁ hu=>?_) λ_ _ e=>e
     obtain⟨z,H₁,hz,R₁,q⟩:=hu
     cases z<;>first|(cases q;done)|skip
     obtain⟨t,rfl⟩:=hz.int
     exact⟨⟨q.1.1,by lia⟩,gB R₁ q.2⟩
    ·cases h
   ·cases h
  ·cases h
 ·cases h
set_option tactic.hygienic true in
theorem Bb{xs:List V}(hb:pJ b=some (y,f))(ok:Bo A k)(R:aA Z base L m H s)(hv:aK vs xs)(h:mU (Call Z k) b xs H Q X) :
  wpAny (model Z.prog Z.w) A (call f vs) (QE Z base L m Q) EF s:=by
 unfold pJ at hb
 split at hb<;>first|(cases hb;done)|skip
 all_goals (injection hb with hb;injection hb with h1 h2;subst h1 h2)
 ·have h:(match (generalizing:=false) xs with|[v]=>lenV (Call Z k) v H Q X|_=>False):=h
  split at h
  ·obtain⟨v,us,rfl,hv1,hr⟩:=hv.cons_inv
   obtain rfl:=hr.nil_inv
   exact vG ok R hv1 h
  ·cases h
 ·have h:(match (generalizing:=false) xs with|[v]=>(match bZ H v with|some (.list xs)=>newC (.list xs) H Q|_=>False)|_=>False):=h
  split at h
  ·rename_i z _
   obtain⟨v,us,rfl,hv1,hr⟩:=hv.cons_inv
   obtain rfl:=hr.nil_inv
   cases z<;>first|exact False.elim h|skip
   obtain rfl:=hv1.ref
   dsimp only [bZ] at h
   split at h
   ·rename_i xs ha
    exact nY R ha h
   ·cases h
  ·cases h
 ·have h:(match (generalizing:=false) xs with|[v]=>(match bZ H v with|some (.dict es)=>es.length<64/\newC (.list ((cG (es.map (·.1))).map .int)) H Q|_=>False)|_=>False):=h
  split at h
  ·rename_i z _
   obtain⟨v,us,rfl,hv1,hr⟩:=hv.cons_inv
   obtain rfl:=hr.nil_inv
   cases z<;>first|exact False.elim h|skip
   obtain rfl:=hv1.ref
   dsimp only [bZ] at h
   split at h
   ·rename_i es ha
    exact n7 ok.handled R ha h.1 h.2
   ·cases h
  ·cases h
 ·have h:(match (generalizing:=false) xs with|[v]=>(match bZ H v with|some (.dict es)=>es.length<64/\newC (.dict es) H Q|_=>False)|_=>False):=h
  split at h
  ·rename_i z _
   obtain⟨v,us,rfl,hv1,hr⟩:=hv.cons_inv
   obtain rfl:=hr.nil_inv
   cases z<;>first|exact False.elim h|skip
   obtain rfl:=hv1.ref
   dsimp only [bZ] at h
   split at h
   ·rename_i es ha
    exact n8 R ha h.1 h.2
   ·cases h
  ·cases h
 ·have h:(match (generalizing:=false) xs with|[.int i,.int j]=>Q (.int (min i j)) H|_=>False):=h
  split at h
  ·obtain⟨v,us,rfl,hv1,hr⟩:=hv.cons_inv
   obtain⟨v',us',rfl,hv',hr'⟩:=hr.cons_inv
   obtain rfl:=hr'.nil_inv
   obtain⟨t,rfl⟩:=hv1.int
   obtain⟨t',rfl⟩:=hv'.int
   exact vo ok.handled R h
  ·cases h
 ·have h:(match (generalizing:=false) xs with|[.int i,.int j]=>Q (.int (max i j)) H|_=>False):=h
  split at h
  ·obtain⟨v,us,rfl,hv1,hr⟩:=hv.cons_inv
   obtain⟨v',us',rfl,hv',hr'⟩:=hr.cons_inv
   obtain rfl:=hr'.nil_inv
   obtain⟨t,rfl⟩:=hv1.int
   obtain⟨t',rfl⟩:=hv'.int
   exact vm ok.handled R h
  ·cases h
theorem JW(hkd:NmOk Z env L sc)(hg:dg sc x=true)(hx:idOf x=some n)(hb:look Z.cx.gs n=some (.bi b))(hs:dH Z k env L es cs) :
  SE Z k env L (.Call (.Name x np) es [] p) (.bi b cs):=by
 intro A base m H s Q X ok R h
 obtain⟨y,f,hy,hf,e1⟩:=R.stat.S.bis n b hb
 obtain⟨e2,e3⟩:=tK hf
 obtain rfl:=jl hx hy
 refine wpAny_Call_ofName (gj hkd hg R e1 e2 e3 ?_)
 have key:wpAny (model Z.prog Z.w) A (evalArgs f true (backTo p (starEach es env)) []) (λa s₁=>wpAny (model Z.prog Z.w) A (call f ([]++a.pos) a.kw) (QE Z base L m Q) EF s₁) EF s:=by
  refine RP (dU hs A base m H s _ X ok R h) (λa s₁ ha=>?_) λ_ _ e=>e
  obtain⟨hkw,xs,H₁,hxs,R₁,q⟩:=ha
  rw[hkw]
  exact Bb hf ok R₁ hxs q
 have hplain:=(bC (pos:=p) (env:=env) hs).1
 rcases Az hf with ⟨id,e⟩|⟨T,e⟩
 ·rw[e] at key |-;exact Calls.callWith_builtin hplain key
 ·rw[e] at key |-;exact PyProof.Rows.callWith_type hplain key
set_option tactic.hygienic true in
theorem JX(hkd:NmOk Z env L sc)(hg:dg sc x=true)(hx:idOf x=some n)(hb:look Z.cx.gs n=some (.bi 2))(hs:dH Z k env L es cs)(hk:wL Z k env L ks [191] [.tt]) :
  SE Z k env L (.Call (.Name x np) es ks p) (.bi 3 cs):=by
 intro A base m H s Q X ok R h
 obtain⟨y,f,hy,hf,e1⟩:=R.stat.S.bis n 2 hb
 obtain⟨e2,e3⟩:=tK hf
 obtain rfl:=jl hx hy
 refine wpAny_Call_ofName (gj hkd hg R e1 e2 e3 ?_)
 obtain⟨_,rfl⟩:=Prod.mk.inj (Ru hf)
 refine callWith_builtin_kwB (bC (pos:=p) (env:=env) hs).1 (fO hk p).2.1 ?_
 refine RP (gk hs hk A base m H s (λvs us H=>match us with|[.bool true]=>mU (Call Z k) 3 vs H Q X|_=>False) X ok R h) (λa s₁ ha=>?_) λ_ _ e=>e
 obtain⟨vs,us,ys,ws,H',ek,hp,hy,hw,R',q⟩:=ha
 rw[ek]
 dsimp only at q
 split at q
 ·obtain⟨v,w',rfl,hv1,hr⟩:=hw.cons_inv
  obtain rfl:=hr.nil_inv
  obtain rfl:=hv1.bool
  cases hy with
  | cons h1 h2 =>
   cases h2
   rw[<-jl h1 (show nP[191]?=some (Str.ofString "reverse") by decide +kernel)]
   have q:(match (generalizing:=false) vs with|[v]=>(match bZ H' v with|some (.dict es)=>es.length<64/\newC (.list ((cG (es.map (·.1))).reverse.map .int)) H' Q|_=>False)|_=>False):=q
   split at q
   ·rename_i z _
    obtain⟨v,us,e,hv1,hr⟩:=hp.cons_inv
    obtain rfl:=hr.nil_inv
    obtain⟨ap,ak⟩:=a
    dsimp only at e
    subst e
    cases z<;>first|exact False.elim q|skip
    obtain rfl:=hv1.ref
    dsimp only [bZ] at q
    split at q
    ·rename_i es ha
     exact rI ok.handled R' ha q.1 q.2
    ·cases q
   ·cases q
 ·cases q
end
end
section
open PySem PySem.W PySem.Calls PyProof.Rows
section
variable{Z:Setup}{k:Nat}
def Good(Z:Setup)(k n:Nat):Prop:=∀{sc:Scope} {L:Addr} {env:Env} {e:Expr} {c:CE},NmOk Z env L sc->cE Z.cx n sc e=some c->SE Z k env L e c/\ST Z k env L e c
theorem gP(h:one l=some x):l=[x]:=by
 cases l with
 | nil=>cases h
 | cons a r=>cases r<;>cases h;rfl
theorem p7(h:nameOf e=some x):∃p,e=.Name x p:=by
 obtain⟨⟨⟨y,p⟩,q⟩,_,h⟩:=map_some h
 exact⟨p,by rw[<-h];exact(fB e).symm.trans q⟩
theorem p8(h:v8 as=some x):∃p,as=[.Starred x p]:=by
 obtain⟨a,ha,h⟩:=bind_some h
 obtain⟨⟨⟨y,p⟩,q⟩,_,h⟩:=map_some h
 have h:y=x:=h
 subst h
 exact⟨p,by rw[gP ha,show a=.Starred y p from (fB a).symm.trans q]⟩
theorem lG(h:wj sc e=some x):∃p,e=.Name x p/\dg sc x=true:=by
 obtain⟨y,hy,h⟩:=bind_some h
 obtain⟨p,rfl⟩:=p7 hy
 rcases aO h with ⟨hg,h⟩|⟨_,h⟩<;>cases h
 exact⟨p,rfl,hg⟩
section
variable{cx:CX}{n:Nat}{sc:Scope}{c:CE}
theorem Bc(h:cE cx n sc (.Starred x p)=some c):False:=by cases n<;>cases h
theorem wO(h:cE cx n sc (.Slice x y z p)=some c):False:=by cases n<;>cases h
theorem wQ(h:cE cx n sc (.Set x j p)=some c):False:=by cases n<;>cases h
theorem qb(h:cE cx n sc e=some c):∀x y z p,e≠.Slice x y z p:=λ_ _ _ _ q=>wO (q▸h)
theorem folded(h:cE cx n sc e=some c)(x:Value):foldedSetIterable e env x=pure x:=by
 cases e<;>first|rfl|exact(wQ h).elim
theorem qd(h:cE cx n sc r=some c):behindInMarks o r=false:=by
 cases r<;>first|rfl|exact(wQ h).elim
end
theorem gQ(g:Good Z k n)(hN:NmOk Z env L sc):∀{es:List Expr} {cs:List CE},iI (cE Z.cx n sc) es=some cs->dH Z k env L es cs
 | [],cs,h=>by cases h;exact .nil
 | e::es,cs,h=>by
  obtain⟨a,h1,h⟩:=bind_some h
  obtain⟨b,h2,rfl⟩:=map_some h
  exact .cons (λx p q=>Bc (q▸h1)) (g hN h1).1 (g hN h1).2 (gQ g hN h2)
theorem rJ(g:Good Z k n)(hN:NmOk Z env L sc):∀{ks:List Keyword} {kv:List Nat × List CE},JK (cE Z.cx n sc) ks=some kv->wL Z k env L ks kv.1 kv.2
 | [],kv,h=>by cases h;exact .nil
 | ⟨none,v,p⟩::ks,kv,h=>by cases h
 | ⟨some x,v,p⟩::ks,kv,h=>by
  obtain⟨i,h1,h⟩:=bind_some (show((idOf x).bind _)=some kv from h)
  obtain⟨a,h2,h⟩:=bind_some h
  obtain⟨b,h3,rfl⟩:=map_some h
  exact .cons h1 (g hN h2).1 (rJ g hN h3)
theorem fP(h:l.isEmpty=true):l=[]:=by cases l<;>first|rfl|cases h
section
variable{n:Nat}(g:Good Z k n){sc:Scope}{L:Addr}{env:Env}(hN:NmOk Z env L sc){c:CE}{p:Pos}
theorem pl(hp:jM e=true)(ht:GC d=false)(h:SE Z k env L e d):SE Z k env L e d/\ST Z k env L e d:=⟨h,wF hp ht h⟩
theorem Bd(h:(match kv with|[y]=>if Gh y then some x else none|_=>none)=some c):kv=[.tt]/\x=c:=match kv,h with
 | [],h=>nomatch h
 | [a],h=>(aO h).elim (λh=>⟨congrArg (λz=>[z]) (Ae h.1),Ru h.2⟩) λh=>nomatch h.2
 | _::_::_,h=>nomatch h
include hN
set_option tactic.hygienic true in
theorem wR(hg:dg sc x=true)(hx:idOf x=some m)(hs:dH Z k env L as cs)(hk:wL Z k env L ks kn kv)(h:vZ Z.cx m cs kn kv=some c) :
  SE Z k env L (.Call (.Name x np) as ks p) c/\ST Z k env L (.Call (.Name x np) as ks p) c:=by
 unfold vZ at h
 split at h
 ·rename_i f hf
  rcases aO h with ⟨h1,h⟩|⟨_,h⟩
  ·cases h
   cases hk with
   | nil=>exact pl rfl rfl (JT hN hg hx hf hs)
   | cons=>cases h1
  ·cases h
 ·rename_i cc hf
  rcases aO h with ⟨h1,h⟩|⟨_,h⟩
  ·cases h
   exact pl rfl rfl (JV hN hg hx hf h1 hs hk)
  ·cases h
 ·rename_i b hf
  rcases aO h with ⟨h1,h⟩|⟨_,h⟩
  ·cases h
   cases hk with
   | nil=>exact pl rfl rfl (JW hN hg hx hf hs)
   | cons=>cases h1
  ·rcases aO h with ⟨h1,h⟩|⟨_,h⟩
   ·rw[Ro] at h1
    obtain rfl:=aJ h1.1
    have e:=RV.mp h1.2
    subst e
    obtain⟨rfl,rfl⟩:=Bd h
    exact pl rfl rfl (JX hN hg hx hf hs hk)
   ·cases h
 ·cases h
include g
theorem Bf(h:v7 Z.cx (cE Z.cx n) sc x as ks=some c):SE Z k env L (.Call (.Name x np) as ks p) c/\ST Z k env L (.Call (.Name x np) as ks p) c:=by
 obtain⟨bs,ha,h⟩:=bind_some h
 obtain⟨kv,hk,h⟩:=bind_some h
 obtain⟨m,hm,h⟩:=bind_some h
 rcases aO h with ⟨h1,h⟩|⟨_,h⟩
 ·exact wR hN h1 hm (gQ g hN ha) (rJ g hN hk) h
 ·cases h
set_option tactic.hygienic true in
theorem Bg(h:v9 (cE Z.cx n) sc o y ap as ks p=some c):SE Z k env L (.Call (.Attribute o y ap) as ks p) c/\ST Z k env L (.Call (.Attribute o y ap) as ks p) c:=by
 rcases aO h with ⟨h1,q⟩|⟨_,q⟩
 ·clear h
  simp only [Ro] at h1
  obtain⟨e,⟨h1,h2⟩,h3⟩:=h1
  obtain rfl:=fP e
  obtain⟨a,ha,h⟩:=bind_some q
  obtain⟨m,hm,h⟩:=bind_some h
  split at h
  ·rename_i x hx
   obtain⟨b,hb,rfl⟩:=map_some h
   obtain⟨q,rfl⟩:=p8 hx
   exact pl rfl rfl (wI h2 h1 hm (g hN ha).1 (g hN hb).1)
  ·obtain⟨b,hb,rfl⟩:=map_some h
   exact pl rfl rfl (Av h2 h1 h3 hm (g hN ha).1 (gQ g hN hb))
 ·cases q
theorem part_of(h:tB (cE Z.cx n sc) o=some c):SO Z k env L o c:=by
 cases o with
 | none=>cases h;exact .none
 | some e=>exact .some (g hN h).1
set_option tactic.hygienic true in
theorem JZ(h:Gj Z.cx (cE Z.cx n) sc v i=some c):SE Z k env L (.Subscript v i p) c/\ST Z k env L (.Subscript v i p) c:=by
 unfold Gj at h
 split at h
 ·rename_i x hx
  obtain⟨q,rfl,hg⟩:=lG hx
  obtain⟨m,hm,h⟩:=bind_some h
  obtain⟨t,ht,h⟩:=bind_some h
  obtain⟨b,hb,rfl⟩:=map_some h
  exact pl rfl rfl (Ax hN hg hm ht (qb hb) (g hN hb).1)
 ·obtain⟨a,ha,h⟩:=bind_some h
  obtain⟨b,hb,rfl⟩:=map_some h
  exact pl rfl rfl (GF (qb hb) (g hN ha).1 (g hN hb).1)
theorem GJ(h:Eu Z.cx (cE Z.cx n) sc v w.e w=some c):SE Z k env L (.Subscript v w.e p) c/\ST Z k env L (.Subscript v w.e p) c:=by
 cases w with
 | slice lo hi st q =>
  rcases aO h with ⟨hl,h⟩|⟨_,h⟩
  ·obtain⟨a,ha,h⟩:=bind_some h
   obtain⟨b,hb,h⟩:=bind_some h
   obtain⟨d,hd,rfl⟩:=map_some h
   obtain rfl:=Option.isNone_iff_eq_none.mp hl
   exact pl rfl rfl (wK (g hN ha).1 (part_of g hN hb) (part_of g hN hd))
  ·cases h
 | _=>exact JZ g hN h
theorem Bh(h:Et Z.cx (cE Z.cx n) sc as ks p w=some c):SE Z k env L (.Call w.e as ks p) c/\ST Z k env L (.Call w.e as ks p) c:=by
 cases w with
 | nm x q=>exact Bf g hN h
 | attr o y q=>exact Bg g hN h
 | _=>cases h
theorem J0{os:List CmpOp}{es:List Expr}(h:Es (cE Z.cx n) sc l os es=some c):SE Z k env L (.Compare l os es p) c/\ST Z k env L (.Compare l os es p) c:=by
 obtain⟨o,ho,h⟩:=bind_some h
 obtain⟨r,hr,h⟩:=bind_some h
 obtain⟨a,ha,h⟩:=bind_some h
 obtain⟨b,hb,h⟩:=bind_some h
 obtain⟨m,hm,rfl⟩:=map_some h
 rw[gP ho,gP hr]
 exact⟨Gx hm (qd hb) (g hN ha).1 (g hN hb).1,Gy hm (qd hb) (g hN ha).1 (g hN hb).1⟩
theorem M8(h:Oz (cE Z.cx n) sc x o=some c):SE Z k env L (.UnaryOp o x p) c/\ST Z k env L (.UnaryOp o x p) c:=by
 cases o with
 | Not =>
  obtain⟨a,ha,rfl⟩:=map_some h
  exact⟨Gw (g hN ha).1,Gz (g hN ha).2⟩
 | USub =>
  obtain⟨a,ha,rfl⟩:=map_some h
  exact pl rfl rfl (Gv (g hN ha).1)
 | _=>cases h
end
theorem vH(h:q9 d=some c):GC c=false:=by
 cases d with
 | bool b=>cases b<;>cases h<;>rfl
 | _=>cases h<;>rfl
theorem GP(g:Good Z k n)(hN:NmOk Z env L sc)(w:EV)(h:Ew Z.cx (cE Z.cx n) sc w=some c):SE Z k env L w.e c/\ST Z k env L w.e c:=by
 cases w with
 | cst d j p=>exact pl rfl (vH h) (wC h)
 | nm x p =>
  rcases aO h with ⟨hl,h⟩|⟨_,h⟩
  ·obtain⟨m,hm,rfl⟩:=map_some h
   exact pl rfl rfl (Gs hN hl hm)
  ·cases h
 | attr v f p =>
  rcases aO h with ⟨hp,h⟩|⟨_,h⟩
  ·obtain⟨a,ha,h⟩:=bind_some h
   obtain⟨m,hm,rfl⟩:=map_some h
   exact pl rfl rfl (Ar hp hm (g hN ha).1)
  ·cases h
 | bin l o r p =>
  obtain⟨a,ha,h⟩:=bind_some h
  obtain⟨b,hb,h⟩:=bind_some h
  obtain⟨m,hm,rfl⟩:=map_some h
  exact pl rfl rfl (Gu hm (g hN ha).1 (g hN hb).1)
 | un o x p=>exact M8 g hN h
 | bool o vs p =>
  obtain⟨as,ha,h⟩:=bind_some h
  exact⟨Am (gQ g hN ha) h,Aq (gQ g hN ha) h⟩
 | cmp l os es p=>exact J0 g hN h
 | call f as ks p=>exact fB f▸Bh g hN (w:=mX f) h
 | sub v i p=>exact fB i▸GJ g hN (w:=mX i) (by rw[fB];exact h)
 | slice=>cases h
 | tup es j p =>
  obtain⟨bs,hb,rfl⟩:=map_some h
  exact pl rfl rfl (GD (gQ g hN hb))
 | list es p =>
  obtain⟨bs,hb,rfl⟩:=map_some h
  exact pl rfl rfl (Aw (gQ g hN hb))
 | dict ks vs p =>
  rcases aO h with ⟨h1,h⟩|⟨_,h⟩
  ·cases h
   rw[Ro] at h1
   obtain rfl:=fP h1.1
   obtain rfl:=fP h1.2
   exact pl rfl rfl wJ
  ·cases h
 | star=>cases h
 | oth=>cases h
theorem good:∀n:Nat,Good Z k n
 | 0=>λ_ h=>nomatch h
 | n+1=>λhN h=>by
  have q:=GP (good n) hN _ h
  rw[fB] at q
  exact q
end
end
section
open PySem PySem.W PySem.Calls PyProof.Rows
section
variable{Z:Setup}{k:Nat}{sc:Scope}{L:Addr}{env:Env}
structure iK(Z:Setup)(env:Env)(L:Addr)(sc:Scope):Prop extends NmOk Z env L sc where
 locals:env.locals=L
 scope:env.scope=sc
 kind:sc.kind=.function
 inter:interactive env=false
theorem tM{cl:List (Str × Addr)}(hk:sc.kind=.function):iK Z (envX qual sc L fa cdv cl) L sc :=
 ⟨Ak hk,rfl,rfl,hk,by show(sc.kind==.module&&_)=false;rw[hk];rfl⟩
def QT(Z:Setup)(base:Heap)(L:Addr)(Q:Loc->AH->Prop):Unit->Shared->Prop:=λ_ s'=>∃m' H',aA Z base L m' H' s'/\Q m' H'
def SS(Z:Setup)(k:Nat)(env:Env)(L:Addr)(st:Stmt)(c:CS):Prop :=
 ∀(A:Around) (base:Heap) (m:Loc) (H:AH) (s:Shared) (Q:QS) (X:QY),Bo A k->aA Z base L m H s->DS (Call Z k) c m H Q X->wpAny (model Z.prog Z.w) A (exec st env) (QF Z base L Q) EF s
def vJ(Z:Setup)(k:Nat)(env:Env)(L:Addr)(st:List Stmt)(c:List CS):Prop :=
 ∀(A:Around) (base:Heap) (m:Loc) (H:AH) (s:Shared) (Q:QS) (X:QY),Bo A k->aA Z base L m H s->gH (Call Z k) c m H Q X->wpAny (model Z.prog Z.w) A (execs st env) (QF Z base L Q) EF s
def TG(Z:Setup)(k:Nat)(env:Env)(L:Addr)(e:Expr)(c:CT):Prop :=
 ∀(A:Around) (base:Heap) (m:Loc) (H:AH) (s:Shared) (v:Value) (x:V) (Q:Loc->AH->Prop) (X:QY),Bo A k->aA Z base L m H s->bY v x->DT (Call Z k) c x m H Q X->wpAny (model Z.prog Z.w) A (assign e env v) (QT Z base L Q) EF s
theorem dX(hN:NmOk Z env L sc)(h:cE Z.cx n sc e=some c):SE Z k env L e c:=(good n hN h).1
theorem rK(hN:NmOk Z env L sc)(h:cE Z.cx n sc e=some c):ST Z k env L e c:=(good n hN h).2
theorem GQ(hN:NmOk Z env L sc)(h:iI (cE Z.cx n sc) es=some cs):dH Z k env L es cs:=gQ (good n) hN h
theorem aA.store(R:aA Z base L m H s)(hM:Gn (put m x u) mm)(hn:h'.Ns L mm)(hs:Heap.SameBut L s.heap h'):aA Z base L (put m x u) H { s with heap:=h',toks:=t }:=by
 obtain⟨m0,F,M⟩:=R.fr
 have hne:∀b o,base.get? b=some o->b≠L:=λb o e q=>by rw[q,R.fL] at e;cases e
 exact⟨⟨R.stat,R.cu,by rw[hs.1];exact R.size,λb o e=>(hs.2 b (hne b o e)).trans (R.keep b o e),λa d e=>(R.cell _ _ e).at λo eo=>(hs.2 a (λq=>by rw[q,R.away] at e;cases e)).trans eo,R.out,R.ro,R.gens,R.os⟩,
  ⟨mm,⟨hn,λb o e=>(hs.2 b (hne b o (R.cu _ _ e))).trans (F.keep b o e),F.above⟩,hM⟩,R.away,R.fL⟩
theorem j8{E:Value->Shared->Prop}(hE:iK Z env L sc)(R:aA Z base L m H s)(hl:iT sc y=true)(hy:idOf y=some n)(hv:bY v u)(q:Q (put m n u) H) :
  wpAny (model Z.prog Z.w) A (storeName env y v) (QT Z base L Q) E s:=by
 obtain⟨mm,F,M⟩:=R.fr
 refine wpAny_storeName_local (m:=mm) (by unfold Env.kindOf;rw[hE.scope];exact(f9 hl).1) (by rw[hE.locals];exact F.ns) (λh' hn hs=>?_) (by rw[hE.scope,hE.kind];rfl)
 rw[hE.locals] at hn hs
 exact⟨_,_,R.store (M.put hy hv) hn hs,q⟩
theorem GR(hE:iK Z env L sc)(hl:iT sc y=true)(hy:idOf y=some n):TG Z k env L (.Name y p) (.var n):=by
 intro A base m H s v x Q X ok R hv h
 exact PyProof.Rows.assign_Name (j8 hE R hl hy hv h)
set_option tactic.hygienic true in
theorem qg{E:Value->Shared->Prop}(R:aA Z base L m H s)(ho:bY o x)(hy:idOf y=some f)(hf:f<22)(hv:bY v u)(h:nQ x f u H Q) :
  wpAny (model Z.prog Z.w) A (setAttr o y v) (QU Z base L m Q) E s:=by
 unfold nQ at h
 split at h
 ·rename_i a
  obtain rfl:=ho.ref
  split at h
  ·rename_i c d ha
   split at h
   ·rename_i fs hd
    exact rE R ha hd h.1 hy hf hv h.2
   ·cases h
  ·cases h
 ·cases h
theorem Bj(h1:SE Z k env L o c)(hy:idOf y=some f)(hf:f<22):TG Z k env L (.Attribute o y p) (.attr c f):=by
 intro A base m H s v x Q X ok R hv h
 rw[assign_Attribute]
 refine RQ (wpAny_holding (RP (h1 A base m H s _ _ ok R h) (λov s₁ ho=>RQ (wpAny_standAt ?_)) λ_ _ e=>e))
 obtain⟨w,H₁,hw,R₁,q⟩:=ho
 refine RQ (wpAny_holding (RP (qg R₁ hw hy hf hv q) (λ_ s₂ hq=>wpAny_release ?_) λ_ _ e=>e))
 obtain⟨H₂,R₂,q⟩:=hq
 exact⟨m,H₂,R₂,q⟩
theorem set_list{E:Value->Shared->Prop}{s:Shared}{items:Array Value}{i:Int}(hx:s.heap.get? l=some (listOf items c))(h0:0<=i)(hfit:i<2 ^ 63)(hn:i<items.size)
  (hQ:Q () { s with heap:=s.heap.update l (Obj.mapSeq (·.setIfInBounds i.toNat v)) }):wpAny (model Z.prog Z.w) A (setItem (.ref l) (.int i t) v) Q E s:=by
 have hT:s.TypeIs (.ref l) "list" := ⟨_,hx,rfl⟩
 unfold setItem
 refine wpAny_holding (RQ (wpAny_sequenceKey hT (by decide) ?_))
 refine RQ (wpAny_callSpecial?_slot (name:=Str.ofString "__setitem__") hT slot_list_setitem (wpAny_call_entry slot_list_setitem hT entry_list_setitem ?_ (args_list_setitem _ _ _)))
 show wpAny _ _ (Builtin.List.listSubscript? (.int i t)>>=_) _ _ s
 refine RQ (wpAny_listSubscript_int (fitsIndex_of h0 hfit) ?_)
 clear hfit
 obtain⟨j,rfl⟩:=Int.eq_ofNat_of_zero_le h0
 have hj:j<items.size:=by lia
 have hx':items[j]?=some items[j]:=Array.getElem?_eq_getElem hj
 show wpAny _ _ ((seqItemAt l j>>=λr=>pure (r.map (j,·)))>>=_) _ _ s
 refine RQ (RQ (wpAny_seqItemAt hx rfl (RT ?_)))
 rw[hx']
 show wpAny _ _ (setSeqItemAt l j v>>=_) _ _ s
 refine RQ (wpAny_setSeqItemAt hx rfl ?_)
 first
  | exact RQ (RT (RT ⟨.none,rfl,RT hQ⟩))
  | exact RT ⟨.none,rfl,RT hQ⟩
theorem Bm(es:List (Int × V))(k:Int)(v:V):(dput es k v).length<=es.length+1:=by
 induction es with
 | nil=>exact RN _
 | cons p r ih =>
  unfold dput
  split
  ·exact Nat.le_succ _
  ·exact Nat.succ_le_succ ih
set_option tactic.hygienic true in
theorem rM(ok:Bo A k)(R:aA Z base L m H s)(ho:bY o x)(hi:bY i j)(hv:bY v u)(h:iJ (Call Z k) x j u H Q X) :
  wpAny (model Z.prog Z.w) A (setItem o i v) (QU Z base L m Q) EF s:=by
 unfold iJ at h
 split at h
 ·rename_i a
  obtain rfl:=ho.ref
  split at h
  ·rename_i xs ha
   split at h
   ·rename_i n
    obtain⟨t,rfl⟩:=hi.int
    obtain⟨⟨h0,h1⟩,q⟩:=h
    obtain⟨vs,c,h3,h4,hz⟩:=R.list ha
    have hl:=h4.length
    refine set_list h3 h0 (by lia) (by rw[Rh];lia) ?_
    refine⟨_,dh (us:=vs.set n.toNat v) R ha h3 _ ?_ (h4.set hv _) (by rw[List.length_set];exact hz),q⟩
    simp
   ·cases h
  ·rename_i es ha
   split at h
   ·rename_i n
    obtain⟨t,rfl⟩:=hi.int
    obtain⟨hl,q⟩:=h
    obtain⟨lo,hz,ds,h1,h2⟩:=R.cell _ _ ha
    refine wpAny_setItem_pairs (knd:=intKind Z.prog Z.w) (k:=n) (by simp [intKind,Value.isInt]) h1 (λh' hm hs=>?_) (by rw[h2.len,sizeLine_eq];lia)
    exact⟨_,R.change (c':=.dict (dput es n u)) ha rfl rfl hs ⟨lo,by have:=Bm es n u;lia,_,hm,h2.put hv (nZ h1)⟩,q⟩
   ·cases h
  ·rename_i c d ha
   split at h
   ·rename_i fs hd
    split at h
    ·rename_i f hf
     have y91:idOf "__setitem__" = some 91:=by decide +kernel
     obtain⟨hc,es,nn,I,F',_⟩:=R.fG ha hd
     have MF:=m5 R.stat.S hc y91 hf
     obtain⟨mm,F,M⟩:=R.fr
     refine ksp_setItem F R.stat.X I (vf (R.stat.S.cls c hc)).noSeq MF.find MF.fn ?_
     refine RP (dW h ok.ok R (aK.cons (show bY (.ref a) (.ref a) from rfl) (.cons hi (.one hv))) MF.fnIn) (λu s₁ hu=>?_) λ_ _ e=>e
     obtain⟨z,H₁,hz,R₁,q⟩:=hu
     exact⟨H₁,R₁,q⟩
    ·cases h
   ·cases h
  ·cases h
 ·cases h
theorem GX(h1:SE Z k env L o c)(h2:SE Z k env L i d):TG Z k env L (.Subscript o i p) (.sub c d):=by
 intro A base m H s v x Q X ok R hv h
 rw[assign_Subscript]
 refine RQ (wpAny_holding (RP (h1 A base m H s _ _ ok R h) (λov s₁ ho=>?_) λ_ _ e=>e))
 obtain⟨w,H₁,hw,R₁,q⟩:=ho
 refine RQ (wpAny_holding (RP (h2 A base m H₁ s₁ _ _ ok R₁ q) (λiv s₂ hi=>RQ (wpAny_standAt ?_)) λ_ _ e=>e))
 obtain⟨j,H₂,hj,R₂,q⟩:=hi
 refine RQ (wpAny_holding (RP (rM ok R₂ hw hj hv q) (λ_ s₃ hq=>wpAny_release ?_) λ_ _ e=>e))
 obtain⟨H₃,R₃,q⟩:=hq
 exact⟨m,H₃,R₃,q⟩
inductive GZ(Z:Setup)(k:Nat)(env:Env)(L:Addr):List Expr->List CT->Prop
 | nil:GZ Z k env L [] []
 | cons {e:Expr} {c:CT} {es:List Expr} {cs:List CT}:(∀x p,e≠.Starred x p)->TG Z k env L e c->GZ Z k env L es cs->GZ Z k env L (e::es) (c::cs)
theorem cZ(h:∀x p,e≠.Starred x p)(es:List Expr):assignEach (e::es) env=(false,assign e env)::assignEach es env:=by
 cases e<;>first|rfl|exact absurd rfl (h _ _)
theorem nq:∀{es:List Expr} {cs:List CT},GZ Z k env L es cs->(assignEach es env).length=es.length/\(assignEach es env).findIdx? (·.1)=none/\cs.length=es.length
 | _,_,.nil=>⟨rfl,rfl,rfl⟩
 | _,_,.cons hn _ hr=>by
  obtain⟨h1,h2,h3⟩:=nq hr
  rw[cZ hn]
  refine⟨by simp [h1],?_,by simp [h3]⟩
  rw[List.findIdx?_cons,h2];rfl
theorem tO:∀{es:List Expr} {cs:List CT},GZ Z k env L es cs->∀(A:Around) (base:Heap) (m:Loc) (H:AH) (s:Shared) (vs:List Value) (xs:List V) (Q:Loc->AH->Prop) (X:QY),Bo A k->aA Z base L m H s->aK vs xs->Jw (Call Z k) cs xs m H Q X ->
  wpAny (model Z.prog Z.w) A (assignInOrder ((assignEach es env).map (·.2)) vs) (QT Z base L Q) EF s
 | _,_,.nil=>λA base m H s vs xs Q X ok R hv h=>by
  cases xs with
  | nil=>obtain rfl:=hv.nil_inv;exact RT ⟨m,H,R,h⟩
  | cons=>cases h
 | _,_,.cons hn h1 hr=>λA base m H s vs xs Q X ok R hv h=>by
  cases xs with
  | nil=>cases h
  | cons x xs =>
   obtain⟨v,us,rfl,hv1,hv2⟩:=hv.cons_inv
   rw[cZ hn]
   show wpAny _ _ (holding us (assign _ env v)>>=λ_=>assignInOrder _ us) _ _ _
   refine RQ (wpAny_holding (RP (h1 A base m H s v x _ X ok R hv1 h) (λ_ s₁ hq=>?_) λ_ _ e=>e))
   obtain⟨m₁,H₁,R₁,q⟩:=hq
   exact tO hr A base m₁ H₁ s₁ us xs Q X ok R₁ hv2 q
set_option tactic.hygienic true in
theorem G3(h1:GZ Z k env L es cs):TG Z k env L (.Tuple es j p) (.tup cs):=by
 intro A base m H s v x Q X ok R hv h
 change (match bZ H x with|some (.tup vs)=>cs.length=vs.length/\Jw (Call Z k) cs vs m H Q X|_=>False) at h
 split at h
 ·rename_i vs ht
  cases x<;>first|(cases ht;done)|skip
  rename_i a
  obtain rfl:=hv.ref
  obtain⟨hz,ws,n,h3,h4⟩:=R.cell _ _ ht
  obtain⟨mm,F,M⟩:=R.fr
  obtain⟨s1,s2,s3⟩:=nq h1
  have hl:=h4.length
  refine assign_Tuple_tuple (items:=ws.toArray) ok.handled (lB h3) (by rw[Rh];lia) s2 λh' he=>?_
  have R':=R.ext0 (h':=h') (t:=s.toks) λb o e=>he b o (Nat.ne_of_lt (RL e)) e
  exact tO h1 A base m H _ ws vs Q X ok R' h4 h.2
 ·cases h
end
end
section
open PySem PySem.W PySem.Calls PyProof.Rows
section
variable{Z:Setup}{k:Nat}{sc:Scope}{L:Addr}{env:Env}
theorem rN(h:Er e=some es):∃j p,e=.Tuple es j p:=by
 obtain⟨⟨⟨x,j,p⟩,q⟩,_,h⟩:=map_some h
 exact⟨j,p,by rw[<-h];exact(fB e).symm.trans q⟩
theorem lH(hp:fJ x e=true)(t:Option Expr)(l:Nat):swapsWith e t l env=pure false:=by
 cases e<;>first|rfl|cases hp
theorem Bp(hE:iK Z env L sc)(h1:SE Z k env L e c)(hp:fJ e e=true):SS Z k env L (.Expr e p) (.expr c):=by
 intro A base m H s Q X ok R h
 refine wpAny_Expr_any (RP (h1 A base m H s _ _ ok R h) (λv s₁ hv=>?_) λ_ _ e=>e) hE.inter (lH hp _ _)
 obtain⟨x,H₁,hx,R₁,q⟩:=hv
 exact⟨.next,m,H₁,trivial,R₁,q⟩
theorem G4:SS Z k env L (.Break p) .brk:=λ_ _ m H _ _ _ _ R h=>wpAny_Break ⟨.brk,m,H,trivial,R,h⟩
theorem Bq:SS Z k env L (.Continue p) .cont:=λ_ _ m H _ _ _ _ R h=>wpAny_Continue ⟨.cont,m,H,trivial,R,h⟩
theorem Br:SS Z k env L (.Return none p) (.ret .none):=λ_ _ m H _ _ _ _ R h=>wpAny_Return_none ⟨.ret .none,m,H,trivial,R,h⟩
theorem G5(h1:SE Z k env L e c):SS Z k env L (.Return (some e) p) (.ret c):=by
 intro A base m H s Q X ok R h
 refine wpAny_Return_some (RP (h1 A base m H s _ _ ok R h) (λv s₁ hv=>?_) λ_ _ e=>e)
 obtain⟨x,H₁,hx,R₁,q⟩:=hv
 exact⟨.ret x,m,H₁,hx,R₁,q⟩
theorem oh(hp:fJ t e=true):swappedStores [t] e env=pure none:=by
 cases t<;>first|rfl|skip
 all_goals (cases e<;>first|rfl|(cases hp;done))
theorem G6(ht:∀x p,t≠.Starred x p)(hp:fJ t e=true)(h1:TG Z k env L t a)(h2:SE Z k env L e b):SS Z k env L (.Assign [t] e p) (.asg a b):=by
 intro A base m H s Q X ok R h
 refine wpAny_Assign_stores (RP (h2 A base m H s _ _ ok R h) (λv s₁ hv=>?_) λ_ _ e=>e) (lH hp _ _) (oh hp)
 obtain⟨x,H₁,hx,R₁,q⟩:=hv
 rw[cZ ht]
 refine RP (h1 A base m H₁ s₁ v x _ _ ok R₁ hx q) (λ_ s₂ hq=>?_) λ_ _ e=>e
 obtain⟨m₂,H₂,R₂,q⟩:=hq
 exact⟨.next,m₂,H₂,trivial,R₂,q⟩
theorem nu{E:Value->Shared->Prop}(ho:Ep o=some j)(R:aA Z base L m H s)(hu:bY u x)(hv:bY v y)(h:lA j x y H Q) :
  wpAny (model Z.prog Z.w) A (inplaceOp o u v) (QE Z base L m Q) E s:=by
 unfold lA at h
 split at h
 ·split at h
  ·obtain⟨t,rfl⟩:=hu.int
   obtain⟨t',rfl⟩:=hv.int
   cases o<;>cases ho
   exact PyProof.Rows.iadd_int (gB R h)
  ·cases h
 ·split at h
  ·obtain⟨t,rfl⟩:=hu.int
   obtain⟨t',rfl⟩:=hv.int
   cases o<;>cases ho
   exact PyProof.Rows.isub_int (gB R h)
  ·cases h
 ·cases h
set_option tactic.hygienic true in
theorem Bs(hE:iK Z env L sc)(hl:iT sc y=true)(hy:idOf y=some n)(ho:Ep o=some j)(h1:SE Z k env L e c):SS Z k env L (.AugAssign (.Name y tp) o e p) (.augv n j c):=by
 intro A base m H s Q X ok R h
 change (match look m n with|some u=>DE (Call Z k) m c H (λv H=>lA j u v H λw H=>Q .next (put m n w) H) (λx H=>X x m H)|none=>False) at h
 split at h
 ·rename_i u hu
  obtain⟨mm,F,M⟩:=R.fr
  obtain⟨v,hv,hvu⟩:=M _ _ hu _ hy
  refine wpAny_AugAssign_Name (wpAny_loadName_local (m:=mm) (v:=v) (by rw[hE.scope,hE.kind]) (by unfold Env.kindOf;rw[hE.scope];exact(f9 hl).1) (by rw[hE.locals];exact F.ns) hv ?_)
  refine RP (h1 A base m H s _ _ ok R h) (λw s₁ hw=>?_) λ_ _ e=>e
  obtain⟨x,H₁,hx,R₁,q⟩:=hw
  refine RP (nu ho R₁ hvu hx q) (λz s₂ hz=>?_) λ_ _ e=>e
  obtain⟨x₂,H₂,hx₂,R₂,q⟩:=hz
  refine RP (j8 (E:=EF) (Q:=λm H=>Q .next m H) hE R₂ hl hy hx₂ q) (λ_ s₃ hq=>?_) λ_ _ e=>e
  obtain⟨m₃,H₃,R₃,q⟩:=hq
  exact⟨.next,m₃,H₃,trivial,R₃,q⟩
 ·cases h
theorem Bt(hy:idOf y=some f)(hf:f<22)(ho:Ep o=some j)(h1:SE Z k env L b c)(h2:SE Z k env L e d):SS Z k env L (.AugAssign (.Attribute b y tp) o e p) (.auga c f j d):=by
 intro A base m H s Q X ok R h
 refine wpAny_AugAssign_AttributeAny (RP (h1 A base m H s _ _ ok R h) (λw s₁ hw=>?_) λ_ _ e=>e)
 obtain⟨x,H₁,hx,R₁,q⟩:=hw
 refine RP (j5 R₁ hx hy q) (λw s₂ hw=>?_) λ_ _ e=>e
 obtain⟨u,H₂,hu,R₂,q⟩:=hw
 refine RP (h2 A base m H₂ s₂ _ _ ok R₂ q) (λw s₃ hw=>?_) λ_ _ e=>e
 obtain⟨v,H₃,hv,R₃,q⟩:=hw
 refine RP (nu ho R₃ hu hv q) (λz s₄ hz=>?_) λ_ _ e=>e
 obtain⟨x₄,H₄,hx₄,R₄,q⟩:=hz
 refine RP (qg (E:=EF) R₄ hx hy hf hx₄ q) (λ_ s₅ hq=>?_) λ_ _ e=>e
 obtain⟨H₅,R₅,q⟩:=hq
 exact⟨.next,m,H₅,trivial,R₅,q⟩
theorem G7(h1:ST Z k env L t c)(h2:vJ Z k env L a x)(h3:vJ Z k env L b y):SS Z k env L (.If t a b p) (.ite c x y):=by
 intro A base m H s Q X ok R h
 refine wpAny_If (RP (h1 A base m H s _ _ ok R h) (λt s₁ ht=>?_) λ_ _ e=>e)
 obtain⟨H₁,R₁,q⟩:=ht
 cases t with
 | true=>exact h2 A base m H₁ s₁ Q X ok R₁ q
 | false=>exact h3 A base m H₁ s₁ Q X ok R₁ q
theorem Bu(h1:ST Z k env L t c):SS Z k env L (.Assert t none p) (.asrt c):=by
 intro A base m H s Q X ok R h
 refine wpAny_Assert_holds (RP (h1 A base m H s _ _ ok R h) (λt s₁ ht=>?_) λ_ _ e=>e)
 obtain⟨H₁,R₁,rfl,q⟩:=ht
 exact⟨rfl,.next,m,H₁,trivial,R₁,q⟩
theorem Bv:vJ Z k env L [] []:=λ_ _ m H _ _ _ _ R h=>wpAny_execs_nil ⟨.next,m,H,trivial,R,h⟩
theorem aA.less(R:aA Z base L m H s)(h:∀x v,look m' x=some v->look m x=some v):aA Z base L m' H s:=by
 obtain⟨R,⟨mm,F,M⟩,a,b⟩:=R
 exact⟨R,⟨mm,F,λx u e=>M x u (h x u e)⟩,a,b⟩
theorem wU{st:Stmt}{rest:List Stmt}{c:CS}{cs:List CS}(h1:SS Z k env L st c)(h2:vJ Z k env L rest cs):vJ Z k env L (st::rest) (c::cs):=by
 intro A base m H s Q X ok R h
 obtain⟨m',hm,h⟩:=h
 refine wpAny_execs_cons (RP (h1 A base m' H s _ X ok (R.less hm) h) (λf s₁ hf=>?_) λ_ _ e=>e)
 obtain⟨g,m₁,H₁,hg,R₁,q⟩:=hf
 cases f<;>cases g<;>first|exact hg.elim|skip
 ·exact h2 A base m₁ H₁ s₁ Q X ok R₁ q
 ·exact⟨.brk,m₁,H₁,trivial,R₁,q⟩
 ·exact⟨.cont,m₁,H₁,trivial,R₁,q⟩
 ·exact⟨.ret _,m₁,H₁,hg,R₁,q⟩
theorem G8(h1:ST Z k env L t c)(h2:vJ Z k env L b x):SS Z k env L (.While t b [] p) (.whl c x):=by
 intro A base m H s Q X ok R h
 obtain⟨I,⟨n,h0⟩,step⟩:=h
 refine wpAny_While (codeAny_whileLoop (λn s=>∃m H,aA Z base L m H s/\I n m H) (λn s hI=>?_) n ⟨m,H,R,h0⟩)
 obtain⟨m,H,R,hI⟩:=hI
 obtain⟨m',hm,st⟩:=step n m H hI
 refine RP (h1 A base m' H s _ _ ok (R.less hm) st) (λt s₁ ht=>?_) λ_ _ e=>e.elim
 obtain⟨H₁,R₁,q⟩:=ht
 cases t with
 | false =>
  obtain⟨m'',hm,q⟩:=q
  exact wpAny_execs_nil ⟨.next,m'',H₁,trivial,R₁.less hm,q⟩
 | true =>
  refine RP (h2 A base m' H₁ s₁ _ X ok R₁ q) (λf s₂ hf=>?_) λ_ _ e=>e.elim
  obtain⟨g,m₂,H₂,hg,R₂,q⟩:=hf
  cases f<;>cases g<;>first|exact hg.elim|skip
  ·obtain⟨j,hj,q⟩:=q;exact⟨j,hj,m₂,H₂,R₂,q⟩
  ·exact⟨.next,m₂,H₂,trivial,R₂,q⟩
  ·obtain⟨j,hj,q⟩:=q;exact⟨j,hj,m₂,H₂,R₂,q⟩
  ·exact⟨.ret _,m₂,H₂,hg,R₂,q⟩
end
end
section
open PySem PySem.W PySem.Calls PyProof.Rows
section
variable{Z:Setup}{k:Nat}{sc:Scope}{L:Addr}{env:Env}
theorem lJ  {E:Value->Shared->Prop}        (hx:s.heap.get? it=some o) (hc:o.cls=.type n) (hn:["enumerate", "zip", "dict_itemiterator", "dict_reverseitemiterator", "odict_iterator", "itertools.zip_longest", "itertools.pairwise"].contains n=false) (h:Q () s) :
  wpAny (model Z.prog Z.w) A (letOwnedTupleGo t (.ref it) v) Q E s:=by
 unfold letOwnedTupleGo
 have key:wpAny (model Z.prog Z.w) A (match ((.ref it:Value),v) with
  | (.ref r,.ref a)=>(do
   let o <-load r
   match o.cls,o.data with
   | .type n,.fields vs =>
    if ["enumerate", "zip", "dict_itemiterator", "dict_reverseitemiterator", "odict_iterator", "itertools.zip_longest", "itertools.pairwise"].contains n&&vs[0]?==some (rawInt a) then
     rule "for.unpacks-the-owned-tuple"
     updateField r 0 .none
   | _,_=>pure ():Sem Unit)
  | _=>pure ()) Q E s:=by
  cases v with
  | ref a =>
   refine RQ (wpAny_load hx ?_)
   rw[hc]
   cases o.data with
   | fields vs =>
    dsimp only
    rw[hn]
    exact RT h
   | _=>exact RT h
  | _=>exact RT h
 cases t<;>first|exact RT h|exact key
def TurnEnd(Z:Setup)(base:Heap)(L:Addr)(Q:QS)(n:Nat)(INV:Nat->Shared->Prop)(s:Shared):Flow->Prop
 | .next=>∃j,j<n/\INV j s
 | .cont=>∃j,j<n/\INV j s
 | .brk=>QF Z base L Q .next s
 | .ret v=>QF Z base L Q (.ret v) s
theorem wV{again:Loc->AH->Prop}{n:Nat}{INV:Nat->Shared->Prop}(hf:JR f g)(R:aA Z base L m H s)(q:dR again Q g m H)(h:again m H->∃j,j<n/\INV j s) :
  TurnEnd Z base L Q n INV s f:=by
 cases f<;>cases g<;>first|exact hf.elim|skip
 ·exact h q
 ·exact⟨.next,m,H,trivial,R,q⟩
 ·exact h q
 ·exact⟨.ret _,m,H,hf,R,q⟩
theorem aA.Qc(R:aA Z base L m H s)(hd:Z.h0.objs.size<=d):Z.h0.get? d=none:=by
 cases q:Z.h0.get? d with
 | none=>rfl
 | some o=>exact absurd (Nat.lt_of_lt_of_le (RL q) hd) (Nat.lt_irrefl _)
theorem aA.hid(R:aA Z base L m H s)(hb:base.get? it=some o)(h0:Z.h0.get? it=none):H it=none/\s.heap.get? it=some o:=by
 refine⟨?_,R.keep _ _ hb⟩
 cases q:H it with
 | none=>rfl
 | some c =>
  cases p:c.own with
  | true=>have:=R.out _ _ q p;rw[hb] at this;cases this
  | false =>
   cases c with
   | ro ns=>obtain⟨o',e⟩:=(R.ro _ _ q).some;rw[h0] at e;cases e
   | _=>cases p
theorem Bw{vs:List Value}{xs:List V}(h:aK vs xs){i:Nat}(hy:xs[i]?=none):vs.toArray[i]?=none:=by
 rw[List.getElem?_toArray,List.getElem?_eq_none_iff,h.length]
 exact List.getElem?_eq_none_iff.mp hy
theorem aA.new(R:aA Z base L m H s)(hd:s.heap.objs.size<=d):H d=none/\base.get? d=none/\L≠d/\Z.h0.get? d=none:=by
 refine⟨?_,R.jL hd,Nat.ne_of_lt (Nat.lt_of_lt_of_le R.wz hd),R.Qc (RM R.size hd)⟩
 cases q:H d with
 | none=>rfl
 | some c=>exact absurd (R.lt q) (Nat.not_lt_of_le hd)
def wW(Z:Setup)(A:Around)(env:Env)(t:Expr)(b:List Stmt)(it:Value)(base:Heap)(L:Addr)(Q:QS)(INV:Nat->Shared->Prop)(n:Nat):Option Value->Shared->Prop
 | none,s=>QF Z base L Q .next s
 | some v,s=>wpAny (model Z.prog Z.w) A (letOwnedTupleGo t it v) (λ_ s₁=>wpAny (model Z.prog Z.w) A (assign t env v) (λ_ s₂=>wpAny (model Z.prog Z.w) A (execs b env) (λf s₃=>TurnEnd Z base L Q n INV s₃ f) EF s₂) EF s₁) EF s
theorem tQ(INV:Nat->Shared->Prop)(turn:∀n s,INV n s->wpAny (model Z.prog Z.w) A (pyNext it) (wW Z A env t b it base L Q INV n) EF s)(n:Nat)(h:INV n s) :
  codeAny (model Z.prog Z.w) A (.forLoop t it b [] env) (λr s'=>match r with | .ok f=>QF Z base L Q f s' | .error e=>cameBackBy (model Z.prog Z.w) A env EF e s') s:=by
 refine codeAny_forLoop_any INV (λn s hI=>RP (turn n s hI) (λr s₁ h₁=>?_) λ_ _ e=>e.elim) n h
 cases r with
 | none=>exact wpAny_execs_nil h₁
 | some v=>exact RP h₁ (λ_ s₂ h₂=>RP h₂ (λ_ s₃ h₃=>RP h₃ (λf s₄ h₄=>by cases f<;>exact h₄) λ_ _ e=>e.elim) λ_ _ e=>e.elim) λ_ _ e=>e.elim
theorem qj{b:List Stmt}{x:List CS}{s:Shared}{again:Loc->AH->Prop}{INV:Nat->Shared->Prop}{n:Nat}(ok:Bo A k)(h2:vJ Z k env L b x)(R:aA Z base L m H s)(hid:List (Addr × Obj))(hh:∀p∈hid,s.heap.get? p.1=some p.2/\H p.1=none/\L≠p.1/\Z.h0.get? p.1=none)
  (hP:∀base',aA Z base' L m H s->wpAny (model Z.prog Z.w) A P (QT Z base' L λm H=>gH (Call Z k) x m H (dR again Q) X) EF s)
  (hend:∀m₃ H₃ s₃,aA Z base L m₃ H₃ s₃->again m₃ H₃->(∀p∈hid,H₃ p.1=none/\s₃.heap.get? p.1=some p.2)->∃j,j<n/\INV j s₃) :
  wpAny (model Z.prog Z.w) A P (λ_ s₂=>wpAny (model Z.prog Z.w) A (execs b env) (λf s₃=>TurnEnd Z base L Q n INV s₃ f) EF s₂) EF s:=by
 refine RP (hP _ R.protect) (λ_ s₂ hq=>?_) λ_ _ e=>e
 obtain⟨m₂,H₂,R₂,q⟩:=hq
 refine RP (h2 A _ m₂ H₂ s₂ _ X ok R₂ q) (λf s₃ hf=>?_) λ_ _ e=>e
 obtain⟨g,m₃,H₃,hg,R₃,q⟩:=hf
 exact wV hg (R.relax R₃ R.gJ) q λhq=>hend _ _ _ (R.relax R₃ R.gJ) hq λp hp=>R₃.hid (jj (hh p hp).1 (Ne.symm (hh p hp).2.2.1) λc hc=>by rw[(hh p hp).2.1] at hc;cases hc) (hh p hp).2.2.2
def G9(Z:Setup)(base:Heap)(L:Addr)(a it:Addr)(k:Nat)(I:Nat->Loc->AH->Prop)(n:Nat)(s:Shared):Prop:=∃i m H,aA Z base L m H s/\I i m H/\s.heap.IsListIter it a i/\H it=none/\n=k - i
set_option tactic.hygienic true in
theorem vK{b:List Stmt}{x:List CS}{base:Heap}{xs:List V}{I:Nat->Loc->AH->Prop}(h0:TG Z k env L t u)(h2:vJ Z k env L b x)(ok:Bo A k)(hL:L≠it)(hb:base.get? it=none)(hh0:Z.h0.get? it=none)
  (step:∀i m H,I i m H->H a=some (.list xs)/\match xs[i]? with|some y=>DT (Call Z k) u y m H (λm H=>gH (Call Z k) x m H (dR (I (i+1)) Q) X) X|none=>Q .next m H) (n:Nat) (s:Shared) (hI:G9 Z base L a it xs.length I n s) :
  wpAny (model Z.prog Z.w) A (pyNext (.ref it)) (wW Z A env t b (.ref it) base L Q (G9 Z base L a it xs.length I) n) EF s:=by
 obtain⟨i,m,H,R,hi,hit,hHit,rfl⟩:=hI
 obtain⟨hxs,st⟩:=step i m H hi
 obtain⟨vs,n,h3,h4,hz⟩:=R.list hxs
 split at st
 ·rename_i y hy
  obtain⟨v,hv,hvy⟩:=h4.get hy
  refine wpAny_pyNext_list_item hit (cY h3) (x:=v) (by simpa using hv) λh' hit' hs=>?_
  have R':=R.extBut (h':=h') (t:=s.toks) hs.extBut hHit hb hL
  obtain⟨oi,hoi,hoc,hod⟩:=hit'
  refine lJ hoi hoc (by decide) (qj ok h2 R' [(it,oi)] (λp hp=>by rw[Rf.mp hp];exact⟨hoi,hHit,hL,hh0⟩) (λbase' hp=>h0 A _ m H _ v y _ X ok hp hvy st) λm₃ H₃ s₃ R₄ hq hp=>?_)
  obtain⟨hn3,ho3⟩:=hp _ (Rf.mpr rfl)
  exact⟨xs.length - (i+1),by have:=gK hy;lia,i+1,m₃,H₃,R₄,hq,⟨oi,ho3,hoc,hod⟩,hn3,rfl⟩
 ·rename_i hy
  exact wpAny_pyNext_list_end ok.handled hit (cY h3) (Bw h4 hy) λh' hs=>⟨.next,m,H,trivial,R.extBut (h':=h') (t:=s.toks) hs hHit hb hL,st⟩
set_option tactic.hygienic true in
theorem tR(he:∀x,foldedSetIterable e env x=pure x)(h0:TG Z k env L t u)(h1:SE Z k env L e c)(h2:vJ Z k env L b x):SS Z k env L (.For t e b [] p) (.eU u c x):=by
 intro A base m H s Q X ok R h
 refine wpAny_For (RP (h1 A base m H s _ _ ok R h) (λv s₁ hv=>?_) λ_ _ e=>e) he
 obtain⟨y,H₁,hy,R₁,q⟩:=hv
 cases y<;>first|exact False.elim q|skip
 rename_i a
 obtain rfl:=hy.ref
 dsimp only [bZ] at q
 split at q
 ·rename_i xs ha
  obtain⟨I,i0,step⟩:=q
  obtain⟨vs,n,h3,h4,hz⟩:=R₁.list ha
  obtain⟨hHit,hb,hL,hh0⟩:=R₁.new (RN _)
  exact wpAny_pyIter_list (cY h3) (tQ (G9 Z base L a s₁.heap.objs.size xs.length I) (vK h0 h2 ok hL hb hh0 step) (xs.length - 0)
   ⟨0,m,H₁,R₁.ext0 (t:=s₁.toks) λb o e=>QM _ e,i0,⟨_,Rc _ rfl,rfl,rfl⟩,hHit,rfl⟩)
 ·cases q
noncomputable def Bx:List V->Option (Int × Int)
 | [.int n]=>some (0,n)
 | [.int a,.int n]=>some (a,n)
 | _=>none
theorem rO{s:Shared}{xs:List V}{lo hi:Int}{E:Value->Shared->Prop}(R:aA Z base L m H s)(hv:aK vs xs)(hr:Bx xs=some (lo,hi))
  (h:∀h' tk t u w,aA Z base L m H { s with heap:=h',toks:=tk }->IsRange h' s.heap.objs.size lo hi 1 t u w->Q (.ref s.heap.objs.size) { s with heap:=h',toks:=tk }) :
  wpAny (model Z.prog Z.w) A (call (.type "range") vs) Q E s:=by
 unfold Bx at hr
 split at hr
 ·obtain⟨v,us,rfl,hv1,hr1⟩:=hv.cons_inv
  obtain rfl:=hr1.nil_inv
  obtain⟨t,rfl⟩:=hv1.int
  cases hr
  exact call_range_1 (h _ _ _ _ _ (R.ext0 λb o e=>QM _ e) (IsRange.new ..))
 ·obtain⟨v,us,rfl,hv1,hr1⟩:=hv.cons_inv
  obtain⟨v',us',rfl,hv2,hr2⟩:=hr1.cons_inv
  obtain rfl:=hr2.nil_inv
  obtain⟨t,rfl⟩:=hv1.int
  obtain⟨t',rfl⟩:=hv2.int
  cases hr
  exact call_range_2 (h _ _ _ _ _ (R.ext0 λb o e=>QM _ e) (IsRange.new ..))
 ·cases hr
theorem boot_range:bootBuiltins "range" = some (.type "range"):=by decide +kernel
def Hf(Z:Setup)(base:Heap)(L:Addr)(it:Addr)(lo hi:Int)(I:Int->Loc->AH->Prop)(n:Nat)(s:Shared):Prop:=∃i m H,aA Z base L m H s/\I i m H/\lo<=i/\IsRangeIter s.heap it i (if i<hi then hi - i else 0) 1/\H it=none/\n=(hi - i).toNat
theorem rP{b:List Stmt}{x:List CS}{base:Heap}{lo hi:Int}{I:Int->Loc->AH->Prop}(h0:TG Z k env L t u)(h2:vJ Z k env L b x)(ok:Bo A k)(hL:L≠it)(hb:base.get? it=none)(hh0:Z.h0.get? it=none)
  (step:∀i m H,I i m H->lo<=i->if i<hi then DT (Call Z k) u (.int i) m H (λm H=>gH (Call Z k) x m H (dR (I (i+1)) Q) X) X else Q .next m H) (n:Nat) (s:Shared) (hI:Hf Z base L it lo hi I n s) :
  wpAny (model Z.prog Z.w) A (pyNext (.ref it)) (wW Z A env t b (.ref it) base L Q (Hf Z base L it lo hi I) n) EF s:=by
 obtain⟨i,m,H,R,hi',hle,hit,hHit,rfl⟩:=hI
 have st:=step i m H hi' hle
 by_cases hlt:i<hi
 ·rw[if_pos hlt] at st hit
  refine wpAny_pyNext_range_item hit (by lia) λh' hit' hs=>?_
  have R':=R.extBut (h':=h') (t:=s.toks+1) hs.extBut hHit hb hL
  have hoi:h'.get? it=some _:=hit'
  refine lJ hoi rfl (by decide) (qj ok h2 R' [(it,_)] (λp hp=>by rw[Rf.mp hp];exact⟨hoi,hHit,hL,hh0⟩) (λbase' hp=>h0 A _ m H _ (.int i s.toks) (.int i) _ X ok hp rfl st) λm₃ H₃ s₃ R₄ hq hp=>?_)
  obtain⟨hn3,ho3⟩:=hp _ (Rf.mpr rfl)
  have hlf:(if i+1<hi then hi - (i+1) else 0)=hi - i - 1:=by split<;>lia
  exact⟨(hi - (i+1)).toNat,by lia,i+1,m₃,H₃,R₄,hq,by lia,by rw[hlf];exact ho3,hn3,rfl⟩
 ·rw[if_neg hlt] at st hit
  exact wpAny_pyNext_range_end ok.handled hit (Int.le_refl _) λh' hs=>⟨.next,m,H,trivial,R.extBut (h':=h') (t:=s.toks) hs hHit hb hL,st⟩
theorem BJ         (hN:NmOk Z env L sc) (hg:dg sc y=true) (hy:y = "range") (hs:dH Z k env L as cs) (h0:TG Z k env L t u) (h2:vJ Z k env L b x):SS Z k env L (.For t (.Call (.Name y np) as [] cp) b [] p) (.ji u cs x):=by
 intro A base m H s Q X ok R h
 subst hy
 refine wpAny_For (wpAny_Call_ofName (gj hN hg R R.stat.S.range boot_range (by decide +kernel) ?_)) λ_=>rfl
 refine PyProof.Rows.callWith_type (bC hs).1 (RP (dU hs A base m H s _ _ ok R h) (λa s₁ ha=>?_) λ_ _ e=>e)
 obtain⟨hkw,xs,H₁,hxs,R₁,q⟩:=ha
 rw[hkw]
 have q:(match Bx xs with
   | some (lo,hi)=>((-1000000<=lo/\lo<=1000000)/\(-1000000<=hi/\hi<=1000000))/\∃I:Int->Loc->AH->Prop,I lo m H₁/\∀i m H,I i m H->lo<=i ->
     if i<hi then DT (Call Z k) u (.int i) m H (λm H=>gH (Call Z k) x m H (dR (I (i+1)) Q) X) X else Q .next m H
   | none=>False):=q
 cases hr:Bx xs with
 | none=>rw[hr] at q;exact q.elim
 | some w =>
  rw[hr] at q
  obtain⟨lo,hi⟩:=w
  obtain⟨⟨⟨b1,b2⟩,b3,b4⟩,I,i0,step⟩:=q
  refine rO R₁ hxs hr λh₁ tk t₁ u₁ w₁ R₂ hrg=>?_
  refine wpAny_pyIter_range hrg (small_one (by lia) (by lia) (by lia) (by lia)) ?_
  rw[rangeSize_one]
  obtain⟨hHit,hb,hL,hh0⟩:=R₂.new (RN h₁.objs.size)
  exact tQ (Hf Z base L h₁.objs.size lo hi I) (rP h0 h2 ok hL hb hh0 step) (hi - lo).toNat ⟨lo,m,H₁,R₂.ext0 (t:=tk) λb o e=>QM _ e,i0,Int.le_refl _,Rc _ rfl,hHit,rfl⟩
end
end
section
open PySem PySem.W PySem.Calls PyProof.Rows
section
variable{Z:Setup}{k:Nat}{sc:Scope}{L:Addr}{env:Env}
variable{n:Nat}
theorem M9(hE:iK Z env L sc)(h:OD (cE Z.cx n sc) sc w=some c):TG Z k env L w.e c/\∀x p,w.e≠.Starred x p:=by
 have hN:=hE.toNmOk
 cases w with
 | nm x p =>
  rcases aO h with ⟨hl,h⟩|⟨_,h⟩
  ·obtain⟨n,hn,rfl⟩:=map_some h
   exact⟨GR hE hl hn,λ_ _ e=>by cases e⟩
  ·cases h
 | attr o y p =>
  obtain⟨a,ha,h⟩:=bind_some h
  obtain⟨n,hn,h⟩:=bind_some h
  rcases aO h with ⟨hl,h⟩|⟨_,h⟩
  ·cases h
   exact⟨Bj (dX hN ha) hn (Q6 hl),λ_ _ e=>by cases e⟩
  ·cases h
 | sub o i p =>
  obtain⟨a,ha,h⟩:=bind_some h
  obtain⟨b,hb,rfl⟩:=map_some h
  exact⟨GX (dX hN ha) (dX hN hb),λ_ _ e=>by cases e⟩
 | _=>cases h
theorem wX(hE:iK Z env L sc)(h:cT (cE Z.cx n sc) sc t=some c):TG Z k env L t c/\∀x p,t≠.Starred x p:=fB t▸M9 hE h
theorem wY(hE:iK Z env L sc):∀{ts:List Expr} {cs:List CT},iI (cT (cE Z.cx n sc) sc) ts=some cs->GZ Z k env L ts cs
 | [],_,h=>by cases h;exact .nil
 | t::ts,cs,h=>by
  obtain⟨a,ha,h⟩:=bind_some h
  obtain⟨b,hb,rfl⟩:=map_some h
  exact .cons (wX (k:=k) hE ha).2 (wX hE ha).1 (wY hE hb)
set_option tactic.hygienic true in
theorem lK(hE:iK Z env L sc)(h:Jv (cE Z.cx n sc) sc t=some c):TG Z k env L t c/\∀x p,t≠.Starred x p:=by
 unfold Jv at h
 split at h
 ·rename_i es he
  obtain⟨a,ha,rfl⟩:=map_some h
  obtain⟨j,p,rfl⟩:=rN he
  exact⟨G3 (wY hE ha),λ_ _ e=>by cases e⟩
 ·exact wX hE h
def tU(Z:Setup)(k n:Nat):Prop:=∀{sc:Scope} {L:Addr} {env:Env} {st:Stmt} {c:CS},iK Z env L sc->cS Z.cx n sc st=some c->SS Z k env L st c
theorem ig(g:tU Z k n)(hE:iK Z env L sc):∀{b:List Stmt} {c:List CS},iI (cS Z.cx n sc) b=some c->vJ Z k env L b c
 | [],c,h=>by cases h;exact Bv
 | st::b,c,h=>by
  obtain⟨a,ha,h⟩:=bind_some h
  obtain⟨x,hx,rfl⟩:=map_some h
  exact wU (g hE ha) (ig g hE hx)
theorem ou(h:tC sc i=some (y,as)):∃np cp,i=.Call (.Name y np) as [] cp/\dg sc y=true:=by
 obtain⟨⟨⟨f,as',ks,p⟩,q⟩,_,h⟩:=bind_some h
 rcases aO h with ⟨h1,h⟩|⟨_,h⟩
 ·obtain⟨x,hx,e⟩:=map_some h
  cases e
  obtain⟨np,e1,hg⟩:=lG hx
  have q:i=.Call f as' ks p:=(fB i).symm.trans q
  have e1:f=_:=e1
  have e2:ks=[]:=fP h1
  exact⟨np,p,by show i=.Call (.Name y np) as' [] p;rw[q,e1,e2],hg⟩
 ·cases h
set_option tactic.hygienic true in
theorem Hg(g:tU Z k n)(hE:iK Z env L sc)(h:JN (cE Z.cx 40 sc) sc (iI (cS Z.cx n sc)) t i b=some c):SS Z k env L (.For t i b [] p) c:=by
 have hN:=hE.toNmOk
 obtain⟨y,hy,q⟩:=bind_some h
 clear h
 have h:=q
 clear q
 have g:=ig g hE hy
 split at h
 ·rename_i x as hf
  obtain⟨np,cp,rfl,hg⟩:=ou hf
  rcases aO h with ⟨hx,h⟩|⟨_,h⟩
  ·obtain⟨u,hu,h⟩:=bind_some h
   obtain⟨bs,hb,rfl⟩:=map_some h
   exact BJ hN hg (RV.mp hx) (GQ hN hb) (lK hE hu).1 g
  ·obtain⟨u,hu,h⟩:=bind_some h
   obtain⟨d,hd,rfl⟩:=map_some h
   exact tR (folded hd) (lK hE hu).1 (dX hN hd) g
 ·obtain⟨u,hu,h⟩:=bind_some h
  obtain⟨d,hd,rfl⟩:=map_some h
  exact tR (folded hd) (lK hE hu).1 (dX hN hd) g
theorem Hh(hE:iK Z env L sc)(h:JM (cE Z.cx n sc) sc o e w=some c):SS Z k env L (.AugAssign w.e o e p) c:=by
 have hN:=hE.toNmOk
 cases w with
 | nm y q =>
  rcases aO h with ⟨hl,h⟩|⟨_,h⟩
  ·obtain⟨m,hm,h⟩:=bind_some h
   obtain⟨j,hj,h⟩:=bind_some h
   obtain⟨b,hb,rfl⟩:=map_some h
   exact Bs hE hl hm hj (dX hN hb)
  ·cases h
 | attr v f q =>
  obtain⟨a,ha,h⟩:=bind_some h
  obtain⟨m,hm,h⟩:=bind_some h
  rcases aO h with ⟨hl,h⟩|⟨_,h⟩
  ·obtain⟨j,hj,h⟩:=bind_some h
   obtain⟨b,hb,rfl⟩:=map_some h
   exact Bt hm (Q6 hl) hj (dX hN ha) (dX hN hb)
  ·cases h
 | _=>cases h
theorem BK(g:tU Z k n)(hE:iK Z env L sc)(w:SV)(h:Ey (cE Z.cx 40 sc) sc (iI (cS Z.cx n sc)) w=some c):SS Z k env L w.s c:=by
 have hN:=hE.toNmOk
 cases w with
 | exp e p =>
  rcases aO h with ⟨hp,h⟩|⟨_,h⟩
  ·obtain⟨a,ha,rfl⟩:=map_some h
   exact Bp hE (dX hN ha) hp
  ·cases h
 | brk p=>cases h;exact G4
 | cont p=>cases h;exact Bq
 | ret e p =>
  obtain⟨a,ha,rfl⟩:=map_some h
  cases e with
  | none=>cases ha;exact Br
  | some e=>exact G5 (dX hN ha)
 | asg ts e p =>
  obtain⟨t,ht,h⟩:=bind_some h
  rcases aO h with ⟨hp,h⟩|⟨_,h⟩
  ·obtain⟨a,ha,h⟩:=bind_some h
   obtain⟨b,hb,rfl⟩:=map_some h
   rw[gP ht]
   exact G6 (lK (k:=k) hE ha).2 hp (lK hE ha).1 (dX hN hb)
  ·cases h
 | aug t o e p=>exact fB t▸Hh hE (w:=mX t) h
 | ite t a b p =>
  obtain⟨x,hx,h⟩:=bind_some h
  obtain⟨y,hy,h⟩:=bind_some h
  obtain⟨z,hz,rfl⟩:=map_some h
  exact G7 (rK hN hx) (ig g hE hy) (ig g hE hz)
 | whl t b e p =>
  rcases aO h with ⟨he,h⟩|⟨_,h⟩
  ·obtain⟨x,hx,h⟩:=bind_some h
   obtain⟨y,hy,rfl⟩:=map_some h
   rw[fP he]
   exact G8 (rK hN hx) (ig g hE hy)
  ·cases h
 | for_ t i b e p =>
  rcases aO h with ⟨he,h⟩|⟨_,h⟩
  ·rw[fP he]
   exact Hg g hE h
  ·cases h
 | asrt t m p =>
  rcases aO h with ⟨he,h⟩|⟨_,h⟩
  ·obtain⟨x,hx,rfl⟩:=map_some h
   rw[Option.isNone_iff_eq_none.mp he]
   exact Bu (rK hN hx)
  ·cases h
 | rais e f p =>
  cases h
  exact λA base m H s Q X ok R h=>h.elim
 | oth=>cases h
theorem EY:∀n:Nat,tU Z k n
 | 0=>λ_ h=>nomatch h
 | n+1=>λhE h=>by
  have q:=BK (EY n) hE _ h
  rw[Gi] at q
  exact q
theorem nA(hE:iK Z env L sc)(h:JQ Z.cx sc b=some c):vJ Z k env L b c:=ig (EY 40) hE h
theorem Call.of{f:Nat}{c:List CS}{fd:FuncData}{body:List Stmt}{fo:Obj}(O:Ac Z.K f fd)(at_:Z.K.lookup (Z.fn f)=some fo)(data:fo.data=.func fd)(st:fd.body=.stmts body)(cmp:JQ Z.cx fd.scope body=some c){us:List V}
  (h:gH (Call Z k) c (iU (cU f) us) H (λfl _ H'=>Q fl.val H') (λ_ _ _=>False)):Call Z (k+1) f us H Q X :=
 Call.body O at_ data st λA base s _ ok R=>nA (tM O.2.2.2.2.2.1) cmp A base _ H s _ (λ_ _ _=>False) ok R h
end
end
section
open PySem PySem.W PySem.Calls PyProof.Rows
structure wZ(Z:Setup)(fd:FuncData)(cda cc:Addr):Prop where
 arg:∃ar,(fd.params.posonlyargs++fd.params.args).head?=some ar/\ar.arg=Str.ofString "self"
 code:∃c d vs sl file tf,Z.K.lookup cda=some ⟨c,d,.fields vs,sl⟩/\vs[2]?=some (.str file tf)/\((Z.prog.main.file:Str)==file)=true
 cell:∃cl cld csl,Z.K.lookup cc=some ⟨cl,cld,.cell (some (.ref (Z.cls 7))),csl⟩
 cls:∃cd,clsIn Z.K (Z.cls 7)=some cd
 sub:mroIn Z.K (Z.cls 7) (.ref (Z.cls 7))=some true
 sup:nsIn Z.K mainGlobals "super" = some none
 ks:fd.scope.names.lookup (Str.ofString "super")=some .globalImplicit
 kc:fd.scope.names.lookup (Str.ofString "__class__")=some .free
 ka:fd.scope.names.lookup (Str.ofString "self")=some .local
 kind:fd.scope.kind=.function
 top:(Z.prog.main.scope.names.lookup (Str.ofString "super")).isSome=false
 O2:nsIn Z.K cStatics "thirdparty.any" = some none
 init:ks_superIn Z.K (Z.cls 7) (Z.cls 7) "__init__" = some (some (.ref (Z.fn 37)))
 J1:typeIn Z.K (.ref (Z.fn 37))=some (.type "function")
 Hi:fnIn Z.K (Z.fn 37)=true
noncomputable abbrev gC(fd:FuncData)(L f cda cc:Addr):Env:=envX fd.qualname fd.scope L f (.ref cda) [(Str.ofString "__class__",cc)]
section
variable{Z:Setup}{k:Nat}{L:Addr}{fd:FuncData}{cda cc:Addr}
theorem J2:idOf "self" = some 0:=by decide +kernel
set_option tactic.hygienic true in
theorem xg{E:Value->Shared->Prop}
  (S:wZ Z fd cda cc) (hf:Z.K.lookup f=some ⟨oc,od,.func fd,osl⟩) (hat:(attr==("__class__" : Str))=false) (R:aA Z base L m H s) (hm:look m 0=some (.ref a)) (ha:H a=some (.inst 7 d)) (hd:H d=some (.ns fs))
  (h:∀so h',aA Z base L m H { s with heap:=h' }->h'.get? so=some (ks_superObj (Z.cls 7) a (Z.cls 7))->Q (.ref so) { s with heap:=h' }) :
  _root_.PySem.wpAt (model Z.prog Z.w) A (.func body (gC fd L f cda cc)) (attributeBase (.Call (.Name "super" p0) [] [] p1) attr (gC fd L f cda cc) whole) Q E s:=by
 have X:Z.K.In s.heap:=R.X
 have X₀:=R.stat.X
 have T:=R.stat.T
 obtain⟨mm,F,M⟩:=R.fr
 obtain⟨v,hv,hvu⟩:=M _ _ hm _ J2
 obtain rfl:=hvu.ref
 obtain⟨hc7,es,nn,I,F',_⟩:=R.fG ha hd
 obtain⟨ar,hp,har⟩:=S.arg
 obtain⟨ccl,cdd,vs,ccs,file,tf,hcode,hvs,hfile⟩:=S.code
 obtain⟨cl,cld,csl,hcell⟩:=S.cell
 obtain⟨cdD,hD⟩:=S.cls
 obtain⟨oD,hD1,hD2⟩:∃oD,s.heap.get? (Z.cls 7)=some oD/\oD.data=.cls cdD:=by
  unfold clsIn at hD
  split at hD
  ·rename_i c d cd' sl ho
   cases hD
   exact⟨_,X _ _ ho,rfl⟩
  ·cases hD
 obtain⟨hh,g,dr,t,os⟩:=s
 refine ks_wpAt_super_base (env:=gC fd L f cda cc) S.ks S.kc hat rfl (X _ _ hf) rfl hp rfl (X _ _ hcode) rfl hvs hfile S.top ?_
 refine ks_loadName_global S.kind S.ks (loadGlobal_builtin (env:=gC fd L f cda cc) (T.g.keeps F.keep) (mg_none_of X₀ T.g S.sup) (T.b.keeps F.keep) ((T.builtins _ (by decide +kernel)).trans (by decide +kernel:bootBuiltins "super" = some (.type "super"))) ⟨rfl,?_⟩)
 refine wpAny_loadName_free S.kind S.kc rfl ⟨_,X _ _ hcell,rfl⟩ ?_
 rw[har]
 refine wpAny_loadName_local S.kind S.ka F.ns hv ?_
 refine ks_wpAny_isType_cls hD1 hD2 ⟨rfl,?_⟩
 refine ks_wpAny_call_super hD1 hD2 I.at_ I.cls (λc e=>by cases e) (looks_mroIn X S.sub) (λh' e k=>?_)
 exact h _ h' (R.ext0 (t:=t) k) e
theorem xq{A:Around}{base:Heap}{m:Loc}{H:AH}{s:Shared}{E:Value->Shared->Prop}{pl:Sem Bool}{Q:Value × List Value->Shared->Prop}{so a d:Nat}{fs:List (Nat × V)}
  (S:wZ Z fd cda cc) (R:aA Z base L m H s) (ha:H a=some (.inst 7 d)) (hd:H d=some (.ns fs)) (hso:s.heap.get? so=some (ks_superObj (Z.cls 7) a (Z.cls 7)))
  (h:∀h' tk,aA Z base L m H { s with heap:=h',toks:=tk }->h'.get? s.heap.objs.size=some (methodObj (.ref (Z.fn 37)) (.ref a))->Q (.ref s.heap.objs.size,[]) { s with heap:=h',toks:=tk }) :
  wpAny (model Z.prog Z.w) A (getMethod (.ref so) "__init__" pl) Q E s:=by
 have X:Z.K.In s.heap:=R.X
 obtain⟨hc7,es,nn,I,F',_⟩:=R.fG ha hd
 obtain⟨cd,hc⟩:=S.cls
 have hm:=S.init
 unfold ks_superIn at hm
 rw[hc] at hm
 obtain⟨of,hof,hofc⟩:∃of,s.heap.get? (Z.fn 37)=some of/\of.cls=.type "function" := by
  have ht':(Z.K.lookup (Z.fn 37)).map (·.cls)=some (.type "function"):=S.J1
  cases z:Z.K.lookup (Z.fn 37) with
  | none=>rw[z] at ht';cases ht'
  | some of=>rw[z] at ht';exact⟨of,X _ _ z,Ru ht'⟩
 have hne:=ks_ne X I hc
 obtain⟨hh,g,dr,t,os⟩:=s
 refine ks_wpAny_getMethod_super hso (looks_opaque X S.O2) (l₀:=cd.mro) ?_ rfl X hm hof hofc hne (by decide +kernel) ?_
 ·exact λA Q E s k q=>RQ ((looks_clsIn X hc) A _ E s k (RT q))
 ·exact h _ _ (R.ext0 (t:=t+1) λb o e=>QM _ e) (Rc _ rfl)
theorem xr
  (S:wZ Z fd cda cc) (hf:Z.K.lookup f=some ⟨oc,od,.func fd,osl⟩) (ok:Bo A k) (R:aA Z base L m H s) (hm:look m 0=some (.ref a)) (ha:H a=some (.inst 7 d)) (hd:H d=some (.ns fs))
  (hl:dO ap cp=true) (hk:wL Z k (gC fd L f cda cc) L ks kn kv) (hkl:ks.length<20)
  (h:jH (Call Z k) m kv H (λus H=>([]:List V)=[]/\bO (Call Z k) 37 [.ref a] kn us H Q X) X) :
  _root_.PySem.wpAt (model Z.prog Z.w) A (.func body (gC fd L f cda cc)) (eval (.Call (.Attribute (.Call (.Name "super" p0) [] [] p1) "__init__" ap) [] ks cp) (gC fd L f cda cc)) (QE Z base L m Q) EF s:=by
 rw[arm_eval_Call]
 refine _root_.PySem.wpAt_bind (xg S hf (by decide +kernel) R hm ha hd λso h' R₁ hso=>_root_.PySem.wpAt_of_wpAny ?_)
 refine RQ (wpAny_standAt ?_)
 unfold methodCall
 have few:methodCallForm (([]:List Expr).length+ks.length) (backTo cp (starEach [] (gC fd L f cda cc))) (backToKw cp (keywordEach ks (gC fd L f cda cc)))=true:=by
  unfold methodCallForm
  have a1:(backToKw cp (keywordEach ks (gC fd L f cda cc))).all (λx=>x.1.isSome)=true:=(fO hk cp).1
  rw[a1]
  have a2:([]:List Expr).length+ks.length+(if (backToKw cp (keywordEach ks (gC fd L f cda cc))).isEmpty then 0 else 1)<30:=by
   split<;>(show 0+ks.length+_<30;lia)
  rw[RB a2];rfl
 rw[few]
 refine RQ (wpAny_holding ?_)
 unfold calleeOf
 rw[if_pos rfl]
 refine xq S R₁ ha hd hso λh2 tk R₂ hme=>?_
 dsimp only
 refine RQ ?_
 unfold methodCallPos
 rw[if_pos (by rw[show(ap.endLine==cp.line)=true from hl];rfl)]
 refine RT ?_
 have hL:h'.objs.size≠L:=Ne.symm (Nat.ne_of_lt R₁.wz)
 have hn:∀c,H h'.objs.size=some c->c.own=false:=λc hc=>by rw[R₁.fresh] at hc;cases hc
 have hsn:(Ai H L h2).get? h'.objs.size=some (methodObj (.ref (Z.fn 37)) (.ref a)):=jj hme hL hn
 refine callWith_of (P:=MethP Z.K h'.objs.size (Z.fn 37) (.ref a)) (by rw[(fO hk cp).2.1];rfl) (λh' X'=>keeps_M S.Hi h' X') ?_
 refine RP (gk (es:=[]) (cs:=[]) (Q:=λvs us H=>vs=[]/\bO (Call Z k) 37 [.ref a] kn us H Q X) .nil hk A _ m H _ X ok R₂.protect h) (λb s₃ hb=>?_) λ_ _ e=>e
 obtain⟨vs,us,ys,ws,H₃,e3,hv,hn3,hu,R₃,rfl,hq⟩:=hb
 have hm3:s₃.heap.get? h'.objs.size=some (methodObj (.ref (Z.fn 37)) (.ref a)):=R₃.keep _ _ hsn
 have R₄:=R₂.relax R₃ R₂.gJ
 refine⟨⟨hm3,R₄.X⟩,?_⟩
 obtain⟨bp,bk⟩:=b
 dsimp only at e3 hv |-
 obtain rfl:=hv.nil_inv
 subst e3
 exact wpAny_call (method_call hm3 (iW hq ok.ok R₄ (aK.one (show bY (.ref a) (.ref a) from rfl)) hn3 hu S.Hi λv s' q=>q))
theorem Call.BL{cs:List CS}{kn:List Nat}{kv:List CE}{body rest:List Stmt}{ks:List Keyword}
  (O:Ac Z.K 56 fd) (at_:Z.K.lookup (Z.fn 56)=some ⟨oc,od,.func fd,osl⟩) (st:fd.body=.stmts body) (S:wZ Z fd cda cc) (clo:fd.closure=[(Str.ofString "__class__",cc)]) (cod:fd.code=.ref cda)
  (hb:body=.Expr (.Call (.Attribute (.Call (.Name "super" p0) [] [] p1) "__init__" ap) [] ks cp) ep::rest) (hl:dO ap cp=true) (hks:JK (cE Z.cx 40 fd.scope) ks=some (kn,kv)) (hkl:ks.length<20) (hrest:JQ Z.cx fd.scope rest=some cs)
  {us:List V} {H:AH} {Q:QV} {X:QX} {a d:Nat} {fs:List (Nat × V)} (hm:look (iU (cU 56) us) 0=some (.ref a)) (ha:H a=some (.inst 7 d)) (hd:H d=some (.ns fs))
  (h:jH (Call Z k) (iU (cU 56) us) kv H (λws H=>([]:List V)=[]/\bO (Call Z k) 37 [.ref a] kn ws H (λ_ H=>gH (Call Z k) cs (iU (cU 56) us) H (λfl _ H'=>Q fl.val H') (λ_ _ _=>False)) X) X) :
  Call Z (k+1) 56 us H Q X:=by
 intro A base s args fo' fd' binds ok R ho hd' hB1 hB
 rw[at_] at ho
 cases ho
 cases hd'
 have X':=R.stat.X.keeps R.k0
 refine ks_codeAny_call_defAt (binds:=binds) ok.room (X' _ _ at_) rfl (R.stat.T.nolimit.keeps R.k0) (codeRec_of X' O.2.2.1) st (hB1 s X') O.2.2.2.2.2.2.1 (O.loc hB) (λh₀ hns hk=>?_) O.2.2.2.1 O.2.2.2.2.1 O.2.2.2.2.2.1
 rw[lE O.1 O.2.1,clo,cod,hb]
 have FR:=O.frame R hB hns hk (s.toks+binds.length)
 have hE:iK Z (gC fd s.heap.objs.size (Z.fn 56) cda cc) s.heap.objs.size fd.scope:=tM O.2.2.2.2.2.1
 refine ks_wpAt_execs_cons (ks_wpAt_Expr_any (ks_wpAt_mono (xr S at_ ok.bo FR hm ha hd hl (rJ (good (k:=k) 40) hE.toNmOk hks) hkl h) (λv s' hv=>?_) λ_ _ e=>e.elim) hE.inter rfl)
 obtain⟨x,H',hx,R',q⟩:=hv
 exact _root_.PySem.wpAt_of_wpAny (RP (nA hE hrest _ _ _ H' s' _ (λ_ _ _=>False) ok.bo R' q) (λfl s' hq=>tG R hq) λ_ _ e=>e.elim)
end
end
section
open PySem PySem.W PySem.Calls PyProof.Rows
noncomputable def vS(x:String)(t:Nat):Value:=.str (Str.ofString x) t
noncomputable def vI(i:Int)(t:Nat):Value:=.int i t
noncomputable def vR(a:Nat):Value:=.ref a
noncomputable def arr{α:Type}(l:List α):Array α:=⟨l⟩
noncomputable def eN(P:Params)(x:String)(t:Nat)(v:Value):DictEntry:=⟨PyData.keyHash P (Str.ofString x),.str (Str.ofString x) t,v⟩
noncomputable def nth{α:Type}(d:α):List α->Nat->α
 | [],_=>d
 | x::_,0=>x
 | _::r,n+1=>nth d r n
noncomputable def Hj:Stmt:=.Pass ⟨0,0,0,0⟩
def stOf(p:Program)(j:Nat):Stmt:=nth Hj p.main.body j
def sbOf(p:Program)(j k:Nat):Stmt:=match stOf p j with
 | .ClassDef _ _ _ b _ _ _ _ _ _ _=>nth Hj b k
 | _=>Hj
noncomputable def noArgs:Arguments:={ posonlyargs:=[],args:=[],vararg:=none,kwonlyargs:=[],kw_defaults:=[],kwarg:=none,defaults:=[] }
def fuD(st:Stmt)(qn:String)(g:Addr)(cl:List (Str × Addr))(df kd pm:Value)(an:Option Addr)(code ct:Value):FuncData:=match st with
 | .FunctionDef n ps b _ _ _ sc _ _ _=>{ name:=n,qualname:=Str.ofString qn,params:=ps,body:=.stmts b,scope:=sc,globals:=g,closure:=cl,defaults:=df,kwdefaults:=kd,doc:=.none,pyModule:=pm,annotations:=an,code:=code,closureTuple:=ct,builtins:=0 }
 | _=>{ name:=Str.empty,qualname:=Str.empty,params:=noArgs,body:=.stmts [],scope:={ kind:=.function,names:=[],isGenerator:=false,isCoroutine:=false,more:=[] },globals:=0,closure:=[],defaults:=.none,kwdefaults:=.none }
def Fb:List String->Nat->List Value
 | [],_=>[]
 | x::r,t=>vS x t::Fb r (t+1)
def dfO(st:Stmt)(nm qn:String)(b t:Nat)(vs:List String)(line ac:Int)(pm:Value):List Obj :=
 [.mk (.type "tuple") none (.seq (arr []) 0) (arr []),
  .mk .none none (.fields (arr [])) (arr []),
  .mk (.type "tuple") none (.seq (arr (Fb vs (t+3))) 0) (arr []),
  .mk (.type "tuple") none (.seq (arr []) 0) (arr []),
  .mk .none none (.func (fuD st qn 0 [] .none .none .none none .none .none)) (arr []),
  .mk (.type "code") none (.fields (arr [vS nm t,vS qn (t+1),vS "/claim/cut.py" (t+2),vI line 0,vI ac 0,vI 0 0,vI 0 0,vI 3 0,vR b,.bool true,vI 181 0,vR (b+1),.none,vR (b+2),vR (b+3),vR (b+4),vI (t+3+vs.length:Nat) 0,vI line 0,vS "/claim/cut.py" (t+4+vs.length)])) (arr []),
  .mk (.type "function") none (.func (fuD st qn 3 [] .none .none pm none (vR (b+5)) .none)) (arr [])]
noncomputable def patch:Nat->List (Nat × Obj)->List Obj->List Obj
 | _,[],l=>l
 | _,_::_,[]=>[]
 | i,q::r,x::l=>match Nat.beq i q.1 with
  | true=>q.2::patch (i+1) r l
  | false=>x::patch (i+1) (q::r) l
noncomputable def evs{α:Type}:List α->List α
 | []=>[]
 | [x]=>[x]
 | x::_::r=>x::evs r
noncomputable def O4{α:Type}:List α->List α
 | []=>[]
 | [_]=>[]
 | _::x::r=>x::O4 r
def mkT:Nat->List Obj->BT
 | 0,_=>.nil
 | _+1,[]=>.nil
 | n+1,o::r=>.node o (mkT n (evs r)) (mkT n (O4 r))
def stT(l:List Obj)(n toks:Nat)(os:OsState):SharedT:=⟨mkT 11 l,n,{},(arr []),{},toks,os⟩
noncomputable def selF:List Nat->Nat->List Obj->List (Addr × Obj)
 | [],_,_=>[]
 | _::_,_,[]=>[]
 | a::as,i,o::os=>match Nat.beq i a with
  | true=>(a,o)::selF as (i+1) os
  | false=>selF (a::as) (i+1) os
noncomputable def xu(p:Program):Env:={ scope:=p.main.scope,locals:=mainNs,globals:=mainNs,cells:=[],code:=.ref 13,frame:=some 14 }
def codeOfP(p:Program):Code:=.body (behindTheImports p) (xu p)
def runP(p:Program)(w:World)(n:Nat)(s:SharedT)(l:List Stmt)(pos:Pos):Option (Flow × SharedT × Code × Pos) :=
 segRunT treeTable p w 11 (some (.ref 6)) 1 n s (piecesOf l (xu p) (codeOfP p) pos [topFrame ⟨0,0,0,0⟩])
noncomputable def preP(p:Program)(w:World)(n:Nat)(s:Shared):Option (Shared × Thread):=topGo treeTable p w 11 (some (.ref 6)) n s (topStub p)
def startP(p:Program):Thread:=⟨denote treeTable (codeOfP p),codeOfP p,⟨0,0,0,0⟩,[topFrame ⟨0,0,0,0⟩]⟩
noncomputable def lookP(r:RowW)(q:Program)(loose:List Str)(s:Shared):=openSeen q loose (importedModules r.prog.main.body) (λs=>xlAt q [] s&&recOk r.records s) true s
noncomputable def goodP(q:Program)(loose:List Str):=openGood q loose
noncomputable def flagP(p:Program)(h₀:Heap)(s:Shared):Bool:=staticsOk (importedModules p.main.body) h₀ s.heap&&namesBound p s.heap&&gensDone s&&laidKept h₀ s.heap
lay_quick Mine.runP Mine.preP Mine.startP Mine.lookP Mine.goodP Mine.flagP
end
section
open PySem PySem.W PySem.Calls PyProof.Rows
noncomputable abbrev pr:Program:=PySem.Challenge.pw_ji0015_02
def F0(P:Params):List Obj:=[boot_o_0 P,
 boot_o_1 P,
 .mk .none none (.dict (arr [eN P "type.__subclasses__.Exception.0" 641 (vI 340 0),eN P "type.__subclasses__.Exception.n" 642 (vI 1 0)]) 2) (arr []),
 .mk (.type "dict") none (.dict (arr [eN P "__name__" 165 (vS "law_ji0015_02" 904),eN P "__doc__" 166 .none,eN P "__package__" 167 .none,eN P "__loader__" 168 (.builtin "__main__.__loader__#opaque"),eN P "__spec__" 169 .none,eN P "__annotations__" 170 (vR 6),eN P "__builtins__" 171 (vR 4),eN P "__file__" 173 (vS "/claim/cut.py" 172),eN P "__cached__" 174 .none,eN P "_wall" 193 (vR 21),eN P "DEFAULT_T" 197 (vI 127 196),eN P "Element" 224 (vR 38),eN P "_MIN" 231 (vR 49),eN P "_MAX" 238 (vR 56),eN P "_Creator" 258 (vR 66),eN P "_Node" 507 (vR 234),eN P "Cursor" 624 (vR 326),eN P "Immutable" 644 (vR 340),eN P "BTree" 789 (vR 453),eN P "KV" 844 (vR 502),eN P "BTreeDict" 903 (vR 545),eN P "_LAW_PLAIN" 936 (vR 548),eN P "_law_draw" 944 (vR 555),eN P "_law_above" 956 (vR 562),eN P "_law_below" 969 (vR 569),eN P "_law_same" 978 (vR 576),eN P "_law_next" 989 (vR 583),eN P "_law_prev" 1000 (vR 590),eN P "_law_seek" 1011 (vR 597),eN P "_law_cursors" 1021 (vR 604),eN P "_law_change" 1043 (vR 611),eN P "_law_deed" 1060 (vR 618),eN P "_law_sweep" 1069 (vR 625),eN P "law" 1092 (vR 632)]) 34) (arr []),
 boot_o_4 P,
 boot_o_5 P,
 boot_o_6 P,
 boot_o_7 P,
 boot_o_8 P,
 boot_o_9 P,
 boot_o_10 P,
 .mk (.type "tuple") none (.seq (arr []) 0) (arr []),
 .mk .none none (.fields (arr [(vI 1 0),(vI 0 0),(vR 20),(vI 6 0),(vI 0 0),(vR 27),(vI 10 0),(vI 0 0),(vR 48),(vI 12 0),(vI 0 0),(vR 55),(vI 14 0),(vI 0 0),(vR 62),(vI 16 0),(vI 0 0),(vR 76),(vI 256 0),(vI 0 0),(vR 244),(vI 416 0),(vI 0 0),(vR 336),(vI 418 0),(vI 0 0),(vR 349),(vI 502 0),(vI 0 0),(vR 463),(vI 519 0),(vI 0 0),(vR 511),(vI 541 0),(vI 0 0),(vR 554),(vI 545 0),(vI 0 0),(vR 561),(vI 555 0),(vI 0 0),(vR 568),(vI 566 0),(vI 0 0),(vR 575),(vI 570 0),(vI 0 0),(vR 582),(vI 579 0),(vI 0 0),(vR 589),(vI 588 0),(vI 0 0),(vR 596),(vI 604 0),(vI 0 0),(vR 603),(vI 609 0),(vI 0 0),(vR 610),(vI 637 0),(vI 0 0),(vR 617),(vI 666 0),(vI 0 0),(vR 624),(vI 677 0),(vI 0 0),(vR 631)])) (arr []),
 .mk (.type "code") none (.fields (arr [(vS "<module>" 182),(vS "<module>" 183),(vS "/claim/cut.py" 184),(vI 1 0),(vI 0 0),(vI 0 0),(vI 0 0),(vI 0 0),(vR 11),(.bool false),(vI 181 0),(vR 12),.none,.none,.none,.none,(vI 185 0),(vI 1 0),(vS "/claim/cut.py" 186)])) (arr []),
 .mk (.type "frame") none .plain (arr [(some (vR 13)),(some (vR 3)),(some (vR 3)),none,(some (vS "__main__" 164)),none,(some (vR 0))])]
def F1(P:Params):List Obj:=dfO (stOf pr 0) "_wall" "_wall" 15 187 ["k"] 1 1 (vS "__main__" 164)++(
 [.mk (.type "tuple") none (.seq (arr []) 0) (arr []),
 .mk (.type "builtin_function_or_method") none (.fields (arr [(.builtin "type.__prepare__"),(.type "type")])) (arr []),
 .mk (.type "dict") none (.dict (arr [eN P "__module__" 205 (vS "dns.btree" 194),eN P "__qualname__" 207 (vS "Element" 206),eN P "__firstlineno__" 209 (vI 6 208),eN P "key" 216 (vR 35),eN P "__static_attributes__" 217 (vR 36)]) 5) (arr []),
 .mk (.type "tuple") none (.seq (arr []) 0) (arr []),
 .mk .none none (.fields (arr [(vI 8 0),(vI 4 0),(vR 34)])) (arr []),
 .mk (.type "code") none (.fields (arr [(vS "Element" 200),(vS "Element" 201),(vS "/claim/cut.py" 202),(vI 6 0),(vI 0 0),(vI 0 0),(vI 0 0),(vI 0 0),(vR 25),(.bool false),(vI 181 0),(vR 26),.none,.none,.none,.none,(vI 203 0),(vI 6 0),(vS "/claim/cut.py" 204)])) (arr []),
 .mk (.type "frame") none .plain (arr [(some (vR 27)),(some (vR 3)),(some (vR 24)),none,(some (vS "dns.btree" 194)),none,(some (vR 0))])]++(
 dfO (sbOf pr 3 0) "key" "Element.key" 29 210 ["self"] 8 1 (vS "dns.btree" 194)++(
 [.mk (.type "tuple") none (.seq (arr []) 0) (arr []),
 .mk (.type "dict") none (.dict (arr [eN P "__module__" 205 (vS "dns.btree" 194),eN P "__firstlineno__" 209 (vI 6 208),eN P "key" 216 (vR 35),eN P "__static_attributes__" 217 (vR 36),eN P "__dict__" 219 (vR 39),eN P "__weakref__" 221 (vR 40),eN P "__doc__" 222 .none]) 4) (arr []),
 .mk (.type "type") none (.cls { name:=Str.ofString "Element",bases:=[(.type "object")],mro:=[(vR 38),(.type "object")],ns:=37,qualname:=Str.ofString "Element",subclasses:=[(vR 502)] }) (arr [none,none,(some (vS "Element" 198)),(some (vS "Element" 206)),(some (.builtin "object.__new__")),(some (.bool true))]),
 .mk (.type "getset_descriptor") none (.fields (arr [(vS "__dict__" 218),(vR 38),(.builtin "function.__dict__"),(.builtin "function.__dict__#set")])) (arr []),
 .mk (.type "getset_descriptor") none (.fields (arr [(vS "__weakref__" 220),(vR 38),(.builtin "ExceptionGroup.__weakref__"),.none])) (arr []),
 .mk (.type "super") none (.fields (arr [(vR 38),(vR 38),(vR 38)])) (arr []),
 .mk (.type "builtin_function_or_method") none (.fields (arr [(.builtin "object.__init_subclass__"),(vR 38)])) (arr [])]++(
 dfO (stOf pr 4) "_MIN" "_MIN" 43 225 ["t"] 10 1 (vS "dns.btree" 194)++(
 dfO (stOf pr 5) "_MAX" "_MAX" 50 232 ["t"] 12 1 (vS "dns.btree" 194)++(
 [.mk (.type "tuple") none (.seq (arr []) 0) (arr []),
 .mk (.type "builtin_function_or_method") none (.fields (arr [(.builtin "type.__prepare__"),(.type "type")])) (arr []),
 .mk (.type "dict") none (.dict (arr [eN P "__module__" 246 (vS "dns.btree" 194),eN P "__qualname__" 248 (vS "_Creator" 247),eN P "__firstlineno__" 250 (vI 14 249),eN P "__static_attributes__" 251 (vR 64)]) 4) (arr []),
 .mk (.type "tuple") none (.seq (arr []) 0) (arr []),
 .mk .none none (.fields (arr [])) (arr []),
 .mk (.type "code") none (.fields (arr [(vS "_Creator" 241),(vS "_Creator" 242),(vS "/claim/cut.py" 243),(vI 14 0),(vI 0 0),(vI 0 0),(vI 0 0),(vI 0 0),(vR 60),(.bool false),(vI 181 0),(vR 61),.none,.none,.none,.none,(vI 244 0),(vI 14 0),(vS "/claim/cut.py" 245)])) (arr []),
 .mk (.type "frame") none .plain (arr [(some (vR 62)),(some (vR 3)),(some (vR 59)),none,(some (vS "dns.btree" 194)),none,(some (vR 0))]),
 .mk (.type "tuple") none (.seq (arr []) 0) (arr []),
 .mk (.type "dict") none (.dict (arr [eN P "__module__" 246 (vS "dns.btree" 194),eN P "__firstlineno__" 250 (vI 14 249),eN P "__static_attributes__" 251 (vR 64),eN P "__dict__" 253 (vR 67),eN P "__weakref__" 255 (vR 68),eN P "__doc__" 256 .none]) 4) (arr []),
 .mk (.type "type") none (.cls { name:=Str.ofString "_Creator",bases:=[(.type "object")],mro:=[(vR 66),(.type "object")],ns:=65,qualname:=Str.ofString "_Creator",subclasses:=[] }) (arr [none,none,(some (vS "_Creator" 239)),(some (vS "_Creator" 247)),(some (.builtin "object.__new__")),(some (.bool true))]),
 .mk (.type "getset_descriptor") none (.fields (arr [(vS "__dict__" 252),(vR 66),(.builtin "function.__dict__"),(.builtin "function.__dict__#set")])) (arr []),
 .mk (.type "getset_descriptor") none (.fields (arr [(vS "__weakref__" 254),(vR 66),(.builtin "ExceptionGroup.__weakref__"),.none])) (arr []),
 .mk (.type "super") none (.fields (arr [(vR 66),(vR 66),(vR 66)])) (arr []),
 .mk (.type "builtin_function_or_method") none (.fields (arr [(.builtin "object.__init_subclass__"),(vR 66)])) (arr [])]))))))
def F2(P:Params):List Obj:=[.mk (.type "tuple") none (.seq (arr []) 0) (arr []),
 .mk (.type "builtin_function_or_method") none (.fields (arr [(.builtin "type.__prepare__"),(.type "type")])) (arr []),
 .mk (.type "dict") none (.dict (arr [eN P "__module__" 266 (vS "dns.btree" 194),eN P "__qualname__" 268 (vS "_Node" 267),eN P "__firstlineno__" 270 (vI 16 269),eN P "__init__" 280 (vR 84),eN P "is_maximal" 287 (vR 91),eN P "is_minimal" 294 (vR 98),eN P "search_in_node" 308 (vR 105),eN P "maybe_cow_child" 318 (vR 112),eN P "_get_node" 329 (vR 119),eN P "get" 339 (vR 126),eN P "optimize_in_order_insertion" 348 (vR 133),eN P "insert_nonfull" 363 (vR 140),eN P "split" 372 (vR 147),eN P "try_left_steal" 384 (vR 154),eN P "try_right_steal" 396 (vR 161),eN P "adopt" 409 (vR 168),eN P "merge" 419 (vR 175),eN P "minimum" 426 (vR 182),eN P "maximum" 433 (vR 189),eN P "balance" 443 (vR 196),eN P "delete" 461 (vR 203),eN P "visit_in_order" 469 (vR 210),eN P "_visit_preorder_by_node" 477 (vR 217),eN P "maybe_cow" 485 (vR 224),eN P "clone" 494 (vR 231),eN P "__static_attributes__" 500 (vR 232)]) 26) (arr []),
 .mk (.type "tuple") none (.seq (arr []) 0) (arr []),
 .mk .none none (.fields (arr [(vI 18 0),(vI 4 0),(vR 83),(vI 26 0),(vI 4 0),(vR 90),(vI 30 0),(vI 4 0),(vR 97),(vI 34 0),(vI 4 0),(vR 104),(vI 56 0),(vI 4 0),(vR 111),(vI 66 0),(vI 4 0),(vR 118),(vI 76 0),(vI 4 0),(vR 125),(vI 85 0),(vI 4 0),(vR 132),(vI 96 0),(vI 4 0),(vR 139),(vI 118 0),(vI 4 0),(vR 146),(vI 129 0),(vI 4 0),(vR 153),(vI 144 0),(vI 4 0),(vR 160),(vI 159 0),(vI 4 0),(vR 167),(vI 172 0),(vI 4 0),(vR 174),(vI 179 0),(vI 4 0),(vR 181),(vI 185 0),(vI 4 0),(vR 188),(vI 191 0),(vI 4 0),(vR 195),(vI 203 0),(vI 4 0),(vR 202),(vI 238 0),(vI 4 0),(vR 209),(vI 241 0),(vI 4 0),(vR 216),(vI 244 0),(vI 4 0),(vR 223),(vI 250 0),(vI 4 0),(vR 230)])) (arr []),
 .mk (.type "code") none (.fields (arr [(vS "_Node" 261),(vS "_Node" 262),(vS "/claim/cut.py" 263),(vI 16 0),(vI 0 0),(vI 0 0),(vI 0 0),(vI 0 0),(vR 74),(.bool false),(vI 181 0),(vR 75),.none,.none,.none,.none,(vI 264 0),(vI 16 0),(vS "/claim/cut.py" 265)])) (arr []),
 .mk (.type "frame") none .plain (arr [(some (vR 76)),(some (vR 3)),(some (vR 73)),none,(some (vS "dns.btree" 194)),none,(some (vR 0))])]++(
 dfO (sbOf pr 7 0) "__init__" "_Node.__init__" 78 271 ["self", "t", "creator", "is_leaf"] 18 4 (vS "dns.btree" 194)++(
 dfO (sbOf pr 7 1) "is_maximal" "_Node.is_maximal" 85 281 ["self"] 26 1 (vS "dns.btree" 194)++(
 dfO (sbOf pr 7 2) "is_minimal" "_Node.is_minimal" 92 288 ["self"] 30 1 (vS "dns.btree" 194)++(
 dfO (sbOf pr 7 3) "search_in_node" "_Node.search_in_node" 99 295 ["self", "key", "l", "i", "r", "equal", "m", "k"] 34 2 (vS "dns.btree" 194)++(
 dfO (sbOf pr 7 4) "maybe_cow_child" "_Node.maybe_cow_child" 106 309 ["self", "index", "child", "cloned"] 56 2 (vS "dns.btree" 194)++(
 dfO (sbOf pr 7 5) "_get_node" "_Node._get_node" 113 319 ["self", "key", "i", "equal", "child"] 66 2 (vS "dns.btree" 194)++(
 dfO (sbOf pr 7 6) "get" "_Node.get" 120 330 ["self", "key", "i", "equal"] 76 2 (vS "dns.btree" 194)++(
 dfO (sbOf pr 7 7) "optimize_in_order_insertion" "_Node.optimize_in_order_insertion" 127 340 ["self", "index", "left"] 85 2 (vS "dns.btree" 194)++(
 dfO (sbOf pr 7 8) "insert_nonfull" "_Node.insert_nonfull" 134 349 ["self", "element", "in_order", "key", "i", "equal", "old", "child", "oelt"] 96 3 (vS "dns.btree" 194)++(
 dfO (sbOf pr 7 9) "split" "_Node.split" 141 364 ["self", "right", "middle"] 118 1 (vS "dns.btree" 194)++(
 dfO (sbOf pr 7 10) "try_left_steal" "_Node.try_left_steal" 148 373 ["self", "parent", "index", "left", "elt", "child"] 129 3 (vS "dns.btree" 194)++(
 dfO (sbOf pr 7 11) "try_right_steal" "_Node.try_right_steal" 155 385 ["self", "parent", "index", "right", "elt", "child"] 144 3 (vS "dns.btree" 194)++(
 dfO (sbOf pr 7 12) "adopt" "_Node.adopt" 162 397 ["self", "left", "middle", "right", "key", "i", "equal"] 159 4 (vS "dns.btree" 194)++(
 dfO (sbOf pr 7 13) "merge" "_Node.merge" 169 410 ["self", "parent", "index", "right"] 172 3 (vS "dns.btree" 194)++(
 dfO (sbOf pr 7 14) "minimum" "_Node.minimum" 176 420 ["self"] 179 1 (vS "dns.btree" 194)++(
 dfO (sbOf pr 7 15) "maximum" "_Node.maximum" 183 427 ["self"] 185 1 (vS "dns.btree" 194)++(
 dfO (sbOf pr 7 16) "balance" "_Node.balance" 190 434 ["self", "parent", "index", "left"] 191 3 (vS "dns.btree" 194)++(
 dfO (sbOf pr 7 17) "delete" "_Node.delete" 197 444 ["self", "key", "parent", "exact", "i", "equal", "original_key", "least_successor", "child", "elt", "node", "oelt"] 203 4 (vS "dns.btree" 194)++(
 dfO (sbOf pr 7 18) "visit_in_order" "_Node.visit_in_order" 204 462 ["self", "visit"] 238 2 (vS "dns.btree" 194)++(
 dfO (sbOf pr 7 19) "_visit_preorder_by_node" "_Node._visit_preorder_by_node" 211 470 ["self", "visit"] 241 2 (vS "dns.btree" 194)++(
 dfO (sbOf pr 7 20) "maybe_cow" "_Node.maybe_cow" 218 478 ["self", "creator"] 244 2 (vS "dns.btree" 194)++(
 dfO (sbOf pr 7 21) "clone" "_Node.clone" 225 486 ["self", "creator", "cloned"] 250 2 (vS "dns.btree" 194)++(
 [.mk (.type "tuple") none (.seq (arr [(vS "children" 495),(vS "creator" 496),(vS "elts" 497),(vS "is_leaf" 498),(vS "t" 499)]) 0) (arr []),
 .mk (.type "dict") none (.dict (arr [eN P "__module__" 266 (vS "dns.btree" 194),eN P "__firstlineno__" 270 (vI 16 269),eN P "__init__" 280 (vR 84),eN P "is_maximal" 287 (vR 91),eN P "is_minimal" 294 (vR 98),eN P "search_in_node" 308 (vR 105),eN P "maybe_cow_child" 318 (vR 112),eN P "_get_node" 329 (vR 119),eN P "get" 339 (vR 126),eN P "optimize_in_order_insertion" 348 (vR 133),eN P "insert_nonfull" 363 (vR 140),eN P "split" 372 (vR 147),eN P "try_left_steal" 384 (vR 154),eN P "try_right_steal" 396 (vR 161),eN P "adopt" 409 (vR 168),eN P "merge" 419 (vR 175),eN P "minimum" 426 (vR 182),eN P "maximum" 433 (vR 189),eN P "balance" 443 (vR 196),eN P "delete" 461 (vR 203),eN P "visit_in_order" 469 (vR 210),eN P "_visit_preorder_by_node" 477 (vR 217),eN P "maybe_cow" 485 (vR 224),eN P "clone" 494 (vR 231),eN P "__static_attributes__" 500 (vR 232),eN P "__dict__" 502 (vR 235),eN P "__weakref__" 504 (vR 236),eN P "__doc__" 505 .none]) 4) (arr []),
 .mk (.type "type") none (.cls { name:=Str.ofString "_Node",bases:=[(.type "object")],mro:=[(vR 234),(.type "object")],ns:=233,qualname:=Str.ofString "_Node",subclasses:=[] }) (arr [none,none,(some (vS "_Node" 259)),(some (vS "_Node" 267)),(some (.builtin "object.__new__")),(some (.bool true))]),
 .mk (.type "getset_descriptor") none (.fields (arr [(vS "__dict__" 501),(vR 234),(.builtin "function.__dict__"),(.builtin "function.__dict__#set")])) (arr []),
 .mk (.type "getset_descriptor") none (.fields (arr [(vS "__weakref__" 503),(vR 234),(.builtin "ExceptionGroup.__weakref__"),.none])) (arr []),
 .mk (.type "super") none (.fields (arr [(vR 234),(vR 234),(vR 234)])) (arr []),
 .mk (.type "builtin_function_or_method") none (.fields (arr [(.builtin "object.__init_subclass__"),(vR 234)])) (arr [])])))))))))))))))))))))))
def F3(P:Params):List Obj:=[.mk (.type "tuple") none (.seq (arr []) 0) (arr []),
 .mk (.type "builtin_function_or_method") none (.fields (arr [(.builtin "type.__prepare__"),(.type "type")])) (arr []),
 .mk (.type "dict") none (.dict (arr [eN P "__module__" 515 (vS "dns.btree" 194),eN P "__qualname__" 517 (vS "Cursor" 516),eN P "__firstlineno__" 519 (vI 256 518),eN P "__init__" 527 (vR 252),eN P "_seek_least" 534 (vR 259),eN P "_seek_greatest" 541 (vR 266),eN P "park" 548 (vR 273),eN P "_maybe_unpark" 557 (vR 280),eN P "prev" 565 (vR 287),eN P "next" 573 (vR 294),eN P "_adjust_for_before" 582 (vR 301),eN P "seek" 593 (vR 309),eN P "seek_first" 600 (vR 316),eN P "seek_last" 607 (vR 323),eN P "__static_attributes__" 617 (vR 324)]) 15) (arr []),
 .mk (.type "tuple") none (.seq (arr []) 0) (arr []),
 .mk .none none (.fields (arr [(vI 258 0),(vI 4 0),(vR 251),(vI 269 0),(vI 4 0),(vR 258),(vI 277 0),(vI 4 0),(vR 265),(vI 285 0),(vI 4 0),(vR 272),(vI 289 0),(vI 4 0),(vR 279),(vI 302 0),(vI 4 0),(vR 286),(vI 334 0),(vI 4 0),(vR 293),(vI 366 0),(vI 4 0),(vR 300),(vI 372 0),(vI 4 0),(vR 308),(vI 399 0),(vI 4 0),(vR 315),(vI 408 0),(vI 4 0),(vR 322)])) (arr []),
 .mk (.type "code") none (.fields (arr [(vS "Cursor" 510),(vS "Cursor" 511),(vS "/claim/cut.py" 512),(vI 256 0),(vI 0 0),(vI 0 0),(vI 0 0),(vI 0 0),(vR 242),(.bool false),(vI 181 0),(vR 243),.none,.none,.none,.none,(vI 513 0),(vI 256 0),(vS "/claim/cut.py" 514)])) (arr []),
 .mk (.type "frame") none .plain (arr [(some (vR 244)),(some (vR 3)),(some (vR 241)),none,(some (vS "dns.btree" 194)),none,(some (vR 0))])]++(
 dfO (sbOf pr 8 0) "__init__" "Cursor.__init__" 246 520 ["self", "btree"] 258 2 (vS "dns.btree" 194)++(
 dfO (sbOf pr 8 1) "_seek_least" "Cursor._seek_least" 253 528 ["self"] 269 1 (vS "dns.btree" 194)++(
 dfO (sbOf pr 8 2) "_seek_greatest" "Cursor._seek_greatest" 260 535 ["self"] 277 1 (vS "dns.btree" 194)++(
 dfO (sbOf pr 8 3) "park" "Cursor.park" 267 542 ["self"] 285 1 (vS "dns.btree" 194)++(
 dfO (sbOf pr 8 4) "_maybe_unpark" "Cursor._maybe_unpark" 274 549 ["self", "increasing", "before"] 289 1 (vS "dns.btree" 194)++(
 dfO (sbOf pr 8 5) "prev" "Cursor.prev" 281 558 ["self", "elt"] 302 1 (vS "dns.btree" 194)++(
 dfO (sbOf pr 8 6) "next" "Cursor.next" 288 566 ["self", "elt"] 334 1 (vS "dns.btree" 194)++(
 dfO (sbOf pr 8 7) "_adjust_for_before" "Cursor._adjust_for_before" 295 574 ["self", "before", "i"] 366 3 (vS "dns.btree" 194)++(
 [.mk (.type "tuple") none (.seq (arr [(.bool true)]) 0) (arr []),
 .mk (.type "tuple") none (.seq (arr []) 0) (arr []),
 .mk .none none (.fields (arr [])) (arr []),
 .mk (.type "tuple") none (.seq (arr [(vS "self" 586),(vS "key" 587),(vS "before" 588),(vS "i" 589),(vS "equal" 590)]) 0) (arr []),
 .mk (.type "tuple") none (.seq (arr []) 0) (arr []),
 .mk .none none (.func (fuD (sbOf pr 8 8) "Cursor.seek" 0 [] .none .none .none none .none .none)) (arr []),
 .mk (.type "code") none (.fields (arr [(vS "seek" 583),(vS "Cursor.seek" 584),(vS "/claim/cut.py" 585),(vI 372 0),(vI 3 0),(vI 0 0),(vI 0 0),(vI 3 0),(vR 303),(.bool true),(vI 181 0),(vR 304),.none,(vR 305),(vR 306),(vR 307),(vI 591 0),(vI 372 0),(vS "/claim/cut.py" 592)])) (arr []),
 .mk (.type "function") none (.func (fuD (sbOf pr 8 8) "Cursor.seek" 3 [] (vR 302) .none (vS "dns.btree" 194) none (vR 308) .none)) (arr [])]++(
 dfO (sbOf pr 8 9) "seek_first" "Cursor.seek_first" 310 594 ["self"] 399 1 (vS "dns.btree" 194)++(
 dfO (sbOf pr 8 10) "seek_last" "Cursor.seek_last" 317 601 ["self"] 408 1 (vS "dns.btree" 194)++(
 [.mk (.type "tuple") none (.seq (arr [(vS "btree" 608),(vS "current_index" 609),(vS "current_node" 610),(vS "increasing" 611),(vS "parents" 612),(vS "parked" 613),(vS "parking_key" 614),(vS "parking_key_read" 615),(vS "recurse" 616)]) 0) (arr []),
 .mk (.type "dict") none (.dict (arr [eN P "__module__" 515 (vS "dns.btree" 194),eN P "__firstlineno__" 519 (vI 256 518),eN P "__init__" 527 (vR 252),eN P "_seek_least" 534 (vR 259),eN P "_seek_greatest" 541 (vR 266),eN P "park" 548 (vR 273),eN P "_maybe_unpark" 557 (vR 280),eN P "prev" 565 (vR 287),eN P "next" 573 (vR 294),eN P "_adjust_for_before" 582 (vR 301),eN P "seek" 593 (vR 309),eN P "seek_first" 600 (vR 316),eN P "seek_last" 607 (vR 323),eN P "__static_attributes__" 617 (vR 324),eN P "__dict__" 619 (vR 327),eN P "__weakref__" 621 (vR 328),eN P "__doc__" 622 .none]) 4) (arr []),
 .mk (.type "type") none (.cls { name:=Str.ofString "Cursor",bases:=[(.type "object")],mro:=[(vR 326),(.type "object")],ns:=325,qualname:=Str.ofString "Cursor",subclasses:=[] }) (arr [none,none,(some (vS "Cursor" 508)),(some (vS "Cursor" 516)),(some (.builtin "object.__new__")),(some (.bool true))]),
 .mk (.type "getset_descriptor") none (.fields (arr [(vS "__dict__" 618),(vR 326),(.builtin "function.__dict__"),(.builtin "function.__dict__#set")])) (arr []),
 .mk (.type "getset_descriptor") none (.fields (arr [(vS "__weakref__" 620),(vR 326),(.builtin "ExceptionGroup.__weakref__"),.none])) (arr []),
 .mk (.type "super") none (.fields (arr [(vR 326),(vR 326),(vR 326)])) (arr []),
 .mk (.type "builtin_function_or_method") none (.fields (arr [(.builtin "object.__init_subclass__"),(vR 326)])) (arr []),
 .mk (.type "tuple") none (.seq (arr [(.type "Exception")]) 0) (arr []),
 .mk (.type "builtin_function_or_method") none (.fields (arr [(.builtin "type.__prepare__"),(.type "type")])) (arr []),
 .mk (.type "dict") none (.dict (arr [eN P "__module__" 632 (vS "dns.btree" 194),eN P "__qualname__" 634 (vS "Immutable" 633),eN P "__firstlineno__" 636 (vI 416 635),eN P "__static_attributes__" 637 (vR 338)]) 4) (arr []),
 .mk (.type "tuple") none (.seq (arr []) 0) (arr []),
 .mk .none none (.fields (arr [])) (arr []),
 .mk (.type "code") none (.fields (arr [(vS "Immutable" 627),(vS "Immutable" 628),(vS "/claim/cut.py" 629),(vI 416 0),(vI 0 0),(vI 0 0),(vI 0 0),(vI 0 0),(vR 334),(.bool false),(vI 181 0),(vR 335),.none,.none,.none,.none,(vI 630 0),(vI 416 0),(vS "/claim/cut.py" 631)])) (arr []),
 .mk (.type "frame") none .plain (arr [(some (vR 336)),(some (vR 3)),(some (vR 333)),none,(some (vS "dns.btree" 194)),none,(some (vR 0))]),
 .mk (.type "tuple") none (.seq (arr []) 0) (arr []),
 .mk (.type "dict") none (.dict (arr [eN P "__module__" 632 (vS "dns.btree" 194),eN P "__firstlineno__" 636 (vI 416 635),eN P "__static_attributes__" 637 (vR 338),eN P "__weakref__" 639 (vR 341),eN P "__doc__" 640 .none]) 3) (arr []),
 .mk (.type "type") none (.cls { name:=Str.ofString "Immutable",bases:=[(.type "Exception")],mro:=[(vR 340),(.type "Exception"),(.type "BaseException"),(.type "object")],ns:=339,qualname:=Str.ofString "Immutable",subclasses:=[] }) (arr [(some (vR 331)),none,(some (vS "Immutable" 625)),(some (vS "Immutable" 633)),(some (.builtin "Exception.__new__")),(some (.bool true))]),
 .mk (.type "getset_descriptor") none (.fields (arr [(vS "__weakref__" 638),(vR 340),(.builtin "ExceptionGroup.__weakref__"),.none])) (arr []),
 .mk (.type "super") none (.fields (arr [(vR 340),(vR 340),(vR 340)])) (arr []),
 .mk (.type "builtin_function_or_method") none (.fields (arr [(.builtin "object.__init_subclass__"),(vR 340)])) (arr [])]))))))))))))
def F4(P:Params):List Obj:=[.mk (.type "tuple") none (.seq (arr []) 0) (arr []),
 .mk (.type "builtin_function_or_method") none (.fields (arr [(.builtin "type.__prepare__"),(.type "type")])) (arr []),
 .mk (.type "dict") none (.dict (arr [eN P "__module__" 652 (vS "dns.btree" 194),eN P "__qualname__" 654 (vS "BTree" 653),eN P "__firstlineno__" 656 (vI 418 655),eN P "__init__" 667 (vR 358),eN P "make_immutable" 674 (vR 365),eN P "_check_mutable_and_park" 682 (vR 372),eN P "insert_element" 694 (vR 380),eN P "get_element" 702 (vR 387),eN P "_delete" 713 (vR 394),eN P "delete_key" 721 (vR 401),eN P "delete_exact" 729 (vR 408),eN P "__len__" 736 (vR 415),eN P "visit_in_order" 744 (vR 422),eN P "_visit_preorder_by_node" 752 (vR 429),eN P "cursor" 759 (vR 436),eN P "register_cursor" 767 (vR 443),eN P "deregister_cursor" 775 (vR 450),eN P "__static_attributes__" 782 (vR 451)]) 18) (arr []),
 .mk (.type "tuple") none (.seq (arr []) 0) (arr []),
 .mk .none none (.fields (arr [(vI 420 0),(vI 4 0),(vR 357),(vI 437 0),(vI 4 0),(vR 364),(vI 441 0),(vI 4 0),(vR 371),(vI 447 0),(vI 4 0),(vR 379),(vI 461 0),(vI 4 0),(vR 386),(vI 464 0),(vI 4 0),(vR 393),(vI 478 0),(vI 4 0),(vR 400),(vI 481 0),(vI 4 0),(vR 407),(vI 484 0),(vI 4 0),(vR 414),(vI 487 0),(vI 4 0),(vR 421),(vI 490 0),(vI 4 0),(vR 428),(vI 493 0),(vI 4 0),(vR 435),(vI 496 0),(vI 4 0),(vR 442),(vI 500 0),(vI 4 0),(vR 449)])) (arr []),
 .mk (.type "code") none (.fields (arr [(vS "BTree" 647),(vS "BTree" 648),(vS "/claim/cut.py" 649),(vI 418 0),(vI 0 0),(vI 0 0),(vI 0 0),(vI 0 0),(vR 347),(.bool false),(vI 181 0),(vR 348),.none,.none,.none,.none,(vI 650 0),(vI 418 0),(vS "/claim/cut.py" 651)])) (arr []),
 .mk (.type "frame") none .plain (arr [(some (vR 349)),(some (vR 3)),(some (vR 346)),none,(some (vS "dns.btree" 194)),none,(some (vR 0))]),
 .mk (.type "dict") none (.dict (arr [eN P "t" 657 (vI 127 196),eN P "original" 658 .none]) 2) (arr []),
 .mk (.type "tuple") none (.seq (arr []) 0) (arr []),
 .mk .none none (.fields (arr [])) (arr []),
 .mk (.type "tuple") none (.seq (arr [(vS "self" 662),(vS "t" 663),(vS "original" 664)]) 0) (arr []),
 .mk (.type "tuple") none (.seq (arr []) 0) (arr []),
 .mk .none none (.func (fuD (sbOf pr 10 0) "BTree.__init__" 0 [] .none .none .none none .none .none)) (arr []),
 .mk (.type "code") none (.fields (arr [(vS "__init__" 659),(vS "BTree.__init__" 660),(vS "/claim/cut.py" 661),(vI 420 0),(vI 1 0),(vI 0 0),(vI 2 0),(vI 3 0),(vR 352),(.bool true),(vI 181 0),(vR 353),.none,(vR 354),(vR 355),(vR 356),(vI 665 0),(vI 420 0),(vS "/claim/cut.py" 666)])) (arr []),
 .mk (.type "function") none (.func (fuD (sbOf pr 10 0) "BTree.__init__" 3 [] .none (vR 351) (vS "dns.btree" 194) none (vR 357) .none)) (arr [])]++(
 dfO (sbOf pr 10 1) "make_immutable" "BTree.make_immutable" 359 668 ["self"] 437 1 (vS "dns.btree" 194)++(
 dfO (sbOf pr 10 2) "_check_mutable_and_park" "BTree._check_mutable_and_park" 366 675 ["self", "cursor"] 441 1 (vS "dns.btree" 194)++(
 [.mk (.type "tuple") none (.seq (arr [(.bool false)]) 0) (arr []),
 .mk (.type "tuple") none (.seq (arr []) 0) (arr []),
 .mk .none none (.fields (arr [])) (arr []),
 .mk (.type "tuple") none (.seq (arr [(vS "self" 686),(vS "elt" 687),(vS "in_order" 688),(vS "cloned" 689),(vS "old_root" 690),(vS "oelt" 691)]) 0) (arr []),
 .mk (.type "tuple") none (.seq (arr []) 0) (arr []),
 .mk .none none (.func (fuD (sbOf pr 10 3) "BTree.insert_element" 0 [] .none .none .none none .none .none)) (arr []),
 .mk (.type "code") none (.fields (arr [(vS "insert_element" 683),(vS "BTree.insert_element" 684),(vS "/claim/cut.py" 685),(vI 447 0),(vI 3 0),(vI 0 0),(vI 0 0),(vI 3 0),(vR 374),(.bool true),(vI 181 0),(vR 375),.none,(vR 376),(vR 377),(vR 378),(vI 692 0),(vI 447 0),(vS "/claim/cut.py" 693)])) (arr []),
 .mk (.type "function") none (.func (fuD (sbOf pr 10 3) "BTree.insert_element" 3 [] (vR 373) .none (vS "dns.btree" 194) none (vR 379) .none)) (arr [])]++(
 dfO (sbOf pr 10 4) "get_element" "BTree.get_element" 381 695 ["self", "key"] 461 2 (vS "dns.btree" 194)++(
 dfO (sbOf pr 10 5) "_delete" "BTree._delete" 388 703 ["self", "key", "exact", "cloned", "elt"] 464 3 (vS "dns.btree" 194)++(
 dfO (sbOf pr 10 6) "delete_key" "BTree.delete_key" 395 714 ["self", "key"] 478 2 (vS "dns.btree" 194)++(
 dfO (sbOf pr 10 7) "delete_exact" "BTree.delete_exact" 402 722 ["self", "element"] 481 2 (vS "dns.btree" 194)++(
 dfO (sbOf pr 10 8) "__len__" "BTree.__len__" 409 730 ["self"] 484 1 (vS "dns.btree" 194)++(
 dfO (sbOf pr 10 9) "visit_in_order" "BTree.visit_in_order" 416 737 ["self", "visit"] 487 2 (vS "dns.btree" 194)++(
 dfO (sbOf pr 10 10) "_visit_preorder_by_node" "BTree._visit_preorder_by_node" 423 745 ["self", "visit"] 490 2 (vS "dns.btree" 194)++(
 dfO (sbOf pr 10 11) "cursor" "BTree.cursor" 430 753 ["self"] 493 1 (vS "dns.btree" 194)++(
 dfO (sbOf pr 10 12) "register_cursor" "BTree.register_cursor" 437 760 ["self", "cursor"] 496 2 (vS "dns.btree" 194)++(
 dfO (sbOf pr 10 13) "deregister_cursor" "BTree.deregister_cursor" 444 768 ["self", "cursor"] 500 2 (vS "dns.btree" 194)++(
 [.mk (.type "tuple") none (.seq (arr [(vS "_immutable" 776),(vS "creator" 777),(vS "cursors" 778),(vS "root" 779),(vS "size" 780),(vS "t" 781)]) 0) (arr []),
 .mk (.type "dict") none (.dict (arr [eN P "__module__" 652 (vS "dns.btree" 194),eN P "__firstlineno__" 656 (vI 418 655),eN P "__init__" 667 (vR 358),eN P "make_immutable" 674 (vR 365),eN P "_check_mutable_and_park" 682 (vR 372),eN P "insert_element" 694 (vR 380),eN P "get_element" 702 (vR 387),eN P "_delete" 713 (vR 394),eN P "delete_key" 721 (vR 401),eN P "delete_exact" 729 (vR 408),eN P "__len__" 736 (vR 415),eN P "visit_in_order" 744 (vR 422),eN P "_visit_preorder_by_node" 752 (vR 429),eN P "cursor" 759 (vR 436),eN P "register_cursor" 767 (vR 443),eN P "deregister_cursor" 775 (vR 450),eN P "__static_attributes__" 782 (vR 451),eN P "__dict__" 784 (vR 454),eN P "__weakref__" 786 (vR 455),eN P "__doc__" 787 .none]) 4) (arr []),
 .mk (.type "type") none (.cls { name:=Str.ofString "BTree",bases:=[(.type "object")],mro:=[(vR 453),(.type "object")],ns:=452,qualname:=Str.ofString "BTree",subclasses:=[(vR 545)] }) (arr [none,none,(some (vS "BTree" 645)),(some (vS "BTree" 653)),(some (.builtin "object.__new__")),(some (.bool true))]),
 .mk (.type "getset_descriptor") none (.fields (arr [(vS "__dict__" 783),(vR 453),(.builtin "function.__dict__"),(.builtin "function.__dict__#set")])) (arr []),
 .mk (.type "getset_descriptor") none (.fields (arr [(vS "__weakref__" 785),(vR 453),(.builtin "ExceptionGroup.__weakref__"),.none])) (arr []),
 .mk (.type "super") none (.fields (arr [(vR 453),(vR 453),(vR 453)])) (arr []),
 .mk (.type "builtin_function_or_method") none (.fields (arr [(.builtin "object.__init_subclass__"),(vR 453)])) (arr []),
 .mk (.type "tuple") none (.seq (arr [(vR 38)]) 0) (arr []),
 .mk (.type "builtin_function_or_method") none (.fields (arr [(.builtin "type.__prepare__"),(.type "type")])) (arr []),
 .mk (.type "dict") none (.dict (arr [eN P "__module__" 797 (vS "dns.btree" 194),eN P "__qualname__" 799 (vS "KV" 798),eN P "__firstlineno__" 801 (vI 502 800),eN P "__init__" 810 (vR 471),eN P "key" 817 (vR 478),eN P "value" 824 (vR 485),eN P "__str__" 831 (vR 492),eN P "__repr__" 838 (vR 499),eN P "__static_attributes__" 841 (vR 500)]) 9) (arr []),
 .mk (.type "tuple") none (.seq (arr []) 0) (arr []),
 .mk .none none (.fields (arr [(vI 504 0),(vI 4 0),(vR 470),(vI 508 0),(vI 4 0),(vR 477),(vI 511 0),(vI 4 0),(vR 484),(vI 514 0),(vI 4 0),(vR 491),(vI 517 0),(vI 4 0),(vR 498)])) (arr []),
 .mk (.type "code") none (.fields (arr [(vS "KV" 792),(vS "KV" 793),(vS "/claim/cut.py" 794),(vI 502 0),(vI 0 0),(vI 0 0),(vI 0 0),(vI 0 0),(vR 461),(.bool false),(vI 181 0),(vR 462),.none,.none,.none,.none,(vI 795 0),(vI 502 0),(vS "/claim/cut.py" 796)])) (arr []),
 .mk (.type "frame") none .plain (arr [(some (vR 463)),(some (vR 3)),(some (vR 460)),none,(some (vS "dns.btree" 194)),none,(some (vR 0))])]++(
 dfO (sbOf pr 11 0) "__init__" "KV.__init__" 465 802 ["self", "key", "value"] 504 3 (vS "dns.btree" 194)++(
 dfO (sbOf pr 11 1) "key" "KV.key" 472 811 ["self"] 508 1 (vS "dns.btree" 194)++(
 dfO (sbOf pr 11 2) "value" "KV.value" 479 818 ["self"] 511 1 (vS "dns.btree" 194)++(
 dfO (sbOf pr 11 3) "__str__" "KV.__str__" 486 825 ["self"] 514 1 (vS "dns.btree" 194)++(
 dfO (sbOf pr 11 4) "__repr__" "KV.__repr__" 493 832 ["self"] 517 1 (vS "dns.btree" 194)++(
 [.mk (.type "tuple") none (.seq (arr [(vS "_key" 839),(vS "_value" 840)]) 0) (arr []),
 .mk (.type "dict") none (.dict (arr [eN P "__module__" 797 (vS "dns.btree" 194),eN P "__firstlineno__" 801 (vI 502 800),eN P "__init__" 810 (vR 471),eN P "key" 817 (vR 478),eN P "value" 824 (vR 485),eN P "__str__" 831 (vR 492),eN P "__repr__" 838 (vR 499),eN P "__static_attributes__" 841 (vR 500),eN P "__doc__" 842 .none]) 2) (arr []),
 .mk (.type "type") none (.cls { name:=Str.ofString "KV",bases:=[(vR 38)],mro:=[(vR 502),(vR 38),(.type "object")],ns:=501,qualname:=Str.ofString "KV",subclasses:=[] }) (arr [(some (vR 458)),none,(some (vS "KV" 790)),(some (vS "KV" 798)),(some (.builtin "object.__new__")),(some (.bool true))]),
 .mk (.type "super") none (.fields (arr [(vR 502),(vR 502),(vR 502)])) (arr []),
 .mk (.type "builtin_function_or_method") none (.fields (arr [(.builtin "object.__init_subclass__"),(vR 502)])) (arr [])]))))))))))))))))))))
def F5(P:Params):List Obj:=[.mk (.type "tuple") none (.seq (arr [(vR 453)]) 0) (arr []),
 .mk (.type "builtin_function_or_method") none (.fields (arr [(.builtin "type.__prepare__"),(.type "type")])) (arr []),
 .mk (.type "dict") none (.dict (arr [eN P "__module__" 852 (vS "dns.btree" 194),eN P "__qualname__" 854 (vS "BTreeDict" 853),eN P "__firstlineno__" 856 (vI 519 855),eN P "__init__" 870 (vR 521),eN P "__getitem__" 879 (vR 528),eN P "__setitem__" 889 (vR 535),eN P "__delitem__" 897 (vR 542),eN P "__static_attributes__" 899 (vR 543),eN P "__classcell__" 900 (vR 508)]) 9) (arr []),
 .mk (.type "cell") none (.cell (some (vR 545))) (arr []),
 .mk (.type "tuple") none (.seq (arr []) 0) (arr []),
 .mk .none none (.fields (arr [(vI 521 0),(vI 4 0),(vR 520),(vI 525 0),(vI 4 0),(vR 527),(vI 532 0),(vI 4 0),(vR 534),(vI 536 0),(vI 4 0),(vR 541)])) (arr []),
 .mk (.type "code") none (.fields (arr [(vS "BTreeDict" 847),(vS "BTreeDict" 848),(vS "/claim/cut.py" 849),(vI 519 0),(vI 0 0),(vI 0 0),(vI 0 0),(vI 0 0),(vR 509),(.bool false),(vI 181 0),(vR 510),.none,.none,.none,.none,(vI 850 0),(vI 519 0),(vS "/claim/cut.py" 851)])) (arr []),
 .mk (.type "frame") none .plain (arr [(some (vR 511)),(some (vR 3)),(some (vR 507)),none,(some (vS "dns.btree" 194)),none,(some (vR 0))]),
 .mk (.type "dict") none (.dict (arr [eN P "t" 857 (vI 127 196),eN P "original" 858 .none,eN P "in_order" 859 (.bool false)]) 3) (arr []),
 .mk (.type "tuple") none (.seq (arr [(vR 508)]) 0) (arr []),
 .mk (.type "tuple") none (.seq (arr [(vS "__class__" 863)]) 0) (arr []),
 .mk .none none (.fields (arr [])) (arr []),
 .mk (.type "tuple") none (.seq (arr [(vS "self" 864),(vS "t" 865),(vS "original" 866),(vS "in_order" 867)]) 0) (arr []),
 .mk (.type "tuple") none (.seq (arr []) 0) (arr []),
 .mk .none none (.func (fuD (sbOf pr 12 0) "BTreeDict.__init__" 0 [] .none .none .none none .none .none)) (arr []),
 .mk (.type "code") none (.fields (arr [(vS "__init__" 860),(vS "BTreeDict.__init__" 861),(vS "/claim/cut.py" 862),(vI 521 0),(vI 1 0),(vI 0 0),(vI 3 0),(vI 3 0),(vR 515),(.bool true),(vI 181 0),(vR 516),.none,(vR 517),(vR 518),(vR 519),(vI 868 0),(vI 521 0),(vS "/claim/cut.py" 869)])) (arr []),
 .mk (.type "function") none (.func (fuD (sbOf pr 12 0) "BTreeDict.__init__" 3 [(Str.ofString "__class__",508)] .none (vR 513) (vS "dns.btree" 194) none (vR 520) (vR 514))) (arr [])]++(
 dfO (sbOf pr 12 1) "__getitem__" "BTreeDict.__getitem__" 522 871 ["self", "key", "elt"] 525 2 (vS "dns.btree" 194)++(
 dfO (sbOf pr 12 2) "__setitem__" "BTreeDict.__setitem__" 529 880 ["self", "key", "value", "elt"] 532 3 (vS "dns.btree" 194)++(
 dfO (sbOf pr 12 3) "__delitem__" "BTreeDict.__delitem__" 536 890 ["self", "key"] 536 2 (vS "dns.btree" 194)++(
 [.mk (.type "tuple") none (.seq (arr [(vS "in_order" 898)]) 0) (arr []),
 .mk (.type "dict") none (.dict (arr [eN P "__module__" 852 (vS "dns.btree" 194),eN P "__firstlineno__" 856 (vI 519 855),eN P "__init__" 870 (vR 521),eN P "__getitem__" 879 (vR 528),eN P "__setitem__" 889 (vR 535),eN P "__delitem__" 897 (vR 542),eN P "__static_attributes__" 899 (vR 543),eN P "__doc__" 901 .none]) 3) (arr []),
 .mk (.type "type") none (.cls { name:=Str.ofString "BTreeDict",bases:=[(vR 453)],mro:=[(vR 545),(vR 453),(.type "object")],ns:=544,qualname:=Str.ofString "BTreeDict",subclasses:=[] }) (arr [(some (vR 505)),none,(some (vS "BTreeDict" 845)),(some (vS "BTreeDict" 853)),(some (.builtin "object.__new__")),(some (.bool true))]),
 .mk (.type "super") none (.fields (arr [(vR 545),(vR 545),(vR 545)])) (arr []),
 .mk (.type "builtin_function_or_method") none (.fields (arr [(.builtin "object.__init_subclass__"),(vR 545)])) (arr []),
 .mk (.type "tuple") none (.seq (arr [(vI 0 906),(vI 0 907),(vI 0 908),(vI 47 909),(vI 820 910),(vI 98 911),(vI 144 912),(vI 9 913),(vI 12 914),(vI 49 915),(vI 10 916),(vI 51 917),(vI 11 918),(vI 248 919),(vI 96 920),(vI 78 921),(vI 171 922),(vI 33 923),(vI 73 924),(vI 1481 925),(vI 86 926),(vI 1207 927),(vI 82 928),(vI 47 929),(vI 180 930),(vI 4000 931),(vI 158 932),(vI 536 933),(vI 45 934),(vI 133 935)]) 0) (arr [])]++(
 dfO (stOf pr 15) "_law_draw" "_law_draw" 549 937 ["script", "place"] 541 2 (vS "law_ji0015_02" 904)++(
 dfO (stOf pr 16) "_law_above" "_law_above" 556 945 ["plain", "place", "side", "key", "before", "each"] 545 2 (vS "law_ji0015_02" 904)++(
 dfO (stOf pr 17) "_law_below" "_law_below" 563 957 ["plain", "place", "side", "key", "before", "found", "each"] 555 2 (vS "law_ji0015_02" 904)++(
 dfO (stOf pr 18) "_law_same" "_law_same" 570 970 ["elt", "found", "plain"] 566 3 (vS "law_ji0015_02" 904)++(
 dfO (stOf pr 19) "_law_next" "_law_next" 577 979 ["row", "plains", "plain", "found", "elt"] 570 2 (vS "law_ji0015_02" 904)++(
 dfO (stOf pr 20) "_law_prev" "_law_prev" 584 990 ["row", "plains", "plain", "found", "elt"] 579 2 (vS "law_ji0015_02" 904)++(
 dfO (stOf pr 21) "_law_seek" "_law_seek" 591 1001 ["row", "kind", "rest", "cursor", "key"] 588 3 (vS "law_ji0015_02" 904)++(
 dfO (stOf pr 22) "_law_cursors" "_law_cursors" 598 1012 ["tree", "home", "first", "second"] 604 2 (vS "law_ji0015_02" 904)++(
 dfO (stOf pr 23) "_law_change" "_law_change" 605 1022 ["trees", "plains", "rows", "row", "kind", "rest", "value", "home", "tree", "plain", "each", "side", "key", "before", "held", "gone"] 609 7 (vS "law_ji0015_02" 904)++(
 dfO (stOf pr 24) "_law_deed" "_law_deed" 612 1044 ["trees", "plains", "rows", "number", "value", "kind", "arg", "rest", "row", "step", "young"] 637 5 (vS "law_ji0015_02" 904)++(
 dfO (stOf pr 25) "_law_sweep" "_law_sweep" 619 1061 ["cursor", "plain", "key"] 666 2 (vS "law_ji0015_02" 904)++(
 dfO (stOf pr 26) "law" "law" 626 1070 ["script", "first", "t", "tree", "plain", "fill", "order", "start", "stride", "spread", "step", "key", "trees", "plains", "rows", "place", "row"] 677 1 (vS "law_ji0015_02" 904)))))))))))))))))
def S0(P:Params):List Obj:=patch 0 [(2,.mk .none none (.dict (arr []) 0) (arr [])),
 (3,.mk (.type "dict") none (.dict (arr [eN P "__name__" 165 (vS "__main__" 164),eN P "__doc__" 166 .none,eN P "__package__" 167 .none,eN P "__loader__" 168 (.builtin "__main__.__loader__#opaque"),eN P "__spec__" 169 .none,eN P "__annotations__" 170 (vR 6),eN P "__builtins__" 171 (vR 4),eN P "__file__" 173 (vS "/claim/cut.py" 172),eN P "__cached__" 174 .none]) 9) (arr [])),
 (12,.mk .none none (.fields (arr [])) (arr []))] (F0 P)
def S1(P:Params):List Obj:=patch 0 [(2,.mk .none none (.dict (arr []) 0) (arr [])),
 (3,.mk (.type "dict") none (.dict (arr [eN P "__name__" 165 (vS "dns.btree" 194),eN P "__doc__" 166 .none,eN P "__package__" 167 .none,eN P "__loader__" 168 (.builtin "__main__.__loader__#opaque"),eN P "__spec__" 169 .none,eN P "__annotations__" 170 (vR 6),eN P "__builtins__" 171 (vR 4),eN P "__file__" 173 (vS "/claim/cut.py" 172),eN P "__cached__" 174 .none,eN P "_wall" 193 (vR 21),eN P "DEFAULT_T" 197 (vI 127 196),eN P "Element" 224 (vR 38),eN P "_MIN" 231 (vR 49),eN P "_MAX" 238 (vR 56),eN P "_Creator" 258 (vR 66)]) 15) (arr [])),
 (12,.mk .none none (.fields (arr [(vI 1 0),(vI 0 0),(vR 20),(vI 6 0),(vI 0 0),(vR 27),(vI 10 0),(vI 0 0),(vR 48),(vI 12 0),(vI 0 0),(vR 55),(vI 14 0),(vI 0 0),(vR 62)])) (arr [])),
 (38,.mk (.type "type") none (.cls { name:=Str.ofString "Element",bases:=[(.type "object")],mro:=[(vR 38),(.type "object")],ns:=37,qualname:=Str.ofString "Element",subclasses:=[] }) (arr [none,none,(some (vS "Element" 198)),(some (vS "Element" 206)),(some (.builtin "object.__new__")),(some (.bool true))]))] (F0 P++(F1 P))
def S2(P:Params):List Obj:=patch 0 [(2,.mk .none none (.dict (arr []) 0) (arr [])),
 (3,.mk (.type "dict") none (.dict (arr [eN P "__name__" 165 (vS "dns.btree" 194),eN P "__doc__" 166 .none,eN P "__package__" 167 .none,eN P "__loader__" 168 (.builtin "__main__.__loader__#opaque"),eN P "__spec__" 169 .none,eN P "__annotations__" 170 (vR 6),eN P "__builtins__" 171 (vR 4),eN P "__file__" 173 (vS "/claim/cut.py" 172),eN P "__cached__" 174 .none,eN P "_wall" 193 (vR 21),eN P "DEFAULT_T" 197 (vI 127 196),eN P "Element" 224 (vR 38),eN P "_MIN" 231 (vR 49),eN P "_MAX" 238 (vR 56),eN P "_Creator" 258 (vR 66),eN P "_Node" 507 (vR 234)]) 16) (arr [])),
 (12,.mk .none none (.fields (arr [(vI 1 0),(vI 0 0),(vR 20),(vI 6 0),(vI 0 0),(vR 27),(vI 10 0),(vI 0 0),(vR 48),(vI 12 0),(vI 0 0),(vR 55),(vI 14 0),(vI 0 0),(vR 62),(vI 16 0),(vI 0 0),(vR 76)])) (arr [])),
 (38,.mk (.type "type") none (.cls { name:=Str.ofString "Element",bases:=[(.type "object")],mro:=[(vR 38),(.type "object")],ns:=37,qualname:=Str.ofString "Element",subclasses:=[] }) (arr [none,none,(some (vS "Element" 198)),(some (vS "Element" 206)),(some (.builtin "object.__new__")),(some (.bool true))]))] (F0 P++(F1 P++(F2 P)))
def S3(P:Params):List Obj:=patch 0 [(3,.mk (.type "dict") none (.dict (arr [eN P "__name__" 165 (vS "dns.btree" 194),eN P "__doc__" 166 .none,eN P "__package__" 167 .none,eN P "__loader__" 168 (.builtin "__main__.__loader__#opaque"),eN P "__spec__" 169 .none,eN P "__annotations__" 170 (vR 6),eN P "__builtins__" 171 (vR 4),eN P "__file__" 173 (vS "/claim/cut.py" 172),eN P "__cached__" 174 .none,eN P "_wall" 193 (vR 21),eN P "DEFAULT_T" 197 (vI 127 196),eN P "Element" 224 (vR 38),eN P "_MIN" 231 (vR 49),eN P "_MAX" 238 (vR 56),eN P "_Creator" 258 (vR 66),eN P "_Node" 507 (vR 234),eN P "Cursor" 624 (vR 326),eN P "Immutable" 644 (vR 340)]) 18) (arr [])),
 (12,.mk .none none (.fields (arr [(vI 1 0),(vI 0 0),(vR 20),(vI 6 0),(vI 0 0),(vR 27),(vI 10 0),(vI 0 0),(vR 48),(vI 12 0),(vI 0 0),(vR 55),(vI 14 0),(vI 0 0),(vR 62),(vI 16 0),(vI 0 0),(vR 76),(vI 256 0),(vI 0 0),(vR 244),(vI 416 0),(vI 0 0),(vR 336)])) (arr [])),
 (38,.mk (.type "type") none (.cls { name:=Str.ofString "Element",bases:=[(.type "object")],mro:=[(vR 38),(.type "object")],ns:=37,qualname:=Str.ofString "Element",subclasses:=[] }) (arr [none,none,(some (vS "Element" 198)),(some (vS "Element" 206)),(some (.builtin "object.__new__")),(some (.bool true))]))] (F0 P++(F1 P++(F2 P++(F3 P))))
def S4(P:Params):List Obj:=patch 0 [(3,.mk (.type "dict") none (.dict (arr [eN P "__name__" 165 (vS "dns.btree" 194),eN P "__doc__" 166 .none,eN P "__package__" 167 .none,eN P "__loader__" 168 (.builtin "__main__.__loader__#opaque"),eN P "__spec__" 169 .none,eN P "__annotations__" 170 (vR 6),eN P "__builtins__" 171 (vR 4),eN P "__file__" 173 (vS "/claim/cut.py" 172),eN P "__cached__" 174 .none,eN P "_wall" 193 (vR 21),eN P "DEFAULT_T" 197 (vI 127 196),eN P "Element" 224 (vR 38),eN P "_MIN" 231 (vR 49),eN P "_MAX" 238 (vR 56),eN P "_Creator" 258 (vR 66),eN P "_Node" 507 (vR 234),eN P "Cursor" 624 (vR 326),eN P "Immutable" 644 (vR 340),eN P "BTree" 789 (vR 453),eN P "KV" 844 (vR 502)]) 20) (arr [])),
 (12,.mk .none none (.fields (arr [(vI 1 0),(vI 0 0),(vR 20),(vI 6 0),(vI 0 0),(vR 27),(vI 10 0),(vI 0 0),(vR 48),(vI 12 0),(vI 0 0),(vR 55),(vI 14 0),(vI 0 0),(vR 62),(vI 16 0),(vI 0 0),(vR 76),(vI 256 0),(vI 0 0),(vR 244),(vI 416 0),(vI 0 0),(vR 336),(vI 418 0),(vI 0 0),(vR 349),(vI 502 0),(vI 0 0),(vR 463)])) (arr [])),
 (453,.mk (.type "type") none (.cls { name:=Str.ofString "BTree",bases:=[(.type "object")],mro:=[(vR 453),(.type "object")],ns:=452,qualname:=Str.ofString "BTree",subclasses:=[] }) (arr [none,none,(some (vS "BTree" 645)),(some (vS "BTree" 653)),(some (.builtin "object.__new__")),(some (.bool true))]))] (F0 P++(F1 P++(F2 P++(F3 P++(F4 P)))))
def S5(P:Params):List Obj:=F0 P++(F1 P++(F2 P++(F3 P++(F4 P++(F5 P)))))
noncomputable def frag:List Nat:=[2,3,15,17,18,20,21,29,31,32,34,35,36,37,38,39,40,43,45,46,48,49,50,52,53,55,56,64,65,66,67,68,78,80,81,83,84,85,87,88,90,91,92,94,95,97,98,99,101,102,104,105,106,108,109,111,112,113,115,116,118,119,120,122,123,125,126,127,129,130,132,133,134,136,137,139,140,141,143,144,146,147,148,150,151,153,154,155,157,158,160,161,162,164,165,167,168,169,171,172,174,175,176,178,179,181,182,183,185,186,188,189,190,192,193,195,196,197,199,200,202,203,204,206,207,209,210,211,213,214,216,217,218,220,221,223,224,225,227,228,230,231,232,233,234,235,236,246,248,249,251,252,253,255,256,258,259,260,262,263,265,266,267,269,270,272,273,274,276,277,279,280,281,283,284,286,287,288,290,291,293,294,295,297,298,300,301,302,303,305,306,308,309,310,312,313,315,316,317,319,320,322,323,324,325,326,327,328,331,338,339,340,341,351,352,354,355,357,358,359,361,362,364,365,366,368,369,371,372,373,374,376,377,379,380,381,383,384,386,387,388,390,391,393,394,395,397,398,400,401,402,404,405,407,408,409,411,412,414,415,416,418,419,421,422,423,425,426,428,429,430,432,433,435,436,437,439,440,442,443,444,446,447,449,450,451,452,453,454,455,458,465,467,468,470,471,472,474,475,477,478,479,481,482,484,485,486,488,489,491,492,493,495,496,498,499,500,501,502,505,508,513,514,515,517,518,520,521,522,524,525,527,528,529,531,532,534,535,536,538,539,541,542,543,544,545,548,549,551,552,554,555,556,558,559,561,562,563,565,566,568,569,570,572,573,575,576,577,579,580,582,583,584,586,587,589,590,591,593,594,596,597,598,600,601,603,604,605,607,608,610,611,612,614,615,617,618,619,621,622,624,625,626,628,629,631,632]
def KF(P:Params):Frag:=selF frag 0 (S5 P)
def gr0:List Stmt:=((behindTheImports pr).drop 0).take 7
def gr1:List Stmt:=((behindTheImports pr).drop 7).take 1
def gr2:List Stmt:=((behindTheImports pr).drop 8).take 2
def gr3:List Stmt:=((behindTheImports pr).drop 10).take 2
def gr4:List Stmt:=((behindTheImports pr).drop 12).take 15
theorem pre_q(w:World)(os:OsState):PySem.W.Fast.tw3783638055088507396 pr w 12 ⟨boot_heap w.params,#[],boot_drawn,boot_toks,os⟩=some ((stT (S0 w.params) 15 187 os).abs,PySem.W.Fast.tw11515251851358646731 pr):=by kernel_rfl
theorem pc_0(w:World)(os:OsState):PySem.W.Fast.tw10875157124080562977 pr w 516 (stT (S0 w.params) 15 187 os) gr0 ⟨0,0,0,0⟩=some (.next,stT (S1 w.params) 71 259 os,codeOfP pr,⟨14,0,15,8⟩):=by kernel_rfl
theorem pc_1(w:World)(os:OsState):PySem.W.Fast.tw10875157124080562977 pr w 947 (stT (S1 w.params) 71 259 os) gr1 ⟨14,0,15,8⟩=some (.next,stT (S2 w.params) 239 508 os,codeOfP pr,⟨16,0,255,21⟩):=by kernel_rfl
theorem pc_2(w:World)(os:OsState):PySem.W.Fast.tw10875157124080562977 pr w 748 (stT (S2 w.params) 239 508 os) gr2 ⟨16,0,255,21⟩=some (.next,stT (S3 w.params) 344 645 os,codeOfP pr,⟨416,0,417,8⟩):=by kernel_rfl
theorem pc_3(w:World)(os:OsState):PySem.W.Fast.tw10875157124080562977 pr w 1034 (stT (S3 w.params) 344 645 os) gr3 ⟨416,0,417,8⟩=some (.next,stT (S4 w.params) 505 845 os,codeOfP pr,⟨502,0,518,48⟩):=by kernel_rfl
theorem pc_4(w:World)(os:OsState):PySem.W.Fast.tw10875157124080562977 pr w 849 (stT (S4 w.params) 505 845 os) gr4 ⟨502,0,518,48⟩=some (.next,stT (S5 w.params) 633 1093 os,codeOfP pr,⟨677,0,708,44⟩):=by kernel_rfl
def vw:Program:=view pr [0,2,3,4,5,6,7,8,9,10,11,12,14,15,16,17,18,19,20,21,22,23,24,25,26]
noncomputable def looseL:List Str:=[Str.ofString "BTree",Str.ofString "BTreeDict"]
noncomputable abbrev rr:RowW:=PySem.Challenge.rw_ji0015_02.row.toRowW
def hL(P:Params):Heap:=⟨arr (S5 P),{}⟩
def hE(P:Params):Heap:=absHeap (mkT 11 (S5 P)) 633 {}
theorem hEL:hE=hL:=funext λP=>by kernel_rfl
def sE(w:World)(os:OsState):Shared:=⟨hL w.params,#[],{},1093,os⟩
theorem look_q(w:World)(os:OsState):PySem.W.Fast.tw9602040860108364189 rr vw looseL (sE w os)=PySem.W.Fast.tw219910460743758431 vw looseL:=by kernel_rfl
theorem flag_q(w:World)(os:OsState):PySem.W.Fast.tw13568146435633227408 pr (boot_heap w.params) (sE w os)=true:=by kernel_rfl
theorem frag_q(P:Params):frag=(KF P).map (·.1):=by kernel_rfl
theorem obs_q(P:Params):frag.map (hL P).get?=(KF P).map λp=>some p.2:=by kernel_rfl
theorem size_q(w:World):((boot_heap w.params).isNs mainGlobals&&(#[]:Array GenState).size==0,(boot_heap w.params).objs.size,(boot_heap w.params).nsMap mainGlobals "__annotations__")=(true,11,some (.ref 6)):=by kernel_rfl
theorem body_q:behindTheImports pr=gr0++(gr1++(gr2++(gr3++(gr4++[])))):=by kernel_rfl
theorem run_q(w:World)(os:OsState):topRun treeTable pr w 11 (some (.ref 6)) (12+(1+(516+(947+(748+(1034+(849+2))))))) ⟨boot_heap w.params,#[],boot_drawn,boot_toks,os⟩ (topStub pr)=some ⟨hE w.params,#[],{},1093,os⟩:=by
 have e0:preP=PySem.W.Fast.tw3783638055088507396:=PySem.W.Fast.te3783638055088507396
 have e1:runP=PySem.W.Fast.tw10875157124080562977:=PySem.W.Fast.te10875157124080562977
 have e2:startP=PySem.W.Fast.tw11515251851358646731:=PySem.W.Fast.te11515251851358646731
 have h0:=pre_q w os
 rw[<-e0,<-e2] at h0
 refine go_top h0 (piece_block (s':=(stT (S0 w.params) 15 187 os).abs) (c:=codeOfP pr) (p':=⟨0,0,0,0⟩) (by rfl) ?_)
 rw[body_q]
 have h:=pc_0 w os
 rw[<-e1] at h
 refine piece_app (segRun_of h) ?_
 clear h
 have h:=pc_1 w os
 rw[<-e1] at h
 refine piece_app (segRun_of h) ?_
 clear h
 have h:=pc_2 w os
 rw[<-e1] at h
 refine piece_app (segRun_of h) ?_
 clear h
 have h:=pc_3 w os
 rw[<-e1] at h
 refine piece_app (segRun_of h) ?_
 clear h
 have h:=pc_4 w os
 rw[<-e1] at h
 refine piece_app (segRun_of h) ?_
 clear h
 exact piece_nil (by rfl)
theorem hK(P:Params):frag=(KF P).map (·.1):=frag_q P
theorem left:LeftO pr vw looseL (λs=>xlAt vw [] s&&recOk rr.records s) (kHook KF frag hK).obs (kHook KF frag hK).val 8000 :=
 LeftO.of_pieces (boot_open (by rfl) (by rfl) (λs=>rfl)) size_q run_q (by rfl) λw=>funext λos=>by
  have e3:lookP=PySem.W.Fast.tw9602040860108364189:=PySem.W.Fast.te9602040860108364189
  have e4:goodP=PySem.W.Fast.tw219910460743758431:=PySem.W.Fast.te219910460743758431
  have e5:flagP=PySem.W.Fast.tw13568146435633227408:=PySem.W.Fast.te13568146435633227408
  have h1:=look_q w os
  have h2:=flag_q w os
  rw[<-e3,<-e4] at h1
  rw[<-e5] at h2
  rw[hEL]
  exact Prod.ext h2 (Prod.ext h1 (obs_q w.params))
end
structure E where
 a:Nat
 k:Int
 v:Int
noncomputable def E.r(e:E):V:=.ref e.a
def xG(l:List E):List V:=l.map E.r
noncomputable def refs(l:List Nat):List V:=l.map .ref
noncomputable def pos(k:Int):List E->Nat
 | []=>0
 | e::r=>if e.k<k then pos k r+1 else 0
def hit(k:Int)(es:List E):Bool:=match es[pos k es]? with
 | some e=>decide (e.k=k)
 | none=>false
def bw(es:List E):Prop:=es.Pairwise λx y=>x.k<y.k
inductive Tr where
 | nd (a:Nat) (o:Bool) (es:List E) (ks:List Tr)
noncomputable def Tr.a:Tr->Nat
 | .nd a _ _ _=>a
abbrev CL:=List (Nat × Cell)
inductive Kd where
 | nd (a d le lc T c:Nat) (lf:Bool) (es:List E) (ks:List Nat)
 | ob (a c d:Nat) (fs:Loc)
 | ce (a:Nat) (c:Cell)
inductive Th where
 | mt
 | raw (l:CL)
 | k (w:Bool) (t:Kd)
 | stk (a:Nat) (xs:List (Nat × Int))
 | tr (T c:Nat) (t:Tr)
 | trs (T c:Nat) (ts:List Tr)
noncomputable abbrev zO(a c d:Nat)(fs:Loc):Th:=.k true (.ob a c d fs)
noncomputable abbrev zN(a d le lc T c:Nat)(lf:Bool)(es:List E)(ks:List Nat):Th:=.k true (.nd a d le lc T c lf es ks)
noncomputable abbrev zC(a:Nat)(c:Cell):Th:=.k true (.ce a c)
noncomputable abbrev zL(a:Nat)(xs:List V):Th:=.k true (.ce a (.list xs))
noncomputable abbrev zT(a:Nat)(xs:List V):Th:=.k true (.ce a (.tup xs))
noncomputable abbrev zD(a:Nat)(es:List (Int × V)):Th:=.k true (.ce a (.dict es))
noncomputable def Mp(T c:Nat)(lf:Bool)(le lc:Nat):Loc:=[(1,.int T),(2,.ref c),(3,.bool lf),(4,.ref le),(5,.ref lc)]
def cl:Kd->CL
 | .nd a d le lc T c lf es ks=>[(a,.inst 2 d),(d,.ns (Mp T c lf le lc)),(le,.list (xG es)),(lc,.list (refs ks))]
 | .ob a c d fs=>[(a,.inst c d),(d,.ns fs)]
 | .ce a c=>[(a,c)]
def aQ(F:CL)(e:E):Prop:=∃d,∀p∈cl (.ob e.a 6 d [(6,.int e.k),(7,.int e.v)]),p∈F
def ql(F:CL):Kd->Prop
 | .nd _ _ _ _ _ _ _ es _=>∀e∈es,aQ F e
 | _=>True
def J3(F:CL)(w:Bool)(t:Kd)(l:CL):Prop:=(match w with|true=>l=cl t|false=>l=[]/\∀p∈cl t,p∈F)/\ql F t
def cI(F:CL)(c:Nat):Prop:=∃d,∀p∈cl (.ob c 1 d []),p∈F
structure Own(F:CL)(c c':Nat)(o:Bool):Prop where
 y:o=true->c'=c
 n:o=false->c'≠c
 cr:cI F c'
noncomputable def iY:List Nat->List (Nat × Int)->CL
 | q::qs,x::xs=>(q,.tup [.ref x.1,.int x.2])::iY qs xs
 | _,_=>[]
mutual
def tree(F:CL)(T c:Nat):Tr->CL->Prop
 | .nd a o es ks,l=>∃d le lc c' l1 l2,l=l1++l2/\J3 F o (.nd a d le lc T c' ks.isEmpty es (ks.map Tr.a)) l1/\Own F c c' o/\trees F T c ks l2
def trees(F:CL)(T c:Nat):List Tr->CL->Prop
 | [],l=>l=[]
 | k::ks,l=>∃l1 l2,l=l1++l2/\tree F T c k l1/\trees F T c ks l2
end
def th(F:CL):Th->CL->Prop
 | .mt,l=>l=[]
 | .raw r,l=>l=r
 | .k w t,l=>J3 F w t l
 | .stk a xs,l=>∃qs:List Nat,qs.length=xs.length/\l=(a,.list (refs qs))::iY qs xs
 | .tr T c t,l=>tree F T c t l
 | .trs T c ts,l=>trees F T c ts l
def Al(F:CL):List Th->List CL->Prop
 | [],[]=>True
 | t::A,l::ls=>th F t l/\Al F A ls
 | _,_=>False
structure Holds(H:AH)(L:CL):Prop where
 nd:(L.map (·.1)).Nodup
 at_:∀p∈L,H p.1=some p.2
def Sat(A:List Th)(F:CL)(H:AH):Prop:=∃ls,Al F A ls/\Holds H (ls.flatten++F)
noncomputable def at'{α:Type}:List α->Nat->Option α
 | [],_=>none
 | x::_,0=>some x
 | _::r,t+1=>at' r t
noncomputable def cJ{α:Type}:List α->Nat->α->List α
 | [],_,_=>[]
 | _::r,0,y=>y::r
 | x::r,t+1,y=>x::cJ r t y
noncomputable def rm:List Th->Nat->Option (Th × List Th)
 | [],_=>none
 | x::r,0=>some (x,r)
 | x::r,t+1=>match rm r t with
  | some (y,q)=>some (y,x::q)
  | none=>none
def pick:List Nat->List Th->Option (List Th × List Th)
 | [],A=>some ([],A)
 | i::is,A=>match rm A i with
  | some (x,r)=>match pick is r with
   | some (B,R)=>some (x::B,R)
   | none=>none
  | none=>none
theorem Holds.perm(h:Holds H L)(p:L.Perm L'):Holds H L':=⟨(p.map _).nodup_iff.mp h.nd,λq hq=>h.at_ q (p.mem_iff.mpr hq)⟩
theorem Holds.sub(h:Holds H L)(p:L'.Sublist L):Holds H L':=⟨h.nd.sublist (p.map _),λq hq=>h.at_ q (p.subset hq)⟩
theorem Holds.new(h:Holds H L)(ha:H a=none)(c:Cell):Holds (upd H a c) ((a,c)::L):=by
 have hn:∀p∈L,p.1≠a:=λp hp e=>by have:=h.at_ p hp;rw[e,ha] at this;cases this
 refine⟨List.nodup_cons.mpr ⟨λq=>?_,h.nd⟩,λp hp=>?_⟩
 ·obtain⟨p,hp,e⟩:=List.mem_map.mp q;exact hn p hp e
 ·rcases RJ.mp hp with rfl|hp
  ·exact jh _ _ _
  ·rw[fX _ _ (hn p hp)];exact h.at_ p hp
theorem Holds.set(h:Holds H (A++(a,c)::B))(c':Cell):Holds (upd H a c') (A++(a,c')::B):=by
 have h':=h.perm List.perm_middle
 have hn:=(List.nodup_cons.mp h'.nd).1
 refine Holds.perm (L:=(a,c')::(A++B)) ⟨List.nodup_cons.mpr ⟨hn,(List.nodup_cons.mp h'.nd).2⟩,λp hp=>?_⟩ List.perm_middle.symm
 rcases RJ.mp hp with rfl|hp
 ·exact jh _ _ _
 ·rw[fX _ _ (λe=>hn (List.mem_map.mpr ⟨p,hp,e⟩))];exact h'.at_ p (List.mem_cons_of_mem _ hp)
section
variable{F:CL}{A B:List Th}{H:AH}
theorem Al.app:∀{A:List Th} {ls ls':List CL},Al F A ls->Al F B ls'->Al F (A++B) (ls++ls')
 | [],[],_,_,h=>h
 | [],_::_,_,h,_=>h.elim
 | _::_,[],_,h,_=>h.elim
 | _::_,_::_,_,h,g=>⟨h.1,h.2.app g⟩
theorem Al.split:∀{A:List Th} {ls:List CL},Al F (A++B) ls->∃l1 l2,ls=l1++l2/\Al F A l1/\Al F B l2
 | [],ls,h=>⟨[],ls,rfl,trivial,h⟩
 | _::_,[],h=>h.elim
 | _::A,l::ls,h=>by
  obtain⟨l1,l2,h1,h2,h3⟩:=Al.split (A:=A) h.2
  exact⟨l::l1,l2,by rw[h1];rfl,⟨h.1,h2⟩,h3⟩
theorem Al.at:∀{A:List Th} {n:Nat} {ls:List CL},at' A n=some t->Al F A ls->∃B l C,ls=B++l::C/\th F t l/\∀t' l',th F t' l'->Al F (cJ A n t') (B++l'::C)
 | [],_,_,h,_=>aV h
 | _::_,_,[],_,g=>g.elim
 | _::A,0,l::ls,h,g=>by
  cases h
  exact⟨[],l,ls,rfl,g.1,λt' l' q=>⟨q,g.2⟩⟩
 | _::A,n+1,l::ls,h,g=>by
  obtain⟨B,l',C,h1,h2,h3⟩:=Al.at (A:=A) (n:=n) h g.2
  exact⟨l::B,l',C,by rw[h1];rfl,h2,λt' l' q=>⟨g.1,h3 t' l' q⟩⟩
theorem dw(B C:List CL)(l:CL):((B++l::C).flatten).Perm (l++(B++C).flatten):=by
 rw[Rb,Ri,Rb]
 exact QG _ _ _
theorem Sat.at(S:Sat A F H)(h:at' A n=some t):∃l r,th F t l/\Holds H (l++(r++F))/\∀t' l' H',th F t' l'->Holds H' (l'++(r++F))->Sat (cJ A n t') F H':=by
 obtain⟨ls,h1,h2⟩:=S
 obtain⟨B,l,C,rfl,h3,h4⟩:=h1.at h
 refine⟨l,(B++C).flatten,h3,?_,λt' l' H' q1 q2=>⟨_,h4 t' l' q1,?_⟩⟩
 ·rw[<-Rg];exact h2.perm ((dw B C l).append_right F)
 ·rw[<-Rg] at q2;exact q2.perm ((dw B C l').symm.append_right F)
theorem Sat.cons(h:th F t l)(g:Al F A r)(q:Holds H (l++(r.flatten++F))):Sat (t::A) F H:=⟨l::r,⟨h,g⟩,by rw[Ri,Rg];exact q⟩
theorem Sat.kd(S:Sat A F H)(h:at' A n=some (.k w t)):(∀p∈cl t,H p.1=some p.2)/\ql F t:=by
 obtain⟨l,r,h1,h2,_⟩:=S.at h
 obtain⟨h1,h3⟩:=h1
 refine⟨λp hp=>?_,h3⟩
 cases w with
 | true=>exact h2.at_ p (Q9 _ (h1▸hp))
 | false=>exact h2.at_ p (QZ _ (QZ _ (h1.2 p hp)))
theorem Sat.fz(S:Sat A F H)(h:p∈F):H p.1=some p.2:=by
 obtain⟨ls,_,h2⟩:=S
 exact h2.at_ p (QZ _ h)
theorem Sat.set(S:Sat A F H)(h:at' A n=some (.k true t))(h1:cl t=X++(a,c)::Y)(h2:cl t'=X++(a,c')::Y)(h3:ql F t->ql F t'):Sat (cJ A n (.k true t')) F (upd H a c'):=by
 obtain⟨l,r,⟨q1,q2⟩,q3,q4⟩:=S.at h
 have q1:l=cl t:=q1
 refine q4 _ (cl t') _ ⟨rfl,h3 q2⟩ ?_
 rw[q1,h1,Rg,Rq] at q3
 rw[h2,Rg,Rq]
 exact q3.set c'
theorem Sat.new(S:Sat A F H)(ha:H a=none)(c:Cell):Sat (.k true (.ce a c)::A) F (upd H a c):=by
 obtain⟨ls,h1,h2⟩:=S
 exact Sat.cons (t:=.k true (.ce a c)) (l:=[(a,c)]) ⟨rfl,trivial⟩ h1 (h2.new ha c)
theorem Sat.Nb(S:Sat A F H)(hn:a≠d)(ha:H a=none)(hd:H d=none):Sat (.k true (.ob a c d [])::A) F (upd (upd H d (.ns [])) a (.inst c d)):=by
 obtain⟨ls,h1,h2⟩:=S
 exact Sat.cons (t:=.k true (.ob a c d [])) (l:=[(a,.inst c d),(d,.ns [])]) ⟨rfl,trivial⟩ h1 ((h2.new hd (.ns [])).new (by rw[fX _ _ hn];exact ha) (.inst c d))
set_option tactic.hygienic true in
theorem Fd:∀{A A':List Th} {n:Nat} {ls:List CL},rm A n=some (t,A')->Al F A ls->∃l ls',ls.flatten.Perm (l++ls'.flatten)/\th F t l/\Al F A' ls'
 | [],_,_,_,h,_=>aV h
 | _::_,_,_,[],_,g=>g.elim
 | x::A,A',0,l::ls,h,g=>by
  cases h
  exact⟨l,ls,RG _,g.1,g.2⟩
 | x::A,A',n+1,l::ls,h,g=>by
  have h:(match rm A n with|some (y,q)=>some (y,x::q)|none=>none)=some (t,A'):=h
  split at h
  ·rename_i y q hp
   cases h
   obtain⟨l',ls',h1,h2,h3⟩:=Fd (A:=A) hp g.2
   refine⟨l',l::ls',?_,h2,⟨g.1,h3⟩⟩
   rw[Ri,Ri]
   exact(h1.append_left l).trans (QG _ _ _)
  ·exact aV h
set_option tactic.hygienic true in
theorem jr:∀{is:List Nat} {A B R:List Th} {ls:List CL},pick is A=some (B,R)->Al F A ls->∃l1 l2,ls.flatten.Perm (l1.flatten++l2.flatten)/\Al F B l1/\Al F R l2
 | [],A,B,R,ls,h,g=>by
  cases h
  exact⟨[],ls,RG _,trivial,g⟩
 | i::is,A,B,R,ls,h,g=>by
  have h:(match rm A i with|some (x,r)=>(match pick is r with|some (B,R)=>some (x::B,R)|none=>none)|none=>none)=some (B,R):=h
  split at h
  ·rename_i x r hp
   split at h
   ·rename_i B' R' hq
    cases h
    obtain⟨l,ls',h1,h2,h3⟩:=Fd hp g
    obtain⟨l1,l2,h4,h5,h6⟩:=jr hq h3
    refine⟨l::l1,l2,?_,⟨h2,h5⟩,h6⟩
    rw[Ri,Rg]
    exact h1.trans (h4.append_left l)
   ·exact aV h
  ·exact aV h
end
def Vw(F:CL)(A A':List Th):Prop:=∀H,Sat A F H->Sat A' F H
def Ent(F:CL)(B B':List Th):Prop:=∀ls,Al F B ls->∃ls',Al F B' ls'/\ls.flatten.Perm ls'.flatten
theorem Vw.pk(is:List Nat)(h:pick is A=some (B,R))(e:Ent F B B'):Vw F A (B'++R):=λH S=>by
 obtain⟨ls,h1,h2⟩:=S
 obtain⟨l1,l2,p,g1,g2⟩:=jr h h1
 obtain⟨l3,g3,p2⟩:=e l1 g1
 refine⟨l3++l2,g3.app g2,?_⟩
 rw[Rb]
 exact h2.perm ((p.trans (p2.append_right _)).append_right F)
theorem Ent.refl(F:CL)(B:List Th):Ent F B B:=λls h=>⟨ls,h,RG _⟩
theorem Vw.keep(is:List Nat)(h:pick is A=some (B,R)):Vw F A B:=λH S=>by
 obtain⟨ls,h1,h2⟩:=S
 obtain⟨l1,l2,p,g1,g2⟩:=jr h h1
 refine⟨l1,g1,(h2.perm (p.append_right F)).sub ?_⟩
 rw[Rg]
 exact(List.sublist_append_right _ _).append_left _
theorem Vw.trans(h:Vw F A B)(g:Vw F B C):Vw F A C:=λH S=>g H (h H S)
theorem Vw.refl(F:CL)(A:List Th):Vw F A A:=λH S=>S
theorem Vw.fin(is:List Nat)(h:pick is A=some (B,R))(e:Ent F B B')(js:List Nat)(g:pick js (B'++R)=some (C,R')):Vw F A C:=(Vw.pk is h e).trans (Vw.keep js g)
structure Or where
 t:Nat
 n:Nat
 b:Bool
 i:Int
 e:E
 es:List E
 ks:List Nat
 u:V
 us:List V
 xs:List (Nat × Int)
noncomputable def e0:E:=⟨0,0,0⟩
def oI(n:Nat):Or:=⟨0,n,true,0,e0,[],[],.none,[],[]⟩
def oE(n:Nat):Or:=⟨4,n,true,0,e0,[],[],.none,[],[]⟩
def oK(n:Nat):Or:=⟨5,n,true,0,e0,[],[],.none,[],[]⟩
def oC:Or:=⟨3,0,true,0,e0,[],[],.none,[],[]⟩
def bM:Or:=⟨1,0,true,0,e0,[],[],.none,[],[]⟩
def oB(b:Bool):Or:=⟨0,0,b,0,e0,[],[],.none,[],[]⟩
noncomputable def oe(e:E):Or:=⟨2,0,true,0,e,[],[],.none,[],[]⟩
def on(n:Nat):Or:=⟨0,n,true,0,e0,[],[],.none,[],[]⟩
def ov(u:V):Or:=⟨0,0,true,0,e0,[],[],u,[],[]⟩
noncomputable def Hl(e:E)(es:List E):Or:=⟨0,0,true,0,e,es,[],.none,[],[]⟩
def Mq(n:Nat)(ks:List Nat):Or:=⟨0,n,true,0,e0,[],ks,.none,[],[]⟩
def O5(n:Nat)(i:Int)(xs:List (Nat × Int)):Or:=⟨0,n,true,i,e0,[],[],.none,[],xs⟩
def Mr(es:List E):Or:=⟨0,0,true,0,e0,es,[],.none,[],[]⟩
def Nf(ks:List Nat):Or:=⟨0,0,true,0,e0,[],ks,.none,[],[]⟩
def oR(n:Nat):Or:=⟨0,n,true,0,e0,[],[],.ref n,[],[]⟩
def oX(e:E):Or:=⟨0,e.a,true,0,e,[],[],e.r,[],[]⟩
structure St where
 A:List Th
 F:CL
 o:List Or
noncomputable def Qd:List Or->Bool
 | h::_=>Nat.beq h.t 2
 | []=>false
noncomputable def stp:List Or->Bool
 | h::_=>Nat.beq h.t 1
 | []=>false
inductive Rs where
 | ob (n:Nat) (w:Bool) (c:Nat) (fs:Loc)
 | el (n:Nat) (w:Bool) (es:List E)
 | kd (n:Nat) (w:Bool) (ks:List Nat)
 | ce (n:Nat) (w:Bool) (c:Cell)
 | stk (n:Nat) (xs:List (Nat × Int))
 | ct (c:Nat)
abbrev lM:=List (List CS)
abbrev KS:=Fl->Loc->List Th->CL->Prop
abbrev KV:=V->List Th->CL->Prop
abbrev KE:=V->St->Prop
abbrev KB:=Bool->St->Prop
structure KK where
 k:KE
 d:Option KV
section
variable(Γ:bI)
def aj(rs:lM)(m:Loc)(A:List Th)(F:CL)(K:KS):Prop:=∀(H:AH) (Q:QS) (X:QY),Sat A F H->(∀f m' A' F' H',K f m' A' F'->Sat A' F' H'->Q f m' H')->gH Γ rs.flatten m H Q X
def gR(e:CE)(m:Loc)(A:List Th)(F:CL)(K:KV):Prop:=∀(H:AH) (Q:QV) (X:QX),Sat A F H->(∀v A' F' H',K v A' F'->Sat A' F' H'->Q v H')->DE Γ m e H Q X
def au(f:Nat)(us:List V)(A:List Th)(F:CL)(K:KV):Prop:=∀(H:AH) (Q:QV) (X:QX),Sat A F H->(∀v A' F' H',K v A' F'->Sat A' F' H'->Q v H')->Γ f us H Q X
def bF(x:Nat)(rs:lM)(m:Loc)(K:KS):KV:=λv A F=>aj Γ rs (put m x v) A F K
noncomputable def bx(rs:lM)(m:Loc)(K:KS):KV:=λ_ A F=>aj Γ rs m A F K
noncomputable def dY(m:Loc)(K:KS):KV:=λv A F=>K (.ret v) m A F
noncomputable def jt(a b:lM)(m:Loc)(K:KS):KV:=λv A F=>match v with
 | .bool true=>aj Γ a m A F K
 | .bool false=>aj Γ b m A F K
 | .none=>aj Γ b m A F K
 | _=>False
end
def Need{α:Type}(x:α):Prop:=False
def opt{α:Type}(o:Option α)(f:α->Prop):Prop:=match o with
 | some x=>f x
 | none=>False
def gd(b:Bool)(p:Prop):Prop:=match b with
 | true=>p
 | false=>False
def sel(b:Bool)(p q:Prop):Prop:=match b with
 | true=>p
 | false=>q
def int'(v:V)(f:Int->Prop):Prop:=match v with
 | .int i=>f i
 | _=>False
def ref'(v:V)(f:Nat->Prop):Prop:=match v with
 | .ref i=>f i
 | _=>False
def one'(us:List V)(f:V->Prop):Prop:=match us with
 | [x]=>f x
 | _=>False
def vL(us:List V)(f:V->V->Prop):Prop:=match us with
 | [x,y]=>f x y
 | _=>False
noncomputable def St.oo(st:St)(o:List Or):St:=⟨st.A,st.F,o⟩
noncomputable def St.to(st:St)(A:List Th):St:=⟨A,st.F,st.o⟩
noncomputable def St.add(st:St)(t:Th):St:=⟨t::st.A,st.F,st.o⟩
def hd{α:Type}(x:α)(st:St)(K:Or->St->Prop):Prop:=match st.o with
 | h::o=>K h (st.oo o)
 | []=>Need (x,st.A)
def Qe(n:Nat)(es:List E)(A:List Th):List Th:=match at' A n with
 | some (.k _ (.nd a d le lc T c lf _ ks))=>cJ A n (.k true (.nd a d le lc T c lf es ks))
 | _=>A
def Qf(n:Nat)(ks:List Nat)(A:List Th):List Th:=match at' A n with
 | some (.k _ (.nd a d le lc T c lf es _))=>cJ A n (.k true (.nd a d le lc T c lf es ks))
 | _=>A
def Mt(n:Nat)(x:Cell)(A:List Th):List Th:=match at' A n with
 | some (.k _ (.ce a _))=>cJ A n (.k true (.ce a x))
 | _=>A
def J4(n:Nat)(xs:List (Nat × Int))(A:List Th):List Th:=match at' A n with
 | some (.stk a _)=>cJ A n (.stk a xs)
 | _=>A
def Jx(F:CL)(v:V):Prop:=∃a,v=.ref a/\cI F a
def O6(h:Or)(w:Bool):Kd->Nat × Rs
 | .nd a d le lc T c lf es ks=>match Nat.beq h.t 4 with
  | true=>(le,.el h.n w es)
  | false=>match Nat.beq h.t 5 with
   | true=>(lc,.kd h.n w ks)
   | false=>(a,.ob h.n w 2 (Mp T c lf le lc))
 | .ob a c d fs=>(a,.ob h.n w c fs)
 | .ce a c=>(a,.ce h.n w c)
def O7(h:Or):Th->Option (Nat × Rs)
 | .k w t=>some (O6 h w t)
 | .stk a xs=>some (a,.stk h.n xs)
 | .tr _ _ t=>some (t.a,.ct 2)
 | _=>none
def rsX(v:V)(st:St)(K:Rs->St->Prop):Prop:=hd v st λh st=>sel (Nat.beq h.t 3) (Jx st.F v/\K (.ct 1) st) (opt (at' st.A h.n) λt=>opt (O7 h t) λp=>v=.ref p.1/\K p.2 st)
noncomputable def Rs.cls:Rs->Option Nat
 | .ob _ _ c _=>some c
 | .ct c=>some c
 | _=>none
noncomputable def Rs.fs:Rs->Option Loc
 | .ob _ _ _ fs=>some fs
 | _=>none
noncomputable def Rs.cell:Rs->Option Cell
 | .ce _ _ c=>some c
 | _=>none
noncomputable def Cell.tp:Cell->Option (List V)
 | .tup xs=>some xs
 | _=>none
noncomputable def Cell.dc:Cell->Option (List (Int × V))
 | .dict xs=>some xs
 | _=>none
noncomputable def Cell.ls:Cell->Option (List V)
 | .list xs=>some xs
 | _=>none
def ask(t:Bool)(st:St)(K:KB):Prop:=hd t st λh st=>t=h.b/\K h.b st
def newX(c:Cell)(st:St)(K:KE):Prop:=∀q,K (.ref q) (st.add (.k true (.ce q c)))
def xH(o:Nat)(u v:V)(st:St)(K:KE):Prop:=int' u λi=>int' v λj =>
 sel (Nat.beq o 0) (K (.int (i+j)) st)
 (sel (Nat.beq o 1) (K (.int (i - j)) st)
 (sel (Nat.beq o 2) ((i.natAbs<=1000000/\j.natAbs<=1000000)/\K (.int (i * j)) st)
 (sel (Nat.beq o 3) ((0<j/\j<1000000000)/\K (.int (i / j)) st)
 (gd (Nat.beq o 4) (0<j/\K (.int (i % j)) st)))))
def Ho(o:Nat)(u v:V)(st:St)(K:KE):Prop:=int' u λi=>int' v λj =>
 sel (Nat.beq o 0) (K (.int (i+j)) st)
 (gd (Nat.beq o 1) (K (.int (i - j)) st))
def vM(v:V)(st:St)(K:Nat->St->Prop):Prop:=rsX v st λr st=>opt r.cls λc=>K c st
noncomputable def some':V->Bool
 | .none=>false
 | _=>true
def Ng(u v:V)(st:St)(K:KB):Prop:=match v with
 | .none=>K (!some' u) st
 | .ref b=>ref' u λa=>vM (.ref a) st λ_ st=>vM (.ref b) st λ_ st=>K (Nat.beq a b) st
 | _=>False
def Nh(u v:V)(st:St)(K:KB):Prop:=match u with
 | .int i=>int' v λj=>K (decide (i=j)) st
 | .ref a=>ref' v λb=>vM u st λc st=>gd (Nat.beq c 2) (a=b/\K true st)
 | _=>False
def inX(u v:V)(st:St)(K:KB):Prop:=int' u λi=>rsX v st λr st=>opt r.cell λc=>opt c.dc λes=>K (bK es i).isSome st
def O8(u v:V)(st:St)(K:KB):Prop:=match u with
 | .int i=>rsX v st λr st=>opt r.cell λc=>opt c.dc λes=>K (bK es i).isNone st
 | .ref _=>rsX v st λr st=>opt r.cell λc=>opt c.ls λxs=>match xs with
  | []=>K true st
  | _::_=>False
 | _=>False
def J5(o:Nat)(u v:V)(st:St)(K:KB):Prop:=int' u λi=>int' v λj =>
 sel (Nat.beq o 2) (K (decide (i<j)) st)
 (sel (Nat.beq o 3) (K (decide (i<=j)) st)
 (sel (Nat.beq o 4) (K (decide (j<i)) st)
 (gd (Nat.beq o 5) (K (decide (j<=i)) st))))
def lN(o:Nat)(u v:V)(st:St)(K:KB):Prop :=
 sel (Nat.beq o 0) (Nh u v st K)
 (sel (Nat.beq o 1) (Nh u v st λt=>K (!t))
 (sel (Nat.beq o 6) (Ng u v st K)
 (sel (Nat.beq o 7) (Ng u v st λt=>K (!t))
 (sel (Nat.beq o 8) (inX u v st K)
 (sel (Nat.beq o 9) (O8 u v st K)
 (J5 o u v st K))))))
def gq(v:V)(st:St)(K:KB):Prop:=match v with
 | .none=>K false st
 | .bool b=>K b st
 | .int i=>K (!decide (i=0)) st
 | .ref _=>vM v st λc st=>gd (Nat.beq c 2) (K true st)
def xJ(v:V)(f:Nat)(st:St)(K:KE):Prop:=rsX v st λr st=>opt r.fs λfs=>opt (look fs f) λu=>K u st
noncomputable def cM{α:Type}(xs:List α):List V->Option (α × List α)
 | []=>(xs.getLast?).map λu=>(u,xs.dropLast)
 | [.int i]=>if 0<=i then (xs[i.toNat]?).map λu=>(u,xs.take i.toNat++xs.drop (i.toNat+1)) else none
 | _=>none
structure Lk(α:Type) where
 f:α->V
 g:Or->α
 gv:V->Or->α
 gs:Or->List α
 ex:Rs->Option (List α)
 ok:CL->α->Prop
 to:Nat->List α->List Th->List Th
noncomputable def Rs.els:Rs->Option (List E)
 | .el _ _ es=>some es
 | _=>none
noncomputable def Rs.Qg:Rs->Option (List Nat)
 | .kd _ _ ks=>some ks
 | _=>none
def Rs.Qh:Rs->Option (List V)
 | .el _ _ es=>some (xG es)
 | .kd _ _ ks=>some (refs ks)
 | .ce _ _ c=>c.ls
 | _=>none
def xK:Lk E:=⟨E.r,Or.e,λ_ h=>h.e,Or.es,Rs.els,aQ,Qe⟩
def Hp:Lk Nat:=⟨.ref,Or.n,λ_ h=>h.n,Or.ks,Rs.Qg,λ_ _=>True,Qf⟩
def vW:Lk V:=⟨λv=>v,Or.u,λv _=>v,Or.us,Rs.Qh,λ_ _=>True,λn xs=>Mt n (.list xs)⟩
def tV(r:Rs)(P:(α:Type)->Lk α->Nat->Bool->List α->Prop):Prop:=match r with
 | .el n w es=>P E xK n w es
 | .kd n w ks=>P Nat Hp n w ks
 | .ce n w c=>opt c.ls λxs=>P V vW n w xs
 | _=>False
def Mu{α:Type}(L:Lk α)(p:Nat)(xs:List α)(n:Nat)(us:List V)(st:St)(K:KE):Prop:=xs.length<=1000000 /\
 sel (Nat.beq n 147) (one' us λx=>hd (some x) st λh st=>(x=L.f (L.gv x h)/\L.ok st.F (L.gv x h))/\K .none (st.to (L.to p (xs++[L.gv x h]) st.A)))
 (sel (Nat.beq n 150) (vL us λi x=>int' i λi=>hd (some x) st λh st=>((0<=i/\i<=xs.length)/\x=L.f (L.gv x h)/\L.ok st.F (L.gv x h))/\K .none (st.to (L.to p (xs.take i.toNat++L.gv x h::xs.drop i.toNat) st.A)))
 (sel (Nat.beq n 151) (hd us st λh st=>cM xs us=some (L.g h,L.gs h)/\K (L.f (L.g h)) (st.to (L.to p (L.gs h) st.A)))
 (gd (Nat.beq n 152) (one' us λv=>rsX v st λr st=>opt (L.ex r) λys=>xs.length+ys.length<=1000000/\K .none (st.to (L.to p (xs++ys) st.A))))))
noncomputable def Th.own:Th->Option (Nat × Cell)
 | .k true (.ce q c)=>some (q,c)
 | _=>none
def J6(p:Nat)(xs:List (Nat × Int))(n:Nat)(us:List V)(st:St)(K:KE):Prop:=xs.length<=1000000 /\
 sel (Nat.beq n 147) (one' us λv=>hd v st λh st=>opt (at' st.A h.n) λt=>opt t.own λq=>opt q.2.tp λys=>vL ys λx y=>ref' x λa=>int' y λi=>v=.ref q.1/\K .none (st.to (cJ (J4 p (xs++[(a,i)]) st.A) h.n .mt)))
 (gd (Nat.beq n 151) (gd us.isEmpty (hd us st λh st=>xs=h.xs++[(h.n,h.i)]/\∀q,K (.ref q) (st.to (.k true (.ce q (.tup [.ref h.n,.int h.i]))::J4 p h.xs st.A)))))
def O9(p:Nat)(es:List (Int × V))(us:List V)(st:St)(K:KE):Prop:=one' us λk=>int' k λk=>hd us st λh st=>bK es k=some h.u/\K h.u (st.to (Mt p (.dict (fC es k)) st.A))
def Pb(n:Nat)(e:E)(v:V)(st:St)(K:KE):Prop:=(v=e.r/\aQ st.F e)/\sel (Nat.beq n 42) (K (.int e.k) st) (gd (Nat.beq n 87) (K (.int e.v) st))
def xM(v lo hi:V)(st:St)(K:KE):Prop:=rsX v st λr st=>tV r λ_ L _ _ xs=>match lo with
 | .none=>int' hi λk=>0<=k/\newX (.list ((xs.take k.toNat).map L.f)) st K
 | .int k=>0<=k/\match hi with
  | .none=>newX (.list ((xs.drop k.toNat).map L.f)) st K
  | _=>False
 | _=>False
section
variable(Γ:bI)(sp:Nat->Option (List V->St->KE->Prop))
def eY(f:Nat)(us:List V)(kn:List Nat)(kv:List V)(st:St)(K:KK):Prop:=opt (mZ f us kn kv) λus=>match sp f with
  | some w=>w us st K.k
  | none=>match K.d with
   | some k=>au Γ f us st.A st.F k
   | none=>au Γ f us st.A st.F λv A F=>K.k v ⟨A,F,st.o⟩
def J7(c:Cell)(st:St)(K:KE):Prop:=match c with
 | .list xs=>K (.int xs.length) st
 | .tup xs=>K (.int xs.length) st
 | .ro xs=>K (.int xs.length) st
 | .dict xs=>K (.int xs.length) st
 | _=>False
def J8(v:V)(st:St)(K:KE):Prop:=rsX v st λr st=>match r with
 | .ce _ _ c=>J7 c st K
 | .stk _ xs=>K (.int xs.length) st
 | .ob _ _ c _=>opt (bL c 83) λf=>eY Γ sp f [v] [] [] st ⟨λu st=>int' u λn=>(0<=n/\n<1000000)/\K (.int n) st,none⟩
 | r=>tV r λ_ _ _ _ xs=>K (.int xs.length) st
def J9(c:Cell)(i:Int)(st:St)(K:KE):Prop:=hd i st λh st=>match c with
 | .list xs=>idxV xs i=some h.u/\K h.u st
 | .tup xs=>idxV xs i=some h.u/\K h.u st
 | .ro ns=>(0<=i/\(ns[i.toNat]?).map V.int=some h.u)/\K h.u st
 | .dict es=>bK es i=some h.u/\K h.u st
 | _=>False
def Ka(v k:V)(st:St)(K:KK):Prop:=rsX v st λr st=>match r with
 | .ob _ _ c _=>opt (bL c 90) λf=>eY Γ sp f [v,k] [] [] st K
 | .ce _ _ c=>int' k λi=>J9 c i st K.k
 | r=>int' k λi=>tV r λ_ L _ _ xs=>hd i st λh st=>idxV xs i=some (L.g h)/\K.k (L.f (L.g h)) st
def tW(v:V)(st:St)(c:List (Int × V)->Cell)(K:KE):Prop:=rsX v st λr st=>opt r.cell λd=>opt d.dc λes=>es.length<64/\newX (c es) st K
def Ph(b:Nat)(us:List V)(st:St)(K:KE):Prop :=
 sel (Nat.beq b 0) (one' us λv=>J8 Γ sp v st K)
 (sel (Nat.beq b 1) (one' us λv=>rsX v st λr st=>tV r λ_ L _ _ xs=>newX (.list (xs.map L.f)) st K)
 (sel (Nat.beq b 2) (one' us λv=>tW v st (λes=>.list ((cG (es.map (·.1))).map .int)) K)
 (sel (Nat.beq b 3) (one' us λv=>tW v st (λes=>.list ((cG (es.map (·.1))).reverse.map .int)) K)
 (sel (Nat.beq b 6) (one' us λv=>tW v st (λes=>.dict es) K)
 (sel (Nat.beq b 4) (vL us λx y=>int' x λi=>int' y λj=>K (.int (min i j)) st)
 (gd (Nat.beq b 5) (vL us λx y=>int' x λi=>int' y λj=>K (.int (max i j)) st)))))))
def gD(u:V)(p:Prop):Prop:=match u with
 | .none=>p
 | _=>False
def Pj(c:Nat)(us:List V)(kn:List Nat)(kv:List V)(st:St)(K:KK):Prop:=∀a d,match bL c 43 with
 | some f=>eY Γ sp f (.ref a::us) kn kv (st.add (.k true (.ob a c d []))) ⟨λu st'=>gD u (K.k (.ref a) st'),K.d.map λk u A F=>gD u (k (.ref a) A F)⟩
 | none=>gd (us.isEmpty&&(kn.isEmpty&&kv.isEmpty)) (K.k (.ref a) (st.add (.k true (.ob a c d []))))
def Fe(v:V)(n:Nat)(go:St->(List V->St->Prop)->Prop)(st:St)(K:KK):Prop:=rsX v st λr st=>match r with
 | .ob _ _ c _=>opt (bL c n) λf=>go st λus st=>eY Γ sp f (v::us) [] [] st K
 | .ct c=>opt (bL c n) λf=>go st λus st=>eY Γ sp f (v::us) [] [] st K
 | .stk _ _=>opt (fD n) λ_=>go st λus st=>rsX v st λr st=>match r with
  | .stk p xs=>J6 p xs n us st K.k
  | _=>False
 | .ce _ _ (.dict _)=>gd (Nat.beq n 151) (go st λus st=>rsX v st λr st=>match r with
  | .ce p true c=>opt c.dc λes=>O9 p es us st K.k
  | _=>False)
 | r=>tV r λ_ _ _ _ _=>opt (fD n) λ_=>go st λus st=>rsX v st λr st=>tV r λ_ L p w xs=>gd w (Mu L p xs n us st K.k)
mutual
def xe(m:Loc):CE->St->KK->Prop
 | .none,st,K=>K.k .none st
 | .tt,st,K=>K.k (.bool true) st
 | .ff,st,K=>K.k (.bool false) st
 | .edict,st,K=>newX (.dict []) st K.k
 | .int i,st,K=>K.k (.int i) st
 | .var x,st,K=>opt (look m x) λv=>K.k v st
 | .attr e f,st,K=>xe m e st ⟨λv st=>xJ v f st K.k,none⟩
 | .bin o a b,st,K=>xe m a st ⟨λx st=>xe m b st ⟨λy st=>xH o x y st K.k,none⟩,none⟩
 | .neg a,st,K=>xe m a st ⟨λx st=>int' x λi=>K.k (.int (-i)) st,none⟩
 | .cmp o a b,st,K=>xe m a st ⟨λx st=>xe m b st ⟨λy st=>lN o x y st λt st=>K.k (.bool t) st,none⟩,none⟩
 | .not a,st,K=>xe m a st ⟨λx st=>gq x st λt st=>K.k (.bool (!t)) st,none⟩
 | .and a b,st,K=>xe m a st ⟨λx st=>gq x st λt st=>ask t st λt st=>sel t (xe m b st K) (K.k x st),none⟩
 | .or a b,st,K=>xe m a st ⟨λx st=>gq x st λt st=>ask t st λt st=>sel t (K.k x st) (xe m b st K),none⟩
 | .fn f as,st,K=>qm m as st λus st=>eY Γ sp f us [] [] st K
 | .mk c as kn kv,st,K=>qm m as st λus st=>qm m kv st λws st=>Pj Γ sp c us kn ws st K
 | .meth o n as,st,K=>xe m o st ⟨λv st=>sel (as.isEmpty&&Qd st.o) (hd v st λh st=>Pb n h.e v st K.k) (Fe Γ sp v n (qm m as) st K),none⟩
 | .methS o n e,st,K=>xe m o st ⟨λv st=>vM v st λc st=>opt (bL c n) λf=>xe m e st ⟨λu st=>rsX u st λr st=>opt r.cell λc=>opt c.tp λus=>eY Γ sp f (v::us) [] [] st K,none⟩,none⟩
 | .bi b as,st,K=>qm m as st λus st=>Ph Γ sp b us st K.k
 | .sub e i,st,K=>xe m e st ⟨λv st=>xe m i st ⟨λk st=>Ka Γ sp v k st K,none⟩,none⟩
 | .gsub g i,st,K=>xe m i st ⟨λk st=>int' k λi=>hd i st λh st=>(0<=i/\(g[i.toNat]?).map V.int=some h.u)/\K.k h.u st,none⟩
 | .slice e lo hi,st,K=>xe m e st ⟨λv st=>xe m lo st ⟨λa st=>xe m hi st ⟨λb st=>xM v a b st K.k,none⟩,none⟩,none⟩
 | .tup as,st,K=>qm m as st λus st=>gd (Nat.ble us.length 1000) (newX (.tup us) st K.k)
 | .list as,st,K=>qm m as st λus st=>gd (Nat.ble us.length 1000) (newX (.list us) st K.k)
def qm(m:Loc):List CE->St->(List V->St->Prop)->Prop
 | [],st,K=>K [] st
 | e::r,st,K=>xe m e st ⟨λv st=>qm m r st λvs st=>K (v::vs) st,none⟩
end
def xb(m:Loc):CE->St->KB->Prop
 | .not a,st,K=>xb m a st λt st=>K (!t) st
 | .and a b,st,K=>xb m a st λt st=>ask t st λt st=>sel t (xb m b st K) (K false st)
 | .or a b,st,K=>xb m a st λt st=>ask t st λt st=>sel t (K true st) (xb m b st K)
 | .cmp o a b,st,K=>xe Γ sp m a st ⟨λx st=>xe Γ sp m b st ⟨λy st=>lN o x y st K,none⟩,none⟩
 | e,st,K=>xe Γ sp m e st ⟨λv st=>gq v st K,none⟩
def Fg(f:Nat)(n:Nat)(t:Kd)(v:V)(st:St)(K:St->Prop):Prop:=match t with
 | .nd a d le lc T c lf es ks=>hd v st λh st=>hd f st λg st=>gd (!Nat.beq h.n n) (opt (at' st.A h.n) λt=>opt t.own λq=>opt q.2.ls λxs =>
   sel (Nat.beq f 4) ((v=.ref q.1/\xs=xG g.es/\∀e∈g.es,aQ st.F e)/\K (st.to (cJ (cJ st.A n (.k true (.nd a d q.1 lc T c lf g.es ks))) h.n .mt)))
   (gd (Nat.beq f 5) ((v=.ref q.1/\xs=refs g.ks)/\K (st.to (cJ (cJ st.A n (.k true (.nd a d le q.1 T c lf es g.ks))) h.n .mt)))))
 | .ob a c d fs=>gd (Nat.ble fs.length 100) (K (st.to (cJ st.A n (.k true (.ob a c d (put fs f v))))))
 | _=>False
noncomputable def Th.kd:Th->Option Kd
 | .k true t=>some t
 | _=>none
def xO(w:V)(f:Nat)(v:V)(st:St)(K:St->Prop):Prop:=rsX w st λr st=>match r with
 | .ob n _ _ _=>opt (at' st.A n) λt=>opt t.kd λt=>Fg f n t v st K
 | _=>False
def Kc(w k v:V)(d:Option KV)(st:St)(K:St->Prop):Prop:=rsX w st λr st=>match r with
 | .ob _ _ c _=>opt (bL c 91) λf=>eY Γ sp f [w,k,v] [] [] st ⟨λ_ st=>K st,d⟩
 | .ce n true (.dict es)=>int' k λi=>es.length<=1000/\K (st.to (Mt n (.dict (dput es i v)) st.A))
 | r=>int' k λi=>tV r λ_ L n w xs=>gd w (hd (some v) st λh st=>((0<=i/\i<xs.length)/\v=L.f (L.gv v h)/\L.ok st.F (L.gv v h))/\K (st.to (L.to n (xs.set i.toNat (L.gv v h)) st.A)))
def Hq(t:CT)(v:V)(d:Option KV)(m:Loc)(st:St)(K:Loc->St->Prop):Prop:=match t with
 | .var z=>K (put m z v) st
 | .attr o f=>xe Γ sp m o st ⟨λw st=>xO w f v st λst=>K m st,none⟩
 | .sub o i=>xe Γ sp m o st ⟨λw st=>xe Γ sp m i st ⟨λk st=>Kc Γ sp w k v d st λst=>K m st,none⟩,none⟩
 | .tup _=>False
def Hr:List CT->List V->Loc->St->(Loc->St->Prop)->Prop
 | [],[],m,st,K=>K m st
 | t::ts,v::vs,m,st,K=>Hq Γ sp t v none m st λm st=>Hr ts vs m st K
 | _,_,_,_,_=>False
def BP(t:CT)(v:V)(d:Option KV)(m:Loc)(st:St)(K:Loc->St->Prop):Prop:=match t with
 | .tup ts=>rsX v st λr st=>opt r.cell λc=>opt c.tp λvs=>gd (Nat.beq ts.length vs.length) (Hr Γ sp ts vs m st K)
 | t=>Hq Γ sp t v d m st K
noncomputable def isCall:CE->Bool
 | .fn _ _=>true
 | .meth _ _ _=>true
 | .methS _ _ _=>true
 | .mk _ _ _ _=>true
 | .sub _ _=>true
 | _=>false
def Qi(t:CT)(rs:lM)(m:Loc)(K:KS):Option KV:=match t with
 | .var x=>some (bF Γ x rs m K)
 | _=>none
def Hs(c:CE)(a b:lM)(m:Loc)(st:St)(K:KS)(go:KB):Prop:=sel (isCall c) (xe Γ sp m c st ⟨λv st=>gq v st go,some (jt Γ a b m K)⟩) (xb Γ sp m c st go)
def Ni(c:CE)(a b:lM)(m:Loc)(st:St)(K:KS)(go:KB):Prop:=match c with
 | .not e=>Hs Γ sp e b a m st K λt=>go (!t)
 | e=>Hs Γ sp e a b m st K go
def xs1(go:lM->Loc->St->KS->Prop)(s:CS)(r0 r:List CS)(rs:lM)(m:Loc)(st:St)(K:KS):Prop:=match s with
 | .expr e=>xe Γ sp m e st ⟨λ_ st=>go (r::rs) m st K,some (bx Γ (r::rs) m K)⟩
 | .brk=>K .brk m st.A st.F
 | .cont=>K .cont m st.A st.F
 | .ret e=>xe Γ sp m e st ⟨λv st=>K (.ret v) m st.A st.F,some (dY m K)⟩
 | .asg t e=>xe Γ sp m e st ⟨λv st=>BP Γ sp t v (some (bx Γ (r::rs) m K)) m st λm st=>go (r::rs) m st K,Qi Γ t (r::rs) m K⟩
 | .augv z o e=>opt (look m z) λu=>xe Γ sp m e st ⟨λv st=>Ho o u v st λw st=>go (r::rs) (put m z w) st K,none⟩
 | .auga o f k e=>xe Γ sp m o st ⟨λa st=>xJ a f st λu st=>xe Γ sp m e st ⟨λv st=>Ho k u v st λw st=>xO a f w st λst=>go (r::rs) m st K,none⟩,none⟩
 | .ite c a b=>Ni Γ sp c (a::r::rs) (b::r::rs) m st K λt st=>ask t st λt st=>sel t (go (a::r::rs) m st K) (go (b::r::rs) m st K)
 | .asrt c=>xb Γ sp m c st λt st=>t=true/\go (r::rs) m st K
 | .rais=>False
 | _=>aj Γ (r0::rs) m st.A st.F K
def Qj(go:lM->Loc->St->KS->Prop)(rs:lM)(m:Loc)(st:St)(K:KS):Prop:=match rs with
 | []=>K .next m st.A st.F
 | r0::rs=>match r0 with
  | []=>go rs m st K
  | s::r=>sel (stp st.o) (aj Γ (r0::rs) m st.A st.F K) (xs1 Γ sp go s r0 r rs m st K)
def xs:Nat->lM->Loc->St->KS->Prop
 | 0=>λ_ _ _ _=>False
 | n+1=>Qj Γ sp (xs n)
end
section
variable{R:Prop}{p q:Prop}{b:Bool}{v:V}{us:List V}
theorem Ht(h:(a&&b)=true):a=true/\b=true:=by
 cases a<;>cases b<;>first|exact⟨rfl,rfl⟩|cases h
theorem aU(h:opt o f)(k:∀x,o=some x->f x->R):R:=match o,h,k with
 | some x,h,k=>k x rfl h
theorem fQ(h:gd b p)(k:b=true->p->R):R:=match b,h,k with
 | true,h,k=>k rfl h
theorem lO(h:sel b p q)(k:b=true->p->R)(k2:b=false->q->R):R:=match b,h,k,k2 with
 | true,h,k,_=>k rfl h
 | false,h,_,k=>k rfl h
theorem dz{n k:Nat}{P:Nat->Prop}(h:sel (Nat.beq n k) p q)(k1:p->P k)(k2:q->P n):P n:=lO h (λe h=>aJ e▸k1 h) λ_=>k2
theorem Fi{n k:Nat}{P:Nat->Prop}(h:gd (Nat.beq n k) p)(k1:p->P k):P n:=fQ h λe h=>aJ e▸k1 h
theorem aZ{f:Int->Prop}{P:V->Prop}(h:int' v f)(k:∀i,f i->P (.int i)):P v:=match v,h with
 | .int i,h=>k i h
theorem rQ{f:Nat->Prop}{P:V->Prop}(h:ref' v f)(k:∀i,f i->P (.ref i)):P v:=match v,h with
 | .ref i,h=>k i h
theorem tX{P:V->Prop}(h:gD v p)(k:p->P .none):P v:=match v,h with
 | .none,h=>k h
theorem dI{P:List V->Prop}(h:one' us f)(k:∀x,f x->P [x]):P us:=match us,h with
 | [x],h=>k x h
theorem lQ{P:List V->Prop}(h:vL us f)(k:∀x y,f x y->P [x,y]):P us:=match us,h with
 | [x,y],h=>k x y h
theorem dZ(h:hd x st K)(k:∀h o,K h (st.oo o)->R):R:=by
 obtain⟨A,F,o⟩:=st
 cases o with
 | nil=>exact h.elim
 | cons a o=>exact k a o h
end
def Nj(v:V)(k:Nat)(fs:Loc):Kd->Prop
 | .nd a d le lc T c lf es ks=>v=.ref a/\k=2/\fs=Mp T c lf le lc
 | .ob a c d gs=>v=.ref a/\k=c/\fs=gs
 | _=>False
def d7(A:List Th)(F:CL)(v:V):Rs->Prop
 | .ob n w c fs=>∃t,at' A n=some (.k w t)/\Nj v c fs t
 | .el n w es=>∃a d le lc T c lf ks,v=.ref le/\at' A n=some (.k w (.nd a d le lc T c lf es ks))
 | .kd n w ks=>∃a d le lc T c lf es,v=.ref lc/\at' A n=some (.k w (.nd a d le lc T c lf es ks))
 | .ce n w c=>∃a,v=.ref a/\at' A n=some (.k w (.ce a c))
 | .stk n xs=>∃a,v=.ref a/\at' A n=some (.stk a xs)
 | .ct c=>∃a,v=.ref a/\∀H,Sat A F H->∃d fs,H a=some (.inst c d)/\H d=some (.ns fs)
theorem BR(h:tree F T c t l)(h2:Holds H (l++(r++F))):∃d fs,H t.a=some (.inst 2 d)/\H d=some (.ns fs):=by
 obtain⟨a,o,es,ks⟩:=t
 rw[tree] at h
 obtain⟨d,le,lc,c',l1,l2,e,⟨h3,_⟩,_⟩:=h
 have g:∀p∈cl (.nd a d le lc T c' ks.isEmpty es (ks.map Tr.a)),H p.1=some p.2:=λp hp=>by
  cases o with
  | true =>
   have h3:l1=_:=h3
   exact h2.at_ p (Q9 _ (by rw[e,h3];exact Q9 _ hp))
  | false=>exact h2.at_ p (QZ _ (QZ _ (h3.2 p hp)))
 exact⟨d,_,g _ (.head _),g _ (.tail _ (.head _))⟩
theorem Ke(h:Jx F v):∃a,v=.ref a/\∀H,Sat A F H->∃d fs,H a=some (.inst 1 d)/\H d=some (.ns fs):=by
 obtain⟨a,h1,d,h2⟩:=h
 exact⟨a,h1,λH S=>⟨d,[],S.fz (h2 _ (.head _)),S.fz (h2 _ (.tail _ (.head _)))⟩⟩
theorem Hu(e1:at' A h.n=some t)(e2:O7 h t=some p)(e3:v=.ref p.1):d7 A F v p.2:=by
 cases t with
 | k w t =>
  have e2:=Ru e2
  subst e2
  cases t with
  | nd a d le lc T c lf es ks =>
   unfold O6 at e3 |-
   dsimp only at e3 |-
   cases q:Nat.beq h.t 4 with
   | true=>rw[q] at e3;exact⟨_,_,_,_,_,_,_,_,e3,e1⟩
   | false =>
    rw[q] at e3
    cases q2:Nat.beq h.t 5 with
    | true=>rw[q2] at e3;exact⟨_,_,_,_,_,_,_,_,e3,e1⟩
    | false=>rw[q2] at e3;exact⟨_,e1,e3,rfl,rfl⟩
  | ob a c d fs=>exact⟨_,e1,e3,rfl,rfl⟩
  | ce a c=>exact⟨_,e3,e1⟩
 | stk a xs =>
  have e2:=Ru e2
  subst e2
  exact⟨_,e3,e1⟩
 | tr T c t =>
  have e2:=Ru e2
  subst e2
  refine⟨_,e3,λH S=>?_⟩
  obtain⟨l,r,h1,h2,_⟩:=S.at e1
  exact BR h1 h2
 | _=>exact aV e2
theorem d8{v:V}{st:St}{K:Rs->St->Prop}{R:Prop}(h:rsX v st K)(k:∀r o,K r (st.oo o)->d7 st.A st.F v r->R):R :=
 dZ h λx o h=>lO h (λ_ h=>k (.ct 1) o h.2 (Ke h.1)) λ_ h=>aU h λt e1 h=>aU h λp e2 h=>k p.2 o h.2 (Hu (F:=st.F) e1 e2 h.1)
section
variable{A:List Th}{F:CL}{H:AH}{v:V}{P:V->Prop}
theorem d7.ob(S:Sat A F H)(h:d7 A F v (.ob n w c fs))(k:∀a d,H a=some (.inst c d)->H d=some (.ns fs)->P (.ref a)):P v:=by
 obtain⟨t,h2,h3⟩:=h
 cases t with
 | nd a d le lc T c' lf es ks =>
  obtain⟨rfl,rfl,rfl⟩:=h3
  exact k a d ((S.kd h2).1 _ (.head _)) ((S.kd h2).1 _ (.tail _ (.head _)))
 | ob a c' d gs =>
  obtain⟨rfl,rfl,rfl⟩:=h3
  exact k a d ((S.kd h2).1 _ (.head _)) ((S.kd h2).1 _ (.tail _ (.head _)))
 | ce=>exact h3.elim
theorem d7.ce(S:Sat A F H)(h:d7 A F v (.ce n w c))(k:∀a,H a=some c->P (.ref a)):P v:=by
 obtain⟨a,rfl,h2⟩:=h
 exact k a ((S.kd h2).1 _ (.head _))
theorem d7.cls(S:Sat A F H)(e:r.cls=some c)(h:d7 A F v r)(k:∀a d fs,H a=some (.inst c d)->H d=some (.ns fs)->P (.ref a)):P v:=by
 cases r with
 | ob n w c' fs=>cases Ru e;exact h.ob S λa d=>k a d fs
 | ct c' =>
  cases Ru e
  obtain⟨a,rfl,h2⟩:=h
  obtain⟨d,fs,h3,h4⟩:=h2 H S
  exact k a d fs h3 h4
 | _=>exact aV e
theorem d7.fs(S:Sat A F H){r:Rs}{fs:Loc}(e:r.fs=some fs)(h:d7 A F v r)(k:∀a c d,H a=some (.inst c d)->H d=some (.ns fs)->P (.ref a)):P v:=by
 cases r with
 | ob n w c fs'=>cases Ru e;exact h.ob S λa d=>k a c d
 | _=>exact aV e
theorem d7.cell(S:Sat A F H)(e:r.cell=some c)(h:d7 A F v r)(k:∀a,H a=some c->P (.ref a)):P v:=by
 cases r with
 | ce n w c'=>cases Ru e;exact h.ce S k
 | _=>exact aV e
theorem d7.stk(S:Sat A F H){xs:List (Nat × Int)}(h:d7 A F v (.stk n xs))(k:∀a qs,qs.length=xs.length->H a=some (.list (refs qs))->P (.ref a)):P v:=by
 obtain⟨a,rfl,h2⟩:=h
 obtain⟨l,r,⟨qs,h3,h4⟩,h5,_⟩:=S.at h2
 exact k a qs h3 (h5.at_ (a,.list (refs qs)) (Q9 _ (h4▸.head _)))
theorem Cell.tY{c:Cell}(e:c.dc=some es):c=.dict es:=by
 cases c with
 | dict x=>cases Ru e;rfl
 | _=>exact aV e
theorem Cell.xP{c:Cell}(e:c.tp=some es):c=.tup es:=by
 cases c with
 | tup x=>cases Ru e;rfl
 | _=>exact aV e
theorem Cell.ls_eq{c:Cell}(e:c.ls=some es):c=.list es:=by
 cases c with
 | list x=>cases Ru e;rfl
 | _=>exact aV e
end
theorem oA{v:V}{st:St}{K:Nat->St->Prop}{H:AH}{P:V->Prop}(S:Sat st.A st.F H)(h:vM v st K)(k:∀c o a d fs,K c (st.oo o)->H a=some (.inst c d)->H d=some (.ns fs)->P (.ref a)):P v :=
 d8 h λr o h hr=>aU h λc e h=>hr.cls S e λa d fs=>k c o a d fs h
theorem iu{v:V}{st:St}{K:Cell->St->Prop}{H:AH}{P:V->Prop}(S:Sat st.A st.F H)(h:rsX v st λr st=>opt r.cell λc=>K c st)(k:∀c o a,K c (st.oo o)->H a=some c->P (.ref a)):P v :=
 d8 h λr o h hr=>aU h λc e h=>hr.cell S e λa=>k c o a h
structure LsOk(A:List Th)(F:CL)(v:V){α:Type}(L:Lk α)(n:Nat)(w:Bool)(xs:List α):Prop where
 at_:∀H,Sat A F H->∃a,v=.ref a/\H a=some (.list (xs.map L.f))/\(∀x∈xs,L.ok F x)/\(w=true->∀ys,(∀y∈ys,L.ok F y)->Sat (L.to n ys A) F (upd H a (.list (ys.map L.f))))
structure Hv{α:Type}(L:Lk α):Prop where
 ex:∀A F H,Sat A F H->∀r ys,L.ex r=some ys->∀v,d7 A F v r->∃a,v=.ref a/\H a=some (.list (ys.map L.f))/\∀y∈ys,L.ok F y
section
variable{A:List Th}{F:CL}{v:V}{n:Nat}{w:Bool}
theorem Hw(h:d7 A F v (.el n w es)):LsOk A F v xK n w es:=⟨λH S=>by
 obtain⟨a,d,le,lc,T,c,lf,ks,h1,h2⟩:=h
 refine⟨le,h1,(S.kd h2).1 _ (.tail _ (.tail _ (.head _))),(S.kd h2).2,λhw es' k=>?_⟩
 subst hw
 show Sat (match at' A n with|some (.k _ (.nd a d le lc T c lf _ ks))=>cJ A n (.k true (.nd a d le lc T c lf es' ks))|_=>A) F _
 rw[h2]
 exact S.set h2 (t':=.nd a d le lc T c lf es' ks) (X:=[_,_]) (Y:=[_]) rfl rfl λ_=>k⟩
theorem xQ(h:d7 A F v (.kd n w ks)):LsOk A F v Hp n w ks:=⟨λH S=>by
 obtain⟨a,d,le,lc,T,c,lf,es,h1,h2⟩:=h
 refine⟨lc,h1,(S.kd h2).1 _ (.tail _ (.tail _ (.tail _ (.head _)))),λ_ _=>trivial,λhw ks' k=>?_⟩
 subst hw
 show Sat (match at' A n with|some (.k _ (.nd a d le lc T c lf es _))=>cJ A n (.k true (.nd a d le lc T c lf es ks'))|_=>A) F _
 rw[h2]
 exact S.set h2 (t':=.nd a d le lc T c lf es ks') (X:=[_,_,_]) (Y:=[]) rfl rfl id⟩
theorem Nk(S:Sat A F H)(h2:at' A n=some (.k true (.ce a x))):Sat (Mt n x' A) F (upd H a x'):=by
 show Sat (match at' A n with|some (.k _ (.ce a _))=>cJ A n (.k true (.ce a x'))|_=>A) F _
 rw[h2]
 exact S.set h2 (t':=.ce a x') (X:=[]) (Y:=[]) rfl rfl λ_=>trivial
theorem Kf(l:List V):l.map vW.f=l:=List.map_id l
theorem Nm{xs:List V}(h:d7 A F v (.ce n w (.list xs))):LsOk A F v vW n w xs:=⟨λH S=>by
 obtain⟨a,h1,h2⟩:=h
 refine⟨a,h1,?_,λ_ _=>trivial,λhw ys k=>?_⟩
 ·rw[Kf];exact(S.kd h2).1 _ (.head _)
 ·subst hw
  rw[Kf];exact Nk S h2⟩
end
theorem lR{r:Rs}{P:(α:Type)->Lk α->Nat->Bool->List α->Prop}{A:List Th}{F:CL}{v:V}{R:Prop}(h:tV r P)(hr:d7 A F v r)(k:∀α L n w xs,P α L n w xs->LsOk A F v L n w xs->Hv L->R):R:=by
 cases r with
 | el n w es=>exact k _ _ n w es h (Hw hr) ⟨λA F H S r ys e v hr=>by
   cases r with
   | el n w es=>cases Ru e;obtain⟨a,h1,h2,h3,_⟩:=(Hw hr).at_ H S;exact⟨a,h1,h2,h3⟩
   | _=>exact aV e⟩
 | kd n w ks=>exact k _ _ n w ks h (xQ hr) ⟨λA F H S r ys e v hr=>by
   cases r with
   | kd n w es=>cases Ru e;obtain⟨a,h1,h2,h3,_⟩:=(xQ hr).at_ H S;exact⟨a,h1,h2,h3⟩
   | _=>exact aV e⟩
 | ce n w c =>
  refine aU h λxs e h=>?_
  cases Cell.ls_eq e
  refine k _ _ n w xs h (Nm hr) ⟨λA F H S r ys e v hr=>?_⟩
  rw[Kf]
  cases r with
  | el n w es=>cases Ru e;obtain⟨a,h1,h2,h3,_⟩:=(Hw hr).at_ H S;exact⟨a,h1,h2,λ_ _=>trivial⟩
  | kd n w es=>cases Ru e;obtain⟨a,h1,h2,h3,_⟩:=(xQ hr).at_ H S;exact⟨a,h1,h2,λ_ _=>trivial⟩
  | ce n w c =>
   cases Cell.ls_eq e
   exact hr.ce S (P:=λv=>∃a,v=.ref a/\H a=some (.list ys)/\∀y∈ys,vW.ok F y) λa h=>⟨a,rfl,h,λ_ _=>trivial⟩
  | _=>exact aV e
 | _=>exact h.elim
section
variable{H:AH}{a d c f b:Nat}{fs:Loc}{u v:V}{Q:QV}{X:QX}{B:Bool->Prop}{xs ys:List V}{i:Int}{Γ:bI}
theorem lU(h1:H a=some (.inst c d))(h2:H d=some (.ns fs))(h3:look fs f=some u)(q:Q u H):jZ (.ref a) f H Q:=by
 delta jZ;dsimp only;rw[h1];dsimp only;rw[h2];dsimp only;rw[h3];exact q
theorem vN(h1:H a=some (.inst 2 d))(h2:H d=some (.ns fs))(q:B true):cW (.ref a) H B:=by
 delta cW;dsimp only;rw[h1];dsimp only;rw[h2];exact⟨rfl,q⟩
theorem Hx(h1:H a=some (.inst 2 d))(q:B true):Ah (.ref a) (.ref a) H B:=by
 delta Ah;dsimp only;rw[h1];exact⟨⟨rfl,rfl⟩,q⟩
theorem Hy(h1:H a=some (.inst c d))(h2:H b=some (.inst f e))(q:B (Nat.beq a b)):cj 6 (.ref a) (.ref b) H B:=by
 delta cj;dsimp only;rw[h1];dsimp only;rw[h2];exact q
theorem BW(h1:H a=some (.list xs))(h2:idxV xs i=some u)(q:Q u H):subV Γ (.ref a) (.int i) H Q X:=by
 delta subV;dsimp only;rw[h1];dsimp only;rw[h2];exact q
theorem BX(h1:H a=some (.list xs))(h:0<=i/\i<xs.length)(q:R (upd H a (.list (xs.set i.toNat v)))):iJ Γ (.ref a) (.int i) v H R X:=by
 delta iJ;dsimp only;rw[h1];exact⟨h,q⟩
theorem oF(h1:H a=some (.inst c d))(h2:H d=some (.ns fs))(h:fs.length<=100)(q:R (upd H d (.ns (put fs f v)))):nQ (.ref a) f v H R:=by
 delta nQ;dsimp only;rw[h1];dsimp only;rw[h2];exact⟨h,q⟩
theorem BZ(h1:H b=some (.list ys))(h:xs.length+ys.length<=1000000):wk H xs [.ref b]=some (.none,xs++ys):=by
 delta wk;dsimp only;rw[h1];exact if_pos h
end
theorem idx_map{xs:List α}(h:idxV xs i=some x):idxV (xs.map f) i=some (f x):=by
 delta idxV at h |-
 by_cases q:0<=i
 ·rw[if_pos q] at h |-;rw[Rm,h];rfl
 ·rw[if_neg q] at h |-
  by_cases q:i = -1
  ·rw[if_pos q] at h |-;rw[List.getLast?_map,h];rfl
  ·rw[if_neg q] at h;exact aV h
theorem xR{xs ys:List α}(h:cM xs []=some (x,ys)):u9 (xs.map f) []=some (f x,ys.map f)/\∀y∈ys,y∈xs:=by
 obtain⟨u,h1,h2⟩:=QW.mp (show(xs.getLast?).map (λu=>(u,xs.dropLast))=some (x,ys) from h)
 cases h2
 refine⟨?_,λy=>(List.dropLast_sublist xs).subset (a:=y)⟩
 show((xs.map f).getLast?).map (λu=>(u,(xs.map f).dropLast))=_
 rw[List.getLast?_map,h1,<-List.map_dropLast];rfl
theorem Ca{xs ys:List α}{i:Int}(h:cM xs [.int i]=some (x,ys)):u9 (xs.map f) [.int i]=some (f x,ys.map f)/\∀y∈ys,y∈xs:=by
 have h:(if 0<=i then (xs[i.toNat]?).map (λu=>(u,xs.take i.toNat++xs.drop (i.toNat+1))) else none)=some (x,ys):=h
 by_cases q:0<=i
 ·rw[if_pos q] at h
  obtain⟨u,h1,h2⟩:=QW.mp h
  cases h2
  refine⟨?_,λy hy=>(Ry.mp hy).elim List.mem_of_mem_take List.mem_of_mem_drop⟩
  show(if 0<=i then ((xs.map f)[i.toNat]?).map (λu=>(u,(xs.map f).take i.toNat++(xs.map f).drop (i.toNat+1))) else none)=_
  rw[if_pos q,Rm,h1,Rv,List.map_take,List.map_drop];rfl
 ·rw[if_neg q] at h;exact aV h
theorem tZ{xs ys:List α}(h:cM xs us=some (x,ys)):u9 (xs.map f) us=some (f x,ys.map f)/\∀y∈ys,y∈xs:=by
 cases us with
 | nil=>exact xR h
 | cons u us =>
  cases us with
  | nil=>cases u<;>first|exact aV h|exact Ca h
  | cons=>cases u<;>exact aV h
abbrev Po(K:KE)(Q:QV):Prop:=∀v st H,K v st->Sat st.A st.F H->Q v H
section
variable{st:St}{H:AH}
theorem lV{t:Bool}{K:KB}{R:Prop}(h:ask t st K)(k:∀o,K t (st.oo o)->R):R:=dZ h λx o h=>k o (h.1▸h.2)
theorem d9(h:newX c st K)(S:Sat st.A st.F H)(k:Po K Q):newC c H Q:=λa ha=>k _ _ _ (h a) (S.new ha c)
theorem xT(h:xH o u v st K)(S:Sat st.A st.F H)(k:Po K Q):mV o u v H Q :=
 aZ (P:=λu=>mV o u v H Q) h λi h=>aZ (P:=λv=>mV o (.int i) v H Q) h λj h =>
  have go:∀{p:Prop} {v:V},p/\K v st->p/\Q v H:=λh=>⟨h.1,k _ _ _ h.2 S⟩
  dz (P:=λo=>mV o (.int i) (.int j) H Q) h (λh=>k _ _ _ h S) λh=>dz (P:=λo=>mV o (.int i) (.int j) H Q) h (λh=>k _ _ _ h S) λh=>dz (P:=λo=>mV o (.int i) (.int j) H Q) h go λh=>dz (P:=λo=>mV o (.int i) (.int j) H Q) h go λh=>Fi (P:=λo=>mV o (.int i) (.int j) H Q) h go
theorem qp(h:Ho o u v st K)(S:Sat st.A st.F H)(k:Po K Q):lA o u v H Q :=
 aZ (P:=λu=>lA o u v H Q) h λi h=>aZ (P:=λv=>lA o (.int i) v H Q) h λj h =>
  dz (P:=λo=>lA o (.int i) (.int j) H Q) h (λh=>k _ _ _ h S) λh=>Fi (P:=λo=>lA o (.int i) (.int j) H Q) h λh=>k _ _ _ h S
section
variable{u v:V}{K:KB}{B:Bool->Prop}
theorem uc(h:Ng u v st K)(S:Sat st.A st.F H)(k:∀t st',K t st'->Sat st'.A st'.F H->B t):cj 6 u v H B:=by
 cases v with
 | none=>cases u<;>exact k _ _ h S
 | ref b =>
  refine rQ (P:=λu=>cj 6 u (.ref b) H B) h λa h=>oA (P:=λu=>u=.ref a->cj 6 (.ref a) (.ref b) H B) S h (λc o a' d fs h h1 _ e1=>?_) rfl
  refine oA (st:=st.oo o) (P:=λv=>v=.ref b->cj 6 (.ref a) (.ref b) H B) S h (λc2 o2 b' d2 fs2 g h2 _ e2=>?_) rfl
  cases e1;cases e2
  exact Hy h1 h2 (k _ _ g S)
 | _=>exact h.elim
theorem Np(h:cj 6 u v H λt=>B (!t)):cj 7 u v H B:=by
 cases u<;>cases v<;>exact h
theorem ud(h:Nh u v st K)(S:Sat st.A st.F H)(k:∀t st',K t st'->Sat st'.A st'.F H->B t):Ah u v H B:=by
 cases u with
 | int i=>exact aZ (P:=λv=>Ah (.int i) v H B) h λj h=>k _ _ h S
 | ref a =>
  refine rQ (P:=λv=>Ah (.ref a) v H B) h λb h=>oA (P:=λu=>u=.ref a->Ah (.ref a) (.ref b) H B) S h (λc o a' d fs h h1 _ e1=>fQ h λhc h=>?_) rfl
  obtain⟨g1,g2⟩:=h
  cases e1
  cases aJ hc
  cases g1
  exact Hx h1 (k _ _ g2 S)
 | _=>exact h.elim
theorem Cd(h:inX u v st K)(S:Sat st.A st.F H)(k:∀t st',K t st'->Sat st'.A st'.F H->B t):cj 8 u v H B :=
 aZ (P:=λu=>cj 8 u v H B) h λi h=>iu (P:=λv=>cj 8 (.int i) v H B) S h λc o a h h1=>aU h λes e h=>by
  show(match H a with|some (.dict es)=>_|_=>False)
  rw[h1,Cell.tY e]
  exact k _ _ h S
theorem Ce(h:O8 u v st K)(S:Sat st.A st.F H)(k:∀t st',K t st'->Sat st'.A st'.F H->B t):cj 9 u v H B:=by
 cases u with
 | int i =>
  exact iu (P:=λv=>cj 9 (.int i) v H B) S h λc o a h h1=>aU h λes e h=>by
   show(match H a with|some (.dict es)=>_|_=>False)
   rw[h1,Cell.tY e]
   exact k _ _ h S
 | ref b =>
  exact iu (P:=λv=>cj 9 (.ref b) v H B) S h λc o a h h1=>aU h λxs e h=>by
   show(match H a with|some (.list [])=>_|_=>False)
   rw[h1,Cell.ls_eq e]
   cases xs with
   | nil=>exact k _ _ h S
   | cons=>exact h.elim
 | _=>exact h.elim
theorem xU(h:J5 o u v st K)(S:Sat st.A st.F H)(k:∀t st',K t st'->Sat st'.A st'.F H->B t):cj o u v H B :=
 aZ (P:=λu=>cj o u v H B) h λi h=>aZ (P:=λv=>cj o (.int i) v H B) h λj h =>
  have go:∀{t:Bool},K t st->B t:=λh=>k _ _ h S
  dz (P:=λo=>cj o (.int i) (.int j) H B) h go λh=>dz (P:=λo=>cj o (.int i) (.int j) H B) h go λh=>dz (P:=λo=>cj o (.int i) (.int j) H B) h go λh=>Fi (P:=λo=>cj o (.int i) (.int j) H B) h go
theorem qt(h:lN o u v st K)(S:Sat st.A st.F H)(k:∀t st',K t st'->Sat st'.A st'.F H->B t):cj o u v H B :=
 dz (P:=λo=>cj o u v H B) h (λh=>ud h S k) λh=>dz (P:=λo=>cj o u v H B) h (λh=>ud (K:=λt=>K (!t)) (B:=λt=>B (!t)) h S λt st' h=>k _ _ h) λh =>
 dz (P:=λo=>cj o u v H B) h (λh=>uc h S k) λh=>dz (P:=λo=>cj o u v H B) h (λh=>Np (uc (K:=λt=>K (!t)) (B:=λt=>B (!t)) h S λt st' h=>k _ _ h)) λh =>
 dz (P:=λo=>cj o u v H B) h (λh=>Cd h S k) λh=>dz (P:=λo=>cj o u v H B) h (λh=>Ce h S k) λh=>xU h S k
theorem gU(h:gq v st K)(S:Sat st.A st.F H)(k:∀t st',K t st'->Sat st'.A st'.F H->B t):cW v H B:=by
 cases v with
 | ref a =>
  exact oA (P:=λv=>cW v H B) S h λc o a d fs h h1 h2=>fQ h λhc h=>by
   cases aJ hc
   exact vN h1 h2 (k _ _ h S)
 | none=>exact k _ _ h S
 | bool b=>exact k _ _ h S
 | int i=>exact k _ _ h S
end
section
variable{v:V}{K:KE}{Q:QV}
theorem nC(h:xJ v f st K)(S:Sat st.A st.F H)(k:Po K Q):jZ v f H Q :=
 d8 h λr o h hr=>aU h λfs e h=>aU h λu eu h=>hr.fs (P:=λv=>jZ v f H Q) S e λa c d h1 h2=>lU h1 h2 eu (k _ _ _ h S)
theorem Hz   {xs:List α}   (h1:H a=some (.list (xs.map f))) (h:match lo with
 | .none=>int' hi λk=>0<=k/\newX (.list ((xs.take k.toNat).map f)) st K
 | .int k=>0<=k/\match hi with
  | .none=>newX (.list ((xs.drop k.toNat).map f)) st K
  | _=>False
 | _=>False) (S:Sat st.A st.F H) (k:Po K Q):jG (.ref a) lo hi H Q:=by
 cases lo with
 | none =>
  refine aZ (P:=λhi=>jG (.ref a) .none hi H Q) h λi h=>?_
  show(match H a with|some (.list xs)=>0<=i/\newC (.list (xs.take i.toNat)) H Q|_=>False)
  rw[h1]
  refine⟨h.1,?_⟩
  rw[<-List.map_take]
  exact d9 h.2 S k
 | int i =>
  obtain⟨h0,h⟩:=h
  cases hi with
  | none =>
   show(match H a with|some (.list xs)=>0<=i/\newC (.list (xs.drop i.toNat)) H Q|_=>False)
   rw[h1]
   refine⟨h0,?_⟩
   rw[<-List.map_drop]
   exact d9 h S k
  | _=>exact h.elim
 | _=>exact h.elim
theorem rT(h:xM v lo hi st K)(S:Sat st.A st.F H)(k:Po K Q):jG v lo hi H Q :=
 d8 h λr o h hr=>lR h hr λα L n w xs h ok _=>by
  obtain⟨a,e,h1,_⟩:=ok.at_ H S
  rw[e]
  exact Hz h1 h S k
theorem Cg(h:O9 p es us st K)(S:Sat st.A st.F H)(hr:at' st.A p=some (.k true (.ce a (.dict es))))(k:Po K Q):lu a n us H Q :=
 dI (P:=λus=>lu a n us H Q) h λx h=>aZ (P:=λx=>lu a n [x] H Q) h λi h=>dZ h λy o h =>
  ⟨_,_,_,(S.kd hr).1 _ (.head _),rfl,h.1,k _ _ _ h.2 (Nk S hr)⟩
section
variable{α:Type}{L:Lk α}{p n a:Nat}{xs:List α}{us:List V}(S:Sat st.A st.F H)(h1:H a=some (.list (xs.map L.f)))(h2:∀x∈xs,L.ok st.F x)(h3:∀ys,(∀y∈ys,L.ok st.F y)->Sat (L.to p ys st.A) st.F (upd H a (.list (ys.map L.f))))(hl:xs.length<=1000000)(k:Po K Q)
include h1 hl in
theorem uf{ys:List α}(e:lop H n us (xs.map L.f)=some (u,ys.map L.f))(q:Q u (upd H a (.list (ys.map L.f)))):bQ a n us H Q:=⟨_,_,_,h1,by rw[Rt];exact hl,e,q⟩
include S h1 h2 h3 hl k
theorem HB(h:hd (some x) st λh st=>(x=L.f (L.gv x h)/\L.ok st.F (L.gv x h))/\K .none (st.to (L.to p (xs++[L.gv x h]) st.A))):bQ a 147 [x] H Q:=dZ h λy o h=>by
 generalize L.gv x y=z at h
 exact uf h1 hl (show some (V.none,xs.map L.f++[x])=_ by rw[h.1.1,Rv];rfl) (k _ _ _ h.2 (h3 _ λx hx=>(Ry.mp hx).elim (h2 x) λq=>Rf.mp q▸h.1.2))
theorem HD{i:Int}(h:hd (some x) st λh st=>((0<=i/\i<=xs.length)/\x=L.f (L.gv x h)/\L.ok st.F (L.gv x h))/\K .none (st.to (L.to p (xs.take i.toNat++L.gv x h::xs.drop i.toNat) st.A))):bQ a 150 [.int i,x] H Q:=dZ h λy o h=>by
 generalize L.gv x y=z at h
 exact uf h1 hl (show(if 0<=i/\i<=(xs.map L.f).length then some (V.none,(xs.map L.f).take i.toNat++x::(xs.map L.f).drop i.toNat) else none)=_ by rw[if_pos (by rw[Rt];exact h.1.1),h.1.2.1,Rv,RK,List.map_take,List.map_drop])
  (k _ _ _ h.2 (h3 _ λx hx=>(Ry.mp hx).elim (λq=>h2 x (List.mem_of_mem_take q)) λq=>(RJ.mp q).elim (λq=>q▸h.1.2.2) λq=>h2 x (List.mem_of_mem_drop q)))
theorem HF(h:hd us st λh st=>cM xs us=some (L.g h,L.gs h)/\K (L.f (L.g h)) (st.to (L.to p (L.gs h) st.A))):bQ a 151 us H Q:=dZ h λy o h =>
 uf h1 hl (tZ h.1).1 (k _ _ _ h.2 (h3 _ λx hx=>h2 x ((tZ (f:=L.f) h.1).2 x hx)))
theorem HJ(okL:Hv L)(h:rsX v st λr st=>opt (L.ex r) λys=>xs.length+ys.length<=1000000/\K .none (st.to (L.to p (xs++ys) st.A))):bQ a 152 [v] H Q:=d8 h λr o h hr=>aU h λys e h=>by
 obtain⟨b,eb,g1,g2⟩:=okL.ex _ _ _ S _ _ e _ hr
 rw[eb]
 exact uf h1 hl ((BZ g1 (by rw[Rt,Rt];exact h.1)).trans (by rw[Rv])) (k _ _ _ h.2 (h3 _ λx hx=>(Ry.mp hx).elim (h2 x) (g2 x)))
end
theorem Ci{α:Type}{L:Lk α}{p n:Nat}{xs:List α}{us:List V}(h:Mu L p xs n us st K)(S:Sat st.A st.F H)(ok:LsOk st.A st.F v L p true xs)(okL:Hv L)(k:Po K Q):∃a,v=.ref a/\bQ a n us H Q:=by
 obtain⟨a,ea,h1,h2,h3⟩:=ok.at_ H S
 have h3:=h3 rfl
 obtain⟨hl,h⟩:=h
 exact⟨a,ea,dz (P:=λn=>bQ a n us H Q) h (λh=>dI (P:=λus=>bQ a 147 us H Q) h λx h=>HB S h1 h2 h3 hl k h)
  λh=>dz (P:=λn=>bQ a n us H Q) h (λh=>lQ (P:=λus=>bQ a 150 us H Q) h λi x h=>aZ (P:=λi=>bQ a 150 [i,x] H Q) h λi h=>HD S h1 h2 h3 hl k h)
  λh=>dz (P:=λn=>bQ a n us H Q) h (λh=>HF S h1 h2 h3 hl k h)
  λh=>Fi (P:=λn=>bQ a n us H Q) h λh=>dI (P:=λus=>bQ a 152 us H Q) h λv h=>HJ S h1 h2 h3 hl k okL h⟩
theorem jP(h:tW v st f K)(S:Sat st.A st.F H)(k:Po K Q):(match bZ H v with|some (.dict es)=>es.length<64/\newC (f es) H Q|_=>False) :=
 iu (P:=λv=>match bZ H v with|some (.dict es)=>es.length<64/\newC (f es) H Q|_=>False) S h λc o a h h1=>aU h λes e h=>by
  show(match H a with|some (.dict es)=>es.length<64/\newC (f es) H Q|_=>False)
  rw[h1,Cell.tY e]
  exact⟨h.1,d9 h.2 S k⟩
end
end
def Pn(Γ:bI):Prop:=∀(e:E) (d:Nat) (H:AH) (Q:QV) (X:QX),H e.a=some (.inst 6 d)->H d=some (.ns [(6,.int e.k),(7,.int e.v)])->(Q (.int e.k) H->Γ 52 [.ref e.a] H Q X)/\(Q (.int e.v) H->Γ 53 [.ref e.a] H Q X)
structure lW(Γ:bI)(sp:Nat->Option (List V->St->KE->Prop)):Prop where
 sp:∀f w,sp f=some w->∀us st K H Q X,w us st K->Sat st.A st.F H->Po K Q->Γ f us H Q X
 kv:Pn Γ
structure PK(K:KK)(Q:QV):Prop where
 k:Po K.k Q
 d:∀k,K.d=some k->∀v A F H,k v A F->Sat A F H->Q v H
theorem iZ(h:Po k Q):PK ⟨k,none⟩ Q:=⟨h,λ_ e=>aV e⟩
def DM(Γ:bI)(m:Loc)(n:Nat)(as:List CE)(v:V)(H:AH)(Q:QV)(X:QX):Prop:=match v with
 | .ref a=>match H a with
  | some (.inst c d)=>match H d with
   | some (.ns _)=>match bL c n with
    | some f=>jH Γ m as H (λvs H=>bO Γ f (v::vs) [] [] H Q X) X
    | none=>False
   | _=>False
  | some (.list _)=>(match fD n with|some _=>jH Γ m as H (λvs H=>bQ a n vs H Q) X|none=>False)
  | some (.dict _)=>n=151/\jH Γ m as H (λvs H=>lu a n vs H Q) X
  | _=>False
 | _=>False
section
variable{Γ:bI}{sp:Nat->Option (List V->St->KE->Prop)}(B:lW Γ sp){st:St}{H:AH}{Q:QV}{X:QX}
section
variable{m:Loc}{n:Nat}{as:List CE}{a c d:Nat}
theorem ug(h1:H a=some (.inst c d))(h2:H d=some (.ns fs))(h3:bL c n=some f)(q:jH Γ m as H (λvs H=>bO Γ f (.ref a::vs) [] [] H Q X) X):DM Γ m n as (.ref a) H Q X:=by
 delta DM;dsimp only;rw[h1];dsimp only;rw[h2];dsimp only;rw[h3];exact q
theorem Fj{xs:List V}(h1:H a=some (.list xs))(h2:fD n=some s)(q:jH Γ m as H (λvs H=>bQ a n vs H Q) X):DM Γ m n as (.ref a) H Q X:=by
 delta DM;dsimp only;rw[h1];dsimp only;rw[h2];exact q
theorem Kg(h1:H a=some (.dict es))(q:n=151/\jH Γ m as H (λvs H=>lu a n vs H Q) X):DM Γ m n as (.ref a) H Q X:=by
 delta DM;dsimp only;rw[h1];exact q
end
include B
theorem cH(h:eY Γ sp f us kn kv st K)(S:Sat st.A st.F H)(k:PK K Q):bO Γ f us kn kv H Q X:=aU h λws e h=>by
 delta bO
 rw[e]
 dsimp only at h |-
 cases q:sp f with
 | some w=>rw[q] at h;exact B.sp _ _ q _ _ _ _ _ _ h S k.k
 | none =>
  rw[q] at h
  cases q2:K.d with
  | some d=>rw[q2] at h;exact h H Q X S (k.d _ q2)
  | none=>rw[q2] at h;exact h H Q X S λv A F H=>k.k v ⟨A,F,st.o⟩ H
theorem Cj(h:Pb n e v st K)(S:Sat st.A st.F H)(k:Po K Q):DM Γ m n [] v H Q X:=by
 obtain⟨⟨hv,d,hF⟩,h⟩:=h
 rw[hv]
 have i1:=S.fz (hF _ (.head _))
 have i2:=S.fz (hF _ (.tail _ (.head _)))
 exact dz (P:=λn=>DM Γ m n [] e.r H Q X) h (λh=>ug i1 i2 rfl ((B.kv e d H Q X i1 i2).1 (k _ _ _ h S))) λh=>Fi (P:=λn=>DM Γ m n [] e.r H Q X) h λh=>ug i1 i2 rfl ((B.kv e d H Q X i1 i2).2 (k _ _ _ h S))
omit B in
theorem Ck(h1:H a=some c)(h:J7 c st K)(S:Sat st.A st.F H)(k:Po K Q):lenV Γ (.ref a) H Q X:=by
 delta lenV;dsimp only;rw[h1]
 cases c<;>first|exact h.elim|exact k _ _ _ h S
omit B in
theorem uh{xs:List V}(h1:H a=some (.list xs))(e:xs.length=n)(q:Q (.int n) H):lenV Γ (.ref a) H Q X:=by
 delta lenV;dsimp only;rw[h1];dsimp only;rw[e];exact q
omit B in
theorem Cm(h1:H a=some (.inst c d))(h2:H d=some (.ns fs))(e:bL c 83=some f)(q:bO Γ f [.ref a] [] [] H (λu H'=>match u with | .int n=>(0<=n/\n<1000000)/\Q (.int n) H'|_=>False) X):lenV Γ (.ref a) H Q X:=by
 delta lenV;dsimp only;rw[h1];dsimp only;rw[h2];dsimp only;rw[e];exact q
omit B in
theorem Cp(h1:H a=some (.inst c d))(h2:H d=some (.ns fs))(e:bL c 90=some f)(q:bO Γ f [.ref a,i] [] [] H Q X):subV Γ (.ref a) i H Q X:=by
 delta subV;dsimp only;rw[h1];dsimp only;rw[h2];dsimp only;rw[e];exact q
omit B in
theorem Cq(h1:H a=some c)(h:J9 c i st K)(S:Sat st.A st.F H)(k:Po K Q):subV Γ (.ref a) (.int i) H Q X:=by
 delta subV;dsimp only;rw[h1]
 refine dZ h λy o h=>?_
 cases c with
 | list xs=>dsimp only at h |-;rw[h.1];exact k _ _ _ h.2 S
 | tup xs=>dsimp only at h |-;rw[h.1];exact k _ _ _ h.2 S
 | dict xs=>dsimp only at h |-;rw[h.1];exact k _ _ _ h.2 S
 | ro ns =>
  obtain⟨⟨h0,h⟩,h2⟩:=h
  obtain⟨u,e1,e2⟩:=QW.mp h
  dsimp only
  rw[if_pos h0,e1]
  rw[<-e2] at h2
  exact k _ _ _ h2 S
 | _=>exact h.elim
theorem xV(h:J8 Γ sp v st K)(S:Sat st.A st.F H)(k:Po K Q):lenV Γ v H Q X:=d8 h λr o h hr=>by
 have L:∀{r:Rs},tV r (λ_ _ _ _ xs=>K (.int xs.length) (st.oo o))->d7 st.A st.F v r->lenV Γ v H Q X:=λh hr=>lR h hr λα L n w xs h ok _=>by
  obtain⟨a,e,h1,_⟩:=ok.at_ H S
  rw[e]
  exact uh h1 (Rt _) (k _ _ _ h S)
 cases r with
 | ce n w c =>
  exact hr.ce S (P:=λv=>lenV Γ v H Q X) λa h1=>Ck (st:=st.oo o) h1 h S k
 | stk n xs =>
  exact hr.stk S (P:=λv=>lenV Γ v H Q X) λa qs e h1=>uh h1 ((Rt _).trans e) (k _ _ _ h S)
 | ob n w c fs =>
  refine aU h λf e h=>hr.ob S (P:=λv'=>v'=v->lenV Γ v' H Q X) (λa d h1 h2 ev=>Cm h1 h2 e ?_) rfl
  rw[ev]
  exact cH B h S (iZ λu st' H' h S=>aZ (P:=λu=>match u with | .int n=>(0<=n/\n<1000000)/\Q (.int n) H'|_=>False) h λi h=>⟨h.1,k _ _ _ h.2 S⟩)
 | el n w es=>exact L h hr
 | kd n w es=>exact L h hr
 | ct _=>exact h.elim
theorem xW(h:Ka Γ sp v i st K)(S:Sat st.A st.F H)(k:PK K Q):subV Γ v i H Q X:=d8 h λr o h hr=>by
 have L:∀{r:Rs},(int' i λi=>tV r λ_ L _ _ xs=>hd i (st.oo o) λh st=>idxV xs i=some (L.g h)/\K.k (L.f (L.g h)) st)->d7 st.A st.F v r->subV Γ v i H Q X:=λh hr=>aZ (P:=λi=>subV Γ v i H Q X) h λj h=>lR h hr λα L n w xs h ok _=>dZ h λy o h=>by
  obtain⟨a,e,h1,_⟩:=ok.at_ H S
  rw[e]
  exact BW h1 (idx_map h.1) (k.k _ _ _ h.2 S)
 cases r with
 | ob n w c fs =>
  refine aU h λf e h=>hr.ob S (P:=λv'=>v'=v->subV Γ v' i H Q X) (λa d h1 h2 ev=>Cp h1 h2 e ?_) rfl
  rw[ev]
  exact cH B h S k
 | ce n w c =>
  exact aZ (P:=λi=>subV Γ v i H Q X) h λj h=>hr.ce S (P:=λv=>subV Γ v (.int j) H Q X) λa h1=>Cq (st:=st.oo o) h1 h S k.k
 | el n w es=>exact L h hr
 | kd n w es=>exact L h hr
 | stk n xs=>exact aZ (P:=λi=>subV Γ v i H Q X) h λj h=>h.elim
 | ct _=>exact aZ (P:=λi=>subV Γ v i H Q X) h λj h=>h.elim
theorem Cr(h:Ph Γ sp b us st K)(S:Sat st.A st.F H)(k:Po K Q):mU Γ b us H Q X :=
 dz (P:=λb=>mU Γ b us H Q X) h (λh=>dI (P:=λus=>mU Γ 0 us H Q X) h λv h=>xV B h S k) λh =>
 dz (P:=λb=>mU Γ b us H Q X) h (λh=>dI (P:=λus=>mU Γ 1 us H Q X) h λv h=>d8 h λr o h hr=>lR h hr λα L n w xs h ok _=>by
  obtain⟨a,e,h1,_⟩:=ok.at_ H S
  rw[e]
  show(match H a with|some (.list xs)=>newC (.list xs) H Q|_=>False)
  rw[h1]
  exact d9 h S k) λh =>
 dz (P:=λb=>mU Γ b us H Q X) h (λh=>dI (P:=λus=>mU Γ 2 us H Q X) h λv h=>jP h S k) λh =>
 dz (P:=λb=>mU Γ b us H Q X) h (λh=>dI (P:=λus=>mU Γ 3 us H Q X) h λv h=>jP h S k) λh =>
 dz (P:=λb=>mU Γ b us H Q X) h (λh=>dI (P:=λus=>mU Γ 6 us H Q X) h λv h=>jP h S k) λh =>
 dz (P:=λb=>mU Γ b us H Q X) h (λh=>lQ (P:=λus=>mU Γ 4 us H Q X) h λx y h=>aZ (P:=λx=>mU Γ 4 [x,y] H Q X) h λi h=>aZ (P:=λy=>mU Γ 4 [.int i,y] H Q X) h λj h=>k _ _ _ h S) λh =>
 Fi (P:=λb=>mU Γ b us H Q X) h λh=>lQ (P:=λus=>mU Γ 5 us H Q X) h λx y h=>aZ (P:=λx=>mU Γ 5 [x,y] H Q X) h λi h=>aZ (P:=λy=>mU Γ 5 [.int i,y] H Q X) h λj h=>k _ _ _ h S
theorem Cu(h:Pj Γ sp c us kn kv st K)(S:Sat st.A st.F H)(k:PK K Q):M4 Γ c us kn kv H Q X:=λa d hn ha hd=>by
 have h:=h a d
 have S2:=S.Nb (c:=c) hn ha hd
 cases e:bL c 43 with
 | some f =>
  rw[e] at h
  refine cH B (st:=st.add (.k true (.ob a c d []))) h S2 ⟨λu st' H' h S=>tX (P:=λu=>u=.none/\Q (.ref a) H') h λh=>⟨rfl,k.k _ _ _ h S⟩,λk' e v A F H' h S=>?_⟩
  obtain⟨d,e1,e2⟩:=QW.mp e
  rw[<-e2] at h
  exact tX (P:=λu=>u=.none/\Q (.ref a) H') h λh=>⟨rfl,k.d _ e1 _ _ _ _ h S⟩
 | none =>
  rw[e] at h
  refine fQ h λe2 g=>?_
  clear h
  cases us with
  | cons=>cases e2
  | nil =>
   cases kn with
   | cons=>cases e2
   | nil=>exact⟨rfl,rfl,k.k _ _ _ g S2⟩
end
section
variable{Γ:bI}{sp:Nat->Option (List V->St->KE->Prop)}(B:lW Γ sp)
section
variable{st:St}{H:AH}{Q:QV}
theorem rU:∀{A:List Th} {F:CL} {n:Nat} {t:Th} {ls:List CL},at' A n=some t->Al F A ls->∃l ls',ls.flatten.Perm (l++ls'.flatten)/\th F t l/\Al F (cJ A n .mt) ls'
 | [],_,_,_,_,h,_=>aV h
 | _::_,_,_,_,[],_,g=>g.elim
 | x::A,F,0,t,l::ls,h,g=>by
  cases h
  exact⟨l,[]::ls,RG _,g.1,⟨rfl,g.2⟩⟩
 | x::A,F,n+1,t,l::ls,h,g=>by
  obtain⟨l',ls',h1,h2,h3⟩:=rU (A:=A) (n:=n) h g.2
  refine⟨l',l::ls',?_,h2,⟨g.1,h3⟩⟩
  rw[Ri,Ri]
  exact(h1.append_left l).trans (QG _ _ _)
theorem rW:∀{A:List Th} {n j:Nat} {t:Th},Nat.beq j n=false->at' (cJ A n t) j=at' A j
 | [],_,_,_,_=>rfl
 | _::_,0,0,_,h=>Bool.noConfusion h
 | _::_,0,_+1,_,_=>rfl
 | _::_,_+1,0,_,_=>rfl
 | _::A,n+1,j+1,_,h=>rW (A:=A) (n:=n) (j:=j) h
theorem lX:∀{qs:List Nat} {xs:List (Nat × Int)} {q:Nat} {x:Nat × Int},qs.length=xs.length->iY (qs++[q]) (xs++[x])=iY qs xs++[(q,.tup [.ref x.1,.int x.2])]
 | [],[],_,_,_=>rfl
 | [],_::_,_,_,h=>nomatch h
 | _::_,[],_,_,h=>nomatch h
 | _::qs,_::xs,_,_,h=>congrArg (_::·) (lX (Nat.succ.inj h))
theorem xX{A:List Th}{n a:Nat}{xs ys:List (Nat × Int)}(h:at' A n=some (.stk a xs)):J4 n ys A=cJ A n (.stk a ys):=by
 show(match at' A n with|some (.stk a _)=>cJ A n (.stk a ys)|_=>A)=_
 rw[h]
theorem xY{t:Th}{q:Nat × Cell}(h:t.own=some q):t=.k true (.ce q.1 q.2):=by
 cases t with
 | k w t=>cases w with
  | true=>cases t with
   | ce a c=>cases Ru h;rfl
   | _=>exact aV h
  | false=>exact aV h
 | _=>exact aV h
theorem Cw{xs:List (Nat × Int)}(S:Sat st.A st.F H)(hp:at' st.A p=some (.stk a xs))(hj:at' st.A j=some (.k true (.ce q (.tup [.ref b,.int i])))):∃qs,qs.length=xs.length/\H a=some (.list (refs qs))/\Sat (cJ (J4 p (xs++[(b,i)]) st.A) j .mt) st.F (upd H a (.list (refs qs++[.ref q]))):=by
 obtain⟨A,F,o⟩:=st
 obtain⟨ls,h1,h2⟩:=S
 obtain⟨B,l,C,rfl,⟨qs,g1,rfl⟩,g3⟩:=h1.at hp
 have pm:∀l:CL,((B++l::C).flatten++F).Perm (l++((B++C).flatten++F)):=λl=>by rw[<-Rg];exact(dw B C l).append_right F
 have h2:=h2.perm (pm _)
 have hne:Nat.beq j p=false:=aW λe=>by rw[e,hp] at hj;cases hj
 rw[xX hp]
 obtain⟨l2,ls2,k1,k2,k3⟩:=rU (n:=j) ((rW (t:=.stk a (xs++[(b,i)])) hne).trans hj) (g3 (.stk a (xs++[(b,i)])) ((a,.list (refs (qs++[q])))::iY (qs++[q]) (xs++[(b,i)])) ⟨qs++[q],by rw[Rd,Rd,g1];rfl,rfl⟩)
 refine⟨qs,g1,h2.at_ _ (.head _),ls2,k3,?_⟩
 have k2:l2=[(q,.tup [.ref b,.int i])]:=k2.1
 rw[k2] at k1
 have e1:(ls2.flatten++F).Perm ((a,Cell.list (refs qs++[.ref q]))::(iY qs xs++((B++C).flatten++F))):=by
  have z:=(pm _).symm.trans (k1.append_right F)
  rw[lX g1] at z
  have z2:((q,Cell.tup [.ref b,.int i])::((a,Cell.list (refs (qs++[q])))::(iY qs xs++((B++C).flatten++F)))).Perm ((q,Cell.tup [.ref b,.int i])::(ls2.flatten++F)):=by
   refine List.Perm.trans ?_ z
   have:((a,Cell.list (refs (qs++[q])))::(iY qs xs++[(q,Cell.tup [.ref b,.int i])]))++((B++C).flatten++F)=((a,Cell.list (refs (qs++[q])))::iY qs xs)++((q,Cell.tup [.ref b,.int i])::((B++C).flatten++F)):=by simp
   rw[this]
   exact(List.perm_middle (l₁:=(a,Cell.list (refs (qs++[q])))::iY qs xs)).symm
  have z3:=(List.perm_cons _).mp z2
  rw[show refs (qs++[q])=refs qs++[.ref q] from Rv] at z3
  exact z3.symm
 exact Holds.perm (Holds.set (A:=[]) h2 _) e1.symm
theorem Cx{xs:List (Nat × Int)}(S:Sat st.A st.F H)(hp:at' st.A p=some (.stk a (xs++[(b,i)]))):∃qs q,qs.length=xs.length/\H a=some (.list (refs (qs++[q])))/\Sat (.k true (.ce q (.tup [.ref b,.int i]))::J4 p xs st.A) st.F (upd H a (.list (refs qs))):=by
 obtain⟨A,F,o⟩:=st
 obtain⟨ls,h1,h2⟩:=S
 obtain⟨B,l,C,rfl,⟨qs,g1,rfl⟩,g3⟩:=h1.at hp
 rw[Rd] at g1
 have hq:qs≠[]:=λe=>by rw[e] at g1;cases g1
 have e2:=List.dropLast_concat_getLast hq
 have g2:qs.dropLast.length=xs.length:=by rw[List.length_dropLast,g1];rfl
 rw[<-e2,lX g2] at h2
 rw[xX hp]
 refine⟨qs.dropLast,qs.getLast hq,g2,h2.at_ (a,_) (Q9 _ (List.mem_flatten.mpr ⟨_,QZ _ (.head _),.head _⟩)),?_⟩
 refine Sat.cons (t:=.k true (.ce (qs.getLast hq) (.tup [.ref b,.int i]))) (l:=[(qs.getLast hq,.tup [.ref b,.int i])]) ⟨rfl,trivial⟩ (g3 (.stk a xs) ((a,.list (refs qs.dropLast))::iY qs.dropLast xs) ⟨_,g2,rfl⟩) ?_
 have h2:=h2.perm ((dw B C _).append_right F)
 have h3:=Holds.set (A:=[]) h2 (.list (refs qs.dropLast))
 refine h3.perm ?_
 have p1:=((dw B C ((a,Cell.list (refs qs.dropLast))::iY qs.dropLast xs)).append_right F).symm
 refine List.Perm.trans ?_ (p1.cons (qs.getLast hq,Cell.tup [.ref b,.int i]))
 have this:([]:CL)++(a,Cell.list (refs qs.dropLast))::(iY qs.dropLast xs++[(qs.getLast hq,Cell.tup [.ref b,.int i])]++(B++C).flatten++F)=((a,Cell.list (refs qs.dropLast))::iY qs.dropLast xs)++((qs.getLast hq,Cell.tup [.ref b,.int i])::((B++C).flatten++F)):=by simp only [List.nil_append,Rg,Rq]
 refine List.Perm.trans (List.Perm.of_eq this) ?_
 refine(List.perm_middle (l₁:=(a,Cell.list (refs qs.dropLast))::iY qs.dropLast xs)).trans (List.Perm.cons _ ?_)
 rw[Rg]
theorem xZ{p a n:Nat}{xs:List (Nat × Int)}{us:List V}(h:J6 p xs n us st K)(S:Sat st.A st.F H)(hp:at' st.A p=some (.stk a xs))(k:Po K Q):bQ a n us H Q:=by
 obtain⟨hl,h⟩:=h
 refine dz (P:=λn=>bQ a n us H Q) h (λh=>dI (P:=λus=>bQ a 147 us H Q) h λv h=>dZ h λx o h=>aU h λt e1 h=>aU h λq e2 h=>aU h λys e3 h=>?_)
  λh=>Fi (P:=λn=>bQ a n us H Q) h λh=>fQ h λe g=>dZ g λx o y=>?_
 ·obtain⟨q,c⟩:=q
  rw[xY e2,Cell.xP e3] at e1
  refine lQ (P:=λys=>at' st.A x.n=some (.k true (.ce q (.tup ys)))->bQ a 147 [v] H Q) h (λy z h=>rQ (P:=λy=>at' st.A x.n=some (.k true (.ce q (.tup [y,z])))->bQ a 147 [v] H Q) h λb h=>aZ (P:=λz=>at' st.A x.n=some (.k true (.ce q (.tup [.ref b,z])))->bQ a 147 [v] H Q) h λi h e1=>?_) e1
  obtain⟨qs,g1,g2,S2⟩:=Cw S hp e1
  rw[h.1]
  exact⟨refs qs,.none,_,g2,by rw[refs,Rt,g1];exact hl,rfl,k _ _ _ h.2 S2⟩
 ·cases us with
  | cons=>cases e
  | nil =>
   rw[y.1] at hp hl
   obtain⟨qs,q,g1,g2,S2⟩:=Cx S hp
   refine⟨refs (qs++[q]),.ref q,_,g2,?_,?_,k _ _ _ (y.2 q) S2⟩
   ·rw[Rd] at hl;rw[refs,Rt,Rd,g1];exact hl
   ·show((refs (qs++[q])).getLast?).map (λu=>(u,(refs (qs++[q])).dropLast))=_
    rw[show refs (qs++[q])=refs qs++[.ref q] from Rv,List.getLast?_concat,List.dropLast_concat];rfl
end
end
section
variable{Γ:bI}{sp:Nat->Option (List V->St->KE->Prop)}(B:lW Γ sp){m:Loc}
include B
theorem vP(hgo:∀(st:St) (K:List V->St->Prop) (H:AH) (Q:List V->AH->Prop) (X:QX),qm Γ sp m as st K->Sat st.A st.F H->(∀vs st' H',K vs st'->Sat st'.A st'.F H'->Q vs H')->jH Γ m as H Q X)
  (h:Fe Γ sp v n (qm Γ sp m as) st K) (S:Sat st.A st.F H) (k:PK K Q):DM Γ m n as v H Q X:=d8 h λr o h hr=>by
 have L:∀{r:Rs},(tV r λ_ _ _ _ _=>opt (fD n) λ_=>qm Γ sp m as (st.oo o) λus st=>rsX v st λr st=>tV r λ_ L p w xs=>gd w (Mu L p xs n us st K.k))->d7 st.A st.F v r->DM Γ m n as v H Q X:=λh hr=>lR h hr λα L p w xs h ok _=>aU h λs e h=>by
  obtain⟨a,ev,h1,_⟩:=ok.at_ H S
  rw[ev] at h |-
  exact Fj h1 e (hgo _ _ _ _ _ h S λus st H h S=>d8 h λr o h hr=>lR h hr λα L p w xs h ok okL=>fQ h λhw h=>by
   rw[hw] at ok
   obtain⟨a',e',q⟩:=Ci h S ok okL k.k
   cases e'
   exact q)
 cases r with
 | ob p w c fs =>
  refine aU h λf e h=>hr.ob S (P:=λv'=>v'=v->DM Γ m n as v' H Q X) (λa d h1 h2 ev=>ug h1 h2 e ?_) rfl
  rw[ev]
  exact hgo _ _ _ _ _ h S λus st H h S=>cH B h S k
 | ct c =>
  obtain⟨a,ev,h2⟩:=hr
  obtain⟨d,fs,h3,h4⟩:=h2 H S
  refine aU h λf e h=>?_
  rw[ev] at h |-
  exact ug h3 h4 e (hgo _ _ _ _ _ h S λus st H h S=>cH B h S k)
 | stk p xs =>
  refine aU h λs e h=>hr.stk S (P:=λv'=>v'=v->DM Γ m n as v' H Q X) (λa qs _ h1 ev=>Fj h1 e (hgo _ _ _ _ _ h S λus st H h S=>d8 h λr o h hr=>?_)) rfl
  cases r with
  | stk p xs =>
   obtain⟨a',e',h2⟩:=hr
   rw[<-ev] at e'
   cases e'
   exact xZ (st:=st.oo o) h S h2 k.k
  | _=>exact h.elim
 | el p w es=>exact L h hr
 | kd p w es=>exact L h hr
 | ce p w c =>
  cases c with
  | dict es =>
   refine fQ h λhn h=>hr.ce S (P:=λv'=>v'=v->DM Γ m n as v' H Q X) (λa h1 ev=>Kg h1 ⟨aJ hn,hgo _ _ _ _ _ h S λus st H h S=>d8 h λr o h hr=>?_⟩) rfl
   cases r with
   | ce p w c=>cases w with
    | true =>
     refine aU h λes e h=>?_
     obtain⟨a',e',h2⟩:=hr
     rw[<-ev] at e'
     cases e'
     rw[Cell.tY e] at h2
     exact Cg (st:=st.oo o) h S h2 k.k
    | false=>exact h.elim
   | _=>exact h.elim
  | _=>exact L h hr
abbrev ME(Γ:bI)(sp:Nat->Option (List V->St->KE->Prop))(m:Loc)(e:CE):Prop:=∀(st:St) (K:KK) (H:AH) (Q:QV) (X:QX),xe Γ sp m e st K->Sat st.A st.F H->PK K Q->DE Γ m e H Q X
abbrev ML(Γ:bI)(sp:Nat->Option (List V->St->KE->Prop))(m:Loc)(es:List CE):Prop:=∀(st:St) (K:List V->St->Prop) (H:AH) (Q:List V->AH->Prop) (X:QX),qm Γ sp m es st K->Sat st.A st.F H->(∀vs st' H',K vs st'->Sat st'.A st'.F H'->Q vs H')->jH Γ m es H Q X
theorem HN(ha:ME Γ sp m a)(hb:ME Γ sp m b):ME Γ sp m (.and a b):=λst K H Q X h S k=>ha _ _ H _ X h S (iZ λx st H h S=>gU (B:=λt=>match t with|true=>DE Γ m b H Q X|false=>Q x H) h S λt st h S=>lV h λo h=>by
  cases t with
  | true=>exact hb _ _ H Q X h S k
  | false=>exact k.k _ _ _ h S)
theorem Kh(ha:ME Γ sp m a)(hb:ME Γ sp m b):ME Γ sp m (.or a b):=λst K H Q X h S k=>ha _ _ H _ X h S (iZ λx st H h S=>gU (B:=λt=>match t with|true=>Q x H|false=>DE Γ m b H Q X) h S λt st h S=>lV h λo h=>by
  cases t with
  | false=>exact hb _ _ H Q X h S k
  | true=>exact k.k _ _ _ h S)
theorem Cy(ho:ME Γ sp m o)(hs:ML Γ sp m as):ME Γ sp m (.meth o n as):=λst K H Q X h S k=>ho _ _ H _ X h S (iZ λv st H h S=>lO h (λe g=>by
  obtain⟨e1,_⟩:=Ht e
  cases as with
  | cons=>cases e1
  | nil=>exact dZ g λx o y=>Cj B (st:=st.oo o) y S k.k) λ_ h=>vP B hs h S k)
theorem yc(ho:ME Γ sp m o)(he:ME Γ sp m e):ME Γ sp m (.methS o n e):=λst K H Q X h S k=>ho _ _ H (λv H=>match v with
   | .ref a=>match H a with
    | some (.inst c d)=>match H d with
     | some (.ns _)=>match bL c n with
      | some f=>DE Γ m e H (λu H=>match bZ H u with|some (.tup vs)=>bO Γ f (v::vs) [] [] H Q X|_=>False) X
      | none=>False
     | _=>False
    | _=>False
   | _=>False) X h S (iZ λv st H h S=>d8 h λr o h hr=>aU h λc ec h=>aU h λf ef h=>by
  obtain⟨a,d,fs,ev,h1,h2⟩:=hr.cls S ec (P:=λv=>∃a d,∃fs:Loc,v=.ref a/\H a=some (.inst c d)/\H d=some (.ns fs)) λa d fs h1 h2=>⟨a,d,fs,rfl,h1,h2⟩
  rw[ev] at h |-
  dsimp only
  rw[h1]
  dsimp only
  rw[h2]
  dsimp only
  rw[ef]
  refine he _ _ H _ X h S (iZ λu st H h S=>iu (P:=λu=>match bZ H u with|some (.tup vs)=>bO Γ f (.ref a::vs) [] [] H Q X|_=>False) S h λc o b h h1=>aU h λus e h=>?_)
  show(match H b with|some (.tup vs)=>bO Γ f (.ref a::vs) [] [] H Q X|_=>False)
  rw[h1,Cell.xP e]
  exact cH B h S k)
omit B in
theorem Cz{g:List Int}{i:Int}{u:V}{H:AH}{Q:QV}(h:0<=i/\(g[i.toNat]?).map V.int=some u)(q:Q u H):(match (if 0<=i then g[i.toNat]? else none) with|some u=>Q (.int u) H|none=>False):=by
 obtain⟨w,e1,e2⟩:=QW.mp h.2
 rw[if_pos h.1,e1]
 rw[<-e2] at q
 exact q
theorem cD(e:CE):ME Γ sp m e:=by
 refine CE.rec (motive_1:=ME Γ sp m) (motive_2:=ML Γ sp m) ?_ ?_ ?_ ?_ ?_ ?_ ?_ ?_ ?_ ?_ ?_ ?_ ?_ ?_ ?_ ?_ ?_ ?_ ?_ ?_ ?_ ?_ ?_ ?_ ?_ e
 ·exact λst K H Q X h S k=>k.k _ _ _ h S
 ·exact λst K H Q X h S k=>k.k _ _ _ h S
 ·exact λst K H Q X h S k=>k.k _ _ _ h S
 ·exact λst K H Q X h S k=>d9 h S k.k
 ·exact λi st K H Q X h S k=>k.k _ _ _ h S
 ·exact λx st K H Q X h S k=>aU h λv e h=>by
   show(match look m x with|some v=>Q v H|none=>False)
   rw[e]
   exact k.k _ _ _ h S
 ·exact λe f he st K H Q X h S k=>he _ _ H _ X h S (iZ λv st H h S=>nC h S k.k)
 ·exact λo a b ha hb st K H Q X h S k=>ha _ _ H _ X h S (iZ λx st H h S=>hb _ _ H _ X h S (iZ λy st H h S=>xT h S k.k))
 ·exact λa ha st K H Q X h S k=>ha _ _ H _ X h S (iZ λx st H h S=>aZ (P:=λx=>match x with | .int i=>Q (.int (-i)) H|_=>False) h λi h=>k.k _ _ _ h S)
 ·exact λo a b ha hb st K H Q X h S k=>ha _ _ H _ X h S (iZ λx st H h S=>hb _ _ H _ X h S (iZ λy st H h S=>qt (B:=λt=>Q (.bool t) H) h S λt st h S=>k.k _ _ _ h S))
 ·exact λa ha st K H Q X h S k=>ha _ _ H _ X h S (iZ λx st H h S=>gU (B:=λt=>Q (.bool (!t)) H) h S λt st h S=>k.k _ _ _ h S)
 ·exact λa b=>HN B
 ·exact λa b=>Kh B
 ·exact λf as hs st K H Q X h S k=>hs _ _ H _ X h S λus st H h S=>cH B h S k
 ·exact λc as kn kv hs hv st K H Q X h S k=>hs _ _ H _ X h S λus st H h S=>hv _ _ H _ X h S λws st H h S=>Cu B h S k
 ·exact λo n as=>Cy B
 ·exact λo n e=>yc B
 ·exact λb as hs st K H Q X h S k=>hs _ _ H _ X h S λus st H h S=>Cr B h S k.k
 ·exact λe i he hi st K H Q X h S k=>he _ _ H _ X h S (iZ λv st H h S=>hi _ _ H _ X h S (iZ λi st H h S=>xW B h S k))
 ·exact λg i hi st K H Q X h S k=>hi _ _ H _ X h S (iZ λv st H h S=>aZ (P:=λv=>match v with | .int k=>(match (if 0<=k then g[k.toNat]? else none) with|some u=>Q (.int u) H|none=>False)|_=>False) h λi h=>dZ h λx o h=>Cz h.1 (k.k _ _ _ h.2 S))
 ·exact λe lo hi he hl hh st K H Q X h S k=>he _ _ H _ X h S (iZ λv st H h S=>hl _ _ H _ X h S (iZ λa st H h S=>hh _ _ H _ X h S (iZ λb st H h S=>rT h S k.k)))
 ·exact λas hs st K H Q X h S k=>hs _ _ H _ X h S λus st H h S=>fQ h λe h=>⟨RM (Q6 e) (by decide),d9 h S k.k⟩
 ·exact λas hs st K H Q X h S k=>hs _ _ H _ X h S λus st H h S=>fQ h λe h=>⟨RM (Q6 e) (by decide),d9 h S k.k⟩
 ·exact λst K H Q X h S k=>k _ _ _ h S
 ·exact λe r he hr st K H Q X h S k=>he _ _ H _ X h S (iZ λv st H h S=>hr _ _ H _ X h S λvs st H h S=>k _ _ _ h S)
abbrev MB(Γ:bI)(sp:Nat->Option (List V->St->KE->Prop))(m:Loc)(e:CE):Prop:=∀(st:St) (K:KB) (H:AH) (Q:Bool->AH->Prop) (X:QX),xb Γ sp m e st K->Sat st.A st.F H->(∀t st' H',K t st'->Sat st'.A st'.F H'->Q t H')->DB Γ m e H Q X
theorem Kl(h1:∀(st:St) (K:KB),xb Γ sp m e st K=xe Γ sp m e st ⟨λv st=>gq v st K,none⟩)(h2:∀(H:AH) (Q:Bool->AH->Prop) (X:QX),DB Γ m e H Q X=DE Γ m e H (λv H=>cW v H λt=>Q t H) X):MB Γ sp m e:=λst K H Q X h S k=>by
 rw[h1] at h
 rw[h2]
 exact cD B e _ _ H _ X h S (iZ λv st H h S=>gU (B:=λt=>Q t H) h S λt st h S=>k _ _ _ h S)
theorem yd(e:CE):MB Γ sp m e:=by
 induction e using CE.rec (motive_2:=λ_=>True) with
 | not a ha=>exact λst K H Q X h S k=>ha _ _ H _ X h S λt st H h S=>k _ _ _ h S
 | and a b ha hb =>
  exact λst K H Q X h S k=>ha _ _ H (λt H=>match t with|true=>DB Γ m b H Q X|false=>Q false H) X h S λt st H h S=>lV h λo h=>by
   cases t with
   | true=>exact hb _ _ H Q X h S k
   | false=>exact k _ _ _ h S
 | or a b ha hb =>
  exact λst K H Q X h S k=>ha _ _ H (λt H=>match t with|true=>Q true H|false=>DB Γ m b H Q X) X h S λt st H h S=>lV h λo h=>by
   cases t with
   | false=>exact hb _ _ H Q X h S k
   | true=>exact k _ _ _ h S
 | cmp o a b _ _=>exact λst K H Q X h S k=>cD B a _ _ H _ X h S (iZ λx st H h S=>cD B b _ _ H _ X h S (iZ λy st H h S=>qt (B:=λt=>Q t H) h S λt st h S=>k _ _ _ h S))
 | nil=>trivial
 | cons=>trivial
 | _=>exact Kl B (λ_ _=>rfl) λ_ _ _=>rfl
end
section
variable{Γ:bI}{sp:Nat->Option (List V->St->KE->Prop)}(B:lW Γ sp){m:Loc}{st:St}{H:AH}
theorem Km{t:Th}(h:t.kd=some q):t=.k true q:=by
 cases t with
 | k w t=>cases w with
  | true=>cases Ru h;rfl
  | false=>exact aV h
 | _=>exact aV h
theorem CG(h1:H a=some (.inst c d))(h2:H d=some (.ns fs))(e:bL c 91=some f)(q:bO Γ f [.ref a,i,v] [] [] H (λ_ H'=>Q H') X):iJ Γ (.ref a) i v H Q X:=by
 delta iJ;dsimp only;rw[h1];dsimp only;rw[h2];dsimp only;rw[e];exact q
theorem CJ(h1:H a=some (.dict es))(h:es.length<=1000)(q:Q (upd H a (.dict (dput es i v)))):iJ Γ (.ref a) (.int i) v H Q X:=by
 delta iJ;dsimp only;rw[h1];exact⟨h,q⟩
theorem yg(S:Sat A F H)(hn:at' A n=some (.k true t))(hj:at' A j=some (.k true (.ce q x)))(hne:Nat.beq j n=false)
  (ht:(cl t).Perm ((d,.ns fs)::(X++Y))) (ht':(cl t').Perm ((d,.ns fs')::(q,x)::X)) (hk:ql F t->ql F t'):Sat (cJ (cJ A n (.k true t')) j .mt) F (upd H d (.ns fs')):=by
 obtain⟨ls,h1,h2⟩:=S
 obtain⟨B,l,C,rfl,⟨g1,g2⟩,g3⟩:=h1.at hn
 have g1:l=cl t:=g1
 obtain⟨l2,ls2,k1,k2,k3⟩:=rU (n:=j) ((rW (t:=.k true t') hne).trans hj) (g3 (.k true t') (cl t') ⟨rfl,hk g2⟩)
 have k2:l2=[(q,x)]:=k2.1
 have pm:∀l:CL,((B++l::C).flatten++F).Perm (l++((B++C).flatten++F)):=λl=>by rw[<-Rg];exact(dw B C l).append_right F
 have h3:=(h2.perm (pm _)).perm ((g1▸ht).append_right _)
 refine⟨ls2,k3,?_⟩
 have z:((q,x)::(ls2.flatten++F)).Perm ((q,x)::((d,Cell.ns fs')::(X++((B++C).flatten++F)))):=by
  have e:=(k1.append_right F).symm.trans ((pm _).trans (ht'.append_right _))
  rw[k2] at e
  exact e.trans (List.Perm.swap _ _ _)
 have z:=(List.perm_cons _).mp z
 have h4:=Holds.set (A:=[]) h3 (.ns fs')
 refine(h4.sub ?_).perm z.symm
 refine List.Sublist.cons_cons _ ?_
 show List.Sublist _ ((X++Y)++((B++C).flatten++F))
 rw[Rg]
 exact(List.sublist_append_right _ _).append_left _
theorem HS {f n a d le lc T c:Nat} {lf:Bool} {es:List E} {ks:List Nat} {v:V} {st:St} {K:St->Prop} {R:Prop} (g:Fg f n (.nd a d le lc T c lf es ks) v st K) (k:∀(h:Or) (o:List Or),(hd f (st.oo o) λg st=>gd (!Nat.beq h.n n) (opt (at' st.A h.n) λt=>opt t.own λq=>opt q.2.ls λxs =>
   sel (Nat.beq f 4) ((v=.ref q.1/\xs=xG g.es/\∀e∈g.es,aQ st.F e)/\K (st.to (cJ (cJ st.A n (.k true (.nd a d q.1 lc T c lf g.es ks))) h.n .mt)))
   (gd (Nat.beq f 5) ((v=.ref q.1/\xs=refs g.ks)/\K (st.to (cJ (cJ st.A n (.k true (.nd a d le q.1 T c lf es g.ks))) h.n .mt))))))->R):R:=by
 obtain⟨A,F,o⟩:=st
 cases o with
 | nil=>exact g.elim
 | cons a o=>exact k a o g
theorem nD{f:Nat}{K:St->Prop}{Q:AH->Prop}(h:xO w f v st K)(S:Sat st.A st.F H)(k:∀st H,K st->Sat st.A st.F H->Q H):nQ w f v H Q:=d8 h λr o h hr=>by
 cases r with
 | ob n w' c fs =>
  refine aU h λt e1 h=>aU h λt' e2 g=>?_
  rw[Km e2] at e1
  obtain⟨t0,e3,m⟩:=hr
  have e5:t0=t':=by injection Ru (e3.symm.trans e1)
  rw[e5] at m
  have i:=(S.kd e1).1
  cases t' with
  | ob a c' d gs =>
   obtain⟨m1,m2,m3⟩:=m
   rw[m1]
   exact fQ g λhl h=>oF (i _ (.head _)) (i _ (.tail _ (.head _))) (Q6 hl) (k _ _ h (S.set e1 (t':=.ob a c' d (put gs f v)) (X:=[_]) (Y:=[]) rfl rfl λ_=>trivial))
  | nd a d le lc T c' lf es ks =>
   obtain⟨m1,m2,m3⟩:=m
   rw[m1]
   refine HS g λx o h=>dZ h λy o h=>fQ h λhne h=>aU h λt e6 h=>aU h λq e7 h=>aU h λxs e8 h=>?_
   rw[xY e7,Cell.ls_eq e8] at e6
   have hne:Nat.beq x.n n=false:=by
    cases z:Nat.beq x.n n with
    | false=>rfl
    | true=>rw[z] at hne;cases hne
   refine dz (P:=λf=>nQ (.ref a) f v H Q) h (λh=>?_) λh=>Fi (P:=λf=>nQ (.ref a) f v H Q) h λh=>?_
   ·obtain⟨⟨g1,g2,g3⟩,h⟩:=h
    rw[g2] at e6
    rw[g1]
    exact oF (i _ (.head _)) (i _ (.tail _ (.head _))) (show 5<=100 by decide) (k _ _ h (yg S e1 e6 hne (t':=.nd a d q.1 lc T c' lf y.es ks) (X:=[_,_]) (Y:=[_]) ((List.Perm.swap _ _ _).trans (.cons _ (.cons _ (.swap _ _ _)))) ((List.Perm.swap _ _ _).trans (.cons _ (.swap _ _ _))) λ_=>g3))
   ·obtain⟨⟨g1,g2⟩,h⟩:=h
    rw[g2] at e6
    rw[g1]
    exact oF (i _ (.head _)) (i _ (.tail _ (.head _))) (show 5<=100 by decide) (k _ _ h (yg S e1 e6 hne (t':=.nd a d le q.1 T c' lf es y.ks) (X:=[_,_]) (Y:=[_]) (List.Perm.swap _ _ _) ((List.Perm.swap _ _ _).trans (.cons _ ((List.perm_append_comm (l₁:=[_,_]) (l₂:=[_]))))) id))
  | ce=>exact g.elim
 | _=>exact h.elim
include B
theorem yh(h:Kc Γ sp w i v d st K)(S:Sat st.A st.F H)(k:∀st H,K st->Sat st.A st.F H->Q H)(kd:∀k,d=some k->∀v A F H,k v A F->Sat A F H->Q H):iJ Γ w i v H Q X:=d8 h λr o h hr=>by
 have L:∀{r:Rs},(int' i λi=>tV r λ_ L n w xs=>gd w (hd (some v) (st.oo o) λh st=>((0<=i/\i<xs.length)/\v=L.f (L.gv v h)/\L.ok st.F (L.gv v h))/\K (st.to (L.to n (xs.set i.toNat (L.gv v h)) st.A))))->d7 st.A st.F w r->iJ Γ w i v H Q X:=λh hr=>aZ (P:=λi=>iJ Γ w i v H Q X) h λj h=>lR h hr λα L n w' xs h ok _=>fQ h λhw h=>dZ h λy o h=>by
  generalize L.gv v y=z at h
  obtain⟨a,e,h1,h2,h3⟩:=ok.at_ H S
  rw[e]
  refine BX h1 (by rw[Rt];exact h.1.1) ?_
  rw[h.1.2.1,<-List.map_set]
  exact k _ _ h.2 (h3 hw _ λx hx=>(List.mem_or_eq_of_mem_set hx).elim (h2 x) λq=>q▸h.1.2.2)
 cases r with
 | ob n w' c fs =>
  refine aU h λf e h=>hr.ob S (P:=λw'=>w'=w->iJ Γ w' i v H Q X) (λa d h1 h2 ev=>?_) rfl
  rw[<-ev] at h
  exact CG h1 h2 e (cH B h S ⟨λu st' H' h S=>k _ _ h S,λq e v A F H h S=>kd q e v A F H h S⟩)
 | ce n w' c =>
  cases w' with
  | false=>cases c<;>exact L h hr
  | true =>
   cases c with
   | dict es =>
    refine aZ (P:=λi=>iJ Γ w i v H Q X) h λj g=>?_
    obtain⟨a,e,h2⟩:=hr
    rw[e]
    exact CJ ((S.kd h2).1 _ (.head _)) g.1 (k _ _ g.2 (Nk S h2))
   | _=>exact L h hr
 | el n w es=>exact L h hr
 | kd n w es=>exact L h hr
 | stk n xs=>exact aZ (P:=λi=>iJ Γ w i v H Q X) h λj h=>h.elim
 | ct _=>exact aZ (P:=λi=>iJ Γ w i v H Q X) h λj h=>h.elim
theorem ju(h:Hq Γ sp t v d m st K)(S:Sat st.A st.F H)(k:∀m st H,K m st->Sat st.A st.F H->Q m H)(kd:∀k,d=some k->∀v A F H,k v A F->Sat A F H->Q m H):DT Γ t v m H Q X:=by
 cases t with
 | var z=>exact k _ _ _ h S
 | attr o f=>exact cD B o _ _ H _ _ h S (iZ λw st H h S=>nD h S λst H h S=>k _ _ _ h S)
 | sub o i=>exact cD B o _ _ H _ _ h S (iZ λw st H h S=>cD B i _ _ H _ _ h S (iZ λj st H h S=>yh B h S (λst H h S=>k _ _ _ h S) kd))
 | tup=>exact h.elim
theorem qu:∀{ts:List CT} {vs:List V} {m:Loc} {st:St} {H:AH} {K:Loc->St->Prop} {Q:Loc->AH->Prop} {X:QY},Hr Γ sp ts vs m st K->Sat st.A st.F H->(∀m st H,K m st->Sat st.A st.F H->Q m H)->Jw Γ ts vs m H Q X
 | [],[],_,_,_,_,_,_,h,S,k=>k _ _ _ h S
 | [],_::_,_,_,_,_,_,_,h,_,_=>h.elim
 | _::_,[],_,_,_,_,_,_,h,_,_=>h.elim
 | _::_,_::_,_,_,_,_,_,_,h,S,k=>ju B h S (λm st H h S=>qu h S k) λ_ e=>aV e
theorem yj(h:BP Γ sp t v d m st K)(S:Sat st.A st.F H)(k:∀m st H,K m st->Sat st.A st.F H->Q m H)(kd:∀k,d=some k->∀v A F H,k v A F->Sat A F H->Q m H):DT Γ t v m H Q X:=by
 cases t with
 | tup ts =>
  refine iu (P:=λv=>DT Γ (.tup ts) v m H Q X) S h λc o a h h1=>aU h λvs e h=>fQ h λhl h=>?_
  show(match H a with|some (.tup vs)=>ts.length=vs.length/\Jw Γ ts vs m H Q X|_=>False)
  rw[h1,Cell.xP e]
  exact⟨aJ hl,qu B h S k⟩
 | var z=>exact ju B (t:=.var z) h S k kd
 | attr o f=>exact ju B (t:=.attr o f) h S k kd
 | sub o i=>exact ju B (t:=.sub o i) h S k kd
end
noncomputable def dB(Γ:bI)(b:List CS)(Q:QS)(X:QY):QS:=λf m H=>match f with
 | .next=>gH Γ b m H Q X
 | f=>Q f m H
theorem um:∀{a:List CS} {m:Loc} {H:AH},gH Γ (a++b) m H Q X=gH Γ a m H (dB Γ b Q X) X
 | [],_,_=>rfl
 | s::r,m,H=>by
  have e:dB Γ (r++b) Q X=dB Γ r (dB Γ b Q X) X:=by
   funext f m H
   cases f with
   | next=>exact um
   | _=>rfl
  show(∃m',_/\DS Γ s m' H (dB Γ (r++b) Q X) X)=∃m',_/\DS Γ s m' H (dB Γ r (dB Γ b Q X) X) X
  rw[e]
section
variable{Γ:bI}{sp:Nat->Option (List V->St->KE->Prop)}(B:lW Γ sp){m:Loc}{st:St}{H:AH}
theorem CK(h:isCall c=true)(Q:Bool->AH->Prop)(X:QX):DB Γ m c H Q X=DE Γ m c H (λv H=>cW v H λt=>Q t H) X:=by
 cases c<;>first|rfl|cases h
include B
theorem qw(h:Hs Γ sp c a b m st K go)(S:Sat st.A st.F H)(q:∀f m' A' F' H',K f m' A' F'->Sat A' F' H'->Q f m' H')(hgo:∀t st H,go t st->Sat st.A st.F H->R t H)
  (ha:∀H,gH Γ a.flatten m H Q Y->R true H) (hb:∀H,gH Γ b.flatten m H Q Y->R false H):DB Γ m c H R X :=
 lO h (λe h=>by
  rw[CK e]
  refine cD B c _ _ H _ X h S ⟨λv st H h S=>gU (B:=λt=>R t H) h S λt st h S=>hgo _ _ _ h S,λk e v A F H h S=>?_⟩
  rw[<-Ru e] at h
  cases v with
  | none=>exact hb _ (h H Q Y S q)
  | bool t=>cases t with
   | true=>exact ha _ (h H Q Y S q)
   | false=>exact hb _ (h H Q Y S q)
  | _=>exact h.elim) λ_ h=>yd B c _ _ H R X h S λt st H h S=>hgo _ _ _ h S
theorem CN(h:Ni Γ sp c a b m st K go)(S:Sat st.A st.F H)(q:∀f m' A' F' H',K f m' A' F'->Sat A' F' H'->Q f m' H')(hgo:∀t st H,go t st->Sat st.A st.F H->R t H)
  (ha:∀H,gH Γ a.flatten m H Q Y->R true H) (hb:∀H,gH Γ b.flatten m H Q Y->R false H):DB Γ m c H R X:=by
 cases c with
 | not e=>exact qw B (R:=λt H=>R (!t) H) h S q (λt st H h=>hgo _ st H h) hb ha
 | _=>exact qw B h S q hgo ha hb
theorem CP(hgo:∀rs m st K,go rs m st K->aj Γ rs m st.A st.F K)(h:xs1 Γ sp go s (s::r) r rs m st K):aj Γ ((s::r)::rs) m st.A st.F K:=λH Q X S q=>by
 have key:DS Γ s m H (dB Γ (r++rs.flatten) Q X) X->gH Γ ((s::r)::rs).flatten m H Q X:=λg=>⟨m,λ_ _ e=>e,g⟩
 have nx:∀{m st H},go (r::rs) m st K->Sat st.A st.F H->gH Γ (r++rs.flatten) m H Q X:=λh S=>hgo _ _ _ _ h _ Q X S q
 cases s with
 | expr e=>exact key <| cD B e _ _ H _ _ h S ⟨λv st H h S=>nx h S,λk e v A F H h S=>by rw[<-Ru e] at h;exact h H Q X S q⟩
 | brk=>exact key <| q _ _ _ _ _ h S
 | cont=>exact key <| q _ _ _ _ _ h S
 | ret e=>exact key <| cD B e _ _ H _ _ h S ⟨λv st H h S=>q (.ret v) _ _ _ _ h S,λk e v A F H h S=>by rw[<-Ru e] at h;exact q (.ret v) _ _ _ _ h S⟩
 | asg t e =>
  refine key <| cD B e _ _ H _ _ h S ⟨λv st H h S=>yj B h S (λm st H h S=>nx h S) λk e v A F H h S=>by rw[<-Ru e] at h;exact h H Q X S q,λk e v A F H g S=>?_⟩
  cases t with
  | var x=>rw[<-Ru e] at g;exact g H Q X S q
  | _=>exact aV e
 | augv z o e =>
  refine key <| aU h λu eu h=>?_
  show(match look m z with|some u=>DE Γ m e H (λv H=>lA o u v H λw H=>gH Γ (r++rs.flatten) (put m z w) H Q X) (λx H=>X x m H)|none=>False)
  rw[eu]
  exact cD B e _ _ H _ _ h S (iZ λv st H h S=>qp h S λw st H h S=>nx h S)
 | auga o f k e=>exact key <| cD B o _ _ H _ _ h S (iZ λa st H h S=>nC h S λu st H h S=>cD B e _ _ H _ _ h S (iZ λv st H h S=>qp h S λw st H h S=>nD h S λst H h S=>nx h S))
 | ite c a b =>
  have ea:∀{a:List CS} {H:AH},gH Γ (a::r::rs).flatten m H Q X=gH Γ a m H (dB Γ (r++rs.flatten) Q X) X:=um
  have h:Ni Γ sp c (a::r::rs) (b::r::rs) m st K (λt st=>ask t st λt st=>sel t (go (a::r::rs) m st K) (go (b::r::rs) m st K)):=h
  refine key <| CN B (a:=a::r::rs) (b:=b::r::rs) (K:=K) (Y:=X) (R:=λt H=>match t with|true=>gH Γ a m H (dB Γ (r++rs.flatten) Q X) X|false=>gH Γ b m H (dB Γ (r++rs.flatten) Q X) X) h S q (λt st H h S=>lV h λo h=>?_) (λH h=>ea.mp h) (λH h=>ea.mp h)
  cases t with
  | true=>exact ea.mp (hgo _ _ _ _ h H Q X S q)
  | false=>exact ea.mp (hgo _ _ _ _ h H Q X S q)
 | asrt c=>exact key <| yd B c _ _ H _ _ h S λt st H h S=>⟨h.1,nx h.2 S⟩
 | rais=>exact h.elim
 | _=>exact h H Q X S q
theorem oG:∀{n:Nat} {rs:lM} {m:Loc} {st:St} {K:KS},xs Γ sp n rs m st K->aj Γ rs m st.A st.F K
 | 0,_,_,_,_,h=>h.elim
 | n+1,[],m,st,K,h=>λH Q X S q=>q _ _ _ _ _ h S
 | n+1,[]::rs,m,st,K,h=>oG (n:=n) (rs:=rs) h
 | n+1,(s::r)::rs,m,st,K,h=>lO h (λ_ h=>h) λ_ h=>CP B (λrs m st K h=>oG (n:=n) h) h
theorem aj.run(o:List Or)(h:xs Γ sp 100 rs m ⟨A,F,o⟩ K):aj Γ rs m A F K:=oG B h
theorem aj.rn(o:List Or)(h:p)(e:p=xs Γ sp 100 rs m ⟨A,F,o⟩ K:=by kernel_rfl):aj Γ rs m A F K:=oG B (e▸h)
end
def HW(Γ' Γ:bI)(f:Nat)(c:List CS):Prop:=∀(us:List V) (H:AH) (Q:QV) (X:QX),gH Γ' c (iU (cU f) us) H (λfl _ H'=>Q fl.val H') (λ_ _ _=>False)->Γ f us H Q X
def aL{β:Type}(Γ:bI)(f:Nat)(us:List V)(A:List Th)(F:CL)(p:β->Prop)(v:β->V)(A':β->List Th):Prop:=∀(r:CL) (H:AH) (Q:QV) (X:QX),Sat (A++[.raw r]) F H->(∀b H',p b->Sat (A' b++[.raw r]) F H'->Q (v b) H')->Γ f us H Q X
def jw{β:Type}(F:CL)(B:List Th)(p:β->Prop)(B':β->List Th):Prop:=∀ls,Al F B ls->∃b,p b/\∃ls',Al F (B' b) ls'/\ls.flatten.Perm ls'.flatten
theorem aG(r:CL):[r].flatten=r:=Rx r
theorem uo{ls:List CL}{P:List CL->Prop}(h:Al F [a] ls)(k:∀l,th F a l->P [l]):P ls:=by
 cases ls with
 | nil=>exact h.elim
 | cons l r=>cases r with
  | nil=>exact k l h.1
  | cons=>exact h.2.elim
section
variable{F:CL}{a b c:Th}{B:List Th}
theorem rY(h:∀l,th F a l->∃ls,Al F B ls/\l.Perm ls.flatten):Ent F [a] B:=λls g=>uo (P:=λls=>∃ls',Al F B ls'/\ls.flatten.Perm ls'.flatten) g λl h1=>by rw[aG];exact h l h1
theorem Fo{β:Type}{p:β->Prop}{B:β->List Th}(h:∀l,th F a l->∃b,p b/\∃ls,Al F (B b) ls/\l.Perm ls.flatten):jw F [a] p B:=λls g=>uo (P:=λls=>∃b,p b/\∃ls',Al F (B b) ls'/\ls.flatten.Perm ls'.flatten) g λl h1=>by rw[aG];exact h l h1
theorem CQ(h:∀x y,th F a x->th F b y->∃ls,Al F B ls/\(x++y).Perm ls.flatten):Ent F [a,b] B:=λls g=>by
 cases ls with
 | nil=>exact g.elim
 | cons l r=>exact uo (P:=λr=>∃ls',Al F B ls'/\(l::r).flatten.Perm ls'.flatten) g.2 λy h1=>by rw[Ri,aG];exact h l y g.1 h1
theorem Nq(h:∀x y z,th F a x->th F b y->th F c z->∃ls,Al F B ls/\(x++(y++z)).Perm ls.flatten):Ent F [a,b,c] B:=λls g=>by
 cases ls with
 | nil=>exact g.elim
 | cons l r=>cases r with
  | nil=>exact g.2.elim
  | cons m r=>exact uo (P:=λr=>∃ls',Al F B ls'/\(l::m::r).flatten.Perm ls'.flatten) g.2.2 λy h1=>by rw[Ri,Ri,aG];exact h l m y g.1 g.2.1 h1
theorem Ent.trans(h:Ent F A B)(g:Ent F B C):Ent F A C:=λls x=>by
 obtain⟨l1,h1,p1⟩:=h ls x
 obtain⟨l2,h2,p2⟩:=g l1 h1
 exact⟨l2,h2,p1.trans p2⟩
theorem Ent.app(h:Ent F A B)(g:Ent F C D):Ent F (A++C) (B++D):=λls x=>by
 obtain⟨l1,l2,rfl,x1,x2⟩:=Al.split x
 obtain⟨l3,h1,p1⟩:=h l1 x1
 obtain⟨l4,h2,p2⟩:=g l2 x2
 refine⟨l3++l4,h1.app h2,?_⟩
 rw[Rb,Rb]
 exact p1.append p2
theorem jw.app{β:Type}{A C D:List Th}{p:β->Prop}{B:β->List Th}(h:jw F A p B)(g:Ent F C D):jw F (A++C) p λb=>B b++D:=λls x=>by
 obtain⟨l1,l2,rfl,x1,x2⟩:=Al.split x
 obtain⟨b,hb,l3,h1,p1⟩:=h l1 x1
 obtain⟨l4,h2,p2⟩:=g l2 x2
 refine⟨b,hb,l3++l4,h1.app h2,?_⟩
 rw[Rb,Rb]
 exact p1.append p2
theorem Ent.Ko(h:Ent F A B)(g:jw F B p C):jw F A p C:=λls x=>by
 obtain⟨l1,h1,p1⟩:=h ls x
 obtain⟨b,hb,l2,h2,p2⟩:=g l1 h1
 exact⟨b,hb,l2,h2,p1.trans p2⟩
end
section
variable{Γ:bI}{A B R:List Th}{F:CL}{m:Loc}{rs:lM}{K:KS}
theorem fU(hp:pick is A=some (B,R))(S:Sat A F H):∃l1 l2,Al F B l1/\Al F R l2/\Holds H (l1.flatten++(l2.flatten++F)):=by
 obtain⟨ls,h1,h2⟩:=S
 obtain⟨l1,l2,p,g1,g2⟩:=jr hp h1
 exact⟨l1,l2,g1,g2,by rw[<-Rg];exact h2.perm (p.append_right F)⟩
theorem iw(h1:Al F A l1)(h2:Al F B l2)(h:Holds H (l1.flatten++(l2.flatten++F))):Sat (A++B) F H:=⟨l1++l2,h1.app h2,by rw[Rb,Rg];exact h⟩
theorem au.call{β:Type}{f:Nat}{us:List V}{p:β->Prop}{v:β->V}{A':β->List Th}{K:KV}(is:List Nat)(hp:pick is A=some (B,R))(h:aL Γ f us B F p v A')(k:∀b,p b->K (v b) (A' b++R) F):au Γ f us A F K:=λH Q X S q=>by
 obtain⟨l1,l2,g1,g2,g3⟩:=fU hp S
 refine h l2.flatten H Q X (iw (l2:=[l2.flatten]) g1 ⟨rfl,trivial⟩ (by rw[aG];exact g3)) λb H' hb S'=>q _ _ _ _ (k b hb) ?_
 obtain⟨ls,s1,s2⟩:=S'
 obtain⟨l3,l4,rfl,s3,s4⟩:=s1.split
 refine uo (P:=λl4=>Holds H' ((l3++l4).flatten++F)->_) s4 (λx e s2=>?_) s2
 have e:x=l2.flatten:=e
 refine iw s3 g2 ?_
 rw[Rb,aG,e,Rg] at s2
 exact s2
theorem Vw.go(is:List Nat)(hp:pick is A=some (B,R))(e:Ent F B B')(k:Vw F (B'++R) C):Vw F A C:=(Vw.pk is hp e).trans k
theorem au.pk{f:Nat}{us:List V}{B':List Th}{K:KV}(is:List Nat)(hp:pick is A=some (B,R))(e:Ent F B B')(h:au Γ f us (B'++R) F K):au Γ f us A F K:=λH Q X S q=>h H Q X (Vw.pk is hp e H S) q
theorem au.vw{f:Nat}{us:List V}{A':List Th}{K:KV}(w:Vw F A A')(h:au Γ f us A' F K):au Γ f us A F K:=λH Q X S q=>h H Q X (w H S) q
theorem aL.of(hB:HW Γ' Γ f b)(h:∀(r:CL) (K:KS),(∀x fl m A1,p x->fl.val=v x->Vw F A1 (A' x++[.raw r])->K fl m A1 F)->aj Γ' [b] (iU (cU f) us) (A++[.raw r]) F K):aL Γ f us A F p v A':=λr H Q X S q=>by
 refine hB us H Q X ?_
 have e:b=[b].flatten:=(Rx b).symm
 rw[e]
 refine h r (λfl _ A1 F1=>∃x,p x/\fl.val=v x/\F1=F/\Vw F A1 (A' x++[.raw r])) (λx fl m A1 h1 h2 h3=>⟨x,h1,h2,rfl,h3⟩) H _ _ S λfl m' A1 F1 H' k S'=>?_
 obtain⟨x,hx,e1,e2,e3⟩:=k
 show Q fl.val H'
 rw[e1]
 rw[e2] at S'
 exact q _ _ hx (e3 _ S')
def Le(m' m:Loc):Prop:=∀x v,look m' x=some v->look m x=some v
theorem aj.up(g:Le M m)(h:aj Γ ((s::r)::rs) M A F K):aj Γ ((s::r)::rs) m A F K:=λH Q X S q=>by
 obtain⟨m',h1,h2⟩:=h H Q X S q
 exact⟨m',λx v e=>g x v (h1 x v e),h2⟩
theorem Le.refl(m:Loc):Le m m:=λ_ _ e=>e
theorem Le.put(g:Le M m)(h:look M z=none):Le (M++[(z,v)]) (put m z v):=λx u e=>by
 rw[pI]
 have q:∀{M:Loc},look (M++[(z,v)]) x=some u->look M x=some u\/x=z/\v=u:=by
  intro M
  induction M with
  | nil =>
   intro e
   have e:(match Nat.beq z x with|true=>some v|false=>none)=some u:=e
   cases hb:Nat.beq z x with
   | true=>rw[hb] at e;exact .inr ⟨(aJ hb).symm,Ru e⟩
   | false=>rw[hb] at e;cases e
  | cons p M ih =>
   intro e
   have e:(match Nat.beq p.1 x with|true=>some p.2|false=>look (M++[(z,v)]) x)=some u:=e
   show(match Nat.beq p.1 x with|true=>some p.2|false=>look M x)=some u\/_
   cases hb:Nat.beq p.1 x with
   | true=>rw[hb] at e;exact .inl e
   | false=>rw[hb] at e;exact ih e
 rcases q e with e|⟨rfl,rfl⟩
 ·have hn:z≠x:=λq=>by rw[q,e] at h;cases h
  rw[if_neg hn];exact g x u e
 ·rw[if_pos rfl]
theorem Le.nil:Le [] m:=λx v e=>nomatch e
theorem Le.cons(h:look m z=some v)(g:Le M m):Le ((z,v)::M) m:=λx u e=>by
 have e:(match Nat.beq z x with|true=>some v|false=>look M x)=some u:=e
 cases hb:Nat.beq z x with
 | true=>rw[hb] at e;rw[<-aJ hb,<-Ru e];exact h
 | false=>rw[hb] at e;exact g x u e
theorem Le.app:Le M (M++t):=by
 induction M with
 | nil=>exact λx v e=>nomatch e
 | cons p M ih =>
  intro x v e
  have e:(match Nat.beq p.1 x with|true=>some p.2|false=>look M x)=some v:=e
  show(match Nat.beq p.1 x with|true=>some p.2|false=>look (M++t) x)=some v
  cases hb:Nat.beq p.1 x with
  | true=>rw[hb] at e;exact e
  | false=>rw[hb] at e;exact ih x v e
theorem aj.mono(h:aj Γ rs m A F K)(q:∀f m A F,K f m A F->K' f m A F):aj Γ rs m A F K':=λH Q X S k=>h H Q X S λf m A F H z=>k f m A F H (q _ _ _ _ z)
theorem aj.vw(w:Vw F A A')(h:aj Γ rs m A' F K):aj Γ rs m A F K:=λH Q X S k=>h H Q X (w H S) k
theorem aj.bT(is:List Nat)(hp:pick is A=some (B,R))(e:jw F B p B')(h:∀b,p b->aj Γ rs m (B' b++R) F K):aj Γ rs m A F K:=λH Q X S k=>by
 obtain⟨l1,l2,g1,g2,g3⟩:=fU hp S
 obtain⟨b,hb,l3,s1,s2⟩:=e l1 g1
 exact h b hb H Q X (iw s1 g2 (g3.perm (s2.append_right _))) k
theorem aj.fact(h:∀H,Sat A F H->φ)(k:φ->aj Γ rs m A F K):aj Γ rs m A F K:=λH Q X S q=>k (h H S) H Q X S q
theorem aj.pk(is:List Nat)(hp:pick is A=some (B,R))(e:Ent F B B')(h:aj Γ rs m (B'++R) F K):aj Γ rs m A F K:=h.vw (Vw.pk is hp e)
noncomputable def cB(again out:Loc->List Th->CL->Prop)(K:KS):KS:=λf m A F=>match f with
 | .next=>again m A F
 | .cont=>again m A F
 | .brk=>out m A F
 | .ret v=>K (.ret v) m A F
def Rest(Γ:bI)(rs:lM)(K:KS):Loc->List Th->CL->Prop:=λm A F=>aj Γ rs m A F K
theorem yp(hJ:∀m A F H,again m A F->Sat A F H->J m H)(ho:∀m A F H,out m A F->Sat A F H->dB Γ (r++rs.flatten) Q X .next m H)
  (q:∀f m A F H,K f m A F->Sat A F H->Q f m H):∀f m A F H,cB again out K f m A F->Sat A F H->dR J (dB Γ (r++rs.flatten) Q X) f m H:=λf m A F H h S=>by
 cases f with
 | next=>exact hJ _ _ _ _ h S
 | cont=>exact hJ _ _ _ _ h S
 | brk=>exact ho _ _ _ _ h S
 | ret v=>exact q (.ret v) _ _ _ _ h S
theorem aj.whl(I:Nat->Loc->List Th->CL->Prop)(n:Nat)(h0:I n m A F)(h:∀n m A F,I n m A F->aj Γ [[.ite c b [.brk]]] m A F (cB (λm A F=>∃k,k<n/\I k m A F) (Rest Γ (r::rs) K) K)):aj Γ ((.whl c b::r)::rs) m A F K:=λH Q X S q=>by
 refine⟨m,λ_ _ e=>e,?_⟩
 show DS Γ (.whl c b) m H (dB Γ (r++rs.flatten) Q X) X
 refine⟨λn m H=>∃A F,I n m A F/\Sat A F H,⟨n,A,F,h0,S⟩,λn m H hI=>?_⟩
 obtain⟨A,F,hI,S⟩:=hI
 have g:=h n m A F hI H (dR (λm H=>∃k,k<n/\∃A F,I k m A F/\Sat A F H) (dB Γ (r++rs.flatten) Q X)) X S (yp (λm A F H hk S=>by
  obtain⟨k,h1,h2⟩:=hk
  exact⟨k,h1,A,F,h2,S⟩) (λm A F H hk S=>hk H Q X S q) q)
 obtain⟨m',le,g⟩:=g
 refine⟨m',le,?_⟩
 have g:DB Γ m' c H (λt H=>match t with|true=>gH Γ b m' H (dB Γ [] (dR (λm H=>∃k,k<n/\∃A F,I k m A F/\Sat A F H) (dB Γ (r++rs.flatten) Q X)) X) X|false=>gH Γ [.brk] m' H (dB Γ [] (dR (λm H=>∃k,k<n/\∃A F,I k m A F/\Sat A F H) (dB Γ (r++rs.flatten) Q X)) X) X) (λx H=>X x m' H):=g
 have e:∀Q:QS,dB Γ [] Q X=Q:=λQ=>by funext f m H;cases f<;>rfl
 rw[e] at g
 exact g
theorem gR.run{sp:Nat->Option (List V->St->KE->Prop)}(B:lW Γ sp)(o:List Or){e:CE}{K:KV}(h:xe Γ sp m e ⟨A,F,o⟩ ⟨λv st=>K v st.A st.F,none⟩):gR Γ e m A F K:=λH Q X S q=>cD B e _ _ H Q X h S (iZ λv st H h S=>q _ _ _ _ h S)
theorem aj.eU    (h:gR Γ e m A F λv A1 F1=>∃a xs,v=.ref a/\∃I:Nat->Loc->List Th->CL->Prop,I 0 m A1 F1/\∀i m A F,I i m A F->(∀H,Sat A F H->H a=some (.list xs))/\match xs[i]? with
   | some x=>aj Γ [b] (put m z x) A F (cB (I (i+1)) (Rest Γ (r::rs) K) K)
   | none=>aj Γ (r::rs) m A F K):aj Γ ((.eU (.var z) e b::r)::rs) m A F K:=λH Q X S q=>by
 refine⟨m,λ_ _ e=>e,?_⟩
 show DS Γ (.eU (.var z) e b) m H (dB Γ (r++rs.flatten) Q X) X
 refine h H _ _ S λv A1 F1 H1 k S1=>?_
 obtain⟨a,xs,ev,I,h0,hI⟩:=k
 rw[ev]
 show(match H1 a with|some (.list xs)=>_|_=>False)
 rw[(hI 0 m A1 F1 h0).1 H1 S1]
 refine⟨λi m H=>∃A F,I i m A F/\Sat A F H,⟨A1,F1,h0,S1⟩,λi m H hV=>?_⟩
 obtain⟨A,F,hi,S⟩:=hV
 obtain⟨e1,e2⟩:=hI i m A F hi
 refine⟨e1 H S,?_⟩
 cases hx:xs[i]? with
 | some x =>
  rw[hx] at e2
  have g:=e2 H (dR (λm H=>∃A F,I (i+1) m A F/\Sat A F H) (dB Γ (r++rs.flatten) Q X)) X S (yp (λm A F H hk S=>⟨A,F,hk,S⟩) (λm A F H hk S=>hk H Q X S q) q)
  rw[show([b]:lM).flatten=b from Rx b] at g
  exact g
 | none=>rw[hx] at e2;exact e2 H Q X S q
theorem aj.ji  (B:lW Γ sp) (o:List Or)    (h:qm Γ sp m as ⟨A,F,o⟩ λus st=>∃lo hi:Int,(us=[.int hi]/\lo=0\/us=[.int lo,.int hi])/\((-1000000<=lo/\lo<=1000000)/\(-1000000<=hi/\hi<=1000000)) /\
  ∃I:Int->Loc->List Th->CL->Prop,I lo m st.A st.F/\∀i m A F,I i m A F->lo<=i->if i<hi then aj Γ [b] (put m z (.int i)) A F (cB (I (i+1)) (Rest Γ (r::rs) K) K) else aj Γ (r::rs) m A F K):aj Γ ((.ji (.var z) as b::r)::rs) m A F K:=λH Q X S q=>by
 refine⟨m,λ_ _ e=>e,?_⟩
 show DS Γ (.ji (.var z) as b) m H (dB Γ (r++rs.flatten) Q X) X
 have ml:ML Γ sp m as:=by
  clear h
  induction as with
  | nil=>exact λst K H Q X h S k=>k _ _ _ h S
  | cons e r ih=>exact λst K H Q X h S k=>cD B e _ _ H _ X h S (iZ λv st H h S=>ih _ _ H _ X h S λvs st H h S=>k _ _ _ h S)
 refine ml _ _ H _ _ h S λus st H1 p S1=>?_
 obtain⟨lo,hi,hu,hb,I,h0,hI⟩:=p
 suffices g:((-1000000<=lo/\lo<=1000000)/\(-1000000<=hi/\hi<=1000000))/\∃I:Int->Loc->AH->Prop,I lo m H1/\∀i m H,I i m H->lo<=i->if i<hi then DT Γ (.var z) (.int i) m H (λm H=>gH Γ b m H (dR (I (i+1)) (dB Γ (r++rs.flatten) Q X)) X) X else dB Γ (r++rs.flatten) Q X .next m H by
  rcases hu with ⟨rfl,rfl⟩|rfl<;>exact g
 refine⟨hb,λi m H=>∃A F,I i m A F/\Sat A F H,⟨_,_,h0,S1⟩,λi m H hV hl=>?_⟩
 obtain⟨A,F,hi',S⟩:=hV
 have e2:=hI i m A F hi' hl
 by_cases hlt:i<hi
 ·rw[if_pos hlt] at e2 |-
  have g:=e2 H (dR (λm H=>∃A F,I (i+1) m A F/\Sat A F H) (dB Γ (r++rs.flatten) Q X)) X S (yp (λm A F H hk S=>⟨A,F,hk,S⟩) (λm A F H hk S=>hk H Q X S q) q)
  rw[show([b]:lM).flatten=b from Rx b] at g
  exact g
 ·rw[if_neg hlt] at e2 |-
  exact e2 H Q X S q
end
structure Kp where
 d:Nat
 le:Nat
 lc:Nat
 c:Nat
section
variable{F:CL}{T c:Nat}
theorem eZ(a:Nat)(o:Bool)(es:List E)(ks:List Tr)(l:CL):tree F T c (.nd a o es ks) l=∃d le lc c' l1 l2,l=l1++l2/\J3 F o (.nd a d le lc T c' ks.isEmpty es (ks.map Tr.a)) l1/\Own F c c' o/\trees F T c ks l2:=by rw[tree]
theorem dN(l:CL):trees F T c [] l=(l=[]):=by rw[trees]
theorem aY(k:Tr)(ks:List Tr)(l:CL):trees F T c (k::ks) l=∃l1 l2,l=l1++l2/\tree F T c k l1/\trees F T c ks l2:=by rw[trees]
theorem aR(a:Nat)(o:Bool)(es:List E)(ks:List Tr):jw F [.tr T c (.nd a o es ks)] (λx:Kp=>Own F c x.c o) λx=>[.k o (.nd a x.d x.le x.lc T x.c ks.isEmpty es (ks.map Tr.a)),.trs T c ks]:=Fo λl h1=>by
 have h1:tree F T c (.nd a o es ks) l:=h1
 rw[eZ] at h1
 obtain⟨d,le,lc,c',l1,l2,e,h2,h3,h4⟩:=h1
 refine⟨⟨d,le,lc,c'⟩,h3,[l1,l2],⟨h2,h4,trivial⟩,?_⟩
 rw[e,Ri,aG]
theorem aD(hw:Own F c c' o)(hf:lf=ks.isEmpty)(ha:as=ks.map Tr.a):Ent F [.k o (.nd a d le lc T c' lf es as),.trs T c ks] [.tr T c (.nd a o es ks)]:=CQ λl1 l2 h1 h2=>by
 refine⟨[l1++l2],⟨?_,trivial⟩,by rw[aG]⟩
 show tree F T c (.nd a o es ks) (l1++l2)
 rw[eZ]
 exact⟨d,le,lc,c',l1,l2,rfl,hf▸ha▸h1,hw,h2⟩
theorem nF:∀{l:List Tr} {L:CL},trees F T c (l++k::r) L->∃lk lo,L.Perm (lk++lo)/\tree F T c k lk/\trees F T c (l++r) lo
 | [],L,h=>by
  rw[List.nil_append,aY] at h
  obtain⟨l1,l2,e,h1,h2⟩:=h
  exact⟨l1,l2,List.Perm.of_eq e,h1,h2⟩
 | x::l,L,h=>by
  rw[Rq,aY] at h
  obtain⟨l1,l2,e,h1,h2⟩:=h
  obtain⟨lk,lo,p,h3,h4⟩:=nF h2
  refine⟨lk,l1++lo,?_,h3,?_⟩
  ·rw[e];exact(p.append_left l1).trans (QG _ _ _)
  ·rw[Rq,aY];exact⟨l1,lo,rfl,h1,h4⟩
theorem nG:∀{l:List Tr} {lk lo:CL},tree F T c k lk->trees F T c (l++r) lo->∃L,L.Perm (lk++lo)/\trees F T c (l++k::r) L
 | [],lk,lo,h1,h2=>⟨lk++lo,RG _,by rw[List.nil_append,aY];exact⟨lk,lo,rfl,h1,h2⟩⟩
 | x::l,lk,lo,h1,h2=>by
  rw[Rq,aY] at h2
  obtain⟨l1,l2,e,h3,h4⟩:=h2
  obtain⟨L,p,h5⟩:=nG h1 h4
  refine⟨l1++L,?_,by rw[Rq,aY];exact⟨l1,L,rfl,h3,h5⟩⟩
  rw[e];exact(p.append_left l1).trans (QG _ _ _)
theorem fH(kl kr:List Tr)(t:Tr):Ent F [.trs T c (kl++t::kr)] [.tr T c t,.trs T c (kl++kr)]:=rY λl h=>by
 obtain⟨lk,lo,p,h1,h2⟩:=nF (show trees F T c (kl++t::kr) l from h)
 exact⟨[lk,lo],⟨h1,h2,trivial⟩,by rw[Ri,aG];exact p⟩
theorem eE(kl kr:List Tr)(t:Tr):Ent F [.tr T c t,.trs T c (kl++kr)] [.trs T c (kl++t::kr)]:=CQ λlk lo h g=>by
 obtain⟨L,p,h1⟩:=nG (l:=kl) (show tree F T c t lk from h) g
 exact⟨[L],⟨h1,trivial⟩,by rw[aG];exact p.symm⟩
theorem iy:∀{xs ys:List Tr} {L:CL},trees F T c (xs++ys) L↔∃l1 l2,L=l1++l2/\trees F T c xs l1/\trees F T c ys l2
 | [],ys,L=>⟨λh=>⟨[],L,rfl,by rw[dN],h⟩,λ⟨l1,l2,e,h1,h2⟩=>by
   rw[dN] at h1
   rw[e,h1];exact h2⟩
 | x::xs,ys,L=>by
  rw[Rq,aY]
  refine⟨λ⟨l1,l2,e,h1,h2⟩=>?_,λ⟨l1,l2,e,h1,h2⟩=>?_⟩
  ·obtain⟨l3,l4,e2,h3,h4⟩:=iy.mp h2
   exact⟨l1++l3,l4,by rw[e,e2,Rg],by rw[aY];exact⟨l1,l3,rfl,h1,h3⟩,h4⟩
  ·rw[aY] at h1
   obtain⟨l3,l4,e2,h3,h4⟩:=h1
   exact⟨l3,l4++l2,by rw[e,e2,Rg],h3,iy.mpr ⟨l4,l2,rfl,h4,h2⟩⟩
theorem kE(xs ys:List Tr):Ent F [.trs T c (xs++ys)] [.trs T c xs,.trs T c ys]:=rY λl h=>by
 obtain⟨l1,l2,e,h1,h2⟩:=iy.mp (show trees F T c (xs++ys) l from h)
 exact⟨[l1,l2],⟨h1,h2,trivial⟩,by rw[e,Ri,aG]⟩
theorem oH(xs ys:List Tr):Ent F [.trs T c xs,.trs T c ys] [.trs T c (xs++ys)]:=CQ λl1 l2 h1 h2 =>
 ⟨[l1++l2],⟨iy.mpr ⟨l1,l2,rfl,h1,h2⟩,trivial⟩,by rw[aG]⟩
theorem jQ(kl kr:List Tr)(b:Nat)(o:Bool)(es:List E)(ks:List Tr):jw F [.trs T c (kl++.nd b o es ks::kr)] (λx:Kp=>Own F c x.c o) λx=>[.k o (.nd b x.d x.le x.lc T x.c ks.isEmpty es (ks.map Tr.a)),.trs T c ks,.trs T c (kl++kr)] :=
 (fH kl kr (.nd b o es ks)).Ko (jw.app (C:=[.trs T c (kl++kr)]) (aR b o es ks) (Ent.refl _ _))
theorem rZ(kl kr:List Tr)(hw:Own F c c' o)(hf:lf=ks.isEmpty)(ha:as=ks.map Tr.a):Ent F [.k o (.nd b d le lc T c' lf es as),.trs T c ks,.trs T c (kl++kr)] [.trs T c (kl++.nd b o es ks::kr)] :=
 (Ent.app (C:=[.trs T c (kl++kr)]) (aD hw hf ha) (Ent.refl _ _)).trans (eE kl kr _)
end
theorem uq(f:α->β)(l:List α):(l.map f).isEmpty=l.isEmpty:=by cases l<;>rfl
noncomputable def aC(c:Nat)(im:Bool)(cl T b:Nat)(n:Int)(io:Bool):Loc:=[(2,.ref c),(11,.bool im),(10,.ref cl),(1,.int T),(8,.ref b),(9,.int n),(12,.bool io)]
noncomputable def aH(t:Nat)(b:V)(i:Int)(rc ic:Bool)(pa:Nat)(pk:Bool)(key:V)(rd:Bool):Loc:=[(13,.ref t),(14,b),(15,.int i),(16,.bool rc),(17,.bool ic),(18,.ref pa),(19,.bool pk),(20,key),(21,.bool rd)]
noncomputable abbrev nL:List CS:=[]
def c2:=.ret (.bin 1 (.var 1) (.int 1))::nL
def c3:=.ret (.bin 1 (.bin 2 (.int 2) (.var 1)) (.int 1))::nL
def c4_5:=.asg (.attr (.var 0) 5) (.list [])::nL
def c4_4:=.asg (.attr (.var 0) 4) (.list [])::c4_5
def c4_3:=.asg (.attr (.var 0) 3) (.var 3)::c4_4
def c4_2:=.asg (.attr (.var 0) 2) (.var 2)::c4_3
def c4_1:=.asg (.attr (.var 0) 1) (.var 1)::c4_2
def c4:=.asrt (.cmp 5 (.var 1) (.int 3))::c4_1
def c5_1:=.ret (.cmp 0 (.bi 0 [.attr (.var 0) 4]) (.fn 3 [.attr (.var 0) 1]))::nL
def c5:=.asrt (.cmp 3 (.bi 0 [.attr (.var 0) 4]) (.fn 3 [.attr (.var 0) 1]))::c5_1
def c6_1:=.ret (.cmp 0 (.bi 0 [.attr (.var 0) 4]) (.fn 2 [.attr (.var 0) 1]))::nL
def c6:=.asrt (.cmp 5 (.bi 0 [.attr (.var 0) 4]) (.fn 2 [.attr (.var 0) 1]))::c6_1
def c7a:=.ret (.tup [.var 122,.ff])::nL
def c7c_2:=.brk::nL
def c7c_1:=.asg (.var 125) .tt::c7c_2
def c7c:=.asg (.var 123) (.var 148)::c7c_1
def c7e_1:=.asg (.var 124) (.bin 1 (.var 148) (.int 1))::nL
def c7e:=.asg (.var 123) (.var 148)::c7e_1
def c7f:=.asg (.var 122) (.bin 0 (.var 148) (.int 1))::nL
def c7d:=.ite (.cmp 2 (.var 42) (.var 94)) c7e c7f::nL
def c7b_2:=.ite (.cmp 0 (.var 42) (.var 94)) c7c c7d::nL
def c7b_1:=.asg (.var 94) (.meth (.sub (.attr (.var 0) 4) (.var 148)) 42 [])::c7b_2
def c7b:=.asg (.var 148) (.bin 3 (.bin 0 (.var 122) (.var 124)) (.int 2))::c7b_1
def c7_7:=.ret (.tup [.var 123,.var 125])::nL
def c7_6:=.whl (.cmp 3 (.var 122) (.var 124)) c7b::c7_7
def c7_5:=.asg (.var 125) .ff::c7_6
def c7_4:=.asg (.var 124) (.bin 1 (.var 123) (.int 1))::c7_5
def c7_3:=.asg (.var 123) (.bi 0 [.attr (.var 0) 4])::c7_4
def c7_2:=.asg (.var 122) (.int 0)::c7_3
def c7_1:=.ite (.and (.cmp 4 (.var 122) (.int 0)) (.cmp 4 (.var 42) (.meth (.sub (.attr (.var 0) 4) (.bin 1 (.var 122) (.int 1))) 42 []))) c7a []::c7_2
def c7:=.asg (.var 122) (.bi 0 [.attr (.var 0) 4])::c7_1
def c8a_1:=.ret (.var 128)::nL
def c8a:=.asg (.sub (.attr (.var 0) 5) (.var 126)) (.var 128)::c8a_1
def c8_3:=.ite (.var 128) c8a [.ret (.var 127)]::nL
def c8_2:=.asg (.var 128) (.meth (.var 127) 63 [.attr (.var 0) 2])::c8_3
def c8_1:=.asg (.var 127) (.sub (.attr (.var 0) 5) (.var 126))::c8_2
def c8:=.asrt (.not (.attr (.var 0) 3))::c8_1
def c9a:=.ret (.tup [.var 0,.var 123])::nL
def c9c:=.ret (.tup [.none,.int 0])::nL
def c9d_1:=.ret (.meth (.var 127) 48 [.var 42])::nL
def c9d:=.asg (.var 127) (.meth (.var 0) 47 [.var 123])::c9d_1
def c9b:=.ite (.attr (.var 0) 3) c9c c9d::nL
def c9_1:=.ite (.var 125) c9a c9b::nL
def c9:=.asg (.tup [.var 123,.var 125]) (.meth (.var 0) 46 [.var 42])::c9_1
def c10a:=.ret (.sub (.attr (.var 0) 4) (.var 123))::nL
def c10d:=.ret (.meth (.sub (.attr (.var 0) 5) (.var 123)) 49 [.var 42])::nL
def c10b:=.ite (.attr (.var 0) 3) [.ret .none] c10d::nL
def c10_1:=.ite (.var 125) c10a c10b::nL
def c10:=.asg (.tup [.var 123,.var 125]) (.meth (.var 0) 46 [.var 42])::c10_1
def c11c:=.ite (.not (.meth (.var 129) 54 [.var 0,.bin 1 (.var 126) (.int 1)])) [.brk] []::nL
def c11_4:=.whl (.cmp 2 (.bi 0 [.attr (.var 129) 4]) (.fn 3 [.attr (.var 0) 1])) c11c::nL
def c11_3:=.asg (.var 129) (.meth (.var 0) 47 [.bin 1 (.var 126) (.int 1)])::c11_4
def c11_2:=.ite (.cmp 0 (.bi 0 [.attr (.var 129) 4]) (.fn 3 [.attr (.var 0) 1])) [.ret .none] []::c11_3
def c11_1:=.asg (.var 129) (.sub (.attr (.var 0) 5) (.bin 1 (.var 126) (.int 1)))::c11_2
def c11:=.ite (.cmp 0 (.var 126) (.int 0)) [.ret .none] []::c11_1
def c12b_2:=.ret (.var 157)::nL
def c12b_1:=.asg (.sub (.attr (.var 0) 4) (.var 123)) (.var 130)::c12b_2
def c12b:=.asg (.var 157) (.sub (.attr (.var 0) 4) (.var 123))::c12b_1
def c12d_1:=.ret .none::nL
def c12d:=.expr (.meth (.attr (.var 0) 4) 150 [.var 123,.var 130])::c12d_1
def c12f_1:=.cont::nL
def c12f:=.expr (.methS (.var 0) 55 (.meth (.var 127) 52 []))::c12f_1
def c12g:=.expr (.meth (.var 0) 50 [.var 123])::nL
def c12e_4:=.ret (.var 139)::nL
def c12e_3:=.ite (.var 12) c12g []::c12e_4
def c12e_2:=.asg (.var 139) (.meth (.var 127) 51 [.var 130,.var 12])::c12e_3
def c12e_1:=.ite (.meth (.var 127) 44 []) c12f []::c12e_2
def c12e:=.asg (.var 127) (.meth (.var 0) 47 [.var 123])::c12e_1
def c12c:=.ite (.attr (.var 0) 3) c12d c12e::nL
def c12a_2:=.ite (.var 125) c12b c12c::nL
def c12a_1:=.asg (.tup [.var 123,.var 125]) (.meth (.var 0) 46 [.var 42])::c12a_2
def c12a:=.asg (.var 42) (.meth (.var 130) 42 [])::c12a_1
def c12_1:=.whl .tt c12a::nL
def c12:=.asrt (.not (.meth (.var 0) 44 []))::c12_1
def c13a_1:=.asg (.attr (.var 0) 5) (.bi 1 [.slice (.attr (.var 0) 5) .none (.bin 0 (.fn 2 [.attr (.var 0) 1]) (.int 1))])::nL
def c13a:=.asg (.attr (.var 131) 5) (.bi 1 [.slice (.attr (.var 0) 5) (.bin 0 (.fn 2 [.attr (.var 0) 1]) (.int 1)) .none])::c13a_1
def c13_6:=.ret (.tup [.var 0,.var 132,.var 131])::nL
def c13_5:=.ite (.not (.attr (.var 0) 3)) c13a []::c13_6
def c13_4:=.asg (.attr (.var 0) 4) (.bi 1 [.slice (.attr (.var 0) 4) .none (.fn 2 [.attr (.var 0) 1])])::c13_5
def c13_3:=.asg (.var 132) (.sub (.attr (.var 0) 4) (.fn 2 [.attr (.var 0) 1]))::c13_4
def c13_2:=.asg (.attr (.var 131) 4) (.bi 1 [.slice (.attr (.var 0) 4) (.bin 0 (.fn 2 [.attr (.var 0) 1]) (.int 1)) .none])::c13_3
def c13_1:=.asg (.var 131) (.mk 2 [.attr (.var 0) 1,.attr (.var 0) 2,.attr (.var 0) 3] [] [])::c13_2
def c13:=.asrt (.meth (.var 0) 44 [])::c13_1
def c14c_2:=.expr (.meth (.attr (.var 0) 5) 150 [.int 0,.var 127])::nL
def c14c_1:=.asg (.var 127) (.meth (.attr (.var 129) 5) 151 [])::c14c_2
def c14c:=.asrt (.not (.attr (.var 0) 3))::c14c_1
def c14b_5:=.ret .tt::nL
def c14b_4:=.ite (.not (.attr (.var 129) 3)) c14c []::c14b_5
def c14b_3:=.expr (.meth (.attr (.var 0) 4) 150 [.int 0,.var 107])::c14b_4
def c14b_2:=.asg (.sub (.attr (.var 133) 4) (.bin 1 (.var 126) (.int 1))) (.meth (.attr (.var 129) 4) 151 [])::c14b_3
def c14b_1:=.asg (.var 107) (.sub (.attr (.var 133) 4) (.bin 1 (.var 126) (.int 1)))::c14b_2
def c14b:=.asg (.var 129) (.meth (.var 133) 47 [.bin 1 (.var 126) (.int 1)])::c14b_1
def c14a_1:=.ite (.not (.meth (.var 129) 45 [])) c14b []::nL
def c14a:=.asg (.var 129) (.sub (.attr (.var 133) 5) (.bin 1 (.var 126) (.int 1)))::c14a_1
def c14_1:=.ret .ff::nL
def c14:=.ite (.cmp 1 (.var 126) (.int 0)) c14a []::c14_1
def c15c_2:=.expr (.meth (.attr (.var 0) 5) 147 [.var 127])::nL
def c15c_1:=.asg (.var 127) (.meth (.attr (.var 131) 5) 151 [.int 0])::c15c_2
def c15c:=.asrt (.not (.attr (.var 0) 3))::c15c_1
def c15b_5:=.ret .tt::nL
def c15b_4:=.ite (.not (.attr (.var 131) 3)) c15c []::c15b_5
def c15b_3:=.expr (.meth (.attr (.var 0) 4) 147 [.var 107])::c15b_4
def c15b_2:=.asg (.sub (.attr (.var 133) 4) (.var 126)) (.meth (.attr (.var 131) 4) 151 [.int 0])::c15b_3
def c15b_1:=.asg (.var 107) (.sub (.attr (.var 133) 4) (.var 126))::c15b_2
def c15b:=.asg (.var 131) (.meth (.var 133) 47 [.bin 0 (.var 126) (.int 1)])::c15b_1
def c15a_1:=.ite (.not (.meth (.var 131) 45 [])) c15b []::nL
def c15a:=.asg (.var 131) (.sub (.attr (.var 133) 5) (.bin 0 (.var 126) (.int 1)))::c15a_1
def c15_1:=.ret .ff::nL
def c15:=.ite (.cmp 2 (.bin 0 (.var 126) (.int 1)) (.bi 0 [.attr (.var 133) 5])) c15a []::c15_1
def c16a:=.asg (.attr (.var 0) 5) (.list [.var 129,.var 131])::nL
def c16b_1:=.expr (.meth (.attr (.var 0) 5) 150 [.bin 0 (.var 123) (.int 1),.var 131])::nL
def c16b:=.asrt (.cmp 0 (.sub (.attr (.var 0) 5) (.var 123)) (.var 129))::c16b_1
def c16_6:=.ite (.cmp 0 (.bi 0 [.attr (.var 0) 5]) (.int 0)) c16a c16b::nL
def c16_5:=.expr (.meth (.attr (.var 0) 4) 150 [.var 123,.var 132])::c16_6
def c16_4:=.asrt (.not (.var 125))::c16_5
def c16_3:=.asg (.tup [.var 123,.var 125]) (.meth (.var 0) 46 [.var 42])::c16_4
def c16_2:=.asg (.var 42) (.meth (.var 132) 42 [])::c16_3
def c16_1:=.asrt (.not (.attr (.var 0) 3))::c16_2
def c16:=.asrt (.not (.meth (.var 0) 44 []))::c16_1
def c17a:=.expr (.meth (.attr (.var 0) 5) 152 [.attr (.var 131) 5])::nL
def c17_3:=.ite (.not (.attr (.var 0) 3)) c17a []::nL
def c17_2:=.expr (.meth (.attr (.var 0) 4) 152 [.attr (.var 131) 4])::c17_3
def c17_1:=.expr (.meth (.attr (.var 0) 4) 147 [.meth (.attr (.var 133) 4) 151 [.var 126]])::c17_2
def c17:=.asg (.var 131) (.meth (.attr (.var 133) 5) 151 [.bin 0 (.var 126) (.int 1)])::c17_1
def c18a:=.ret (.sub (.attr (.var 0) 4) (.int 0))::nL
def c18b:=.ret (.meth (.sub (.attr (.var 0) 5) (.int 0)) 57 [])::nL
def c18:=.ite (.attr (.var 0) 3) c18a c18b::nL
def c20c:=.expr (.meth (.var 0) 56 [.var 133,.var 126])::nL
def c20d_1:=.expr (.meth (.var 129) 56 [.var 133,.bin 1 (.var 126) (.int 1)])::nL
def c20d:=.asg (.var 129) (.meth (.var 133) 47 [.bin 1 (.var 126) (.int 1)])::c20d_1
def c20_3:=.ite (.cmp 0 (.var 126) (.int 0)) c20c c20d::nL
def c20_2:=.ite (.meth (.var 0) 54 [.var 133,.var 126]) [.ret .none] []::c20_3
def c20_1:=.ite (.meth (.var 0) 53 [.var 133,.var 126]) [.ret .none] []::c20_2
def c20:=.asrt (.not (.attr (.var 133) 3))::c20_1
def c21c:=.ret (.meth (.attr (.var 0) 4) 151 [.var 123])::nL
def c21a_6:=.asg (.var 123) (.bin 0 (.var 123) (.int 1))::nL
def c21a_5:=.asg (.var 42) (.meth (.var 153) 42 [])::c21a_6
def c21a_4:=.asg (.var 153) (.meth (.sub (.attr (.var 0) 5) (.bin 0 (.var 123) (.int 1))) 57 [])::c21a_5
def c21a_3:=.asg (.var 135) (.var 42)::c21a_4
def c21a_2:=.asg (.var 134) .none::c21a_3
def c21a_1:=.ite (.attr (.var 0) 3) c21c []::c21a_2
def c21a:=.ite (.and (.cmp 7 (.var 134) .none) (.cmp 7 (.sub (.attr (.var 0) 4) (.var 123)) (.var 134))) [.rais] []::c21a_1
def c21d_1:=.ret .none::nL
def c21d:=.ite (.cmp 7 (.var 134) .none) [.rais] []::c21d_1
def c21f_4:=.asrt (.not (.meth (.var 127) 45 []))::nL
def c21f_3:=.asg (.var 127) (.sub (.attr (.var 0) 5) (.var 123))::c21f_4
def c21f_2:=.asrt (.not (.var 125))::c21f_3
def c21f_1:=.asg (.tup [.var 123,.var 125]) (.meth (.var 0) 46 [.var 42])::c21f_2
def c21f:=.expr (.meth (.var 127) 59 [.var 0,.var 123])::c21f_1
def c21g_5:=.asg (.var 107) (.var 139)::nL
def c21g_4:=.asg (.sub (.attr (.var 100) 4) (.var 123)) (.var 107)::c21g_5
def c21g_3:=.asg (.var 139) (.sub (.attr (.var 100) 4) (.var 123))::c21g_4
def c21g_2:=.asrt (.cmp 7 (.var 107) .none)::c21g_3
def c21g_1:=.asrt (.cmp 7 (.var 100) .none)::c21g_2
def c21g:=.asg (.tup [.var 100,.var 123]) (.meth (.var 0) 48 [.var 135])::c21g_1
def c21_9:=.ret (.var 107)::nL
def c21_8:=.ite (.cmp 7 (.var 135) .none) c21g []::c21_9
def c21_7:=.asg (.var 107) (.meth (.var 127) 60 [.var 42,.var 0,.var 134])::c21_8
def c21_6:=.ite (.meth (.var 127) 45 []) c21f []::c21_7
def c21_5:=.asg (.var 127) (.meth (.var 0) 47 [.var 123])::c21_6
def c21_4:=.ite (.attr (.var 0) 3) c21d []::c21_5
def c21_3:=.ite (.var 125) c21a []::c21_4
def c21_2:=.asg (.var 135) .none::c21_3
def c21_1:=.asg (.tup [.var 123,.var 125]) (.meth (.var 0) 46 [.var 42])::c21_2
def c21:=.asrt (.or (.cmp 6 (.var 133) .none) (.not (.meth (.var 0) 45 [])))::c21_1
def c24a:=.ret (.meth (.var 0) 64 [.var 2])::nL
def c24:=.ite (.cmp 7 (.attr (.var 0) 2) (.var 2)) c24a [.ret .none]::nL
def c25a:=.expr (.meth (.attr (.var 128) 5) 152 [.attr (.var 0) 5])::nL
def c25_3:=.ret (.var 128)::nL
def c25_2:=.ite (.not (.attr (.var 0) 3)) c25a []::c25_3
def c25_1:=.expr (.meth (.attr (.var 128) 4) 152 [.attr (.var 0) 4])::c25_2
def c25:=.asg (.var 128) (.mk 2 [.attr (.var 0) 1,.var 2,.attr (.var 0) 3] [] [])::c25_1
def c26_8:=.asg (.attr (.var 0) 21) .ff::nL
def c26_7:=.asg (.attr (.var 0) 20) .none::c26_8
def c26_6:=.asg (.attr (.var 0) 19) .ff::c26_7
def c26_5:=.asg (.attr (.var 0) 18) (.list [])::c26_6
def c26_4:=.asg (.attr (.var 0) 17) .tt::c26_5
def c26_3:=.asg (.attr (.var 0) 16) .ff::c26_4
def c26_2:=.asg (.attr (.var 0) 15) (.int 0)::c26_3
def c26_1:=.asg (.attr (.var 0) 14) .none::c26_2
def c26:=.asg (.attr (.var 0) 13) (.var 13)::c26_1
def c27a_3:=.asg (.attr (.var 0) 15) (.int 0)::nL
def c27a_2:=.asrt (.cmp 7 (.attr (.var 0) 14) .none)::c27a_3
def c27a_1:=.asg (.attr (.var 0) 14) (.sub (.attr (.attr (.var 0) 14) 5) (.attr (.var 0) 15))::c27a_2
def c27a:=.expr (.meth (.attr (.var 0) 18) 147 [.tup [.attr (.var 0) 14,.attr (.var 0) 15]])::c27a_1
def c27_1:=.whl (.not (.attr (.attr (.var 0) 14) 3)) c27a::nL
def c27:=.asrt (.cmp 7 (.attr (.var 0) 14) .none)::c27_1
def c28a_3:=.asg (.attr (.var 0) 15) (.bi 0 [.attr (.attr (.var 0) 14) 4])::nL
def c28a_2:=.asrt (.cmp 7 (.attr (.var 0) 14) .none)::c28a_3
def c28a_1:=.asg (.attr (.var 0) 14) (.sub (.attr (.attr (.var 0) 14) 5) (.attr (.var 0) 15))::c28a_2
def c28a:=.expr (.meth (.attr (.var 0) 18) 147 [.tup [.attr (.var 0) 14,.attr (.var 0) 15]])::c28a_1
def c28_1:=.whl (.not (.attr (.attr (.var 0) 14) 3)) c28a::nL
def c28:=.asrt (.cmp 7 (.attr (.var 0) 14) .none)::c28_1
def c29a:=.asg (.attr (.var 0) 19) .tt::nL
def c29:=.ite (.not (.attr (.var 0) 19)) c29a []::nL
def c30c:=.asg (.var 137) (.not (.attr (.var 0) 17))::nL
def c30d:=.asg (.var 137) (.attr (.var 0) 17)::nL
def c30b_3:=.asg (.attr (.var 0) 17) (.var 17)::nL
def c30b_2:=.expr (.meth (.var 0) 72 [.attr (.var 0) 20,.var 137])::c30b_3
def c30b_1:=.ite (.attr (.var 0) 21) c30c c30d::c30b_2
def c30b:=.asg (.var 17) (.attr (.var 0) 17)::c30b_1
def c30a_2:=.asg (.attr (.var 0) 20) .none::nL
def c30a_1:=.asg (.attr (.var 0) 19) .ff::c30a_2
def c30a:=.ite (.cmp 7 (.attr (.var 0) 20) .none) c30b []::c30a_1
def c30:=.ite (.attr (.var 0) 19) c30a []::nL
def c31c_3:=.expr (.meth (.var 0) 66 [])::nL
def c31c_2:=.asg (.attr (.var 0) 15) (.bi 0 [.attr (.attr (.attr (.var 0) 13) 8) 4])::c31c_3
def c31c_1:=.asg (.attr (.var 0) 14) (.attr (.attr (.var 0) 13) 8)::c31c_2
def c31c:=.asrt (.cmp 0 (.attr (.var 0) 15) (.int 1))::c31c_1
def c31a:=.ite (.cmp 0 (.attr (.var 0) 15) (.int 0)) [.ret .none] c31c::nL
def c31f:=.expr (.meth (.var 0) 66 [])::nL
def c31e_1:=.asg (.attr (.var 0) 16) .ff::nL
def c31e:=.ite (.not (.attr (.var 0) 17)) c31f []::c31e_1
def c31h:=.asg (.attr (.var 0) 16) .tt::nL
def c31g_4:=.ret (.var 107)::nL
def c31g_3:=.asg (.attr (.var 0) 21) .tt::c31g_4
def c31g_2:=.asg (.attr (.var 0) 20) (.meth (.var 107) 42 [])::c31g_3
def c31g_1:=.ite (.not (.attr (.attr (.var 0) 14) 3)) c31h []::c31g_2
def c31g:=.asg (.var 107) (.sub (.attr (.attr (.var 0) 14) 4) (.attr (.var 0) 15))::c31g_1
def c31j:=.asg (.tup [.attr (.var 0) 14,.attr (.var 0) 15]) (.meth (.attr (.var 0) 18) 151 [])::nL
def c31k_2:=.ret .none::nL
def c31k_1:=.asg (.attr (.var 0) 15) (.int 0)::c31k_2
def c31k:=.asg (.attr (.var 0) 14) .none::c31k_1
def c31i:=.ite (.cmp 4 (.bi 0 [.attr (.var 0) 18]) (.int 0)) c31j c31k::nL
def c31d_3:=.ite (.cmp 5 (.attr (.var 0) 15) (.int 0)) c31g c31i::nL
def c31d_2:=.auga (.var 0) 15 1 (.int 1)::c31d_3
def c31d_1:=.asg (.attr (.var 0) 17) .ff::c31d_2
def c31d:=.ite (.attr (.var 0) 16) c31e []::c31d_1
def c31_3:=.whl .tt c31d::nL
def c31_2:=.ite (.cmp 6 (.attr (.var 0) 14) .none) c31a []::c31_3
def c31_1:=.asg (.attr (.var 0) 20) .none::c31_2
def c31:=.expr (.meth (.var 0) 68 [])::c31_1
def c32c_3:=.expr (.meth (.var 0) 65 [])::nL
def c32c_2:=.asg (.attr (.var 0) 15) (.int 0)::c32c_3
def c32c_1:=.asg (.attr (.var 0) 14) (.attr (.attr (.var 0) 13) 8)::c32c_2
def c32c:=.asrt (.cmp 0 (.attr (.var 0) 15) (.int 0))::c32c_1
def c32a:=.ite (.cmp 0 (.attr (.var 0) 15) (.int 1)) [.ret .none] c32c::nL
def c32f:=.expr (.meth (.var 0) 65 [])::nL
def c32e_1:=.asg (.attr (.var 0) 16) .ff::nL
def c32e:=.ite (.attr (.var 0) 17) c32f []::c32e_1
def c32h:=.asg (.attr (.var 0) 16) .tt::nL
def c32g_5:=.ret (.var 107)::nL
def c32g_4:=.asg (.attr (.var 0) 21) .tt::c32g_5
def c32g_3:=.asg (.attr (.var 0) 20) (.meth (.var 107) 42 [])::c32g_4
def c32g_2:=.ite (.not (.attr (.attr (.var 0) 14) 3)) c32h []::c32g_3
def c32g_1:=.auga (.var 0) 15 0 (.int 1)::c32g_2
def c32g:=.asg (.var 107) (.sub (.attr (.attr (.var 0) 14) 4) (.attr (.var 0) 15))::c32g_1
def c32j:=.asg (.tup [.attr (.var 0) 14,.attr (.var 0) 15]) (.meth (.attr (.var 0) 18) 151 [])::nL
def c32k_2:=.ret .none::nL
def c32k_1:=.asg (.attr (.var 0) 15) (.int 1)::c32k_2
def c32k:=.asg (.attr (.var 0) 14) .none::c32k_1
def c32i:=.ite (.cmp 4 (.bi 0 [.attr (.var 0) 18]) (.int 0)) c32j c32k::nL
def c32d_2:=.ite (.cmp 2 (.attr (.var 0) 15) (.bi 0 [.attr (.attr (.var 0) 14) 4])) c32g c32i::nL
def c32d_1:=.asg (.attr (.var 0) 17) .tt::c32d_2
def c32d:=.ite (.attr (.var 0) 16) c32e []::c32d_1
def c32_3:=.whl .tt c32d::nL
def c32_2:=.ite (.cmp 6 (.attr (.var 0) 14) .none) c32a []::c32_3
def c32_1:=.asg (.attr (.var 0) 20) .none::c32_2
def c32:=.expr (.meth (.var 0) 68 [])::c32_1
def c33a:=.asg (.attr (.var 0) 15) (.var 123)::nL
def c33b:=.asg (.attr (.var 0) 15) (.bin 0 (.var 123) (.int 1))::nL
def c33:=.ite (.var 137) c33a c33b::nL
def c34c:=.expr (.meth (.var 0) 66 [])::nL
def c34d:=.expr (.meth (.var 0) 65 [])::nL
def c34b_2:=.ret .none::nL
def c34b_1:=.ite (.var 137) c34c c34d::c34b_2
def c34b:=.expr (.meth (.var 0) 71 [.var 137,.var 123])::c34b_1
def c34a_4:=.asrt (.cmp 7 (.attr (.var 0) 14) .none)::nL
def c34a_3:=.asg (.attr (.var 0) 14) (.sub (.attr (.attr (.var 0) 14) 5) (.var 123))::c34a_4
def c34a_2:=.expr (.meth (.attr (.var 0) 18) 147 [.tup [.attr (.var 0) 14,.var 123]])::c34a_3
def c34a_1:=.ite (.var 125) c34b []::c34a_2
def c34a:=.asg (.tup [.var 123,.var 125]) (.meth (.attr (.var 0) 14) 46 [.var 42])::c34a_1
def c34e:=.expr (.meth (.var 0) 71 [.var 137,.var 123])::nL
def c34f:=.asg (.attr (.var 0) 15) (.var 123)::nL
def c34_10:=.ite (.var 125) c34e c34f::nL
def c34_9:=.asg (.tup [.var 123,.var 125]) (.meth (.attr (.var 0) 14) 46 [.var 42])::c34_10
def c34_8:=.whl (.not (.attr (.attr (.var 0) 14) 3)) c34a::c34_9
def c34_7:=.asg (.attr (.var 0) 21) .ff::c34_8
def c34_6:=.asg (.attr (.var 0) 20) (.var 42)::c34_7
def c34_5:=.asg (.attr (.var 0) 19) .ff::c34_6
def c34_4:=.asg (.attr (.var 0) 17) (.var 137)::c34_5
def c34_3:=.asg (.attr (.var 0) 18) (.list [])::c34_4
def c34_2:=.asg (.attr (.var 0) 16) .ff::c34_3
def c34_1:=.asrt (.cmp 7 (.attr (.var 0) 14) .none)::c34_2
def c34:=.asg (.attr (.var 0) 14) (.attr (.attr (.var 0) 13) 8)::c34_1
def c35_6:=.asg (.attr (.var 0) 20) .none::nL
def c35_5:=.asg (.attr (.var 0) 19) .ff::c35_6
def c35_4:=.asg (.attr (.var 0) 18) (.list [])::c35_5
def c35_3:=.asg (.attr (.var 0) 17) .tt::c35_4
def c35_2:=.asg (.attr (.var 0) 16) .ff::c35_3
def c35_1:=.asg (.attr (.var 0) 15) (.int 0)::c35_2
def c35:=.asg (.attr (.var 0) 14) .none::c35_1
def c36_6:=.asg (.attr (.var 0) 20) .none::nL
def c36_5:=.asg (.attr (.var 0) 19) .ff::c36_6
def c36_4:=.asg (.attr (.var 0) 18) (.list [])::c36_5
def c36_3:=.asg (.attr (.var 0) 17) .ff::c36_4
def c36_2:=.asg (.attr (.var 0) 16) .ff::c36_3
def c36_1:=.asg (.attr (.var 0) 15) (.int 1)::c36_2
def c36:=.asg (.attr (.var 0) 14) .none::c36_1
def c37a_3:=.asg (.attr (.var 0) 9) (.attr (.var 138) 9)::nL
def c37a_2:=.asg (.attr (.var 0) 8) (.attr (.var 138) 8)::c37a_3
def c37a_1:=.asg (.attr (.var 0) 1) (.attr (.var 138) 1)::c37a_2
def c37a:=.ite (.not (.attr (.var 138) 11)) [.rais] []::c37a_1
def c37c_3:=.asg (.attr (.var 0) 9) (.int 0)::nL
def c37c_2:=.asg (.attr (.var 0) 8) (.mk 2 [.attr (.var 0) 1,.attr (.var 0) 2,.tt] [] [])::c37c_3
def c37c_1:=.asg (.attr (.var 0) 1) (.var 1)::c37c_2
def c37c:=.ite (.cmp 2 (.var 1) (.int 3)) [.rais] []::c37c_1
def c37_3:=.ite (.cmp 7 (.var 138) .none) c37a c37c::nL
def c37_2:=.asg (.attr (.var 0) 10) (.list [])::c37_3
def c37_1:=.asg (.attr (.var 0) 11) .ff::c37_2
def c37:=.asg (.attr (.var 0) 2) (.mk 1 [] [] [])::c37_1
def c38a:=.asg (.attr (.var 0) 11) .tt::nL
def c38:=.ite (.not (.attr (.var 0) 11)) c38a []::nL
def c39b:=.expr (.meth (.var 84) 67 [])::nL
def c39_1:=.eU (.var 84) (.attr (.var 0) 10) c39b::nL
def c39:=.ite (.attr (.var 0) 11) [.rais] []::c39_1
def c40a:=.asg (.attr (.var 0) 8) (.var 128)::nL
def c40b_2:=.expr (.methS (.attr (.var 0) 8) 55 (.meth (.var 155) 52 []))::nL
def c40b_1:=.asg (.attr (.var 0) 8) (.mk 2 [.attr (.var 0) 1,.attr (.var 0) 2,.ff] [] [])::c40b_2
def c40b:=.asg (.var 155) (.attr (.var 0) 8)::c40b_1
def c40c:=.auga (.var 0) 9 0 (.int 1)::nL
def c40_6:=.ret (.var 139)::nL
def c40_5:=.ite (.cmp 6 (.var 139) .none) c40c []::c40_6
def c40_4:=.asg (.var 139) (.meth (.attr (.var 0) 8) 51 [.var 107,.var 12])::c40_5
def c40_3:=.ite (.meth (.attr (.var 0) 8) 44 []) c40b []::c40_4
def c40_2:=.ite (.var 128) c40a []::c40_3
def c40_1:=.asg (.var 128) (.meth (.attr (.var 0) 8) 63 [.attr (.var 0) 2])::c40_2
def c40:=.expr (.meth (.var 0) 77 [])::c40_1
def c41:=.ret (.meth (.attr (.var 0) 8) 49 [.var 42])::nL
def c42a:=.asg (.attr (.var 0) 8) (.var 128)::nL
def c42d_1:=.asg (.attr (.var 0) 8) (.sub (.attr (.attr (.var 0) 8) 5) (.int 0))::nL
def c42d:=.asrt (.cmp 0 (.bi 0 [.attr (.attr (.var 0) 8) 5]) (.int 1))::c42d_1
def c42c:=.ite (.not (.attr (.attr (.var 0) 8) 3)) c42d []::nL
def c42b_1:=.ite (.cmp 0 (.bi 0 [.attr (.attr (.var 0) 8) 4]) (.int 0)) c42c []::nL
def c42b:=.auga (.var 0) 9 1 (.int 1)::c42b_1
def c42_5:=.ret (.var 107)::nL
def c42_4:=.ite (.cmp 7 (.var 107) .none) c42b []::c42_5
def c42_3:=.asg (.var 107) (.meth (.attr (.var 0) 8) 60 [.var 42,.none,.var 134])::c42_4
def c42_2:=.ite (.var 128) c42a []::c42_3
def c42_1:=.asg (.var 128) (.meth (.attr (.var 0) 8) 63 [.attr (.var 0) 2])::c42_2
def c42:=.expr (.meth (.var 0) 77 [])::c42_1
def c43:=.ret (.meth (.var 0) 80 [.var 42,.none])::nL
def c45:=.ret (.attr (.var 0) 9)::nL
def c48:=.ret (.mk 3 [.var 0] [] [])::nL
def c49a:=.expr (.meth (.attr (.var 0) 10) 147 [.var 84])::nL
def c49:=.ite (.cmp 9 (.var 84) (.attr (.var 0) 10)) c49a []::nL
def c51_1:=.asg (.attr (.var 0) 7) (.var 87)::nL
def c51:=.asg (.attr (.var 0) 6) (.var 42)::c51_1
def c52:=.ret (.attr (.var 0) 6)::nL
def c53:=.ret (.attr (.var 0) 7)::nL
def c57b:=.ret (.meth (.var 107) 87 [])::nL
def c57_1:=.ite (.cmp 6 (.var 107) .none) [.rais] c57b::nL
def c57:=.asg (.var 107) (.meth (.var 0) 79 [.var 42])::c57_1
def c58_1:=.expr (.meth (.var 0) 78 [.var 107,.attr (.var 0) 12])::nL
def c58:=.asg (.var 107) (.mk 6 [.var 42,.var 87] [] [])::c58_1
def c59:=.ite (.cmp 6 (.meth (.var 0) 81 [.var 42]) .none) [.rais] []::nL
def c60a:=.ret (.bin 4 (.sub (.var 95) (.var 96)) (.int 12108))::nL
def c60_1:=.ret (.gsub [0,0,0,47,820,98,144,9,12,49,10,51,11,248,96,78,171,33,73,1481,86,1207,82,47,180,4000,158,536,45,133] (.bin 4 (.var 96) (.int 30)))::nL
def c60:=.ite (.cmp 2 (.var 96) (.bi 0 [.var 95])) c60a []::c60_1
def c61b_1:=.ite (.and (.var 137) (.cmp 0 (.var 172) (.var 42))) [.ret (.var 172)] []::nL
def c61b:=.ite (.or (.cmp 0 (.var 188) (.neg (.int 1))) (.cmp 4 (.var 172) (.var 42))) [.ret (.var 172)] []::c61b_1
def c61_3:=.ret .none::nL
def c61_2:=.eU (.var 172) (.bi 2 [.var 171]) c61b::c61_3
def c61_1:=.ite (.cmp 0 (.var 188) (.int 1)) [.ret .none] []::c61_2
def c61:=.asg (.tup [.var 188,.var 42,.var 137]) (.var 96)::c61_1
def c62c:=.asg (.var 173) (.var 172)::nL
def c62e:=.asg (.var 173) (.var 172)::nL
def c62d:=.ite (.and (.cmp 0 (.var 172) (.var 42)) (.not (.var 137))) c62e []::nL
def c62b:=.ite (.or (.cmp 0 (.var 188) (.int 1)) (.cmp 2 (.var 172) (.var 42))) c62c c62d::nL
def c62_4:=.ret (.var 173)::nL
def c62_3:=.eU (.var 172) (.bi 2 [.var 171]) c62b::c62_4
def c62_2:=.ite (.cmp 0 (.var 188) (.neg (.int 1))) [.ret (.var 173)] []::c62_3
def c62_1:=.asg (.var 173) .none::c62_2
def c62:=.asg (.tup [.var 188,.var 42,.var 137]) (.var 96)::c62_1
def c63a:=.ret (.cmp 6 (.var 107) .none)::nL
def c63_1:=.ret (.and (.cmp 7 (.var 107) .none) (.and (.cmp 0 (.meth (.var 107) 42 []) (.var 173)) (.cmp 0 (.meth (.var 107) 87 []) (.sub (.var 171) (.var 173)))))::nL
def c63:=.ite (.cmp 6 (.var 173) .none) c63a []::c63_1
def c64a:=.asg (.sub (.var 174) (.int 2)) (.tup [.int 1,.int 0,.ff])::nL
def c64b:=.asg (.sub (.var 174) (.int 2)) (.tup [.int 0,.var 173,.ff])::nL
def c64_4:=.ret (.fn 63 [.var 107,.var 173,.var 171])::nL
def c64_3:=.ite (.cmp 6 (.var 173) .none) c64a c64b::c64_4
def c64_2:=.asg (.var 107) (.meth (.sub (.var 174) (.int 0)) 70 [])::c64_3
def c64_1:=.asg (.var 173) (.fn 61 [.var 171,.sub (.var 174) (.int 2)])::c64_2
def c64:=.asg (.var 171) (.sub (.var 175) (.sub (.var 174) (.int 1)))::c64_1
def c65a:=.asg (.sub (.var 174) (.int 2)) (.tup [.neg (.int 1),.int 0,.ff])::nL
def c65b:=.asg (.sub (.var 174) (.int 2)) (.tup [.int 0,.var 173,.tt])::nL
def c65_4:=.ret (.fn 63 [.var 107,.var 173,.var 171])::nL
def c65_3:=.ite (.cmp 6 (.var 173) .none) c65a c65b::c65_4
def c65_2:=.asg (.var 107) (.meth (.sub (.var 174) (.int 0)) 69 [])::c65_3
def c65_1:=.asg (.var 173) (.fn 62 [.var 171,.sub (.var 174) (.int 2)])::c65_2
def c65:=.asg (.var 171) (.sub (.var 175) (.sub (.var 174) (.int 1)))::c65_1
def c66a_1:=.asg (.sub (.var 174) (.int 2)) (.tup [.int 0,.var 42,.tt])::nL
def c66a:=.expr (.meth (.var 84) 72 [.var 42])::c66a_1
def c66c_1:=.asg (.sub (.var 174) (.int 2)) (.tup [.int 0,.var 42,.ff])::nL
def c66c:=.expr (.meth (.var 84) 72 [.var 42,.ff])::c66c_1
def c66e_1:=.asg (.sub (.var 174) (.int 2)) (.tup [.neg (.int 1),.int 0,.ff])::nL
def c66e:=.expr (.meth (.var 84) 73 [])::c66e_1
def c66f_1:=.asg (.sub (.var 174) (.int 2)) (.tup [.int 1,.int 0,.ff])::nL
def c66f:=.expr (.meth (.var 84) 74 [])::c66f_1
def c66d:=.ite (.cmp 0 (.bin 4 (.var 99) (.int 2)) (.int 0)) c66e c66f::nL
def c66b:=.ite (.cmp 0 (.var 176) (.int 5)) c66c c66d::nL
def c66_3:=.ret .tt::nL
def c66_2:=.ite (.cmp 0 (.var 176) (.int 4)) c66a c66b::c66_3
def c66_1:=.asg (.var 42) (.bin 1 (.bin 4 (.var 99) (.int 84)) (.int 1))::c66_2
def c66:=.asg (.var 84) (.sub (.var 174) (.int 0))::c66_1
def c67_3:=.ret (.list [.list [.var 113,.var 177,.tup [.neg (.int 1),.int 0,.ff],.tt],.list [.var 178,.var 177,.tup [.neg (.int 1),.int 0,.ff],.ff]])::nL
def c67_2:=.asg (.var 178) (.meth (.var 110) 84 [])::c67_3
def c67_1:=.expr (.meth (.var 110) 85 [.var 113])::c67_2
def c67:=.asg (.var 113) (.meth (.var 110) 84 [])::c67_1
def c68b:=.expr (.meth (.sub (.var 172) (.int 0)) 67 [])::nL
def c68a:=.ite (.and (.cmp 0 (.sub (.var 172) (.int 1)) (.var 177)) (.not (.sub (.var 172) (.int 3)))) c68b []::nL
def c68c:=.asg (.var 42) (.bin 2 (.int 2) (.bin 4 (.var 99) (.int 41)))::nL
def c68f:=.asg (.var 42) (.neg (.int 3))::nL
def c68i:=.ite (.cmp 0 (.bin 4 (.var 99) (.int 2)) (.int 0)) [.augv 42 0 (.int 1)] [.augv 42 1 (.int 1)]::nL
def c68g:=.ite (.cmp 0 (.var 188) (.int 1)) [.asg (.var 42) (.int 99)] c68i::nL
def c68e:=.ite (.cmp 0 (.var 188) (.neg (.int 1))) c68f c68g::nL
def c68m:=.asg (.var 42) (.sub (.bi 2 [.var 171]) (.bin 4 (.var 99) (.bi 0 [.var 171])))::nL
def c68l:=.ite (.or (.cmp 0 (.var 176) (.int 8)) (.or (.cmp 1 (.var 188) (.int 0)) (.cmp 9 (.var 42) (.var 171)))) c68m []::nL
def c68d:=.ite (.cmp 0 (.var 176) (.int 10)) c68e c68l::nL
def c68n_2:=.ret (.and (.cmp 0 (.sub (.var 110) (.var 42)) (.var 87)) (.cmp 0 (.bi 0 [.var 110]) (.bi 0 [.var 171])))::nL
def c68n_1:=.asg (.sub (.var 171) (.var 42)) (.var 87)::c68n_2
def c68n:=.asg (.sub (.var 110) (.var 42)) (.var 87)::c68n_1
def c68_9:=.ret (.and (.cmp 7 (.var 182) .none) (.and (.cmp 0 (.meth (.var 182) 87 []) (.var 181)) (.cmp 0 (.bi 0 [.var 110]) (.bi 0 [.var 171]))))::nL
def c68_8:=.asg (.var 182) (.meth (.var 110) 81 [.var 42])::c68_9
def c68_7:=.asg (.var 181) (.meth (.var 171) 151 [.var 42])::c68_8
def c68_6:=.ite (.or (.cmp 0 (.var 176) (.int 7)) (.or (.cmp 0 (.var 176) (.int 10)) (.cmp 0 (.bi 0 [.var 171]) (.int 0)))) c68n []::c68_7
def c68_5:=.ite (.or (.cmp 0 (.var 176) (.int 7)) (.cmp 0 (.bi 0 [.var 171]) (.int 0))) c68c c68d::c68_6
def c68_4:=.asg (.tup [.var 188,.var 42,.var 137]) (.sub (.var 174) (.int 2))::c68_5
def c68_3:=.eU (.var 172) (.var 180) c68a::c68_4
def c68_2:=.asg (.var 171) (.sub (.var 175) (.var 177))::c68_3
def c68_1:=.asg (.var 110) (.sub (.var 179) (.var 177))::c68_2
def c68:=.asg (.var 177) (.bin 1 (.bi 0 [.var 179]) (.int 1))::c68_1
def c69b:=.ite (.not (.fn 64 [.var 174,.var 175])) [.ret .ff] []::nL
def c69a_1:=.ret .tt::nL
def c69a:=.ji (.var 120) [.bin 0 (.int 1) (.bin 4 (.var 99) (.int 4))] c69b::c69a_1
def c69e:=.ite (.not (.fn 65 [.var 174,.var 175])) [.ret .ff] []::nL
def c69d_1:=.ret .tt::nL
def c69d:=.ji (.var 120) [.bin 0 (.int 1) (.bin 4 (.var 99) (.int 4))] c69e::c69d_1
def c69g:=.ret (.fn 66 [.var 174,.var 176,.var 99])::nL
def c69h:=.ret (.fn 68 [.var 179,.var 175,.var 180,.var 174,.var 176,.var 99,.var 87])::nL
def c69i_5:=.ret (.cmp 0 (.bi 0 [.var 190]) (.bi 0 [.sub (.var 175) (.int 1)]))::nL
def c69i_4:=.expr (.meth (.var 180) 152 [.fn 67 [.var 190,.int 1]])::c69i_5
def c69i_3:=.expr (.meth (.var 175) 147 [.bi 6 [.sub (.var 175) (.int 0)]])::c69i_4
def c69i_2:=.expr (.meth (.var 179) 147 [.var 190])::c69i_3
def c69i_1:=.asg (.var 190) (.mk 7 [] [138,12] [.sub (.var 179) (.int 0),.cmp 0 (.bin 4 (.var 184) (.int 2)) (.int 1)])::c69i_2
def c69i:=.expr (.meth (.sub (.var 179) (.int 0)) 76 [])::c69i_1
def c69j:=.ret (.and (.fn 64 [.var 174,.var 175]) (.and (.fn 65 [.var 174,.var 175]) (.fn 64 [.var 174,.var 175])))::nL
def c69_10:=.ret (.and (.fn 65 [.var 174,.var 175]) (.and (.fn 64 [.var 174,.var 175]) (.fn 65 [.var 174,.var 175])))::nL
def c69_9:=.ite (.cmp 0 (.bin 4 (.var 99) (.int 2)) (.int 0)) c69j []::c69_10
def c69_8:=.ite (.cmp 0 (.bi 0 [.var 179]) (.int 1)) c69i []::c69_9
def c69_7:=.ite (.cmp 2 (.var 176) (.int 11)) c69h []::c69_8
def c69_6:=.ite (.cmp 2 (.var 176) (.int 7)) c69g []::c69_7
def c69_5:=.ite (.cmp 2 (.var 176) (.int 4)) c69d []::c69_6
def c69_4:=.ite (.cmp 2 (.var 176) (.int 2)) c69a []::c69_5
def c69_3:=.asg (.var 174) (.sub (.var 180) (.bin 4 (.var 184) (.bi 0 [.var 180])))::c69_4
def c69_2:=.asg (.var 99) (.bin 3 (.var 184) (.int 4))::c69_3
def c69_1:=.asg (.var 184) (.bin 3 (.var 183) (.int 12))::c69_2
def c69:=.asg (.var 176) (.bin 4 (.var 183) (.int 12))::c69_1
def c70a:=.ite (.not (.fn 63 [.meth (.var 84) 70 [],.var 42,.var 171])) [.ret .ff] []::nL
def c70d:=.ite (.not (.fn 63 [.meth (.var 84) 69 [],.var 42,.var 171])) [.ret .ff] []::nL
def c70_4:=.ret (.and (.cmp 6 (.meth (.var 84) 69 []) .none) (.cmp 6 (.meth (.var 84) 69 []) .none))::nL
def c70_3:=.eU (.var 42) (.bi 3 [.var 171]) c70d::c70_4
def c70_2:=.ite (.or (.cmp 7 (.meth (.var 84) 70 []) .none) (.cmp 7 (.meth (.var 84) 70 []) .none)) [.ret .ff] []::c70_3
def c70_1:=.eU (.var 42) (.bi 2 [.var 171]) c70a::c70_2
def c70:=.expr (.meth (.var 84) 73 [])::c70_1
def c71b_1:=.asg (.var 187) (.int 40)::nL
def c71b:=.asg (.var 115) (.int 40)::c71b_1
def c71c_2:=.asg (.var 187) (.bin 0 (.int 1) (.bin 4 (.var 192) (.int 40)))::nL
def c71c_1:=.asg (.var 115) (.bin 4 (.bin 3 (.var 192) (.int 40)) (.int 41))::c71c_2
def c71c:=.asg (.var 192) (.fn 60 [.var 95,.int 3])::c71c_1
def c71d_2:=.asg (.sub (.var 171) (.var 42)) (.var 120)::nL
def c71d_1:=.asg (.sub (.var 110) (.var 42)) (.var 120)::c71d_2
def c71d:=.asg (.var 42) (.bin 2 (.int 2) (.bin 4 (.bin 0 (.var 115) (.bin 2 (.var 120) (.var 187))) (.int 41)))::c71d_1
def c71e:=.ite (.not (.fn 69 [.var 179,.var 175,.var 180,.fn 60 [.var 95,.var 96],.bin 0 (.int 100) (.var 96)])) [.ret .ff] []::nL
def c71g:=.ite (.or (.not (.fn 64 [.var 174,.var 175])) (.or (.not (.fn 65 [.var 174,.var 175])) (.not (.fn 65 [.var 174,.var 175])))) [.ret .ff] []::nL
def c71_17:=.ret (.fn 70 [.sub (.sub (.var 180) (.int 0)) (.int 0),.sub (.var 175) (.int 0)])::nL
def c71_16:=.eU (.var 174) (.var 180) c71g::c71_17
def c71_15:=.ji (.var 96) [.int 4,.bi 4 [.bi 5 [.bi 0 [.var 95],.int 16],.int 30]] c71e::c71_16
def c71_14:=.asg (.var 180) (.fn 67 [.var 110,.int 0])::c71_15
def c71_13:=.asg (.var 175) (.list [.var 171])::c71_14
def c71_12:=.asg (.var 179) (.list [.var 110])::c71_13
def c71_11:=.ji (.var 120) [.var 185] c71d::c71_12
def c71_10:=.ite (.cmp 0 (.var 186) (.int 2)) c71c []::c71_11
def c71_9:=.ite (.cmp 0 (.var 186) (.int 1)) c71b []::c71_10
def c71_8:=.asg (.var 187) (.int 1)::c71_9
def c71_7:=.asg (.var 115) (.int 0)::c71_8
def c71_6:=.asg (.var 186) (.bin 4 (.fn 60 [.var 95,.int 2]) (.int 3))::c71_7
def c71_5:=.asg (.var 185) (.bin 1 (.int 24) (.bin 4 (.fn 60 [.var 95,.int 1]) (.int 25)))::c71_6
def c71_4:=.asg (.var 171) .edict::c71_5
def c71_3:=.asg (.var 110) (.mk 7 [] [1,12] [.var 1,.cmp 0 (.bin 4 (.var 113) (.int 2)) (.int 1)])::c71_4
def c71_2:=.ite (.cmp 0 (.bin 4 (.var 113) (.int 5)) (.int 4)) [.asg (.var 1) (.int 4)] []::c71_3
def c71_1:=.asg (.var 1) (.int 3)::c71_2
def c71:=.asg (.var 113) (.fn 60 [.var 95,.int 0])::c71_1
def tab:List (Nat × List CS):=[(2,c2),(3,c3),(4,c4),(5,c5),(6,c6),(7,c7),(8,c8),(9,c9),(10,c10),(11,c11),(12,c12),(13,c13),(14,c14),(15,c15),(16,c16),(17,c17),(18,c18),(20,c20),(21,c21),(24,c24),(25,c25),(26,c26),(27,c27),(28,c28),(29,c29),(30,c30),(31,c31),(32,c32),(33,c33),(34,c34),(35,c35),(36,c36),(37,c37),(38,c38),(39,c39),(40,c40),(41,c41),(42,c42),(43,c43),(45,c45),(48,c48),(49,c49),(51,c51),(52,c52),(53,c53),(57,c57),(58,c58),(59,c59),(60,c60),(61,c61),(62,c62),(63,c63),(64,c64),(65,c65),(66,c66),(67,c67),(68,c68),(69,c69),(70,c70),(71,c71)]
theorem xc{p q:Prop}(hp:p)(h:p=q:=by kernel_rfl):q:=h▸hp
abbrev Yr(a:Nat):Prop:=V.ref a=V.ref a
abbrev Yt:Prop:=true=true
def bD(G:Nat->bI):Prop:=∀k f b,look tab f=some b->HW (G k) (G (k+1)) f b
theorem lY(h:at' A n=some t):cJ A n t=A:=by
 induction A generalizing n with
 | nil=>rfl
 | cons x r ih =>
  cases n with
  | zero=>cases h;rfl
  | succ n=>exact congrArg (x::·) (ih (n:=n) h)
theorem lZ{β:Type}{f:Nat}{us:List V}{A:List Th}{n:Nat}{p:β->Prop}{v:β->V}{B:β->List Th}{t':β->Th}(h:aL Γ f us [t] F p v λb=>B b++[t' b])(hn:at' A n=some t)(S:Sat A F H)(q:∀b H',p b->Sat (B b++cJ A n (t' b)) F H'->Q (v b) H'):Γ f us H Q X:=by
 obtain⟨ls,h1,h2⟩:=S
 obtain⟨C,l,D,rfl,h3,h4⟩:=h1.at hn
 have h2:=h2.perm ((dw C D l).append_right F)
 refine h (C++D).flatten H Q X ⟨[l,(C++D).flatten],⟨h3,rfl,trivial⟩,?_⟩ λb H' hb S'=>q b H' hb ?_
 ·show Holds H ((l++((C++D).flatten++[]))++F)
  rw[Rx];exact h2
 ·obtain⟨ls,s1,s2⟩:=S'
  obtain⟨l1,l2,rfl,s3,s4⟩:=s1.split
  obtain⟨l3,l4,rfl,s5,s6⟩:=s3.split
  refine uo (P:=λl4=>Holds H' (((l3++l4)++l2).flatten++F)->_) s6 (λl' s6=>uo (P:=λl2=>Holds H' (((l3++[l'])++l2).flatten++F)->_) s4 λr e s2=>?_) s2
  have e:r=(C++D).flatten:=e
  refine⟨l3++(C++l'::D),s5.app (h4 _ _ s6),s2.perm (List.Perm.append_right F ?_)⟩
  rw[Rb,Rb,Rb,aG,aG,e,Rg]
  exact(dw C D l').symm.append_left _
structure CV where
 w:Bool
 a:Nat
 d:Nat
 le:Nat
 lc:Nat
 T:Nat
 c:Nat
 lf:Bool
 es:List E
 ks:List Nat
noncomputable def Kq:Th->Option CV
 | .k w (.nd a d le lc T c lf es ks)=>some ⟨w,a,d,le,lc,T,c,lf,es,ks⟩
 | _=>none
noncomputable def CV.th(q:CV):Th:=.k q.w (.nd q.a q.d q.le q.lc q.T q.c q.lf q.es q.ks)
theorem CW(h:Kq t=some q):t=q.th:=by
 cases t with
 | k w t=>cases t with
  | nd=>cases Ru h;rfl
  | _=>exact aV h
 | _=>exact aV h
def Kr(v:V)(st:St)(K:CV->St->Prop):Prop:=hd v st λh st=>opt (at' st.A h.n) λt=>opt (Kq t) λq=>v=.ref q.a/\K q st
theorem Fp{st:St}{K:CV->St->Prop}{P:V->Prop}(h:Kr v st K)(k:∀n q o,at' st.A n=some (CV.th q)->K q (st.oo o)->P (.ref q.a)):P v :=
 dZ h λh o g=>aU g λt e1 g=>aU g λq e2 g=>by
  rw[CW e2] at e1
  rw[g.1]
  exact k _ q o e1 g.2
def w2:List V->St->KE->Prop:=λus st K=>one' us λv=>int' v λi=>K (.int (i - 1)) st
def w3:List V->St->KE->Prop:=λus st K=>one' us λv=>int' v λi=>i.natAbs<=1000000/\K (.int (2 * i - 1)) st
def w5:List V->St->KE->Prop:=λus st K=>one' us λv=>Kr v st λq st=>(q.T<=1000/\q.es.length<=2 * (q.T:Int) - 1)/\K (.bool (decide ((q.es.length:Int)=2 * (q.T:Int) - 1))) st
def w6:List V->St->KE->Prop:=λus st K=>one' us λv=>Kr v st λq st=>(q.T<=1000/\(q.T:Int) - 1<=q.es.length)/\K (.bool (decide ((q.es.length:Int)=(q.T:Int) - 1))) st
def w7:List V->St->KE->Prop:=λus st K=>vL us λv k=>int' k λk=>Kr v st λq st=>bw q.es/\∀p,K (.ref p) (st.add (.k true (.ce p (.tup [.int (pos k q.es),.bool (hit k q.es)]))))
noncomputable def Nr(f:Nat):Option (List V->St->KE->Prop):=match Nat.beq f 2 with
 | true=>some w2
 | false=>match Nat.beq f 3 with
  | true=>some w3
  | false=>none
def Nt(f:Nat):Option (List V->St->KE->Prop):=match Nat.beq f 5 with
 | true=>some w5
 | false=>match Nat.beq f 6 with
  | true=>some w6
  | false=>Nr f
def cN(f:Nat):Option (List V->St->KE->Prop):=match Nat.beq f 7 with
 | true=>some w7
 | false=>Nt f
theorem Ks(h1:HW Γ' Γ 52 c52)(h2:HW Γ' Γ 53 c53):Pn Γ:=λe d H Q X a b =>
 ⟨λq=>h1 _ H Q X ⟨_,Le.refl _,lU a b rfl q⟩,λq=>h2 _ H Q X ⟨_,Le.refl _,lU a b rfl q⟩⟩
theorem book1(B:bD G)(k:Nat):lW (G (k+1)) Nr:=⟨λf w e us st K H Q X h S q=>by
 unfold Nr at e
 cases e2:Nat.beq f 2 with
 | true =>
  rw[e2] at e
  cases aJ e2
  cases Ru e
  exact dI (P:=λus=>G (k+1) 2 us H Q X) h λv h=>aZ (P:=λv=>G (k+1) 2 [v] H Q X) h λi h=>B k 2 c2 rfl _ H Q X ⟨_,Le.refl _,q _ _ _ h S⟩
 | false =>
  rw[e2] at e
  cases e3:Nat.beq f 3 with
  | true =>
   rw[e3] at e
   cases aJ e3
   cases Ru e
   exact dI (P:=λus=>G (k+1) 3 us H Q X) h λv h=>aZ (P:=λv=>G (k+1) 3 [v] H Q X) h λi h=>B k 3 c3 rfl _ H Q X ⟨_,Le.refl _,⟨by decide,h.1⟩,q _ _ _ h.2 S⟩
  | false=>rw[e3] at e;exact aV e,Ks (B k 52 c52 rfl) (B k 53 c53 rfl)⟩
section
variable{G:Nat->bI}(B:bD G)(k:Nat)(F:CL)(q:CV)
include B
theorem Nu(h:q.T<=1000/\q.es.length<=2 * (q.T:Int) - 1):aL (β:=Unit) (G (k+2)) 5 [.ref q.a] [q.th] F (λ_=>True) (λ_=>.bool (decide ((q.es.length:Int)=2 * (q.T:Int) - 1))) λ_=>[]++[q.th]:=by
 obtain⟨w,a,d,le,lc,T,c,lf,es,ks⟩:=q
 refine aL.of (B (k+1) 5 c5 rfl) λr K hK=>?_
 show aj (G (k+1)) [c5] [(0,.ref a)] [.k w (.nd a d le lc T c lf es ks),.raw r] F K
 refine aj.rn (book1 B k) [oI 0,oE 0,oI 0,oI 0,oE 0,oI 0] (p:=Yr a/\Yr le/\Yr a/\Int.natAbs (↑T:Int)<=1000000/\decide ((↑es.length:Int)<=2 * (↑T:Int) - 1)=true/\Yr a/\Yr le/\Yr a/\Int.natAbs (↑T:Int)<=1000000/\K (.ret (.bool (decide ((↑es.length:Int)=2 * (↑T:Int) - 1)))) [(0,.ref a)] [.k w (.nd a d le lc T c lf es ks),.raw r] F) ?_
 exact⟨rfl,rfl,rfl,by have:=h.1;dsimp only at this;lia,RB h.2,rfl,rfl,rfl,by have:=h.1;dsimp only at this;lia,hK () _ _ _ trivial rfl (Vw.refl _ _)⟩
theorem Nv(h:q.T<=1000/\(q.T:Int) - 1<=q.es.length):aL (β:=Unit) (G (k+2)) 6 [.ref q.a] [q.th] F (λ_=>True) (λ_=>.bool (decide ((q.es.length:Int)=(q.T:Int) - 1))) λ_=>[]++[q.th]:=by
 obtain⟨w,a,d,le,lc,T,c,lf,es,ks⟩:=q
 refine aL.of (B (k+1) 6 c6 rfl) λr K hK=>?_
 show aj (G (k+1)) [c6] [(0,.ref a)] [.k w (.nd a d le lc T c lf es ks),.raw r] F K
 refine aj.rn (book1 B k) [oI 0,oE 0,oI 0,oI 0,oE 0,oI 0] (p:=Yr a/\Yr le/\Yr a/\decide ((↑T:Int) - 1<=(↑es.length:Int))=true/\Yr a/\Yr le/\Yr a/\K (.ret (.bool (decide ((↑es.length:Int)=(↑T:Int) - 1)))) [(0,.ref a)] [.k w (.nd a d le lc T c lf es ks),.raw r] F) ?_
 exact⟨rfl,rfl,rfl,RB h.2,rfl,rfl,rfl,hK () _ _ _ trivial rfl (Vw.refl _ _)⟩
end
theorem Fq{us:List V}{st:St}{P:List V->Prop}(h:one' us λv=>Kr v st K)(k:∀n q o,at' st.A n=some (CV.th q)->K q (st.oo o)->P [.ref q.a]):P us :=
 dI h λv h=>Fp (P:=λv=>P [v]) h k
theorem eF(B:bD G)(k:Nat):lW (G (k+2)) Nt:=⟨λf w e us st K H Q X h S q=>by
 unfold Nt at e
 cases e2:Nat.beq f 5 with
 | true =>
  rw[e2] at e
  cases aJ e2
  cases Ru e
  exact Fq (P:=λus=>G (k+2) 5 us H Q X) h λn x o h1 h2=>lZ (Nu B k st.F x h2.1) h1 S λb H' _ S'=>q _ _ _ h2.2 (by rw[lY h1] at S';exact S')
 | false =>
  rw[e2] at e
  cases e3:Nat.beq f 6 with
  | true =>
   rw[e3] at e
   cases aJ e3
   cases Ru e
   exact Fq (P:=λus=>G (k+2) 6 us H Q X) h λn x o h1 h2=>lZ (Nv B k st.F x h2.1) h1 S λb H' _ S'=>q _ _ _ h2.2 (by rw[lY h1] at S';exact S')
  | false=>rw[e3] at e;exact(book1 B (k+1)).sp _ _ e _ _ _ _ _ _ h S q,(book1 B (k+1)).kv⟩
theorem bU{α:Type}{xs:List α}{i:Nat}{x:α}(h:xs[i]?=some x):idxV xs (i:Int)=some x:=by
 unfold idxV
 rw[if_pos (by lia)]
 simpa using h
theorem sy(k:Int):∀es:List E,pos k es<=es.length
 | []=>RN _
 | e::r=>by
  unfold pos
  split
  ·have:=sy k r;simp;omega
  ·simp
theorem sG:∀{es:List E} {i:Nat} {e:E},i<pos k es->es[i]?=some e->e.k<k
 | [],i,e,h,_=>absurd h (Nat.not_lt_zero _)
 | x::r,i,e,h,q=>by
  unfold pos at h
  split at h
  ·cases i with
   | zero=>simp at q;subst q;assumption
   | succ i=>exact sG (Nat.lt_of_succ_lt_succ h) (by simpa using q)
  ·exact absurd h (Nat.not_lt_zero _)
set_option tactic.hygienic true in
theorem sH:∀{es:List E} (hs:bw es) {i:Nat} {e:E},pos k es<=i->es[i]?=some e->k<=e.k
 | [],_,i,e,_,q=>by simp at q
 | x::r,hs,i,e,h,q=>by
  have hs':=List.pairwise_cons.mp hs
  unfold pos at h
  split at h
  ·cases i with
   | zero=>exact absurd h (Nat.not_succ_le_zero _)
   | succ i=>exact sH hs'.2 (Nat.le_of_succ_le_succ h) (by simpa using q)
  ·rename_i c
   cases i with
   | zero=>simp at q;subst q;lia
   | succ i =>
    have:=hs'.1 e (List.mem_of_getElem? (by simpa using q))
    lia
theorem pos_eq(hs:bw es)(hi:i<=es.length)(h1:∀j e,j<i->es[j]?=some e->e.k<k)(h2:∀j e,i<=j->es[j]?=some e->k<=e.k):pos k es=i:=by
 rcases Nat.lt_trichotomy (pos k es) i with h|h|h
 ·have hl:pos k es<es.length:=by lia
  have a:=h1 _ _ h (QK hl)
  have b:=sH hs (RN _) (QK (h:=hl))
  lia
 ·exact h
 ·have hl:i<es.length:=by have:=sy k es;lia
  have a:=sG h (QK hl)
  have b:=h2 _ _ (RN _) (QK hl)
  lia
theorem jR(hs:bw es){i j:Nat}{x y:E}(h:i<j)(hi:es[i]?=some x)(hj:es[j]?=some y):x.k<y.k:=by
 obtain⟨h1,rfl⟩:=QJ.mp hi
 obtain⟨h2,rfl⟩:=QJ.mp hj
 exact List.pairwise_iff_getElem.mp hs i j h1 h2 h
theorem qx{k:Int}{es:List E}(hs:bw es){e:E}(he:es[es.length - 1]?=some e)(h:e.k<k):pos k es=es.length:=by
 refine pos_eq hs (RN _) (λj x hj hx=>?_) λj x hj hx=>?_
 ·by_cases c:j=es.length - 1
  ·subst c;rw[he] at hx;cases hx;exact h
  ·have:=jR hs (show j<es.length - 1 by lia) hx he;lia
 ·rw[Q7 hj] at hx;cases hx
theorem qy(h:pos k es=es.length):hit k es=false:=by
 unfold hit;rw[h,Q7 (RN _)]
theorem qz(h:es[pos k es]?=some e):hit k es=decide (e.k=k):=by
 unfold hit;rw[h]
theorem Tr.ind{P:Tr->Prop}(h:∀a c es ks,(∀k∈ks,P k)->P (.nd a c es ks))(t:Tr):P t :=
 Tr.rec (motive_1:=P) (motive_2:=λl=>∀k∈l,P k) (λa c es ks ih=>h a c es ks ih) (λk hk=>by cases hk) (λk l h1 h2 x hx=>by
  rcases RJ.mp hx with rfl|hx
  ·exact h1
  ·exact h2 x hx) t
mutual
noncomputable def flat:Tr->List E
 | .nd _ _ es ks=>fl es ks
noncomputable def fl:List E->List Tr->List E
 | es,[]=>es
 | [],k::ks=>flat k++fl [] ks
 | e::es,k::ks=>flat k++e::fl es ks
end
theorem aq(a:Nat)(o:Bool)(es:List E)(ks:List Tr):flat (.nd a o es ks)=fl es ks:=by rw[flat]
theorem aN(es:List E):fl es []=es:=by cases es<;>rw[fl]
theorem bV(e:E)(es:List E)(k:Tr)(ks:List Tr):fl (e::es) (k::ks)=flat k++e::fl es ks:=by rw[fl]
theorem gw(k:Tr)(ks:List Tr):fl [] (k::ks)=flat k++fl [] ks:=by rw[fl]
def fj:List E->List Tr->List E
 | e::es,k::ks=>flat k++e::fj es ks
 | _,_=>[]
def gF:List E->List Tr->List E
 | [],ks=>fl [] ks
 | e::es,ks=>e::fl es ks
theorem bB(er:List E)(k:Tr)(kr:List Tr):∀{el:List E} {kl:List Tr},el.length=kl.length->fl (el++er) (kl++k::kr)=fj el kl++(flat k++gF er kr)
 | [],[],_=>by
  cases er with
  | nil=>exact gw k kr
  | cons e er=>exact bV e er k kr
 | [],_::_,h=>nomatch h
 | _::_,[],h=>nomatch h
 | e::el,k'::kl,h=>by
  show fl (e::(el++er)) (k'::(kl++k::kr))=(flat k'++e::fj el kl)++_
  rw[bV,bB er k kr (Nat.succ.inj h),Rg];rfl
theorem yq(e:E)(er:List E)(k1 k2:Tr)(kr:List Tr)(h:el.length=kl.length):fl (el++e::er) (kl++k1::k2::kr)=fj el kl++(flat k1++e::(flat k2++gF er kr)):=by
 rw[bB (e::er) k1 (k2::kr) h]
 show fj el kl++(flat k1++e::fl er (k2::kr))=_
 cases er with
 | nil=>rw[gw];rfl
 | cons x er=>rw[bV];rfl
def Sh(T:Nat):Nat->Nat->Tr->Prop
 | 0,lo,.nd _ _ es ks=>ks=[]/\lo<=es.length/\es.length<=2 * T - 1
 | d+1,lo,.nd _ _ es ks=>ks.length=es.length+1/\(lo<=es.length/\es.length<=2 * T - 1)/\∀k∈ks,Sh T d (T - 1) k
noncomputable def bR(k:Int)(es:List E):Option E:=es.find? λe=>decide (e.k=k)
noncomputable def iM(e:E)(es:List E):List E:=es.filter (λx=>decide (x.k<e.k))++e::es.filter λx=>decide (e.k<x.k)
noncomputable def jT(k:Int)(es:List E):List E:=es.filter λx=>!decide (x.k=k)
def vO:Option E->V
 | some e=>e.r
 | none=>.none
structure cO(k:Int)(A B:List E):Prop where
 lo:∀x∈A,x.k<k
 hi:∀x∈B,k<x.k
theorem iz{l:List E}(h:∀x∈l,p x=true):l.filter p=l:=List.filter_eq_self.mpr h
theorem jx{l:List E}(h:∀x∈l,p x=false):l.filter p=[]:=List.filter_eq_nil_iff.mpr λx hx e=>by rw[h x hx] at e;cases e
section
variable{k:Int}{A B M:List E}
theorem cO.ins{e:E}(w:cO e.k A B):iM e (A++(M++B))=A++(iM e M++B):=by
 unfold iM
 rw[List.filter_append,List.filter_append,List.filter_append,List.filter_append,iz (l:=A) λx hx=>RB (w.lo x hx),jx (l:=B) λx hx=>Rr (by have:=w.hi x hx;lia),
  jx (l:=A) λx hx=>Rr (by have:=w.lo x hx;lia),iz (l:=B) λx hx=>RB (w.hi x hx)]
 simp
theorem cO.Ku(w:cO e.k A B):iM e (A++B)=A++e::B:=by
 have:=w.ins (M:=[])
 simpa [iM] using this
theorem cO.Kv{e0:E}(w:cO e.k A B)(h:e0.k=e.k):iM e (A++e0::B)=A++e::B:=by
 have:=w.ins (M:=[e0])
 simpa [iM,h] using this
theorem cO.del(w:cO k A B):jT k (A++(M++B))=A++(jT k M++B):=by
 unfold jT
 rw[List.filter_append,List.filter_append,iz (l:=A) λx hx=>by rw[Rr (by have:=w.lo x hx;lia)];rfl,iz (l:=B) λx hx=>by rw[Rr (by have:=w.hi x hx;lia)];rfl]
theorem cO.CZ(w:cO k A B)(h:e.k=k):jT k (A++e::B)=A++B:=by
 have:=w.del (M:=[e])
 simpa [jT,h] using this
theorem qC(h:∀x∈l,x.k≠k):bR k l=none:=List.find?_eq_none.mpr λx hx e=>h x hx (Rj e)
theorem cO.bR(w:cO k A B):bR k (A++(M++B))=Mine.bR k M:=by
 unfold Mine.bR
 rw[List.find?_append,List.find?_append,show A.find? _=none from qC λx hx=>by have:=w.lo x hx;lia,show B.find? _=none from qC λx hx=>by have:=w.hi x hx;lia]
 simp
theorem cO.jU(w:cO k A B)(h:e.k=k):Mine.bR k (A++e::B)=some e:=by
 have:=w.bR (M:=[e])
 rw[show A++([e]++B)=A++e::B from rfl] at this
 rw[this];simp [Mine.bR,h]
theorem cO.qD(w:cO k A B):Mine.bR k (A++B)=none:=by
 have:=w.bR (M:=[])
 exact this
end
theorem bN(h:bw (A++e::B)):cO e.k A B :=
 ⟨λx hx=>(Ra.mp h).2.2 x hx e (.head _),λx hx=>(List.pairwise_cons.mp (Ra.mp h).2.1).1 x hx⟩
theorem Dc{es:List E}:∀x∈es.take (pos k es),x.k<k:=λx hx=>by
 obtain⟨j,hj,rfl⟩:=List.getElem_of_mem hx
 rw[Rp] at hj
 rw[List.getElem_take]
 exact sG (show j<pos k es by lia) (QK _)
theorem ur(hs:bw es):∀x∈es.drop (pos k es),k<=x.k:=λx hx=>by
 obtain⟨j,hj,rfl⟩:=List.getElem_of_mem hx
 rw[List.length_drop] at hj
 rw[List.getElem_drop]
 exact sH hs (Nat.le_add_right _ _) (QK (by grind))
theorem uw:hit k es=true↔∃x,es[pos k es]?=some x/\x.k=k:=by
 unfold hit
 cases q:es[pos k es]? with
 | none=>simp
 | some x=>simp
theorem Dd(hs:bw es)(hh:hit k es=false):∀x∈es.drop (pos k es),k<x.k:=λx hx=>by
 have h1:=ur hs x hx
 rcases Int.lt_or_eq_of_le h1 with h|h
 ·exact h
 ·exfalso
  obtain⟨j,hj,rfl⟩:=List.getElem_of_mem hx
  have hd:(es.drop (pos k es))[0]?=es[pos k es]?:=by rw[List.getElem?_drop];rfl
  have sd:bw (es.drop (pos k es)):=hs.sublist (List.drop_sublist _ _)
  have h0:(es.drop (pos k es))[0]?=some ((es.drop (pos k es))[0]'(by lia)):=QK _
  have g0:k<=((es.drop (pos k es))[0]'(by lia)).k:=ur hs _ (List.getElem_mem _)
  have:hit k es=true:=uw.mpr ⟨_,hd.symm.trans h0,by
   by_cases z:j=0
   ·subst z;exact h.symm
   ·have:=jR sd (show 0<j by lia) h0 (QK hj);lia⟩
  rw[hh] at this;cases this
theorem iB(hh:hit k es=true):∃el e er,es=el++e::er/\el.length=pos k es/\e.k=k/\es[pos k es]?=some e:=by
 obtain⟨x,h1,h2⟩:=uw.mp hh
 obtain⟨h3,h4⟩:=QJ.mp h1
 exact⟨es.take (pos k es),x,es.drop (pos k es+1),by rw[<-h4,<-QH h3,Q0],by rw[Rp];lia,h2,h1⟩
theorem dD{es:List E}(hs:bw es)(hh:hit k es=false):∃el er,es=el++er/\el.length=pos k es/\cO k el er :=
 ⟨es.take (pos k es),es.drop (pos k es),(Q0 _ _).symm,by rw[Rp];have:=sy k es;lia,Dc,Dd hs hh⟩
theorem jy(w:cO k el er):pos k (el++er)=el.length/\hit k (el++er)=false:=by
 have hp:pos k (el++er)=el.length:=by
  have:∀(l:List E),(∀x∈l,x.k<k)->pos k (l++er)=l.length+pos k er:=λl=>by
   induction l with
   | nil=>intro _;simp
   | cons x l ih=>intro h;rw[Rq,pos,if_pos (h x (.head _)),ih λy hy=>h y (.tail _ hy),Rn];lia
  rw[this el w.lo]
  cases er with
  | nil=>rfl
  | cons x er=>rw[pos,if_neg (by have:=w.hi x (.head _);lia)];rfl
 refine⟨hp,?_⟩
 unfold hit
 rw[hp,List.getElem?_append_right (RN _),Nat.sub_self]
 cases er with
 | nil=>rfl
 | cons x er=>exact Rr (by have:=w.hi x (.head _);lia)
theorem yr:∀{el:List E} {kl:List Tr},el.length=kl.length->bw (fj el kl)->∀x∈fj el kl,∃e∈el,x.k<=e.k
 | [],_,_,_,x,hx=>by cases hx
 | _::_,[],h,_,_,_=>nomatch h
 | e::el,k::kl,h,hs,x,hx=>by
  have hx:x∈flat k++e::fj el kl:=hx
  have hs:bw (flat k++e::fj el kl):=hs
  rcases Ry.mp hx with hx|hx
  ·exact⟨e,.head _,Int.le_of_lt ((Ra.mp hs).2.2 x hx e (.head _))⟩
  ·rcases RJ.mp hx with rfl|hx
   ·exact⟨x,.head _,Int.le_refl _⟩
   ·obtain⟨y,h1,h2⟩:=yr (Nat.succ.inj h) (List.pairwise_cons.mp (Ra.mp hs).2.1).2 x hx
    exact⟨y,.tail _ h1,h2⟩
theorem HX(hl:er.length=kr.length)(hs:bw (gF er kr)):∀x∈gF er kr,∃e∈er,e.k<=x.k:=λx hx=>by
 cases er with
 | nil=>cases kr with
  | nil=>have hx:x∈fl [] []:=hx;rw[aN] at hx;cases hx
  | cons=>cases hl
 | cons e er =>
  rcases RJ.mp hx with rfl|h
  ·exact⟨x,.head _,Int.le_refl _⟩
  ·exact⟨e,.head _,Int.le_of_lt ((List.pairwise_cons.mp hs).1 x h)⟩
theorem ux(w:cO k el er)(h1:el.length=kl.length)(h2:er.length=kr.length)(hs:bw (fj el kl++(flat c++gF er kr))):cO k (fj el kl) (gF er kr):=by
 obtain⟨s1,s2,s3⟩:=Ra.mp hs
 refine⟨λx hx=>?_,λx hx=>?_⟩
 ·obtain⟨e,he,h⟩:=yr h1 s1 x hx
  have:=w.lo e he;lia
 ·obtain⟨e,he,h⟩:=HX h2 (Ra.mp s2).2.1 x hx
  have:=w.hi e he;lia
theorem qF:∀{ks:List Tr},(ks=[]\/ks.length=(el++er).length+2)->∃A B,∀e,fl (el++e::er) ks=A++e::B:=by
 induction el with
 | nil =>
  intro ks h
  cases ks with
  | nil=>exact⟨[],er,λe=>aN _⟩
  | cons k ks=>exact⟨flat k,fl er ks,λe=>bV e er k ks⟩
 | cons x el ih =>
  intro ks h
  cases ks with
  | nil=>exact⟨x::el,er,λe=>aN _⟩
  | cons k ks =>
   obtain⟨A,B,q⟩:=ih (ks:=ks) (by
    rcases h with h|h
    ·cases h
    ·exact .inr (by simpa using h))
   exact⟨flat k++x::A,B,λe=>by
    show fl (x::(el++e::er)) (k::ks)=_
    rw[bV,q e];simp⟩
theorem eG:∀{ks:List Tr},bw (fl es ks)->bw es:=λ{ks} h=>h.sublist (by
 clear h
 induction es generalizing ks with
 | nil=>exact List.nil_sublist _
 | cons e es ih =>
  cases ks with
  | nil=>rw[aN];exact List.Sublist.refl _
  | cons k ks =>
   rw[bV]
   exact(List.Sublist.cons_cons e ih).trans (List.sublist_append_right _ _))
theorem mj(x:E)(B:List E)(KB:List Tr):∀{A:List E} {KA:List Tr},KA.length=A.length+1->fl (A++x::B) (KA++KB)=fl A KA++x::fl B KB
 | [],[k],_=>by show fl (x::B) (k::KB)=_;rw[bV,gw,aN,Rx]
 | [],[],h=>by cases h
 | [],_::_::_,h=>by simp at h
 | a::A,k::KA,h=>by
  show fl (a::(A++x::B)) (k::(KA++KB))=_
  rw[bV,bV,mj x B KB (Nat.succ.inj h)]
  simp
 | _::_,[],h=>by cases h
def Kw(es:List E)(ks:List Tr):Prop:=ks=[]\/ks.length=es.length+1
theorem Sh.ks{T d lo a:Nat}{o:Bool}{es:List E}{ks:List Tr}(h:Sh T d lo (.nd a o es ks)):Kw es ks:=by
 cases d with
 | zero=>exact .inl h.1
 | succ d=>exact .inr h.1
theorem Sh.lo{T d lo a:Nat}{o:Bool}{es:List E}{ks:List Tr}(h:Sh T d lo (.nd a o es ks)):lo<=es.length/\es.length<=2 * T - 1:=by
 cases d with
 | zero=>exact h.2
 | succ d=>exact h.2.1
theorem kI(hk:Kw es ks)(hs:bw (fl es ks))(hh:hit k es=true):∃e,es[pos k es]?=some e/\e.k=k/\∃A B,cO k A B/\fl es ks=A++e::B/\∀e',fl (es.set (pos k es) e') ks=A++e'::B:=by
 obtain⟨el,e,er,rfl,h1,rfl,h3⟩:=iB hh
 obtain⟨A,B,q⟩:=qF (el:=el) (er:=er) (ks:=ks) (by
  rcases hk with h|h
  ·exact .inl h
  ·exact .inr (by simp at h |-;lia))
 refine⟨e,h3,rfl,A,B,bN (q e▸hs),q e,λe'=>?_⟩
 rw[<-h1,List.set_append_right _ _ (RN _),Nat.sub_self]
 exact q e'
theorem jz(hs:bw (fl es ks))(hh:hit k es=false)(hl:ks.length=es.length+1):∃el er kl c kr,es=el++er/\ks=kl++c::kr/\el.length=pos k es/\el.length=kl.length/\er.length=kr.length/\cO k el er/\cO k (fj el kl) (gF er kr):=by
 obtain⟨el,er,rfl,h1,w⟩:=dD (eG hs) hh
 have hlt:el.length<ks.length:=by rw[hl,Rd];lia
 have e1:ks=ks.take el.length++ks[el.length]::ks.drop (el.length+1):=by rw[<-QH hlt,Q0]
 have e2:el.length=(ks.take el.length).length:=by rw[Rp];lia
 have e3:er.length=(ks.drop (el.length+1)).length:=by rw[List.length_drop,hl,Rd];lia
 refine⟨el,er,ks.take el.length,ks[el.length],ks.drop (el.length+1),rfl,e1,h1,e2,e3,w,?_⟩
 rw[e1,bB _ _ _ e2] at hs
 exact ux w e2 e3 hs
theorem oJ(h:el.length=kl.length)(hs:bw (fl (el++er) (kl++c::kr))):bw (flat c):=by
 rw[bB _ _ _ h] at hs
 exact(Ra.mp (Ra.mp hs).2.1).1
theorem cC(h:l.length=n):(l++x::r)[n]?=some x:=by
 rw[<-h,List.getElem?_append_right (RN _),Nat.sub_self];rfl
theorem jc(h:Sh T d lo (.nd a o es ks)):Sh T d lo (.nd a' o' es ks):=by
 cases d with
 | zero=>exact h
 | succ d=>exact h
theorem fV(a a':Nat)(o o':Bool)(es:List E)(ks:List Tr):flat (.nd a o es ks)=flat (.nd a' o' es ks):=by rw[aq,aq]
section
variable{T d b g g':Nat}{o o' o'':Bool}{e x:E}{aB ges:List E}{aF gks gr cs:List Tr}
theorem rotL(s1:Sh T d (T - 1) (.nd b o aB aF))(s2:Sh T d (T - 1) (.nd g o' (x::ges) gks))(h1:aB.length<2 * T - 1)(h2:(x::ges).length≠T - 1) :
  (Sh T d (T - 1) (.nd b o (aB++[e]) (aF++gks.take 1))/\Sh T d (T - 1) (.nd g' o'' ges (gks.drop 1)))/\flat (.nd b o (aB++[e]) (aF++gks.take 1))++x::flat (.nd g' o'' ges (gks.drop 1))=flat (.nd b o aB aF)++e::flat (.nd g o' (x::ges) gks):=by
 rw[aq,aq,aq,aq]
 have l2:=s2.lo
 rw[Rn] at l2 h2
 cases d with
 | zero =>
  obtain⟨rfl,q1⟩:=s1
  obtain⟨rfl,q2⟩:=s2
  refine⟨⟨⟨rfl,by simp;lia⟩,⟨rfl,by lia⟩⟩,?_⟩
  show fl (aB++[e]) []++x::fl ges []=fl aB []++e::fl (x::ges) []
  rw[aN,aN,aN,aN];simp
 | succ d =>
  obtain⟨q1,q2,q3⟩:=s1
  obtain⟨q4,q5,q6⟩:=s2
  cases gks with
  | nil=>cases q4
  | cons c0 gks =>
   refine⟨⟨⟨by simp at q1 |-;lia,by simp;lia,λk hk=>?_⟩,⟨by simpa using q4,by lia,λk hk=>q6 k (.tail _ hk)⟩⟩,?_⟩
   ·rcases Ry.mp hk with hk|hk
    ·exact q3 k hk
    ·rw[Rf.mp hk];exact q6 c0 (.head _)
   ·show fl (aB++[e]) (aF++[c0])++x::fl ges gks=fl aB aF++e::fl (x::ges) (c0::gks)
    rewrite [mj e [] [c0] q1,gw,aN,bV];simp
theorem rotR(hc:(d=0/\gr=[]/\cs=[])\/∃c0,cs=[c0])(s1:Sh T d (T - 1) (.nd b o aB aF))(s2:Sh T d (T - 1) (.nd g o' (ges++[x]) (gr++cs)))(h1:aB.length<2 * T - 1)(h2:(ges++[x]).length≠T - 1) :
  (Sh T d (T - 1) (.nd g' o'' ges gr)/\Sh T d (T - 1) (.nd b o (e::aB) (cs++aF)))/\flat (.nd g' o'' ges gr)++x::flat (.nd b o (e::aB) (cs++aF))=flat (.nd g o' (ges++[x]) (gr++cs))++e::flat (.nd b o aB aF):=by
 rw[aq,aq,aq,aq]
 have l2:=s2.lo
 rw[Rd,Q5] at l2 h2
 rcases hc with ⟨rfl,rfl,rfl⟩|⟨c0,rfl⟩
 ·obtain⟨rfl,q1⟩:=s1
  refine⟨⟨⟨rfl,by lia⟩,⟨rfl,by simp;lia⟩⟩,?_⟩
  show fl ges []++x::fl (e::aB) []=fl (ges++[x]) []++e::fl aB []
  rw[aN,aN,aN,aN];simp
 ·cases d with
  | zero=>have:=s2.1;simp at this
  | succ d =>
   obtain⟨q1,q2,q3⟩:=s1
   obtain⟨q4,q5,q6⟩:=s2
   have q4:gr.length=ges.length+1:=by simpa using q4
   refine⟨⟨⟨q4,by lia,λk hk=>q6 k (Q9 _ hk)⟩,⟨by simp;lia,by simp;lia,λk hk=>?_⟩⟩,?_⟩
   ·rcases RJ.mp hk with rfl|hk
    ·exact q6 k (QZ _ (.head _))
    ·exact q3 k hk
   ·show fl ges gr++x::fl (e::aB) (c0::aF)=fl (ges++[x]) (gr++[c0])++e::fl aB aF
    rewrite [mj x [] [c0] q4,gw,aN,bV];simp
theorem Pq(s1:Sh T d (T - 1) (.nd b o aB aF))(s2:Sh T d (T - 1) (.nd g o' ges gks))(h:aB.length+ges.length+1<=2 * T - 1) :
  Sh T d (T - 1) (.nd b o (aB++e::ges) (aF++gks))/\flat (.nd b o (aB++e::ges) (aF++gks))=flat (.nd b o aB aF)++e::flat (.nd g o' ges gks):=by
 rw[aq,aq,aq]
 have l1:=s1.lo
 cases d with
 | zero =>
  obtain⟨rfl,q1⟩:=s1
  obtain⟨rfl,q2⟩:=s2
  refine⟨⟨rfl,by simp;lia⟩,?_⟩
  show fl (aB++e::ges) []=fl aB []++e::fl ges []
  rw[aN,aN,aN]
 | succ d =>
  obtain⟨q1,q2,q3⟩:=s1
  obtain⟨q4,q5,q6⟩:=s2
  refine⟨⟨by simp;lia,by simp;lia,λk hk=>(Ry.mp hk).elim (q3 k) (q6 k)⟩,mj e ges gks q1⟩
end
theorem sJ(h:Sh T (d+1) lo (.nd a o (el++e::er) (kl++k1::k2::kr)))(s1:Sh T d (T - 1) k1')(s2:Sh T d (T - 1) k2'):Sh T (d+1) lo (.nd a o (el++x::er) (kl++k1'::k2'::kr)):=by
 obtain⟨h1,h2,h3⟩:=h
 refine⟨by simp at h1 |-;lia,by simp at h2 |-;lia,λk hk=>?_⟩
 rcases Ry.mp hk with hk|hk
 ·exact h3 k (Q9 _ hk)
 ·rcases RJ.mp hk with rfl|hk
  ·exact s1
  ·rcases RJ.mp hk with rfl|hk
   ·exact s2
   ·exact h3 k (QZ _ (.tail _ (.tail _ hk)))
theorem mq(hl:el.length=kl.length)(h:flat k1'++x::flat k2'=flat k1++e::flat k2):flat (.nd a o (el++x::er) (kl++k1'::k2'::kr))=flat (.nd a o (el++e::er) (kl++k1::k2::kr)):=by
 rw[aq,aq,yq _ _ _ _ _ hl,yq _ _ _ _ _ hl]
 have:flat k1'++x::(flat k2'++gF er kr)=(flat k1'++x::flat k2')++gF er kr:=by simp
 rw[this,h];simp
theorem jV(h:Sh T (d+1) lo (.nd a o es (kl++k::kr)))(s:Sh T d (T - 1) k'):Sh T (d+1) lo (.nd a o es (kl++k'::kr)):=by
 obtain⟨h1,h2,h3⟩:=h
 refine⟨by simpa using h1,h2,λx hx=>?_⟩
 rcases Ry.mp hx with hx|hx
 ·exact h3 x (Q9 _ hx)
 ·rcases RJ.mp hx with rfl|hx
  ·exact s
  ·exact h3 x (QZ _ (.tail _ hx))
theorem bh(hl:el.length=kl.length):flat (.nd a o (el++er) (kl++k::kr))=fj el kl++(flat k++gF er kr):=by rw[aq,bB _ _ _ hl]
theorem Ky(hT:3<=T)(s:Sh T d (T - 1) (.nd b w ces cks))(hf:ces.length=2 * T - 1):∃cl mid cr ckl ckr,ces=cl++mid::cr/\cks=ckl++ckr/\cl.length=T - 1/\cr.length=T - 1/\(ckl=[]/\ckr=[]\/ckl.length=T/\ckr.length=T) /\
  ∀q,Sh T d (T - 1) (.nd b true cl ckl)/\Sh T d (T - 1) (.nd q true cr ckr)/\flat (.nd b true cl ckl)++mid::flat (.nd q true cr ckr)=flat (.nd b w ces cks):=by
 have h0:T - 1<ces.length:=by lia
 have e0:ces=ces.take (T - 1)++ces[T - 1]::ces.drop T:=by
  have:ces.drop (T - 1)=ces[T - 1]::ces.drop T:=by
   have:=QH h0
   rwa [show T - 1+1=T by lia] at this
  rw[<-this,Q0]
 have l1:(ces.take (T - 1)).length=T - 1:=by rw[Rp];lia
 have l2:(ces.drop T).length=T - 1:=by rw[List.length_drop];lia
 cases d with
 | zero =>
  obtain⟨rfl,s⟩:=s
  refine⟨_,_,_,[],[],e0,rfl,l1,l2,.inl ⟨rfl,rfl⟩,λq=>⟨⟨rfl,by lia,by lia⟩,⟨rfl,by lia,by lia⟩,?_⟩⟩
  rw[aq,aq,aq,aN,aN,aN]
  exact e0.symm
 | succ d =>
  obtain⟨s1,s2,s3⟩:=s
  have k1:(cks.take T).length=T:=by rw[Rp];lia
  have k2:(cks.drop T).length=T:=by rw[List.length_drop];lia
  refine⟨_,_,_,cks.take T,cks.drop T,e0,(Q0 _ _).symm,l1,l2,.inr ⟨k1,k2⟩,λq=>⟨⟨by lia,⟨by lia,by lia⟩,λt h=>s3 t (List.mem_of_mem_take h)⟩,⟨by lia,⟨by lia,by lia⟩,λt h=>s3 t (List.mem_of_mem_drop h)⟩,?_⟩⟩
  rw[aq,aq,aq]
  have:=mj ces[T - 1] (ces.drop T) (cks.drop T) (A:=ces.take (T - 1)) (KA:=cks.take T) (by lia)
  rw[Q0,<-e0] at this
  exact this.symm
theorem HY(h:Sh T (d+1) lo (.nd a o (el++er) (kl++t::kr)))(hn:(el++er).length<2 * T - 1)(s1:Sh T d (T - 1) L)(s2:Sh T d (T - 1) R):Sh T (d+1) lo (.nd a' o' (el++mid::er) (kl++L::R::kr)):=by
 obtain⟨h1,h2,h3⟩:=h
 simp only [Rd,Rn] at h1 h2 hn
 refine⟨by simp only [Rd,Rn];lia,⟨by simp only [Rd,Rn];lia,by simp only [Rd,Rn];lia⟩,λx hx=>?_⟩
 rcases Ry.mp hx with hx|hx
 ·exact h3 x (Q9 _ hx)
 ·rcases RJ.mp hx with rfl|hx
  ·exact s1
  ·rcases RJ.mp hx with rfl|hx
   ·exact s2
   ·exact h3 x (QZ _ (.tail _ hx))
theorem yt(hl:el.length=kl.length)(h:flat L++mid::flat R=flat t):flat (.nd a' o' (el++mid::er) (kl++L::R::kr))=flat (.nd a o (el++er) (kl++t::kr)):=by
 rw[bh hl,bh hl,<-h,gF,show R::kr=[]++R::kr from rfl,show fl er ([]++R::kr)=fl ([]++er) ([]++R::kr) from rfl,bB er R kr rfl]
 simp [fj]
theorem half{el:List E}{mid:E}{kl:List Tr}(w:cO k el er)(hl:kl.length=el.length)(hs:bw (el++mid::er))(hh:hit k (el++mid::er)=false)(ht:(kl++L::R::kr)[pos k (el++mid::er)]?=some t):t=L\/t=R:=by
 have hne:mid.k≠k:=by
  obtain⟨A,B,e1,_,w1⟩:=dD hs hh
  have:mid∈A++B:=e1▸by simp
  rcases Ry.mp this with h|h
  ·exact Int.ne_of_lt (w1.1 _ h)
  ·exact(Int.ne_of_lt (w1.2 _ h)).symm
 rcases Int.lt_or_gt_of_ne hne with h|h
 ·have w2:cO k (el++[mid]) er:=⟨λx hx=>by
   rcases Ry.mp hx with hx|hx
   ·exact w.1 x hx
   ·rw[Rf.mp hx];exact h,w.2⟩
  have p:=(jy w2).1
  rw[Rg] at p
  change pos k (el++mid::er)=_ at p
  rw[p,show kl++L::R::kr=(kl++[L])++R::kr by simp,cC (by simp [hl])] at ht
  exact .inr (Ru ht).symm
 ·have w2:cO k el (mid::er):=⟨w.1,λx hx=>by
   rcases RJ.mp hx with rfl|hx
   ·exact h
   ·exact w.2 x hx⟩
  rw[(jy w2).1,cC hl] at ht
  exact .inl (Ru ht).symm
section
variable{T d:Nat}{el er es:List E}{e x:E}{kl kr ks:List Tr}{b g t:Tr}{k:Int}
theorem qG(s:Sh T d lo (.nd a o es ks))(h:x∈es):x∈flat (.nd a o es ks):=by
 obtain⟨el,er,rfl⟩:=List.append_of_mem h
 obtain⟨A,B,q⟩:=qF (el:=el) (er:=er) (ks:=ks) (by rcases s.ks with q|q;exact .inl q;exact .inr (by rw[q];simp;lia))
 rw[aq,q x];simp
theorem jA(hl:el.length=kl.length):fl (el++e::er) (kl++b::g::kr)=fj el kl++(flat b++e::(flat g++gF er kr)):=by
 rw[bB _ _ _ hl,gF,show fl er (g::kr)=fl ([]++er) ([]++g::kr) from rfl,bB er g kr rfl]
 rfl
theorem qH(hl:el.length=kl.length)(hs:bw (fl (el++e::er) (kl++b::g::kr)))(h:x∈flat g):e.k<x.k:=by
 rw[jA hl] at hs
 have:=((Ra.mp (Ra.mp hs).2.1).2.1)
 exact(List.pairwise_cons.mp this).1 x (Q9 _ h)
theorem uy(hl:el.length=kl.length)(hs:bw (fl (el++e::er) (kl++b::g::kr)))(h:x∈flat b):x.k<e.k:=by
 rw[jA hl] at hs
 exact(Ra.mp (Ra.mp hs).2.1).2.2 x h e (.head _)
theorem vQ(w:cO k el (e::er))(h:e.k<x.k):cO k el (x::er):=⟨w.1,λy hy=>by
 rcases RJ.mp hy with rfl|hy
 ·exact Int.lt_trans (w.2 e (.head _)) h
 ·exact w.2 y (.tail _ hy)⟩
theorem yu(w:cO k (el++[e]) er)(h:x.k<e.k):cO k (el++[x]) er:=⟨λy hy=>by
 rcases Ry.mp hy with hy|hy
 ·exact w.1 y (Q9 _ hy)
 ·rw[Rf.mp hy];exact Int.lt_trans h (w.1 e (by simp)),w.2⟩
theorem yw(h:Sh T (d+1) lo (.nd a o (el++e::er) (kl++b::g::kr)))(h2:lo<(el++e::er).length)(s:Sh T d (T - 1) t):Sh T (d+1) lo (.nd a o (el++er) (kl++t::kr)):=by
 obtain⟨h1,h3,h4⟩:=h
 simp only [Rd,Rn] at h1 h2 h3
 refine⟨by simp only [Rd,Rn];lia,⟨by simp only [Rd];lia,by simp only [Rd];lia⟩,λx hx=>?_⟩
 rcases Ry.mp hx with hx|hx
 ·exact h4 x (Q9 _ hx)
 ·rcases RJ.mp hx with rfl|hx
  ·exact s
  ·exact h4 x (QZ _ (.tail _ (.tail _ hx)))
theorem qI(hl:el.length=kl.length)(h:flat t=flat b++e::flat g):flat (.nd a o (el++er) (kl++t::kr))=flat (.nd a o (el++e::er) (kl++b::g::kr)):=by
 rw[bh hl,aq,jA hl,h]
 simp
end
theorem Ft(hT:T<=1000)(s:Sh T d lo (.nd a true es ks)):es.length<=10000/\ks.length<=10000:=by
 have z:=s.lo
 refine⟨by lia,?_⟩
 rcases s.ks with q|q<;>(rw[q];simp;try lia)
theorem kJ(w:cO k A B)(h:x.k=k):(A++x::B).filter (λy=>decide (y.k<k))=A/\(A++x::B).filter (λy=>decide (k<y.k))=B:=by
 constructor
 ·rw[List.filter_append,iz λy hy=>RB (w.1 y hy),jx (l:=x::B),Rx]
  intro y hy
  rcases RJ.mp hy with rfl|hy
  ·exact Rr (by lia)
  ·exact Rr (by have:=w.2 y hy;lia)
 ·rw[List.filter_append,jx λy hy=>Rr (by have:=w.1 y hy;lia),List.nil_append,List.filter_cons,if_neg (by simp;lia),iz λy hy=>RB (w.2 y hy)]
theorem yx(w:cO k A B)(w':cO k A' B')(h:x.k=k)(h':x'.k=k)(e:A++x::B=A'++x'::B'):A=A'/\x=x'/\B=B':=by
 have a1:=(kJ w h).1;have a2:=(kJ w' h').1
 have b1:=(kJ w h).2;have b2:=(kJ w' h').2
 rw[e] at a1 b1
 have eA:=a1.symm.trans a2
 subst eA
 have:=List.append_cancel_left e
 cases this
 exact⟨rfl,rfl,rfl⟩
structure S7(key:Int)(es:List E)(l i:Nat):Prop where
 li:l<=i
 ie:i<=es.length
 lo:∀j e,j<l->es[j]?=some e->e.k<key
 hi:∀j e,i<=j->es[j]?=some e->key<e.k
section
variable{key:Int}{es:List E}{l i:Nat}
theorem S7.mid(h:S7 key es l i)(c:(l:Int)<=(i:Int) - 1):∃(j:Nat) (e:E),((l:Int)+((i:Int) - 1)) / 2=(j:Int)/\l<=j/\j<i/\es[j]?=some e:=by
 have:=h.ie
 have hj:(l+i - 1) / 2<es.length:=by lia
 exact⟨(l+i - 1) / 2,es[(l+i - 1) / 2],by lia,by lia,by lia,QK hj⟩
theorem S7.up(h:S7 key es l i)(hs:bw es)(h1:l<=j)(h2:j<i)(he:es[j]?=some e)(hk:e.k<key):S7 key es (j+1) i:=⟨h2,h.ie,λx y hx hy=>by
 by_cases z:x=j
 ·rw[z,he] at hy;rw[<-Ru hy];exact hk
 ·exact Int.lt_trans (jR hs (show x<j by lia) hy he) hk,h.hi⟩
theorem S7.dn(h:S7 key es l i)(hs:bw es)(h1:l<=j)(h2:j<i)(he:es[j]?=some e)(hk:key<e.k):S7 key es l j:=⟨h1,RM (Nat.le_of_lt h2) h.ie,h.lo,λx y hx hy=>by
 by_cases z:x=j
 ·rw[z,he] at hy;rw[<-Ru hy];exact hk
 ·exact Int.lt_trans hk (jR hs (show j<x by lia) he hy)⟩
theorem S7.eq(hs:bw es)(he:es[j]?=some e)(hk:key=e.k):pos key es=j/\hit key es=true:=by
 have hj:=(QJ.mp he).1
 have hq:pos key es=j:=pos_eq hs (Nat.le_of_lt hj) (λx y hx hy=>hk▸jR hs hx hy he) λx y hx hy=>by
  by_cases z:x=j
  ·rw[z,he] at hy;rw[<-Ru hy,hk];exact Int.le_refl _
  ·exact Int.le_of_lt (hk▸jR hs (show j<x by lia) he hy)
 exact⟨hq,by rw[qz (by rw[hq];exact he)];exact RB hk.symm⟩
theorem S7.done(h:S7 key es l i)(hs:bw es)(c:¬(l:Int)<=(i:Int) - 1):pos key es=i/\hit key es=false:=by
 have e:l=i:=by have:=h.li;lia
 have hq:pos key es=i:=pos_eq hs h.ie (e▸h.lo) λj x hj hx=>Int.le_of_lt (h.hi j x hj hx)
 refine⟨hq,?_⟩
 by_cases z:i=es.length
 ·exact qy (by rw[hq,z])
 ·have hl:i<es.length:=by have:=h.ie;lia
  rw[qz (by rw[hq];exact QK hl)]
  have:=h.hi i _ (RN _) (QK hl)
  exact Rr (by lia)
end
section
variable{G:Nat->bI}(B:bD G){k:Nat}{F r:CL}{w lf:Bool}{a d le lc T c:Nat}{es:List E}{ks:List Nat}{key:Int}{K:KS}{rs:lM}(hs:bw es)(kv:∀e∈es,aQ F e)
 (hK:∀q m (i:Nat) b,pos key es=i/\hit key es=b->K (.ret (.ref q)) m [.k true (.ce q (.tup [.int i,.bool b])),.k w (.nd a d le lc T c lf es ks),.raw r] F)
noncomputable abbrev m7(a:Nat)(key:Int)(l i:Nat)(tl:Loc):Loc:=(0,.ref a)::(42,.int key)::(122,.int l)::(123,.int i)::(124,.int ((i:Int) - 1))::(125,.bool false)::tl
def L7(A:List Th)(F:CL)(a:Nat)(key:Int)(es:List E)(n:Nat)(m:Loc)(A':List Th)(F':CL):Prop:=F'=F/\A'=A/\∃l i tl,m=m7 a key l i tl/\(tl=[]\/∃x y,tl=[(148,.int x),(94,.int y)])/\S7 key es l i/\n=i - l
include B hs kv hK
theorem Df(h:S7 key es l i)(h1:l<=j)(h2:j<i)(he:es[j]?=some e)(hn:n=i - l) :
  aj (G (k+2)) [c7b_2,[]] (m7 a key l i [(148,.int j),(94,.int e.k)]) [.k w (.nd a d le lc T c lf es ks),.raw r] F (cB (λm A' F'=>∃k,k<n/\L7 [.k w (.nd a d le lc T c lf es ks),.raw r] F a key es k m A' F') (Rest (G (k+2)) [c7_7] K) K):=by
 by_cases d1:key=e.k
 ·refine aj.rn (eF B k) [oB true] (p:=decide (key=E.k e)=true/\aj (G (k+2)) [c7_7] [(0,.ref a),(42,.int key),(122,.int l),(123,.int j),(124,.int ((↑i:Int) - 1)),(125,.bool true),(148,.int j),(94,.int e.k)] [.k w (.nd a d le lc T c lf es ks),.raw r] F K) ?_
  refine⟨RB d1,?_⟩
  refine aj.rn (eF B k) [] (p:=∀(q:Nat),K (.ret (.ref q)) [(0,.ref a),(42,.int key),(122,.int l),(123,.int j),(124,.int ((↑i:Int) - 1)),(125,.bool true),(148,.int j),(94,.int e.k)] [zT q [.int j,.bool true],.k w (.nd a d le lc T c lf es ks),.raw r] F) ?_
  exact λq=>hK q _ _ _ (S7.eq hs he d1)
 ·by_cases d2:key<e.k
  ·refine aj.rn (eF B k) [oB false,oB true] (p:=decide (key=E.k e)=false/\decide (key<E.k e)=true/\∃(k:Nat),k<n/\L7 [.k w (.nd a d le lc T c lf es ks),.raw r] F a key es k [(0,.ref a),(42,.int key),(122,.int l),(123,.int j),(124,.int ((↑j:Int) - 1)),(125,.bool false),(148,.int j),(94,.int e.k)] [.k w (.nd a d le lc T c lf es ks),.raw r] F) ?_
   exact⟨Rr d1,RB d2,j - l,by lia,rfl,rfl,l,j,_,rfl,.inr ⟨_,_,rfl⟩,h.dn hs h1 h2 he d2,rfl⟩
  ·refine aj.rn (eF B k) [oB false,oB false] (p:=decide (key=E.k e)=false/\decide (key<E.k e)=false/\∃(k:Nat),k<n/\L7 [.k w (.nd a d le lc T c lf es ks),.raw r] F a key es k [(0,.ref a),(42,.int key),(122,.int ((↑j:Int)+1)),(123,.int i),(124,.int ((↑i:Int) - 1)),(125,.bool false),(148,.int j),(94,.int e.k)] [.k w (.nd a d le lc T c lf es ks),.raw r] F) ?_
   exact⟨Rr d1,Rr d2,i - (j+1),by lia,rfl,rfl,j+1,i,_,rfl,.inr ⟨_,_,rfl⟩,h.up hs h1 h2 he (by lia),rfl⟩
theorem Dg:aj (G (k+2)) [c7_6] (m7 a key 0 es.length []) [.k w (.nd a d le lc T c lf es ks),.raw r] F K:=by
 refine aj.whl (L7 [.k w (.nd a d le lc T c lf es ks),.raw r] F a key es) es.length ⟨rfl,rfl,0,es.length,[],rfl,.inl rfl,⟨Nat.zero_le _,RN _,λj e h=>absurd h (Nat.not_lt_zero _),λj e h q=>by rw[Q7 h] at q;exact aV q⟩,rfl⟩ λn m A' F' hI=>?_
 obtain⟨rfl,rfl,l,i,tl,rfl,htl,h,hn⟩:=hI
 by_cases c1:(l:Int)<=(i:Int) - 1
 ·obtain⟨j,e,hj,h1,h2,he⟩:=h.mid c1
  have hi:idxV es (((l:Int)+((i:Int) - 1)) / 2)=some e:=hj▸bU he
  have t:=Df B hs kv hK h h1 h2 he hn (k:=k)
  have ke:=kv e (List.mem_of_getElem? he)
  rw[<-hj] at t
  rcases htl with rfl|⟨x,y,rfl⟩
  ·refine aj.rn (eF B k) [oB true,oI 0,oE 0,oe e,oe e,bM] (p:=decide ((↑l:Int)<=(↑i:Int) - 1)=true/\((0:Int)<2/\(2:Int)<1000000000)/\Yr a/\Yr le/\idxV es (((↑l:Int)+((↑i:Int) - 1)) / 2)=some e/\(E.r e=E.r e/\aQ F' e)/\aj (G (k+2)) [c7b_2,[]] [(0,.ref a),(42,.int key),(122,.int l),(123,.int i),(124,.int ((↑i:Int) - 1)),(125,.bool false),(148,.int (((↑l:Int)+((↑i:Int) - 1)) / 2)),(94,.int e.k)] [.k w (.nd a d le lc T c lf es ks),.raw r] F' (cB (λm A F=>∃(k:Nat),k<n/\L7 [.k w (.nd a d le lc T c lf es ks),.raw r] F' a key es k m A F) (Rest (G (k+2)) [c7_7] K) K)) ?_
   exact⟨RB c1,by decide,rfl,rfl,hi,⟨rfl,ke⟩,t⟩
  ·refine aj.rn (eF B k) [oB true,oI 0,oE 0,oe e,oe e,bM] (p:=decide ((↑l:Int)<=(↑i:Int) - 1)=true/\((0:Int)<2/\(2:Int)<1000000000)/\Yr a/\Yr le/\idxV es (((↑l:Int)+((↑i:Int) - 1)) / 2)=some e/\(E.r e=E.r e/\aQ F' e)/\aj (G (k+2)) [c7b_2,[]] [(0,.ref a),(42,.int key),(122,.int l),(123,.int i),(124,.int ((↑i:Int) - 1)),(125,.bool false),(148,.int (((↑l:Int)+((↑i:Int) - 1)) / 2)),(94,.int e.k)] [.k w (.nd a d le lc T c lf es ks),.raw r] F' (cB (λm A F=>∃(k:Nat),k<n/\L7 [.k w (.nd a d le lc T c lf es ks),.raw r] F' a key es k m A F) (Rest (G (k+2)) [c7_7] K) K)) ?_
   exact⟨RB c1,by decide,rfl,rfl,hi,⟨rfl,ke⟩,t⟩
 ·have hd:=h.done hs c1
  rcases htl with rfl|⟨x,y,rfl⟩
  ·refine aj.rn (eF B k) [oB false] (p:=decide ((↑l:Int)<=(↑i:Int) - 1)=false/\aj (G (k+2)) [c7_7] (m7 a key l i []) [.k w (.nd a d le lc T c lf es ks),.raw r] F' K) ?_
   refine⟨Rr c1,?_⟩
   refine aj.rn (eF B k) [] (p:=∀(q:Nat),K (.ret (.ref q)) (m7 a key l i []) [zT q [.int i,.bool false],.k w (.nd a d le lc T c lf es ks),.raw r] F') ?_
   exact λq=>hK q _ _ _ hd
  ·refine aj.rn (eF B k) [oB false] (p:=decide ((↑l:Int)<=(↑i:Int) - 1)=false/\aj (G (k+2)) [c7_7] (m7 a key l i [(148,.int x),(94,.int y)]) [.k w (.nd a d le lc T c lf es ks),.raw r] F' K) ?_
   refine⟨Rr c1,?_⟩
   refine aj.rn (eF B k) [] (p:=∀(q:Nat),K (.ret (.ref q)) (m7 a key l i [(148,.int x),(94,.int y)]) [zT q [.int i,.bool false],.k w (.nd a d le lc T c lf es ks),.raw r] F') ?_
   exact λq=>hK q _ _ _ hd
theorem H6:aj (G (k+2)) [c7] [(0,.ref a),(42,.int key)] [.k w (.nd a d le lc T c lf es ks),.raw r] F K:=by
 have L:=Dg B hs kv hK (k:=k)
 by_cases c1:(0:Int)<es.length
 ·obtain⟨e,he⟩:∃e,es[es.length - 1]?=some e:=⟨_,QK (by lia)⟩
  have hi:idxV es ((es.length:Int) - 1)=some e:=by
   rw[show(es.length:Int) - 1=((es.length - 1:Nat):Int) by lia];exact bU he
  have ke:=kv e (List.mem_of_getElem? he)
  by_cases dd:e.k<key
  ·refine aj.rn (eF B k) [oI 0,oE 0,oB true,oI 0,oE 0,oe e,oe e,oB true] (p:=Yr a/\Yr le/\decide (0<(↑es.length:Int))=true/\Yr a/\Yr le/\idxV es ((↑es.length:Int) - 1)=some e/\(E.r e=E.r e/\aQ F e)/\decide (E.k e<key)=true/\∀(q:Nat),K (.ret (.ref q)) [(0,.ref a),(42,.int key),(122,.int es.length)] [zT q [.int es.length,.bool false],.k w (.nd a d le lc T c lf es ks),.raw r] F) ?_
   exact⟨rfl,rfl,RB c1,rfl,rfl,hi,⟨rfl,ke⟩,RB dd,λq=>hK q _ _ _ ⟨qx hs he dd,qy (qx hs he dd)⟩⟩
  ·refine aj.rn (eF B k) [oI 0,oE 0,oB true,oI 0,oE 0,oe e,oe e,oB false,oI 0,oE 0] (p:=Yr a/\Yr le/\decide (0<(↑es.length:Int))=true/\Yr a/\Yr le/\idxV es ((↑es.length:Int) - 1)=some e/\(E.r e=E.r e/\aQ F e)/\decide (E.k e<key)=false/\Yr a/\Yr le/\aj (G (k+2)) [c7_6] [(0,.ref a),(42,.int key),(122,.int 0),(123,.int es.length),(124,.int ((↑es.length:Int) - 1)),(125,.bool false)] [.k w (.nd a d le lc T c lf es ks),.raw r] F K) ?_
   exact⟨rfl,rfl,RB c1,rfl,rfl,hi,⟨rfl,ke⟩,Rr dd,rfl,rfl,L⟩
 ·refine aj.rn (eF B k) [oI 0,oE 0,oB false,oB false,oI 0,oE 0,oB false] (p:=Yr a/\Yr le/\decide (0<(↑es.length:Int))=false/\false=false/\Yr a/\Yr le/\aj (G (k+2)) [c7_6] [(0,.ref a),(42,.int key),(122,.int 0),(123,.int es.length),(124,.int ((↑es.length:Int) - 1)),(125,.bool false)] [.k w (.nd a d le lc T c lf es ks),.raw r] F K) ?_
  exact⟨rfl,rfl,Rr c1,rfl,rfl,rfl,L⟩
end
theorem Nx(B:bD G)(k:Nat)(F:CL)(q:CV)(key:Int)(hs:bw q.es):aL (G (k+3)) 7 [.ref q.a,.int key] [q.th] F (λ_=>True) (λp:Nat=>.ref p) λp=>[.k true (.ce p (.tup [.int (pos key q.es),.bool (hit key q.es)]))]++[q.th]:=by
 obtain⟨w,a,d,le,lc,T,c,lf,es,ks⟩:=q
 exact aL.of (B (k+2) 7 c7 rfl) λr K hK=>aj.fact (λH S=>(S.kd (n:=0) rfl).2) λkv=>H6 B hs kv λq m i b h=>hK q _ m _ trivial rfl (by rw[<-h.1,<-h.2];exact Vw.refl _ _)
theorem ao(B:bD G)(k:Nat):lW (G (k+3)) cN:=⟨λf w e us st K H Q X h S q=>by
 unfold cN at e
 cases e2:Nat.beq f 7 with
 | true =>
  rw[e2] at e
  cases aJ e2
  cases Ru e
  exact lQ (P:=λus=>G (k+3) 7 us H Q X) h λv x h=>aZ (P:=λx=>G (k+3) 7 [v,x] H Q X) h λi h=>Fp (P:=λv=>G (k+3) 7 [v,.int i] H Q X) h λn x o h1 h2=>lZ (Nx B k st.F x i h2.1) h1 S λb H' _ S'=>q _ _ _ (h2.2 b) (by rw[lY h1] at S';exact S')
 | false=>rw[e2] at e;exact(eF B (k+1)).sp _ _ e _ _ _ _ _ _ h S q,(eF B (k+1)).kv⟩
theorem Kz(kv:∀e∈es,aQ F e):Ent F [.k true (.ob a 2 d (Mp T c lf le lc)),.k true (.ce le (.list (xG es))),.k true (.ce lc (.list (refs ks)))] [.k true (.nd a d le lc T c lf es ks)]:=Nq λl1 l2 l3 h1 h2 h3=>by
 have h1:l1=_:=h1.1
 have h2:l2=_:=h2.1
 have h3:l3=_:=h3.1
 rw[h1,h2,h3]
 exact⟨[cl (.nd a d le lc T c lf es ks)],⟨⟨rfl,kv⟩,trivial⟩,RG _⟩
section
variable{G:Nat->bI}(B:bD G)(k:Nat)(F:CL)
include B
theorem yC{a d T c:Nat}(hT:3<=T):aL (G (k+2)) 4 [.ref a,.int T,.ref c,.bool lf] [.k true (.ob a 2 d [])] F (λ_=>True) (λ_=>.none) λq:Nat × Nat=>[.k true (.nd a d q.1 q.2 T c lf [] [])]:=by
 refine aL.of (B (k+1) 4 c4 rfl) λr K hK=>?_
 show aj (G (k+1)) [c4] [(0,.ref a),(1,.int T),(2,.ref c),(3,.bool lf)] [.k true (.ob a 2 d []),.raw r] F K
 refine aj.rn (book1 B k) [oI 0,oI 0,oI 0,oI 1,oI 2] (p:=decide (3<=(↑T:Int))=true/\Yr a/\Yr a/\Yr a/\∀(q:Nat),Yr a/\∀(q_1:Nat),Yr a/\K Fl.next [(0,.ref a),(1,.int T),(2,.ref c),(3,.bool lf)] [zL q_1 [],zL q [],zO a 2 d [(1,.int T),(2,.ref c),(3,.bool lf),(4,.ref q),(5,.ref q_1)],.raw r] F) ?_
 exact⟨RB (by lia),rfl,rfl,rfl,λp=>⟨rfl,λq=>⟨rfl,hK (p,q) _ _ _ trivial rfl (Vw.fin [2,1,0] rfl (Kz (es:=[]) (ks:=[]) λe h=>by cases h) [0,0] rfl)⟩⟩⟩
theorem KC{b bd ble blc T c c':Nat}{es:List E}{ks:List Nat}(hT:3<=T)(he:es.length<=1000000/\ks.length<=1000000)(hl:lf=ks.isEmpty) :
  aL (G (k+4)) 25 [.ref b,.ref c] [.k w (.nd b bd ble blc T c' lf es ks)] F (λ_=>True) (λq:Nat × Nat × Nat × Nat=>.ref q.1) λq=>[.k true (.nd q.1 q.2.1 q.2.2.1 q.2.2.2 T c lf es ks),.k w (.nd b bd ble blc T c' lf es ks)]:=by
 refine aL.of (B (k+3) 25 c25 rfl) λr K hK=>?_
 show aj (G (k+3)) [c25] [(0,.ref b),(2,.ref c)] [.k w (.nd b bd ble blc T c' lf es ks),.raw r] F K
 refine aj.rn (ao B k) [oI 0,oI 0] (p:=Yr b/\Yr b/\∀(a d:Nat),au (G (k+3)) 4 [.ref a,.int T,.ref c,.bool lf] [zO a 2 d [],.k w (.nd b bd ble blc T c' lf es ks),.raw r] F λu A F=>gD u (bF (G (k+3)) 128 [c25_1] [(0,.ref b),(2,.ref c)] K (.ref a) A F)) ?_
 refine⟨rfl,rfl,λq d=>au.call [0] rfl (yC B (k+1) F hT) λx _=>?_⟩
 have hK:=λm=>hK (q,d,x.1,x.2) (.ret (.ref q)) m
 cases lf with
 | true =>
  have hk:ks=[]:=List.isEmpty_iff.mp hl.symm
  rw[hk] at hK |-
  refine aj.rn (ao B k) [oI 0,oE 0,oI 1,oE 0,oE 1,oI 1,oB false] (p:=Yr q/\Yr x.1/\Yr b/\Yr x.1/\0<=1000000/\Yr ble/\0+List.length es<=1000000/\Yr b/\false=false/\K (.ret (.ref q)) [(0,.ref b),(2,.ref c),(128,.ref q)] [zN q d x.1 x.2 T c true es [],.k w (.nd b bd ble blc T c' true es []),.raw r] F) ?_
  exact⟨rfl,rfl,rfl,rfl,by decide,rfl,by lia,rfl,rfl,hK _ _ trivial rfl (Vw.refl _ _)⟩
 | false =>
  refine aj.rn (ao B k) [oI 0,oE 0,oI 1,oE 0,oE 1,oI 1,oB true,oI 0,oK 0,oI 1,oK 0,oK 1] (p:=Yr q/\Yr x.1/\Yr b/\Yr x.1/\0<=1000000/\Yr ble/\0+List.length es<=1000000/\Yr b/\Yt/\Yr q/\Yr x.2/\Yr b/\Yr x.2/\0<=1000000/\Yr blc/\0+List.length ks<=1000000/\K (.ret (.ref q)) [(0,.ref b),(2,.ref c),(128,.ref q)] [zN q d x.1 x.2 T c false es ks,.k w (.nd b bd ble blc T c' false es ks),.raw r] F) ?_
  exact⟨rfl,rfl,rfl,rfl,by decide,rfl,by lia,rfl,rfl,rfl,rfl,rfl,rfl,by decide,rfl,by lia,hK _ _ trivial rfl (Vw.refl _ _)⟩
theorem sO(hc:cI F c):aL (β:=Unit) (G (k+5)) 24 [.ref b,.ref c] [.k true (.nd b bd ble blc T c lf es ks)] F (λ_=>True) (λ_=>.none) λ_=>[.k true (.nd b bd ble blc T c lf es ks)]:=by
 refine aL.of (B (k+4) 24 c24 rfl) λr K hK=>?_
 show aj (G (k+4)) [c24] [(0,.ref b),(2,.ref c)] [.k true (.nd b bd ble blc T c lf es ks),.raw r] F K
 refine aj.rn (ao B (k+1)) [oI 0,oC,oC,oB false] (p:=Yr b/\Jx F (.ref c)/\Jx F (.ref c)/\(!Nat.beq c c)=false/\K (.ret V.none) [(0,.ref b),(2,.ref c)] [zN b bd ble blc T c lf es ks,.raw r] F) ?_
 exact⟨rfl,⟨c,rfl,hc⟩,⟨c,rfl,hc⟩,by rw[cF];rfl,hK () _ _ _ trivial rfl (Vw.refl _ _)⟩
theorem sS(hc:cI F c)(ho:Own F c c' false)(hT:3<=T)(he:es.length<=1000000/\ks.length<=1000000)(hl:lf=ks.isEmpty):aL (G (k+5)) 24 [.ref b,.ref c] [.k false (.nd b bd ble blc T c' lf es ks)] F (λ_=>True) (λq:Nat × Nat × Nat × Nat=>.ref q.1) λq=>[.k true (.nd q.1 q.2.1 q.2.2.1 q.2.2.2 T c lf es ks)]:=by
 refine aL.of (B (k+4) 24 c24 rfl) λr K hK=>?_
 show aj (G (k+4)) [c24] [(0,.ref b),(2,.ref c)] [.k false (.nd b bd ble blc T c' lf es ks),.raw r] F K
 refine aj.rn (ao B (k+1)) [oI 0,oC,oC,oB true,oI 0] (p:=Yr b/\Jx F (.ref c')/\Jx F (.ref c)/\(!Nat.beq c' c)=true/\Yr b/\au (G (k+4)) 25 [.ref b,.ref c] [.k false (.nd b bd ble blc T c' lf es ks),.raw r] F (dY [(0,.ref b),(2,.ref c)] K)) ?_
 exact⟨rfl,⟨c',rfl,ho.cr⟩,⟨c,rfl,hc⟩,by rw[aW (ho.n rfl)];rfl,rfl,au.call [0] rfl (KC B k F hT he hl) λq _=>hK q _ _ _ trivial rfl (Vw.keep [0,1] rfl)⟩
end
theorem aX:(l++x::r).isEmpty=false:=by cases l<;>rfl
theorem Dh(h:l.length=n):(l++x::r).set n y=l++y::r:=by
 rw[<-h,List.set_append_right _ _ (RN _),Nat.sub_self];rfl
theorem uz{l:List α}(h:l.length=n):idxV (l++x::r) (n:Int)=some x:=bU (cC h)
theorem qJ(kl kr:List Tr)(t:Tr):(kl++t::kr).map Tr.a=kl.map Tr.a++t.a::kr.map Tr.a:=by rw[Rv,RK]
theorem bH(h:i=l.length):idxV (l++x::r) i=some x:=h▸uz rfl
theorem iC(h:i=l.length):(0<=i/\i<((l++x::r).length:Int))/\(l++x::r).set i.toNat y=l++y::r:=by
 refine⟨⟨by lia,by rw[Rd,Rn];lia⟩,Dh (by lia)⟩
theorem Sh.sz{T d lo a:Nat}{es:List E}{ks:List Tr}(hT:T<=1000)(h:Sh T d lo (.nd a o es ks)):es.length<=10000/\ks.length<=10000:=by
 cases d with
 | zero=>obtain⟨h1,h2⟩:=h;rw[h1];exact⟨by lia,Nat.zero_le _⟩
 | succ d=>obtain⟨h1,h2,_⟩:=h;exact⟨by lia,by lia⟩
section
variable{G:Nat->bI}(B:bD G)(k:Nat)(F:CL)
include B
theorem gV(hc:cI F c)(hi:i=ka.length)(hT:3<=T)(hs:aB.length<=10000/\aF.length<=10000) :
  aL (G (k+6)) 8 [.ref a,.int i] [.k true (.nd a d le lc T c false es (ka++b::kb)),.tr T c (.nd b o aB aF)] F (λ_=>True) (λq:Nat=>.ref q) λq=>[.k true (.nd a d le lc T c false es (ka++q::kb)),.tr T c (.nd q true aB aF)]:=by
 refine aL.of (B (k+5) 8 c8 rfl) λr K hK=>?_
 show aj (G (k+5)) [c8] [(0,.ref a),(126,.int i)] [.k true (.nd a d le lc T c false es (ka++b::kb)),.tr T c (.nd b o aB aF),.raw r] F K
 refine aj.bT [1] rfl (aR b o aB aF) λx ho=>?_
 have hz:=(iC (r:=kb) (x:=b) (y:=b) hi).1
 refine aj.rn (ao B (k+2)) [oI 2,oI 2,oK 2,on b,oI 0,oI 2] (p:=Yr a/\Yt/\Yr a/\Yr lc/\idxV (ka++b::kb) i=some b/\Yr b/\Yr a/\au (G (k+5)) 24 [.ref b,.ref c] [.k o (.nd b x.d x.le x.lc T x.c (List.isEmpty aF) aB (aF.map Tr.a)),.trs T c aF,zN a d le lc T c false es (ka++b::kb),.raw r] F (bF (G (k+5)) 128 [c8_3] [(0,.ref a),(126,.int i),(127,.ref b)] K)) ?_
 refine⟨rfl,rfl,rfl,rfl,bH hi,rfl,rfl,?_⟩
 cases o with
 | true =>
  have e:=ho.y rfl
  rw[e] at ho |-
  refine au.call [0] rfl (sO B k F hc) λ_ _=>?_
  refine aj.rn (ao B (k+2)) [oB false] (p:=false=false/\K (.ret (.ref b)) [(0,.ref a),(126,.int i),(127,.ref b),(128,.none)] [zN b x.d x.le x.lc T c (List.isEmpty aF) aB (aF.map Tr.a),.trs T c aF,zN a d le lc T c false es (ka++b::kb),.raw r] F) ?_
  exact⟨rfl,hK b _ _ _ trivial rfl (Vw.fin [0,0] rfl (aD ho rfl rfl) [1,0,0] rfl)⟩
 | false =>
  refine au.call [0] rfl (sS B k F hc ho hT ⟨by lia,by rw[Rt];lia⟩ (uq _ _).symm) λq _=>?_
  refine aj.rn (ao B (k+2)) [oI 0,oB true,oI 2,oK 2,oR (Prod.fst q)] (p:=Yr q.1/\Yt/\Yr a/\Yr lc/\((0<=i/\i<(↑((ka++b::kb).length):Int))/\Yr q.1/\True)/\K (.ret (.ref q.1)) [(0,.ref a),(126,.int i),(127,.ref b),(128,.ref q.1)] [zN q.1 q.2.1 q.2.2.1 q.2.2.2 T c (List.isEmpty aF) aB (aF.map Tr.a),.trs T c aF,zN a d le lc T c false es (List.set (ka++b::kb) (Int.toNat i) q.1),.raw r] F) ?_
  refine⟨rfl,rfl,rfl,rfl,⟨hz,rfl,trivial⟩,hK q.1 _ _ _ trivial rfl ?_⟩
  rw[(iC (r:=kb) (x:=b) (y:=q.1) hi).2]
  exact Vw.fin [0,0] rfl (aD ⟨λ_=>rfl,nofun,hc⟩ rfl rfl) [1,0,0] rfl
end
section
variable{G:Nat->bI}(B:bD G){F:CL}{T c:Nat}
include B
theorem H7:∀{d lo:Nat} {t:Tr},Sh T d lo t->bw (flat t)->∀k,aL (β:=Unit) (G (k+d+4)) 10 [.ref t.a,.int key] [.tr T c t] F (λ_=>True) (λ_=>vO (bR key (flat t))) λ_=>[.tr T c t]:=by
 intro d
 induction d with
 | zero =>
  intro lo t hs hsr k
  obtain⟨a,o,es,ks⟩:=t
  rw[aq] at hsr |-
  have se:=eG hsr
  refine aL.of (B (k+3) 10 c10 rfl) λr K hK=>?_
  show aj (G (k+3)) [c10] [(0,.ref a),(42,.int key)] [.tr T c (.nd a o es ks),.raw r] F K
  refine aj.bT [0] rfl (aR a o es ks) λx ho=>?_
  cases hh:hit key es with
  | true =>
   obtain⟨e,h1,h2,X,Y,w,h3,_⟩:=kI hs.ks hsr hh
   rw[h3,w.jU h2] at hK
   refine aj.rn (ao B k) [oI 0,oI 0,oI 0,oB true,oI 1,oE 1,oe e] (p:=Yr a/\Yr a/\bw es/\∀(p:Nat),Yr p/\hit key es=true/\Yr a/\Yr x.le/\idxV es (↑(pos key es):Int)=some e/\K (.ret e.r) [(0,.ref a),(42,.int key),(123,.int (pos key es)),(125,.bool (hit key es))] [zT p [.int (pos key es),.bool (hit key es)],.k o (.nd a x.d x.le x.lc T x.c (List.isEmpty ks) es (ks.map Tr.a)),.trs T c ks,.raw r] F) ?_
   exact⟨rfl,rfl,se,λq=>⟨rfl,hh,rfl,rfl,bU h1,hK () _ _ _ trivial rfl (Vw.fin [1,1] rfl (aD ho rfl rfl) [0,1] rfl)⟩⟩
  | false =>
   obtain⟨rfl,_⟩:=hs
   obtain⟨el,er,h1,h2,w⟩:=dD se hh
   rw[aN,h1,w.qD,<-h1] at hK
   refine aj.rn (ao B k) [oI 0,oI 0,oI 0,oB false,oI 1,oB true] (p:=Yr a/\Yr a/\bw es/\∀(p:Nat),Yr p/\hit key es=false/\Yr a/\Yt/\K (.ret V.none) [(0,.ref a),(42,.int key),(123,.int (pos key es)),(125,.bool (hit key es))] [zT p [.int (pos key es),.bool (hit key es)],.k o (.nd a x.d x.le x.lc T x.c true es (List.map Tr.a [])),.trs T c [],.raw r] F) ?_
   exact⟨rfl,rfl,se,λq=>⟨rfl,hh,rfl,rfl,hK () _ _ _ trivial rfl (Vw.fin [1,1] rfl (aD ho rfl rfl) [0,1] rfl)⟩⟩
 | succ d ih =>
  intro lo t hs hsr k
  obtain⟨a,o,es,ks⟩:=t
  rw[aq] at hsr |-
  have se:=eG hsr
  refine aL.of (B (k+(d+1)+3) 10 c10 rfl) λr K hK=>?_
  show aj (G (k+d+4)) [c10] [(0,.ref a),(42,.int key)] [.tr T c (.nd a o es ks),.raw r] F K
  refine aj.bT [0] rfl (aR a o es ks) λx ho=>?_
  cases hh:hit key es with
  | true =>
   obtain⟨e,h1,h2,X,Y,w,h3,_⟩:=kI hs.ks hsr hh
   rw[h3,w.jU h2] at hK
   refine aj.rn (ao B (k+d+1)) [oI 0,oI 0,oI 0,oB true,oI 1,oE 1,oe e] (p:=Yr a/\Yr a/\bw es/\∀(p:Nat),Yr p/\hit key es=true/\Yr a/\Yr x.le/\idxV es (↑(pos key es):Int)=some e/\K (.ret e.r) [(0,.ref a),(42,.int key),(123,.int (pos key es)),(125,.bool (hit key es))] [zT p [.int (pos key es),.bool (hit key es)],.k o (.nd a x.d x.le x.lc T x.c (List.isEmpty ks) es (ks.map Tr.a)),.trs T c ks,.raw r] F) ?_
   exact⟨rfl,rfl,se,λq=>⟨rfl,hh,rfl,rfl,bU h1,hK () _ _ _ trivial rfl (Vw.fin [1,1] rfl (aD ho rfl rfl) [0,1] rfl)⟩⟩
  | false =>
   obtain⟨el,er,kl,t,kr,rfl,rfl,h1,h2,h3,w,w2⟩:=jz hsr hh hs.1
   obtain⟨b,o2,aB,aF⟩:=t
   have st:=hs.2.2 (.nd b o2 aB aF) (by simp)
   have ss:=oJ h2 hsr
   rw[bB _ _ _ h2,w2.bR] at hK
   have hx:idxV ((kl++.nd b o2 aB aF::kr).map Tr.a) (pos key (el++er):Nat)=some b:=by rw[qJ];exact uz (by rw[Rt,<-h1,h2])
   refine aj.bT [1] rfl (jQ kl kr b o2 aB aF) λx2 ho2=>?_
   refine aj.rn (ao B (k+d+1)) [oI 3,oI 3,oI 0,oB false,oI 4,oB false,oI 4,oK 4,on b,oI 1] (p:=Yr a/\Yr a/\bw (el++er)/\∀(p:Nat),Yr p/\hit key (el++er)=false/\Yr a/\(kl++Tr.nd b o2 aB aF::kr).isEmpty=false/\Yr a/\Yr x.lc/\idxV ((kl++Tr.nd b o2 aB aF::kr).map Tr.a) (↑(pos key (el++er)):Int)=some b/\Yr b/\au (G (k+d+4)) 10 [.ref b,.int key] [zT p [.int (↑(pos key (el++er)):Int),.bool (hit key (el++er))],.k o2 (.nd b x2.d x2.le x2.lc T x2.c (List.isEmpty aF) aB (aF.map Tr.a)),.trs T c aF,.trs T c (kl++kr),.k o (.nd a x.d x.le x.lc T x.c ((kl++Tr.nd b o2 aB aF::kr).isEmpty) (el++er) ((kl++Tr.nd b o2 aB aF::kr).map Tr.a)),.raw r] F (dY [(0,.ref a),(42,.int key),(123,.int (↑(pos key (el++er)):Int)),(125,.bool (hit key (el++er)))] K)) ?_
   exact⟨rfl,rfl,se,λq=>⟨rfl,hh,rfl,aX,rfl,rfl,hx,rfl,au.pk [1,1] rfl (aD ho2 rfl rfl) (au.call [0] rfl (ih st ss k) λ_ _=>hK () _ _ _ trivial rfl (Vw.go [0,1] rfl (eE kl kr (.nd b o2 aB aF)) (Vw.fin [2,0] rfl (aD ho rfl rfl) [0,1] rfl)))⟩⟩
theorem H8(hT:3<=T):∀{d lo:Nat} {t:Tr},Sh T d lo t->1<=lo->∀k,∃e r,flat t=e::r/\aL (β:=Unit) (G (k+d+4)) 18 [.ref t.a] [.tr T c t] F (λ_=>aQ F e) (λ_=>e.r) λ_=>[.tr T c t]:=by
 intro d
 induction d with
 | zero =>
  intro lo t hs h1 k
  obtain⟨a,o,es,ks⟩:=t
  have z:=hs.lo
  obtain⟨rfl,_⟩:=hs
  obtain⟨e,es,rfl⟩:∃e r,es=e::r:=by cases es with|nil=>simp at z;lia|cons e r=>exact⟨e,r,rfl⟩
  refine⟨e,es,by rw[aq,aN],aL.of (B (k+3) 18 c18 rfl) λr K hK=>?_⟩
  show aj (G (k+3)) [c18] [(0,.ref a)] [.tr T c (.nd a o (e::es) []),.raw r] F K
  refine aj.bT [0] rfl (aR a o (e::es) []) λx ho=>aj.fact (λH S=>(S.kd (n:=0) rfl).2 e (.head _)) λkv=>?_
  refine aj.rn (ao B k) [oI 0,oB true,oI 0,oE 0,oe e] (p:=Yr a/\Yt/\Yr a/\Yr x.le/\idxV (e::es) 0=some e/\K (.ret e.r) [(0,.ref a)] [.k o (.nd a x.d x.le x.lc T x.c true (e::es) (List.map Tr.a [])),.trs T c [],.raw r] F) ?_
  exact⟨rfl,rfl,rfl,rfl,rfl,hK () _ _ _ kv rfl (Vw.fin [0,0] rfl (aD ho rfl rfl) [0,0] rfl)⟩
 | succ d ih =>
  intro lo t hs h1 k
  obtain⟨a,o,es,ks⟩:=t
  have z:=hs.lo
  obtain⟨s1,_,s3⟩:=hs
  obtain⟨e,es,rfl⟩:∃e r,es=e::r:=by cases es with|nil=>simp at z;lia|cons e r=>exact⟨e,r,rfl⟩
  obtain⟨t,ks,rfl⟩:∃e r,ks=e::r:=by cases ks with|nil=>cases s1|cons e r=>exact⟨e,r,rfl⟩
  obtain⟨e',r',h4,hm⟩:=ih (s3 t (.head _)) (by lia) k
  obtain⟨b,o2,aB,aF⟩:=t
  refine⟨e',r'++e::fl es ks,by rw[aq,fl,h4];rfl,aL.of (B (k+(d+1)+3) 18 c18 rfl) λr K hK=>?_⟩
  show aj (G (k+d+4)) [c18] [(0,.ref a)] [.tr T c (.nd a o (e::es) (.nd b o2 aB aF::ks)),.raw r] F K
  refine aj.bT [0] rfl (aR a o (e::es) (.nd b o2 aB aF::ks)) λx ho=>aj.bT [1] rfl (jQ [] ks b o2 aB aF) λx2 ho2=>?_
  refine aj.rn (ao B (k+d+1)) [oI 3,oB false,oI 3,oK 3,on b,oI 0] (p:=Yr a/\false=false/\Yr a/\Yr x.lc/\idxV ((Tr.nd b o2 aB aF::ks).map Tr.a) 0=some b/\Yr b/\au (G (k+d+4)) 18 [.ref b] [.k o2 (.nd b x2.d x2.le x2.lc T x2.c (List.isEmpty aF) aB (aF.map Tr.a)),.trs T c aF,.trs T c ks,.k o (.nd a x.d x.le x.lc T x.c false (e::es) ((Tr.nd b o2 aB aF::ks).map Tr.a)),.raw r] F (dY [(0,.ref a)] K)) ?_
  exact⟨rfl,rfl,rfl,rfl,rfl,rfl,au.pk [0,0] rfl (aD ho2 rfl rfl) (au.call [0] rfl hm λ_ hv=>hK () _ _ _ hv rfl (Vw.go [0,0] rfl (eE [] ks (.nd b o2 aB aF)) (Vw.fin [1,0] rfl (aD ho rfl rfl) [0,0] rfl)))⟩
end
theorem yD(x:α)(r:List α):cM (x::r) [.int 0]=some (x,r):=by
 show(if (0:Int)<=0 then ((x::r)[(0:Int).toNat]?).map (λu=>(u,(x::r).take (0:Int).toNat++(x::r).drop ((0:Int).toNat+1))) else none)=_
 rw[if_pos (Int.le_refl _)];rfl
theorem map_one(l:List Tr)(t:Tr):l.map Tr.a++[t.a]=(l++[t]).map Tr.a:=by rw[Rv];rfl
section
variable{G:Nat->bI}(B:bD G)(k:Nat){F:CL}{a d le lc T c b g:Nat}{i:Int}{e x:E}{es el er aB ges:List E}{ka kb as:List Nat}{aF gks gr:List Tr}{o:Bool}{t0:Tr}
include B
theorem Di(h:as.length<=i+1):aL (β:=Unit) (G (k+4)) 15 [.ref b,.ref a,.int i] [.k true (.nd a d le lc T c false es as)] F (λ_=>True) (λ_=>.bool false) λ_=>[.k true (.nd a d le lc T c false es as)]:=by
 refine aL.of (B (k+3) 15 c15 rfl) λr K hK=>?_
 show aj (G (k+3)) [c15] [(0,.ref b),(133,.ref a),(126,.int i)] [.k true (.nd a d le lc T c false es as),.raw r] F K
 refine aj.rn (ao B k) [oI 0,oK 0,oB false] (p:=Yr a/\Yr lc/\decide (i+1<(↑as.length:Int))=false/\K (.ret (.bool false)) [(0,.ref b),(133,.ref a),(126,.int i)] [zN a d le lc T c false es as,.raw r] F) ?_
 exact⟨rfl,rfl,Rr (by lia),hK () _ _ _ trivial rfl (Vw.refl _ _)⟩
theorem yE(hi:i+1=ka.length)(hT:3<=T/\T<=1000)(hm:ges.length=T - 1):aL (β:=Unit) (G (k+4)) 15 [.ref b,.ref a,.int i] [.k true (.nd a d le lc T c false es (ka++g::kb)),.tr T c (.nd g o ges gks)] F (λ_=>True) (λ_=>.bool false) λ_=>[.k true (.nd a d le lc T c false es (ka++g::kb)),.tr T c (.nd g o ges gks)]:=by
 refine aL.of (B (k+3) 15 c15 rfl) λr K hK=>?_
 show aj (G (k+3)) [c15] [(0,.ref b),(133,.ref a),(126,.int i)] [.k true (.nd a d le lc T c false es (ka++g::kb)),.tr T c (.nd g o ges gks),.raw r] F K
 refine aj.bT [1] rfl (aR g o ges gks) λy ho=>?_
 refine aj.rn (ao B k) [oI 2,oK 2,oB true,oI 2,oK 2,on g,oI 0,oI 0,oB false] (p:=Yr a/\Yr lc/\decide (i+1<(↑((ka++g::kb).length):Int))=true/\Yr a/\Yr lc/\idxV (ka++g::kb) (i+1)=some g/\Yr g/\Yr g/\(T<=1000/\(↑T:Int) - 1<=(↑ges.length:Int))/\(!decide ((↑ges.length:Int)=(↑T:Int) - 1))=false/\K (.ret (.bool false)) [(0,.ref b),(133,.ref a),(126,.int i),(131,.ref g)] [.k o (.nd g y.d y.le y.lc T y.c (List.isEmpty gks) ges (gks.map Tr.a)),.trs T c gks,zN a d le lc T c false es (ka++g::kb),.raw r] F) ?_
 exact⟨rfl,rfl,RB (by rw[Rd,Rn];lia),rfl,rfl,bH hi,rfl,rfl,⟨hT.2,by lia⟩,by rw[RB (by lia)];rfl,hK () _ _ _ trivial rfl (Vw.fin [0,0] rfl (aD ho rfl rfl) [1,0,0] rfl)⟩
theorem yF(hc:cI F c)(hi:i+1=ka.length)(hT:3<=T/\T<=1000)(hm:T<=ges.length)(hs:ges.length<=10000/\gks.length<=10000)
  (h:∀q,aj (G (k+6)) [c15b_1,[],c15_1] [(0,.ref b),(133,.ref a),(126,.int i),(131,.ref q)] [.k true (.nd a d le lc T c false es (ka++q::kb)),.tr T c (.nd q true ges gks),.tr T c t0,.raw r] F K) :
  aj (G (k+6)) [c15] [(0,.ref b),(133,.ref a),(126,.int i)] [.k true (.nd a d le lc T c false es (ka++g::kb)),.tr T c t0,.tr T c (.nd g o ges gks),.raw r] F K:=by
 refine aj.bT [2] rfl (aR g o ges gks) λy ho=>?_
 refine aj.rn (ao B (k+3)) [oI 2,oK 2,oB true,oI 2,oK 2,on g,oI 0,oI 0,oB true,oI 2] (p:=Yr a/\Yr lc/\decide (i+1<(↑((ka++g::kb).length):Int))=true/\Yr a/\Yr lc/\idxV (ka++g::kb) (i+1)=some g/\Yr g/\Yr g/\(T<=1000/\(↑T:Int) - 1<=(↑ges.length:Int))/\(!decide ((↑ges.length:Int)=(↑T:Int) - 1))=true/\Yr a/\au (G (k+6)) 8 [.ref a,.int (i+1)] [.k o (.nd g y.d y.le y.lc T y.c (List.isEmpty gks) ges (gks.map Tr.a)),.trs T c gks,zN a d le lc T c false es (ka++g::kb),.tr T c t0,.raw r] F (bF (G (k+6)) 131 [c15b_1,[],c15_1] [(0,.ref b),(133,.ref a),(126,.int i),(131,.ref g)] K)) ?_
 exact⟨rfl,rfl,RB (by rw[Rd,Rn];lia),rfl,rfl,bH hi,rfl,rfl,⟨hT.2,by lia⟩,by rw[Rr (by lia)];rfl,rfl,au.pk [0,0] rfl (aD ho rfl rfl) (au.call [1,0] rfl (gV B k F hc hi hT.1 hs) λq _=>h q)⟩
section
variable(hc:cI F c)(hi:i+1=ka.length)(hel:i=el.length)(hT:3<=T/\T<=1000)(hm:T<=(x::ges).length)(hb:aB.length<=10000)
include hc hi hel hT hm hb
theorem Dj(hs:(x::ges).length<=10000) :
  aL (G (k+7)) 15 [.ref b,.ref a,.int i] [.k true (.nd a d le lc T c false (el++e::er) (ka++g::kb)),.tr T c (.nd b true aB []),.tr T c (.nd g o (x::ges) [])] F (λ_=>True) (λ_=>.bool true) λq:Nat=>[.k true (.nd a d le lc T c false (el++x::er) (ka++q::kb)),.tr T c (.nd b true (aB++[e]) []),.tr T c (.nd q true ges [])] :=
 aL.of (B (k+6) 15 c15 rfl) λr K hK=>yF B k hc hi hT hm ⟨hs,by decide⟩ λq=>by
 refine aj.bT [1] rfl (aR q true (x::ges) []) λy2 ho2=>aj.bT [3] rfl (aR b true aB []) λy3 ho3=>aj.fact (λH S=>(S.kd (n:=2) rfl).2) λkv=>aj.fact (λH S=>(S.kd (n:=4) rfl).2) λkv2=>?_
 obtain⟨hz,hz2⟩:=iC (r:=er) (x:=e) (y:=x) hel
 refine aj.rn (ao B (k+3)) [oI 4,oE 4,oe e,oI 2,oE 2,oE 2,Hl x ges,oI 4,oE 4,oX x,oI 0,oE 0,oE 0,oX e,oI 2,oB false] (p:=Yr a/\Yr le/\idxV (el++e::er) i=some e/\Yr q/\Yr y2.le/\Yr y2.le/\List.length (x::ges)<=1000000/\cM (x::ges) [V.int 0]=some (x,ges)/\Yr a/\Yr le/\((0<=i/\i<(↑((el++e::er).length):Int))/\E.r x=E.r x/\aQ F x)/\Yr b/\Yr y3.le/\Yr y3.le/\List.length aB<=1000000/\(E.r e=E.r e/\aQ F e)/\Yr q/\false=false/\K (.ret (.bool true)) [(0,.ref b),(133,.ref a),(126,.int i),(131,.ref q),(107,E.r e)] [zN b y3.d y3.le y3.lc T y3.c true (aB++[e]) (List.map Tr.a []),.trs T c [],zN q y2.d y2.le y2.lc T y2.c true ges (List.map Tr.a []),.trs T c [],zN a d le lc T c false (List.set (el++e::er) (Int.toNat i) x) (ka++q::kb),.raw r] F) ?_
 rw[hz2]
 exact⟨rfl,rfl,bH hel,rfl,rfl,rfl,by lia,yD _ _,rfl,rfl,⟨hz,rfl,kv x (.head _)⟩,rfl,rfl,rfl,by lia,⟨rfl,kv2 e (by simp)⟩,rfl,rfl,hK q _ _ _ trivial rfl (Vw.go [0,0] rfl (aD (ks:=[]) ho3 rfl rfl) (Vw.fin [1,1] rfl (aD (ks:=[]) ho2 rfl rfl) [2,1,0,0] rfl))⟩
theorem yG(hs:(x::ges).length<=10000/\(t0::gr).length<=10000)(hbk:aF.isEmpty=false/\aF.length<=10000)(hgr:gr.isEmpty=false) :
  aL (G (k+7)) 15 [.ref b,.ref a,.int i] [.k true (.nd a d le lc T c false (el++e::er) (ka++g::kb)),.tr T c (.nd b true aB aF),.tr T c (.nd g o (x::ges) (t0::gr))] F (λ_=>True) (λ_=>.bool true) λq:Nat=>[.k true (.nd a d le lc T c false (el++x::er) (ka++q::kb)),.tr T c (.nd b true (aB++[e]) (aF++[t0])),.tr T c (.nd q true ges gr)] :=
 aL.of (B (k+6) 15 c15 rfl) λr K hK=>yF B k hc hi hT hm hs λq=>by
 refine aj.bT [1] rfl (aR q true (x::ges) (t0::gr)) λy2 ho2=>aj.bT [3] rfl (aR b true aB aF) λy3 ho3=>aj.fact (λH S=>(S.kd (n:=2) rfl).2) λkv=>aj.fact (λH S=>(S.kd (n:=4) rfl).2) λkv2=>?_
 obtain⟨hz,hz2⟩:=iC (r:=er) (x:=e) (y:=x) hel
 have lk:(aF.map Tr.a).length<=1000000:=by rw[Rt];lia
 have lg:((t0::gr).map Tr.a).length<=1000000:=by rw[Rt];lia
 refine aj.rn (ao B (k+3)) [oI 4,oE 4,oe e,oI 2,oE 2,oE 2,Hl x ges,oI 4,oE 4,oX x,oI 0,oE 0,oE 0,oX e,oI 2,oB true,oI 0,oI 2,oK 2,oK 2,Mq (Tr.a t0) (List.map Tr.a gr),oI 0,oK 0,oK 0,oR (Tr.a t0)] (p:=Yr a/\Yr le/\idxV (el++e::er) i=some e/\Yr q/\Yr y2.le/\Yr y2.le/\List.length (x::ges)<=1000000/\cM (x::ges) [V.int 0]=some (x,ges)/\Yr a/\Yr le/\((0<=i/\i<(↑((el++e::er).length):Int))/\E.r x=E.r x/\aQ F x)/\Yr b/\Yr y3.le/\Yr y3.le/\List.length aB<=1000000/\(E.r e=E.r e/\aQ F e)/\Yr q/\Yt/\Yr b/\(!List.isEmpty aF)=true/\Yr q/\Yr y2.lc/\Yr y2.lc/\(List.map Tr.a (t0::gr)).length<=1000000/\cM (List.map Tr.a (t0::gr)) [V.int 0]=some (Tr.a t0,List.map Tr.a gr)/\Yr b/\Yr y3.lc/\Yr y3.lc/\(aF.map Tr.a).length<=1000000/\(Yr t0.a/\True)/\K (.ret (.bool true)) [(0,.ref b),(133,.ref a),(126,.int i),(131,.ref q),(107,E.r e),(127,.ref t0.a)] [zN b y3.d y3.le y3.lc T y3.c (List.isEmpty aF) (aB++[e]) (List.map Tr.a aF++[Tr.a t0]),.trs T c aF,zN q y2.d y2.le y2.lc T y2.c false ges (gr.map Tr.a),.trs T c (t0::gr),zN a d le lc T c false (List.set (el++e::er) (Int.toNat i) x) (ka++q::kb),.raw r] F) ?_
 rw[hz2,map_one,hbk.1]
 exact⟨rfl,rfl,bH hel,rfl,rfl,rfl,by lia,yD _ _,rfl,rfl,⟨hz,rfl,kv x (.head _)⟩,rfl,rfl,rfl,by lia,⟨rfl,kv2 e (by simp)⟩,rfl,rfl,rfl,rfl,rfl,rfl,rfl,lg,yD _ _,rfl,rfl,rfl,lk,⟨rfl,trivial⟩,hK q _ _ _ trivial rfl (Vw.go [3] rfl (kE [t0] gr) (Vw.go [3,0] rfl (oH aF [t0]) (Vw.go [2,0] rfl (aD (ks:=aF++[t0]) ho3 aX.symm rfl) (Vw.fin [2,1] rfl (aD (ks:=gr) ho2 hgr.symm rfl) [2,1,0,0] rfl))))⟩
end
end
theorem yH(r:List α)(x:α):cM (r++[x]) []=some (x,r):=by
 show((r++[x]).getLast?).map (λu=>(u,(r++[x]).dropLast))=_
 rw[List.getLast?_concat,List.dropLast_concat];rfl
section
variable{G:Nat->bI}(B:bD G)(k:Nat){F:CL}{a d le lc T c b g:Nat}{i:Int}{e x:E}{es el er aB ges:List E}{ka kb as:List Nat}{aF gks gr:List Tr}{o lf:Bool}{t0:Tr}
include B
theorem Dk:aL (β:=Unit) (G (k+4)) 14 [.ref b,.ref a,.int 0] [] F (λ_=>True) (λ_=>.bool false) λ_=>[]:=by
 refine aL.of (B (k+3) 14 c14 rfl) λr K hK=>?_
 show aj (G (k+3)) [c14] [(0,.ref b),(133,.ref a),(126,.int 0)] [.raw r] F K
 refine aj.rn (ao B k) [oB false,oB false] (p:=false=false/\K (.ret (.bool false)) [(0,.ref b),(133,.ref a),(126,.int 0)] [.raw r] F) ?_
 exact⟨rfl,hK () _ _ _ trivial rfl (Vw.refl _ _)⟩
section
variable(hi:i - 1=ka.length)(hT:3<=T/\T<=1000)
include hi hT
theorem H9(hm:ges.length=T - 1):aL (β:=Unit) (G (k+4)) 14 [.ref b,.ref a,.int i] [.k true (.nd a d le lc T c false es (ka++g::kb)),.tr T c (.nd g o ges gks)] F (λ_=>True) (λ_=>.bool false) λ_=>[.k true (.nd a d le lc T c false es (ka++g::kb)),.tr T c (.nd g o ges gks)]:=by
 refine aL.of (B (k+3) 14 c14 rfl) λr K hK=>?_
 show aj (G (k+3)) [c14] [(0,.ref b),(133,.ref a),(126,.int i)] [.k true (.nd a d le lc T c false es (ka++g::kb)),.tr T c (.nd g o ges gks),.raw r] F K
 refine aj.bT [1] rfl (aR g o ges gks) λy ho=>?_
 refine aj.rn (ao B k) [oB true,oI 2,oK 2,on g,oI 0,oI 0,oB false] (p:=(!decide (i=0))=true/\Yr a/\Yr lc/\idxV (ka++g::kb) (i - 1)=some g/\Yr g/\Yr g/\(T<=1000/\(↑T:Int) - 1<=(↑ges.length:Int))/\(!decide ((↑ges.length:Int)=(↑T:Int) - 1))=false/\K (.ret (.bool false)) [(0,.ref b),(133,.ref a),(126,.int i),(129,.ref g)] [.k o (.nd g y.d y.le y.lc T y.c (List.isEmpty gks) ges (gks.map Tr.a)),.trs T c gks,zN a d le lc T c false es (ka++g::kb),.raw r] F) ?_
 exact⟨by rw[Rr (by lia)];rfl,rfl,rfl,bH hi,rfl,rfl,⟨hT.2,by lia⟩,by rw[RB (by lia)];rfl,hK () _ _ _ trivial rfl (Vw.fin [0,0] rfl (aD ho rfl rfl) [1,0,0] rfl)⟩
section
variable(hc:cI F c)
include hc
theorem yI(hm:T<=ges.length)(hs:ges.length<=10000/\gks.length<=10000)
  (h:∀q,aj (G (k+6)) [c14b_1,[],c14_1] [(0,.ref b),(133,.ref a),(126,.int i),(129,.ref q)] [.k true (.nd a d le lc T c false es (ka++q::kb)),.tr T c (.nd q true ges gks),.tr T c t0,.raw r] F K) :
  aj (G (k+6)) [c14] [(0,.ref b),(133,.ref a),(126,.int i)] [.k true (.nd a d le lc T c false es (ka++g::kb)),.tr T c t0,.tr T c (.nd g o ges gks),.raw r] F K:=by
 refine aj.bT [2] rfl (aR g o ges gks) λy ho=>?_
 refine aj.rn (ao B (k+3)) [oB true,oI 2,oK 2,on g,oI 0,oI 0,oB true,oI 2] (p:=(!decide (i=0))=true/\Yr a/\Yr lc/\idxV (ka++g::kb) (i - 1)=some g/\Yr g/\Yr g/\(T<=1000/\(↑T:Int) - 1<=(↑ges.length:Int))/\(!decide ((↑ges.length:Int)=(↑T:Int) - 1))=true/\Yr a/\au (G (k+6)) 8 [.ref a,.int (i - 1)] [.k o (.nd g y.d y.le y.lc T y.c (List.isEmpty gks) ges (gks.map Tr.a)),.trs T c gks,zN a d le lc T c false es (ka++g::kb),.tr T c t0,.raw r] F (bF (G (k+6)) 129 [c14b_1,[],c14_1] [(0,.ref b),(133,.ref a),(126,.int i),(129,.ref g)] K)) ?_
 exact⟨by rw[Rr (by lia)];rfl,rfl,rfl,bH hi,rfl,rfl,⟨hT.2,by lia⟩,by rw[Rr (by lia)];rfl,rfl,au.pk [0,0] rfl (aD ho rfl rfl) (au.call [1,0] rfl (gV B k F hc hi hT.1 hs) λq _=>h q)⟩
variable(hel:i - 1=el.length)(hm:T<=(ges++[x]).length)(hb:aB.length<=10000)
include hel hm hb
theorem Dl(hs:(ges++[x]).length<=10000) :
  aL (G (k+7)) 14 [.ref b,.ref a,.int i] [.k true (.nd a d le lc T c false (el++e::er) (ka++g::kb)),.tr T c (.nd b true aB []),.tr T c (.nd g o (ges++[x]) [])] F (λ_=>True) (λ_=>.bool true) λq:Nat=>[.k true (.nd a d le lc T c false (el++x::er) (ka++q::kb)),.tr T c (.nd b true (e::aB) []),.tr T c (.nd q true ges [])] :=
 aL.of (B (k+6) 14 c14 rfl) λr K hK=>yI B k hi hT hc hm ⟨hs,by decide⟩ λq=>by
 refine aj.bT [1] rfl (aR q true (ges++[x]) []) λy2 ho2=>aj.bT [3] rfl (aR b true aB []) λy3 ho3=>aj.fact (λH S=>(S.kd (n:=2) rfl).2) λkv=>aj.fact (λH S=>(S.kd (n:=4) rfl).2) λkv2=>?_
 obtain⟨hz,hz2⟩:=iC (r:=er) (x:=e) (y:=x) hel
 refine aj.rn (ao B (k+3)) [oI 4,oE 4,oe e,oI 2,oE 2,oE 2,Hl x ges,oI 4,oE 4,oX x,oI 0,oE 0,oE 0,oX e,oI 2,oB false] (p:=Yr a/\Yr le/\idxV (el++e::er) (i - 1)=some e/\Yr q/\Yr y2.le/\Yr y2.le/\(ges++[x]).length<=1000000/\cM (ges++[x]) []=some (x,ges)/\Yr a/\Yr le/\((0<=i - 1/\i - 1<(↑((el++e::er).length):Int))/\E.r x=E.r x/\aQ F x)/\Yr b/\Yr y3.le/\Yr y3.le/\List.length aB<=1000000/\(((0:Int)<=0/\0<=(↑aB.length:Int))/\E.r e=E.r e/\aQ F e)/\Yr q/\false=false/\K (.ret (.bool true)) [(0,.ref b),(133,.ref a),(126,.int i),(129,.ref q),(107,E.r e)] [zN b y3.d y3.le y3.lc T y3.c true (List.take (Int.toNat 0) aB++e::List.drop (Int.toNat 0) aB) (List.map Tr.a []),.trs T c [],zN q y2.d y2.le y2.lc T y2.c true ges (List.map Tr.a []),.trs T c [],zN a d le lc T c false (List.set (el++e::er) (Int.toNat (i - 1)) x) (ka++q::kb),.raw r] F) ?_
 rw[hz2]
 exact⟨rfl,rfl,bH hel,rfl,rfl,rfl,by lia,yH _ _,rfl,rfl,⟨hz,rfl,kv x (by simp)⟩,rfl,rfl,rfl,by lia,⟨⟨by decide,by lia⟩,rfl,kv2 e (by simp)⟩,rfl,rfl,hK q _ _ _ trivial rfl (Vw.go [0,0] rfl (aD (ks:=[]) ho3 rfl rfl) (Vw.fin [1,1] rfl (aD (ks:=[]) ho2 rfl rfl) [2,1,0,0] rfl))⟩
theorem yJ(hs:(ges++[x]).length<=10000/\(gr++[t0]).length<=10000)(hbk:aF.isEmpty=false/\aF.length<=10000)(hgr:gr.isEmpty=false) :
  aL (G (k+7)) 14 [.ref b,.ref a,.int i] [.k true (.nd a d le lc T c false (el++e::er) (ka++g::kb)),.tr T c (.nd b true aB aF),.tr T c (.nd g o (ges++[x]) (gr++[t0]))] F (λ_=>True) (λ_=>.bool true) λq:Nat=>[.k true (.nd a d le lc T c false (el++x::er) (ka++q::kb)),.tr T c (.nd b true (e::aB) (t0::aF)),.tr T c (.nd q true ges gr)] :=
 aL.of (B (k+6) 14 c14 rfl) λr K hK=>yI B k hi hT hc hm hs λq=>by
 refine aj.bT [1] rfl (aR q true (ges++[x]) (gr++[t0])) λy2 ho2=>aj.bT [3] rfl (aR b true aB aF) λy3 ho3=>aj.fact (λH S=>(S.kd (n:=2) rfl).2) λkv=>aj.fact (λH S=>(S.kd (n:=4) rfl).2) λkv2=>?_
 obtain⟨hz,hz2⟩:=iC (r:=er) (x:=e) (y:=x) hel
 have lk:(aF.map Tr.a).length<=1000000:=by rw[Rt];lia
 have lg:(gr.map Tr.a++[t0.a]).length<=1000000:=by rw[map_one,Rt];lia
 rw[<-map_one,show(gr++[t0]).isEmpty=false from aX]
 refine aj.rn (ao B (k+3)) [oI 4,oE 4,oe e,oI 2,oE 2,oE 2,Hl x ges,oI 4,oE 4,oX x,oI 0,oE 0,oE 0,oX e,oI 2,oB true,oI 0,oI 2,oK 2,oK 2,Mq (Tr.a t0) (List.map Tr.a gr),oI 0,oK 0,oK 0,oR (Tr.a t0)] (p:=Yr a/\Yr le/\idxV (el++e::er) (i - 1)=some e/\Yr q/\Yr y2.le/\Yr y2.le/\(ges++[x]).length<=1000000/\cM (ges++[x]) []=some (x,ges)/\Yr a/\Yr le/\((0<=i - 1/\i - 1<(↑((el++e::er).length):Int))/\E.r x=E.r x/\aQ F x)/\Yr b/\Yr y3.le/\Yr y3.le/\List.length aB<=1000000/\(((0:Int)<=0/\0<=(↑aB.length:Int))/\E.r e=E.r e/\aQ F e)/\Yr q/\Yt/\Yr b/\(!List.isEmpty aF)=true/\Yr q/\Yr y2.lc/\Yr y2.lc/\(List.map Tr.a gr++[Tr.a t0]).length<=1000000/\cM (List.map Tr.a gr++[Tr.a t0]) []=some (Tr.a t0,List.map Tr.a gr)/\Yr b/\Yr y3.lc/\Yr y3.lc/\(aF.map Tr.a).length<=1000000/\(((0:Int)<=0/\0<=(↑((aF.map Tr.a).length):Int))/\Yr t0.a/\True)/\K (.ret (.bool true)) [(0,.ref b),(133,.ref a),(126,.int i),(129,.ref q),(107,E.r e),(127,.ref t0.a)] [zN b y3.d y3.le y3.lc T y3.c (List.isEmpty aF) (List.take (Int.toNat 0) aB++e::List.drop (Int.toNat 0) aB) (List.take (Int.toNat 0) (aF.map Tr.a)++Tr.a t0::List.drop (Int.toNat 0) (aF.map Tr.a)),.trs T c aF,zN q y2.d y2.le y2.lc T y2.c false ges (gr.map Tr.a),.trs T c (gr++[t0]),zN a d le lc T c false (List.set (el++e::er) (Int.toNat (i - 1)) x) (ka++q::kb),.raw r] F) ?_
 rw[hz2,hbk.1]
 exact⟨rfl,rfl,bH hel,rfl,rfl,rfl,by lia,yH _ _,rfl,rfl,⟨hz,rfl,kv x (by simp)⟩,rfl,rfl,rfl,by lia,⟨⟨by decide,by lia⟩,rfl,kv2 e (by simp)⟩,rfl,rfl,rfl,rfl,rfl,rfl,rfl,lg,yH _ _,rfl,rfl,rfl,lk,⟨⟨by decide,by lia⟩,rfl,trivial⟩,hK q _ _ _ trivial rfl (Vw.go [3] rfl (kE gr [t0]) (Vw.go [1,2] rfl (oH [t0] aF) (Vw.go [2,0] rfl (aD (ks:=t0::aF) ho3 rfl rfl) (Vw.fin [2,1] rfl (aD (ks:=gr) ho2 hgr.symm rfl) [2,1,0,0] rfl))))⟩
end
end
end
theorem dJ(l r:List α)(x:α):(l++[x])++r=l++x::r:=by simp
theorem qK(h:i=l.length):cM (l++x::r) [.int i]=some (x,l++r):=by
 show(if 0<=i then ((l++x::r)[i.toNat]?).map (λu=>(u,(l++x::r).take i.toNat++(l++x::r).drop (i.toNat+1))) else none)=_
 have e:i.toNat=l.length:=by lia
 rw[if_pos (by lia),e,cC rfl,List.take_left]
 show some (x,l++(l++x::r).drop (l.length+1))=_
 rw[List.drop_append,List.drop_eq_nil_of_le (by lia),Nat.add_sub_cancel_left];rfl
section
variable{G:Nat->bI}(B:bD G)(k:Nat){F:CL}{a d le lc T c b g:Nat}{i:Int}{e x:E}{es el er aB ges:List E}{ka kb as:List Nat}{aF gks gr:List Tr}{w:Bool}
include B
theorem Dm(hi:i+1=ka.length)(hel:i=el.length)(hl:(el++e::er).length<=10000/\(ka++g::kb).length<=10001)(hb:aB.length<=10000/\ges.length<=10000) :
  aL (β:=Unit) (G (k+4)) 17 [.ref b,.ref a,.int i] [.k true (.nd a d le lc T c false (el++e::er) (ka++g::kb)),.tr T c (.nd b true aB []),.tr T c (.nd g w ges [])] F (λ_=>True) (λ_=>.none) λ_=>[.k true (.nd a d le lc T c false (el++er) (ka++kb)),.tr T c (.nd b true (aB++e::ges) [])]:=by
 refine aL.of (B (k+3) 17 c17 rfl) λr K hK=>?_
 show aj (G (k+3)) [c17] [(0,.ref b),(133,.ref a),(126,.int i)] [.k true (.nd a d le lc T c false (el++e::er) (ka++g::kb)),.tr T c (.nd b true aB []),.tr T c (.nd g w ges []),.raw r] F K
 refine aj.bT [2] rfl (aR g w ges []) λy2 ho2=>aj.bT [3] rfl (aR b true aB []) λy3 ho3=>aj.fact (λH S=>(S.kd (n:=4) rfl).2) λkv2=>?_
 refine aj.rn (ao B k) [oI 4,oK 4,oK 4,Mq g (ka++kb),oI 0,oE 0,oI 4,oE 4,oE 4,Hl e (el++er),oE 0,oX e,oI 0,oE 0,oI 2,oE 0,oE 2,oI 0,oB false] (p:=Yr a/\Yr lc/\Yr lc/\(ka++g::kb).length<=1000000/\cM (ka++g::kb) [V.int (i+1)]=some (g,ka++kb)/\Yr b/\Yr y3.le/\Yr a/\Yr le/\Yr le/\(el++e::er).length<=1000000/\cM (el++e::er) [V.int i]=some (e,el++er)/\Yr y3.le/\List.length aB<=1000000/\(E.r e=E.r e/\aQ F e)/\Yr b/\Yr y3.le/\Yr g/\Yr y3.le/\(aB++[e]).length<=1000000/\Yr y2.le/\(aB++[e]).length+List.length ges<=1000000/\Yr b/\false=false/\K Fl.next [(0,.ref b),(133,.ref a),(126,.int i),(131,.ref g)] [zN b y3.d y3.le y3.lc T y3.c true (aB++[e]++ges) (List.map Tr.a []),.trs T c [],.k w (.nd g y2.d y2.le y2.lc T y2.c true ges (List.map Tr.a [])),.trs T c [],zN a d le lc T c false (el++er) (ka++kb),.raw r] F) ?_
 rw[dJ]
 exact⟨rfl,rfl,rfl,by lia,qK hi,rfl,rfl,rfl,rfl,rfl,by lia,qK hel,rfl,by lia,⟨rfl,kv2 e (by simp)⟩,rfl,rfl,rfl,rfl,by rw[Rd];simp;lia,rfl,by rw[Rd];simp;lia,rfl,rfl,hK () _ _ _ trivial rfl (Vw.fin [0,0] rfl (aD (ks:=[]) ho3 rfl rfl) [3,0,2] rfl)⟩
theorem yK(hi:i+1=ka.length)(hel:i=el.length)(hl:(el++e::er).length<=10000/\(ka++g::kb).length<=10001)(hb:aB.length<=10000/\ges.length<=10000)(hk:aF.length<=10000/\gks.length<=10000)(hn:aF.isEmpty=false) :
  aL (β:=Unit) (G (k+4)) 17 [.ref b,.ref a,.int i] [.k true (.nd a d le lc T c false (el++e::er) (ka++g::kb)),.tr T c (.nd b true aB aF),.tr T c (.nd g w ges gks)] F (λ_=>True) (λ_=>.none) λ_=>[.k true (.nd a d le lc T c false (el++er) (ka++kb)),.tr T c (.nd b true (aB++e::ges) (aF++gks))]:=by
 refine aL.of (B (k+3) 17 c17 rfl) λr K hK=>?_
 show aj (G (k+3)) [c17] [(0,.ref b),(133,.ref a),(126,.int i)] [.k true (.nd a d le lc T c false (el++e::er) (ka++g::kb)),.tr T c (.nd b true aB aF),.tr T c (.nd g w ges gks),.raw r] F K
 refine aj.bT [2] rfl (aR g w ges gks) λy2 ho2=>aj.bT [3] rfl (aR b true aB aF) λy3 ho3=>aj.fact (λH S=>(S.kd (n:=4) rfl).2) λkv2=>?_
 have lb:(aF.map Tr.a).length<=10000:=by rw[Rt];exact hk.1
 have lg:(gks.map Tr.a).length<=10000:=by rw[Rt];exact hk.2
 have hn2:(aF++gks).isEmpty=false:=by cases aF with|nil=>cases hn|cons=>rfl
 rw[hn]
 refine aj.rn (ao B k) [oI 4,oK 4,oK 4,Mq g (ka++kb),oI 0,oE 0,oI 4,oE 4,oE 4,Hl e (el++er),oE 0,oX e,oI 0,oE 0,oI 2,oE 0,oE 2,oI 0,oB true,oI 0,oK 0,oI 2,oK 0,oK 2] (p:=Yr a/\Yr lc/\Yr lc/\(ka++g::kb).length<=1000000/\cM (ka++g::kb) [V.int (i+1)]=some (g,ka++kb)/\Yr b/\Yr y3.le/\Yr a/\Yr le/\Yr le/\(el++e::er).length<=1000000/\cM (el++e::er) [V.int i]=some (e,el++er)/\Yr y3.le/\List.length aB<=1000000/\(E.r e=E.r e/\aQ F e)/\Yr b/\Yr y3.le/\Yr g/\Yr y3.le/\(aB++[e]).length<=1000000/\Yr y2.le/\(aB++[e]).length+List.length ges<=1000000/\Yr b/\Yt/\Yr b/\Yr y3.lc/\Yr g/\Yr y3.lc/\(aF.map Tr.a).length<=1000000/\Yr y2.lc/\(aF.map Tr.a).length+(gks.map Tr.a).length<=1000000/\K Fl.next [(0,.ref b),(133,.ref a),(126,.int i),(131,.ref g)] [zN b y3.d y3.le y3.lc T y3.c false (aB++[e]++ges) (List.map Tr.a aF++List.map Tr.a gks),.trs T c aF,.k w (.nd g y2.d y2.le y2.lc T y2.c (List.isEmpty gks) ges (gks.map Tr.a)),.trs T c gks,zN a d le lc T c false (el++er) (ka++kb),.raw r] F) ?_
 rw[dJ,<-Rv]
 exact⟨rfl,rfl,rfl,by lia,qK hi,rfl,rfl,rfl,rfl,rfl,by lia,qK hel,rfl,by lia,⟨rfl,kv2 e (by simp)⟩,rfl,rfl,rfl,rfl,by rw[Rd];simp;lia,rfl,by rw[Rd];simp;lia,rfl,rfl,rfl,rfl,rfl,rfl,by lia,rfl,by lia,hK () _ _ _ trivial rfl (Vw.go [1,2] rfl (oH aF gks) (Vw.fin [1,0] rfl (aD (ks:=aF++gks) ho3 hn2.symm rfl) [2,0,1] rfl))⟩
end
theorem nH(kl kr:List Tr)(t u:Tr):Ent F [.trs T c (kl++t::u::kr)] [.tr T c t,.tr T c u,.trs T c (kl++kr)] :=
 (fH kl (u::kr) t).trans (Ent.app (A:=[.tr T c t]) (B:=[.tr T c t]) (Ent.refl _ _) (fH kl kr u))
theorem qL(kl kr:List Tr)(t u:Tr):Ent F [.tr T c t,.tr T c u,.trs T c (kl++kr)] [.trs T c (kl++t::u::kr)] :=
 (Ent.app (A:=[.tr T c t]) (B:=[.tr T c t]) (Ent.refl _ _) (eE kl kr u)).trans (eE kl (u::kr) t)
theorem oM(hc:cI F c):Own F c c true:=⟨λ_=>rfl,nofun,hc⟩
theorem bG:kl.map Tr.a++b::kr.map Tr.a=(kl++.nd b o es ks::kr).map Tr.a:=(qJ kl kr (.nd b o es ks)).symm
theorem kW:kl.map Tr.a++b::g::kr.map Tr.a=(kl++.nd b o es ks::.nd g w ges gks::kr).map Tr.a:=by simp [Tr.a]
theorem Sh.leaf{T lo a:Nat}{o:Bool}{es:List E}{ks:List Tr}(h:Sh T 0 lo (.nd a o es ks)):ks=[]:=h.1
theorem Sh.inner{T d lo a:Nat}{ks:List Tr}(h:Sh T (d+1) lo (.nd a o es ks)):ks.isEmpty=false:=by
 cases ks with
 | nil=>exact absurd h.1 (by simp)
 | cons=>rfl
section
variable{G:Nat->bI}(B:bD G)(k:Nat){F:CL}{a d0 le lc T c b g d:Nat}{i:Int}{e x:E}{el er aB ges:List E}{ka kb:List Nat}{aF gks:List Tr}{o w:Bool}
include B
theorem Ia(hc:cI F c)(hi:i - 1=ka.length)(hel:i - 1=el.length)(hT:3<=T/\T<=1000)(st:Sh T d (T - 1) (.nd b true aB aF))(su:Sh T d (T - 1) (.nd g o (ges++[x]) gks))(hm:(ges++[x]).length≠T - 1)(hb:aB.length<2 * T - 1) :
  ∃bks' gks',(∀q,(Sh T d (T - 1) (.nd q true ges gks')/\Sh T d (T - 1) (.nd b true (e::aB) bks'))/\flat (.nd q true ges gks')++x::flat (.nd b true (e::aB) bks')=flat (.nd g o (ges++[x]) gks)++e::flat (.nd b true aB aF)) /\
   aL (G (k+7)) 14 [.ref b,.ref a,.int i] [.k true (.nd a d0 le lc T c false (el++e::er) (ka++g::kb)),.tr T c (.nd b true aB aF),.tr T c (.nd g o (ges++[x]) gks)] F (λ_=>True) (λ_=>.bool true) λq:Nat=>[.k true (.nd a d0 le lc T c false (el++x::er) (ka++q::kb)),.tr T c (.nd b true (e::aB) bks'),.tr T c (.nd q true ges gks')]:=by
 have zb:=st.sz hT.2
 have zg:=su.sz hT.2
 have hm':T<=(ges++[x]).length:=by have:=su.lo;lia
 cases d with
 | zero =>
  obtain rfl:=st.leaf
  obtain rfl:=su.leaf
  exact⟨[],[],λq=>rotR (gr:=[]) (cs:=[]) (.inl ⟨rfl,rfl,rfl⟩) st su hb hm,Dl B k hi hT hc hel hm' zb.1 zg.1⟩
 | succ d =>
  have n1:=st.inner
  obtain⟨gr,t0,rfl⟩:∃r x,gks=r++[x]:=by
   rcases Q8 gks with rfl|⟨r,x,rfl⟩
   ·cases su.inner
   ·exact⟨r,x,by simp⟩
  have hr:=λq=>rotR (cs:=[t0]) (g':=q) (o'':=true) (e:=e) (.inr ⟨t0,rfl⟩) st su hb hm
  exact⟨t0::aF,gr,hr,yJ B k hi hT hc hel hm' zb.1 zg ⟨n1,zb.2⟩ (hr 0).1.1.inner⟩
theorem yL(hc:cI F c)(hi:i+1=ka.length)(hel:i=el.length)(hT:3<=T/\T<=1000)(st:Sh T d (T - 1) (.nd b true aB aF))(su:Sh T d (T - 1) (.nd g o (x::ges) gks))(hm:(x::ges).length≠T - 1)(hb:aB.length<2 * T - 1) :
  ∃bks' gks',(∀q,(Sh T d (T - 1) (.nd b true (aB++[e]) bks')/\Sh T d (T - 1) (.nd q true ges gks'))/\flat (.nd b true (aB++[e]) bks')++x::flat (.nd q true ges gks')=flat (.nd b true aB aF)++e::flat (.nd g o (x::ges) gks)) /\
   aL (G (k+7)) 15 [.ref b,.ref a,.int i] [.k true (.nd a d0 le lc T c false (el++e::er) (ka++g::kb)),.tr T c (.nd b true aB aF),.tr T c (.nd g o (x::ges) gks)] F (λ_=>True) (λ_=>.bool true) λq:Nat=>[.k true (.nd a d0 le lc T c false (el++x::er) (ka++q::kb)),.tr T c (.nd b true (aB++[e]) bks'),.tr T c (.nd q true ges gks')]:=by
 have zb:=st.sz hT.2
 have zg:=su.sz hT.2
 have hm':T<=(x::ges).length:=by have:=su.lo;lia
 have hr:=λq=>rotL (g':=q) (o'':=true) (e:=e) st su hb hm
 cases d with
 | zero =>
  obtain rfl:=st.leaf
  obtain rfl:=su.leaf
  exact⟨[],[],hr,Dj B k hc hi hel hT hm' zb.1 zg.1⟩
 | succ d =>
  have n1:=st.inner
  cases gks with
  | nil=>cases su.inner
  | cons t0 gr=>exact⟨aF++[t0],gr,hr,yG B k hc hi hel hT hm' zb.1 zg ⟨n1,zb.2⟩ (hr 0).1.2.inner⟩
theorem mg_of(hi:i+1=ka.length)(hel:i=el.length)(hT:3<=T/\T<=1000)(hl:(el++e::er).length<=10000/\(ka++g::kb).length<=10001)(st:Sh T d (T - 1) (.nd b true aB aF))(su:Sh T d (T - 1) (.nd g w ges gks)) :
  aL (β:=Unit) (G (k+4)) 17 [.ref b,.ref a,.int i] [.k true (.nd a d0 le lc T c false (el++e::er) (ka++g::kb)),.tr T c (.nd b true aB aF),.tr T c (.nd g w ges gks)] F (λ_=>True) (λ_=>.none) λ_=>[.k true (.nd a d0 le lc T c false (el++er) (ka++kb)),.tr T c (.nd b true (aB++e::ges) (aF++gks))]:=by
 have zb:=st.sz hT.2
 have zg:=su.sz hT.2
 cases d with
 | zero =>
  have e1:=st.leaf
  have e2:=su.leaf
  rw[e1,e2]
  exact Dm B k hi hel hl ⟨zb.1,zg.1⟩
 | succ d=>exact yK B k hi hel hl ⟨zb.1,zg.1⟩ ⟨zb.2,zg.2⟩ st.inner
structure eH where
 el:List E
 er:List E
 kl:List Tr
 b:Nat
 aB:List E
 aF:List Tr
 kr:List Tr
noncomputable def eH.t(x:eH)(a:Nat):Tr:=.nd a true (x.el++x.er) (x.kl++.nd x.b true x.aB x.aF::x.kr)
structure yM(T a d lo:Nat)(key:Int)(fs:List E)(x:eH):Prop where
 sh:Sh T (d+1) lo (x.t a)
 fl:flat (x.t a)=fs
 ne:x.el.length=x.kl.length
 w:cO key x.el x.er
 T:T<=x.aB.length
end
structure Bl(T a d lo:Nat)(key:Int)(x:eH):Prop where
 T3:3<=T/\T<=1000
 s:Sh T (d+1) lo (x.t a)
 lo:lo<(x.el++x.er).length
 ne:x.el.length=x.kl.length
 w:cO key x.el x.er
 sr:bw (flat (x.t a))
 m:x.aB.length=T - 1
theorem Bl.nr{T a d lo:Nat}{key:Int}{x:eH}(h:Bl T a d lo key x):x.er.length=x.kr.length:=by
 have h1:=h.s.1
 have h2:=h.ne
 simp only [Rd,Rn] at h1
 lia
theorem Bl.st{T a d lo:Nat}{key:Int}{x:eH}(h:Bl T a d lo key x):Sh T d (T - 1) (.nd x.b true x.aB x.aF):=h.s.2.2 _ (by simp)
theorem Bl.su{T a d lo:Nat}{key:Int}{x:eH}(h:Bl T a d lo key x)(ht:t∈x.kl\/t∈x.kr):Sh T d (T - 1) t:=h.s.2.2 _ (by
 rcases ht with ht|ht
 ·exact Q9 _ ht
 ·exact QZ _ (.tail _ ht))
section
variable{G:Nat->bI}(B:bD G)(k:Nat){F:CL}{T c a d0 le lc d lo:Nat}{key:Int}{el er aB:List E}{b:Nat}{aF:List Tr}{r:CL}{K:KS}
include B
theorem Ib(hc:cI F c)(h:Bl T a d lo key ⟨[],e::er,[],b,aB,aF,.nd g w ges gks::kr⟩)(hg:ges.length=T - 1)
  (hK:∀(x:eH) fl m A1,yM T a d lo key (flat (eH.t ⟨[],e::er,[],b,aB,aF,.nd g w ges gks::kr⟩ a)) x->fl.val=.none->Vw F A1 ([.tr T c (x.t a)]++[.raw r])->K fl m A1 F) :
  aj (G (k+7)) [c20_3] [(0,.ref b),(133,.ref a),(126,.int (0:Nat))] [.k true (.nd a d0 le lc T c false (e::er) (b::g::kr.map Tr.a)),.tr T c (.nd b true aB aF),.tr T c (.nd g w ges gks),.trs T c kr,.raw r] F K:=by
 have st:=h.st
 have su:Sh T d (T - 1) (.nd g w ges gks):=h.su (.inr (.head _))
 have z:=h.s.sz h.T3.2
 obtain⟨q1,q2⟩:=Pq (e:=e) st su (by rw[h.m,hg];have:=h.T3;lia)
 refine aj.rn (ao B (k+4)) [oB true,oI 1,oB true] (p:=decide ((↑0:Int)=0)=true/\Yr b/\au (G (k+7)) 17 [.ref b,.ref a,.int 0] [zN a d0 le lc T c false (e::er) (b::g::List.map Tr.a kr),.tr T c (Tr.nd b true aB aF),.tr T c (Tr.nd g w ges gks),.trs T c kr,.raw r] F (bx (G (k+7)) [[],[]] [(0,.ref b),(133,.ref a),(126,.int 0)] K)) ?_
 refine⟨rfl,rfl,au.call [0,0,0] rfl (mg_of B (k+3) (ka:=[b]) (el:=[]) rfl rfl h.T3 ⟨z.1,by have:=z.2;simp at this |-;lia⟩ st su) λ_ _=>?_⟩
 refine aj.rn (ao B (k+4)) [] (p:=K Fl.next [(0,.ref b),(133,.ref a),(126,.int 0)] [zN a d0 le lc T c false er (b::List.map Tr.a kr),.tr T c (Tr.nd b true (aB++e::ges) (aF++gks)),.trs T c kr,.raw r] F) ?_
 refine hK ⟨[],er,[],b,aB++e::ges,aF++gks,kr⟩ _ _ _ ⟨yw h.s h.lo q1,qI h.ne q2,rfl,⟨h.w.1,λy hy=>h.w.2 y (.tail _ hy)⟩,?_⟩ rfl (Vw.go [1,1] rfl (eE [] kr _) (Vw.fin [1,0] rfl (aD (ks:=.nd b true (aB++e::ges) (aF++gks)::kr) (oM hc) rfl rfl) [0,0] rfl))
 show T<=(aB++e::ges).length
 rw[Rd,Rn,h.m];have:=h.T3;lia
theorem Ie{i:Int}{g:Nat}{ges:List E}{kl kr:List Tr}(hc:cI F c)(h:Bl T a d lo key ⟨el++[e],er,kl++[.nd g w ges gks],b,aB,aF,kr⟩)(hg:ges.length=T - 1)(hi:i=kl.length+1)
  (hK:∀(x:eH) fl m A1,yM T a d lo key (flat (eH.t ⟨el++[e],er,kl++[.nd g w ges gks],b,aB,aF,kr⟩ a)) x->fl.val=.none->Vw F A1 ([.tr T c (x.t a)]++[.raw r])->K fl m A1 F) :
  aj (G (k+7)) [c20_3] [(0,.ref b),(133,.ref a),(126,.int i)] [.k true (.nd a d0 le lc T c false (el++e::er) (kl.map Tr.a++g::b::kr.map Tr.a)),.tr T c (.nd g w ges gks),.tr T c (.nd b true aB aF),.trs T c (kl++kr),.raw r] F K:=by
 have st:=h.st
 have su:Sh T d (T - 1) (.nd g w ges gks):=h.su (.inl (by simp))
 have z:=h.s.sz h.T3.2
 have zg:=su.sz h.T3.2
 have ne:=h.ne
 have hs:=h.s
 have hlo:=h.lo
 have hm:aB.length=T - 1:=h.m
 simp only [eH.t,Rd,Q5,dJ] at ne hs hlo z
 have hel:el.length=kl.length:=by lia
 have hi1:i - 1=(kl.map Tr.a).length:=by rw[Rt];lia
 have su':∀q,Sh T d (T - 1) (.nd q true ges gks):=λq=>jc su
 refine aj.rn (ao B (k+4)) [oB false,oI 0] (p:=decide (i=0)=false/\Yr a/\au (G (k+7)) 8 [.ref a,.int (i - 1)] [zN a d0 le lc T c false (el++e::er) (List.map Tr.a kl++g::b::List.map Tr.a kr),.tr T c (Tr.nd g w ges gks),.tr T c (Tr.nd b true aB aF),.trs T c (kl++kr),.raw r] F (bF (G (k+7)) 129 [c20d_1,[]] [(0,.ref b),(133,.ref a),(126,.int i)] K)) ?_
 refine⟨Rr (by lia),rfl,au.call [0,0] rfl (gV B (k+1) F hc hi1 h.T3.1 zg) λq _=>?_⟩
 obtain⟨q1,q2⟩:=Pq (e:=e) (su' q) st (by rw[hm,hg];have:=h.T3;lia)
 rw[<-dJ (kl.map Tr.a)]
 refine aj.rn (ao B (k+4)) [oI 1] (p:=Yr q/\au (G (k+7)) 17 [.ref q,.ref a,.int (i - 1)] [zN a d0 le lc T c false (el++e::er) (List.map Tr.a kl++[q]++b::List.map Tr.a kr),.tr T c (Tr.nd q true ges gks),.tr T c (Tr.nd b true aB aF),.trs T c (kl++kr),.raw r] F (bx (G (k+7)) [[],[]] [(0,.ref b),(133,.ref a),(126,.int i),(129,.ref q)] K)) ?_
 refine⟨rfl,au.call [0,0,0] rfl (mg_of B (k+3) (by rw[Rd,Q5];lia) (by rw[hel];lia) h.T3 ⟨by have:=z.1;simp at this |-;lia,by have:=z.2;simp at this |-;lia⟩ (su' q) st) λ_ _=>?_⟩
 refine aj.rn (ao B (k+4)) [] (p:=K Fl.next [(0,.ref b),(133,.ref a),(126,.int i),(129,.ref q)] [zN a d0 le lc T c false (el++er) (List.map Tr.a kl++[q]++List.map Tr.a kr),.tr T c (Tr.nd q true (ges++e::aB) (gks++aF)),.trs T c (kl++kr),.raw r] F) ?_
 rw[dJ]
 refine hK ⟨el,er,kl,q,ges++e::aB,gks++aF,kr⟩ _ _ _ ⟨yw hs (by simp at hlo |-;lia) q1,?_,hel,⟨λy hy=>h.w.1 y (Q9 _ hy),h.w.2⟩,?_⟩ rfl (Vw.go [1,1] rfl (eE kl kr _) (Vw.fin [1,0] rfl (aD (ks:=kl++.nd q true (ges++e::aB) (gks++aF)::kr) (oM hc) aX.symm bG) [0,0] rfl))
 ·simp only [eH.t,dJ]
  exact qI hel (q2.trans (by rw[fV g q w true]))
 ·show T<=(ges++e::aB).length
  rw[Rd,Rn,hm,hg];have:=h.T3;lia
theorem vU{i:Int}{kl kr:List Tr}(hc:cI F c)(h:Bl T a d lo key ⟨el,er,kl,b,aB,aF,kr⟩)(hi:i=kl.length)
  (hK:∀(x:eH) fl m A1,yM T a d lo key (flat (eH.t ⟨el,er,kl,b,aB,aF,kr⟩ a)) x->fl.val=.none->Vw F A1 ([.tr T c (x.t a)]++[.raw r])->K fl m A1 F)
  (hF:(∀t r,kr=t::r->∃g w ges gks,t=.nd g w ges gks/\ges.length=T - 1)->aj (G (k+7)) [c20_3] [(0,.ref b),(133,.ref a),(126,.int i)] [.k true (.nd a d0 le lc T c false (el++er) (kl.map Tr.a++b::kr.map Tr.a)),.trs T c (kl++.nd b true aB aF::kr),.raw r] F K) :
  aj (G (k+7)) [c20_2] [(0,.ref b),(133,.ref a),(126,.int i)] [.k true (.nd a d0 le lc T c false (el++er) (kl.map Tr.a++b::kr.map Tr.a)),.trs T c (kl++.nd b true aB aF::kr),.raw r] F K:=by
 have nr:=h.nr
 have ne:=h.ne
 cases kr with
 | nil =>
  refine aj.pk [1] rfl (fH kl [] _) ?_
  refine aj.rn (ao B (k+4)) [oI 0] (p:=Yr b/\au (G (k+7)) 15 [.ref b,.ref a,.int i] [.tr T c (Tr.nd b true aB aF),.trs T c (kl++[]),zN a d0 le lc T c false (el++er) (List.map Tr.a kl++b::List.map Tr.a []),.raw r] F (jt (G (k+7)) [[.ret CE.none],c20_3] [[],c20_3] [(0,.ref b),(133,.ref a),(126,.int i)] K)) ?_
  refine⟨rfl,au.call [2] rfl (Di B (k+3) (by rw[Rd,Rt];simp;lia)) λ_ _=>?_⟩
  refine aj.pk [1,1] rfl (eE kl [] _) (aj.vw (Vw.keep [1,0,0] rfl) (hF λt r e=>nomatch e))
 | cons t kr =>
  obtain⟨g,w,ges,gks⟩:=t
  obtain⟨e,er,rfl⟩:∃e r,er=e::r:=by cases er with|nil=>cases nr|cons e r=>exact⟨e,r,rfl⟩
  have st:=h.st
  have su:Sh T d (T - 1) (.nd g w ges gks):=h.su (.inr (.head _))
  have hT:=h.T3
  have hi1:i+1=(kl.map Tr.a++[b]).length:=by rw[Rd,Rt];simp;lia
  refine aj.pk [1] rfl (nH kl kr _ _) ?_
  by_cases hm:ges.length=T - 1
  ·show aj _ _ _ [_,_,_,.k true (.nd a d0 le lc T c false (el++e::er) (kl.map Tr.a++b::g::kr.map Tr.a)),_] _ _
   rw[<-dJ (kl.map Tr.a)]
   refine aj.rn (ao B (k+4)) [oI 0] (p:=Yr b/\au (G (k+7)) 15 [.ref b,.ref a,.int i] [.tr T c (Tr.nd b true aB aF),.tr T c (Tr.nd g w ges gks),.trs T c (kl++kr),zN a d0 le lc T c false (el++e::er) (List.map Tr.a kl++[b]++g::List.map Tr.a kr),.raw r] F (jt (G (k+7)) [[.ret CE.none],c20_3] [[],c20_3] [(0,.ref b),(133,.ref a),(126,.int i)] K)) ?_
   refine⟨rfl,au.call [3,1] rfl (yE B (k+3) hi1 hT hm) λ_ _=>?_⟩
   rw[dJ]
   exact aj.pk [2,1,1] rfl (qL kl kr _ _) (aj.vw (Vw.keep [1,0,0] rfl) (hF λt r e=>by cases e;exact⟨_,_,_,_,rfl,hm⟩))
  ·obtain⟨x,ges,rfl⟩:∃e r,ges=e::r:=by
    cases ges with
    | nil=>have:=su.lo;simp at this;lia
    | cons e r=>exact⟨e,r,rfl⟩
   obtain⟨bks',gks',hr,hcon⟩:=yL (e:=e) (er:=er) (kb:=kr.map Tr.a) (d0:=d0) (le:=le) (lc:=lc) B k (F:=F) (a:=a) hc hi1 (by rw[hi,ne]) hT st su hm (by rw[h.m];lia)
   show aj _ _ _ [_,_,_,.k true (.nd a d0 le lc T c false (el++e::er) (kl.map Tr.a++b::g::kr.map Tr.a)),_] _ _
   rw[<-dJ (kl.map Tr.a)]
   refine aj.rn (ao B (k+4)) [oI 0] (p:=Yr b/\au (G (k+7)) 15 [.ref b,.ref a,.int i] [.tr T c (Tr.nd b true aB aF),.tr T c (Tr.nd g w (x::ges) gks),.trs T c (kl++kr),zN a d0 le lc T c false (el++e::er) (List.map Tr.a kl++[b]++g::List.map Tr.a kr),.raw r] F (jt (G (k+7)) [[.ret CE.none],c20_3] [[],c20_3] [(0,.ref b),(133,.ref a),(126,.int i)] K)) ?_
   refine⟨rfl,au.call [3,0,0] rfl hcon λq _=>?_⟩
   obtain⟨⟨r1,r2⟩,r3⟩:=hr q
   have hx:=qH ne h.sr (qG su (x:=x) (.head _))
   rw[dJ]
   refine aj.rn (ao B (k+4)) [] (p:=K (.ret V.none) [(0,.ref b),(133,.ref a),(126,.int i)] [zN a d0 le lc T c false (el++x::er) (List.map Tr.a kl++b::q::List.map Tr.a kr),.tr T c (Tr.nd b true (aB++[e]) bks'),.tr T c (Tr.nd q true ges gks'),.trs T c (kl++kr),.raw r] F) ?_
   refine hK ⟨el,x::er,kl,b,aB++[e],bks',.nd q true ges gks'::kr⟩ _ _ _ ⟨sJ h.s r1 r2,mq ne r3,ne,vQ h.w hx,?_⟩ rfl (Vw.go [1,1,1] rfl (qL kl kr _ _) (Vw.fin [1,0] rfl (aD (ks:=kl++.nd b true (aB++[e]) bks'::.nd q true ges gks'::kr) (oM hc) aX.symm kW) [0,0] rfl))
   show T<=(aB++[e]).length
   rw[Rd,Q5,h.m];lia
theorem Ig{i:Int}{x:eH}(h:Bl T a d lo key x)(hi:i=x.kl.length):aL (G (k+8)) 20 [.ref x.b,.ref a,.int i] [.tr T c (x.t a)] F (yM T a d lo key (flat (x.t a))) (λ_=>.none) λy=>[.tr T c (y.t a)]:=by
 refine aL.of (B (k+7) 20 c20 rfl) λr K hK=>?_
 obtain⟨el,er,kl,b,aB,aF,kr⟩:=x
 show aj (G (k+7)) [c20] [(0,.ref b),(133,.ref a),(126,.int i)] [.tr T c (.nd a true (el++er) (kl++.nd b true aB aF::kr)),.raw r] F K
 refine aj.bT [0] rfl (aR a true (el++er) (kl++.nd b true aB aF::kr)) λy ho=>?_
 have e:=ho.y rfl
 have hc:=ho.cr
 rw[e] at hc |-
 rw[aX,<-bG]
 have hK:∀(y:eH) fl m A1,yM T a d lo key (flat (eH.t ⟨el,er,kl,b,aB,aF,kr⟩ a)) y->fl.val=.none->Vw F A1 ([.tr T c (y.t a)]++[.raw r])->K fl m A1 F:=λy fl m A1=>hK y fl m A1
 have right:=λ{hF}=>vU (d0:=y.d) (le:=y.le) (lc:=y.lc) (r:=r) (K:=K) B k hc h hi hK hF
 rcases Q8 kl with hkl|⟨kl',g,hkl⟩
 ·subst hkl
  have hel:el=[]:=List.eq_nil_of_length_eq_zero h.ne
  subst hel
  have hi0:i=(0:Nat):=hi
  subst hi0
  refine aj.pk [1] rfl (fH [] kr _) ?_
  refine aj.rn (ao B (k+4)) [oI 2,oI 0,bM] (p:=Yr a/\Yt/\Yr b/\au (G (k+7)) 14 [.ref b,.ref a,.int 0] [.tr T c (Tr.nd b true aB aF),.trs T c kr,zN a y.d y.le y.lc T c false er (List.map Tr.a []++b::List.map Tr.a kr),.raw r] F (jt (G (k+7)) [[.ret CE.none],c20_2] [[],c20_2] [(0,.ref b),(133,.ref a),(126,.int 0)] K)) ?_
  refine⟨rfl,rfl,rfl,au.call [] rfl (Dk B (k+3)) λ_ _=>aj.pk [0,0] rfl (eE [] kr _) (aj.vw (Vw.keep [1,0,0] rfl) (right (hF:=λhr=>?_)))⟩
  have nr:=h.nr
  have hlo:=h.lo
  cases er with
  | nil=>cases hlo
  | cons e er =>
   cases kr with
   | nil=>cases nr
   | cons t kr =>
    obtain⟨g,w,ges,gks,rfl,hg⟩:=hr _ _ rfl
    exact aj.pk [1] rfl (nH [] kr _ _) (aj.vw (Vw.keep [3,0,0,0,0] rfl) (Ib B k hc h hg hK))
 ·obtain⟨g,w,ges,gks⟩:=g
  have hkl:kl=kl'++[.nd g w ges gks]:=by simpa using hkl
  subst hkl
  obtain⟨el',e,rfl⟩:∃r x,el=r++[x]:=by
   rcases Q8 el with rfl|⟨r,x,rfl⟩
   ·have:=h.ne;simp at this
   ·exact⟨r,x,by simp⟩
  have hT:=h.T3
  have ne:el'.length=kl'.length:=by have:=h.ne;simp at this;exact this
  have st:=h.st
  have su:Sh T d (T - 1) (.nd g w ges gks):=h.su (.inl (by simp))
  have hi1:i - 1=(kl'.map Tr.a).length:=by rw[hi,Rt];simp
  have e1:(kl'++[Tr.nd g w ges gks]).map Tr.a++b::kr.map Tr.a=kl'.map Tr.a++g::b::kr.map Tr.a:=by simp [Tr.a]
  have hfl:eH.t ⟨el'++[e],er,kl'++[.nd g w ges gks],b,aB,aF,kr⟩ a=.nd a true (el'++e::er) (kl'++.nd g w ges gks::.nd b true aB aF::kr):=by simp only [eH.t,dJ]
  by_cases hm:ges.length=T - 1
  ·have right:=right (hF:=λ_=>by
    rw[e1,dJ,dJ]
    exact aj.pk [1] rfl (nH kl' kr _ _) (aj.vw (Vw.keep [3,0,0,0,0] rfl) (Ie B k hc h hm (by rw[hi];simp) hK)))
   rw[e1,dJ,dJ] at right |-
   refine aj.pk [1] rfl (nH kl' kr _ _) ?_
   refine aj.rn (ao B (k+4)) [oI 3,oI 1,bM] (p:=Yr a/\Yt/\Yr b/\au (G (k+7)) 14 [.ref b,.ref a,.int i] [.tr T c (Tr.nd g w ges gks),.tr T c (Tr.nd b true aB aF),.trs T c (kl'++kr),zN a y.d y.le y.lc T c false (el'++e::er) (List.map Tr.a kl'++g::b::List.map Tr.a kr),.raw r] F (jt (G (k+7)) [[.ret CE.none],c20_2] [[],c20_2] [(0,.ref b),(133,.ref a),(126,.int i)] K)) ?_
   exact⟨rfl,rfl,rfl,au.call [3,0] rfl (H9 B (k+3) hi1 hT hm) λ_ _=>aj.pk [1,1,1] rfl (qL kl' kr _ _) (aj.vw (Vw.keep [1,0,0] rfl) right)⟩
  ·obtain⟨ges,z,rfl⟩:∃r x,ges=r++[x]:=by
    rcases Q8 ges with rfl|⟨r,x,rfl⟩
    ·have:=su.lo;simp at this;lia
    ·exact⟨r,x,by simp⟩
   have hs:=hfl▸h.s
   have hsr:=hfl▸h.sr
   obtain⟨bks',gks',hr,hcon⟩:=Ia (e:=e) (er:=er) (kb:=b::kr.map Tr.a) (d0:=y.d) (le:=y.le) (lc:=y.lc) B k (F:=F) (a:=a) hc hi1 (by rw[hi1,Rt,ne]) hT st su hm (by rw[h.m];lia)
   rw[e1,dJ,dJ]
   refine aj.pk [1] rfl (nH kl' kr _ _) ?_
   refine aj.rn (ao B (k+4)) [oI 3,oI 1,bM] (p:=Yr a/\Yt/\Yr b/\au (G (k+7)) 14 [.ref b,.ref a,.int i] [.tr T c (Tr.nd g w (ges++[z]) gks),.tr T c (Tr.nd b true aB aF),.trs T c (kl'++kr),zN a y.d y.le y.lc T c false (el'++e::er) (List.map Tr.a kl'++g::b::List.map Tr.a kr),.raw r] F (jt (G (k+7)) [[.ret CE.none],c20_2] [[],c20_2] [(0,.ref b),(133,.ref a),(126,.int i)] K)) ?_
   refine⟨rfl,rfl,rfl,au.call [3,1,0] rfl hcon λq _=>?_⟩
   obtain⟨⟨r1,r2⟩,r3⟩:=hr q
   have hx:=uy ne hsr (qG su (x:=z) (by simp))
   refine aj.rn (ao B (k+4)) [] (p:=K (.ret V.none) [(0,.ref b),(133,.ref a),(126,.int i)] [zN a y.d y.le y.lc T c false (el'++z::er) (List.map Tr.a kl'++q::b::List.map Tr.a kr),.tr T c (Tr.nd b true (e::aB) bks'),.tr T c (Tr.nd q true ges gks'),.trs T c (kl'++kr),.raw r] F) ?_
   refine hK ⟨el'++[z],er,kl'++[.nd q true ges gks'],b,e::aB,bks',kr⟩ _ _ _ ⟨?_,?_,by simp [ne],yu h.w hx,?_⟩ rfl ?_
   ·simp only [eH.t,dJ];exact sJ hs r1 r2
   ·rw[hfl];simp only [eH.t,dJ];exact mq ne r3
   ·show T<=(e::aB).length
    rw[Rn,h.m];lia
   ·simp only [eH.t,dJ]
    exact Vw.go [2,1,1] rfl (qL kl' kr _ _) (Vw.fin [1,0] rfl (aD (ks:=kl'++.nd q true ges gks'::.nd b true (e::aB) bks'::kr) (oM hc) aX.symm kW) [0,0] rfl)
end
structure Mv(T a d lo:Nat)(fs:List E)(x:List E × List Tr):Prop where
 sh:Sh T (d+1) lo (.nd a true x.1 x.2)
 fl:flat (.nd a true x.1 x.2)=fs
structure KD(T c a d lo j:Nat)(fs:List E)(d0 le lc:Nat)(r F:CL)(n:Nat)(m:Loc)(A:List Th)(F':CL)(es aB:List E)(b:Nat)(aF kl:List Tr)(u:Tr)(kr:List Tr):Prop where
 m:m=[(0,.ref a),(126,.int ((j:Int)+1)),(129,.ref b)]
 A:A=[.k true (.nd a d0 le lc T c false es (kl.map Tr.a++b::u.a::kr.map Tr.a)),.trs T c (kl++.nd b true aB aF::u::kr),.raw r]
 F:F'=F
 j:kl.length=j
 p:Mv T a d lo fs (es,kl++.nd b true aB aF::u::kr)
 n:n=2 * T - 1 - aB.length
section
variable{G:Nat->bI}(B:bD G)(k:Nat){F:CL}{T c a d0 le lc d lo:Nat}{fs:List E}{r:CL}{K:KS}
include B
theorem yN(hc:cI F c)(hT:3<=T/\T<=1000)(h:KD T c a d lo j fs d0 le lc r F n m A F' es aB b aF kl u kr)
  (hK:∀(x:List E × List Tr) fl m A1,Mv T a d lo fs x->fl.val=.none->Vw F A1 ([.tr T c (.nd a true x.1 x.2)]++[.raw r])->K fl m A1 F) :
  aj (G (k+7)) [[.ite (.cmp 2 (.bi 0 [.attr (.var 129) 4]) (.fn 3 [.attr (.var 0) 1])) c11c [.brk]]] m A F' (cB (λm A F'=>∃n',n'<n/\∃es aB b aF kl u kr,KD T c a d lo j fs d0 le lc r F n' m A F' es aB b aF kl u kr) (Rest (G (k+7)) [[]] K) K):=by
 obtain⟨rfl,rfl,rfl,hj,hp,hn⟩:=h
 obtain⟨g,w,ges,gks⟩:=u
 have st:Sh T d (T - 1) (.nd b true aB aF):=hp.sh.2.2 _ (by simp)
 have su:Sh T d (T - 1) (.nd g w ges gks):=hp.sh.2.2 _ (by simp)
 have done:Vw F' [.k true (.nd a d0 le lc T c false es (kl.map Tr.a++b::g::kr.map Tr.a)),.trs T c (kl++.nd b true aB aF::.nd g w ges gks::kr),.raw r] ([.tr T c (.nd a true es (kl++.nd b true aB aF::.nd g w ges gks::kr))]++[.raw r]):=Vw.fin [0,0] rfl (aD (ks:=kl++.nd b true aB aF::.nd g w ges gks::kr) (oM hc) aX.symm kW) [0,0] rfl
 refine aj.bT [1] rfl (jQ kl (.nd g w ges gks::kr) b true aB aF) λy ho=>?_
 have ht:Int.natAbs (T:Int)<=1000000:=by lia
 by_cases hb:aB.length<2 * T - 1
 ·have hi1:(j:Int)+1 - 1+1=(kl.map Tr.a++[b]).length:=by rw[Rd,Rt];simp;lia
  refine aj.rn (ao B (k+4)) [oI 0,oE 0,oI 3,oB true,oI 0] (p:=Yr b/\Yr y.le/\Yr a/\Int.natAbs (↑T:Int)<=1000000/\decide ((↑aB.length:Int)<2 * (↑T:Int) - 1)=true/\Yr b/\au (G (k+7)) 15 [.ref b,.ref a,.int ((↑j:Int)+1 - 1)] [zN b y.d y.le y.lc T y.c (List.isEmpty aF) aB (aF.map Tr.a),.trs T c aF,.trs T c (kl++Tr.nd g w ges gks::kr),zN a d0 le lc T c false es (List.map Tr.a kl++b::g::List.map Tr.a kr),.raw r] F' (jt (G (k+7)) [[],[],[]] [[.brk],[],[]] [(0,.ref a),(126,.int ((↑j:Int)+1)),(129,.ref b)] (cB (λm A F'_1=>∃(n':Nat),n'<n/\∃(es:List E),∃(aB:List E),∃(b:Nat),∃(aF:List Tr),∃(kl:List Tr),∃(u:Tr),∃(kr:List Tr),KD T c a d lo j fs d0 le lc r F' n' m A F'_1 es aB b aF kl u kr) (Rest (G (k+7)) [[]] K) K))) ?_
  refine⟨rfl,rfl,rfl,ht,RB (by lia),rfl,au.pk [0,0,0] rfl (rZ kl (.nd g w ges gks::kr) ho rfl rfl) (au.pk [0] rfl (nH kl kr _ _) ?_)⟩
  show au _ _ _ [_,_,_,.k true (.nd a d0 le lc T c false es (kl.map Tr.a++b::g::kr.map Tr.a)),_] _ _
  rw[<-dJ (kl.map Tr.a)]
  by_cases hm:ges.length=T - 1
  ·refine au.call [3,1] rfl (yE B (k+3) hi1 hT hm) λ_ _=>?_
   rw[dJ]
   refine aj.rn (ao B (k+4)) [] (p:=aj (G (k+7)) [[]] [(0,.ref a),(126,.int ((↑j:Int)+1)),(129,.ref b)] [zN a d0 le lc T c false es (List.map Tr.a kl++b::g::List.map Tr.a kr),.tr T c (Tr.nd g w ges gks),.tr T c (Tr.nd b true aB aF),.trs T c (kl++kr),.raw r] F' K) ?_
   refine aj.pk [2,1,1] rfl (qL kl kr _ _) ?_
   refine aj.rn (ao B (k+4)) [] (p:=K Fl.next [(0,.ref a),(126,.int ((↑j:Int)+1)),(129,.ref b)] [.trs T c (kl++Tr.nd b true aB aF::Tr.nd g w ges gks::kr),zN a d0 le lc T c false es (List.map Tr.a kl++b::g::List.map Tr.a kr),.raw r] F') ?_
   exact hK (es,kl++.nd b true aB aF::.nd g w ges gks::kr) _ _ _ hp rfl ((Vw.keep [1,0,0] rfl).trans done)
  ·obtain⟨x,ges,rfl⟩:∃e r,ges=e::r:=by
    cases ges with
    | nil=>have:=su.lo;simp at this;lia
    | cons e r=>exact⟨e,r,rfl⟩
   obtain⟨el,e,er,rfl,hel⟩:∃el e er,es=el++e::er/\el.length=kl.length:=by
    have hl:=hp.sh.1
    have h1:kl.length<es.length:=by simp at hl;lia
    exact⟨es.take kl.length,es[kl.length],es.drop (kl.length+1),by rw[<-QH h1,Q0],by rw[Rp];lia⟩
   obtain⟨bks',gks',hr,hcon⟩:=yL (e:=e) (er:=er) (kb:=kr.map Tr.a) (d0:=d0) (le:=le) (lc:=lc) B k (F:=F') (a:=a) hc hi1 (by rw[hel];lia) hT st su hm hb
   refine au.call [3,0,0] rfl hcon λq _=>?_
   obtain⟨⟨r1,r2⟩,r3⟩:=hr q
   rw[dJ]
   refine aj.pk [1,1,1] rfl (qL kl kr _ _) (aj.vw (Vw.keep [1,0,0] rfl) ?_)
   refine aj.rn (ao B (k+4)) [] (p:=∃(n':Nat),n'<n/\∃(es:List E),∃(bes_1:List E),∃(b_1:Nat),∃(aF:List Tr),∃(kl_1:List Tr),∃(u:Tr),∃(kr_1:List Tr),KD T c a d lo j fs d0 le lc r F' n' [(0,.ref a),(126,.int ((↑j:Int)+1)),(129,.ref b)] [zN a d0 le lc T c false (el++x::er) (List.map Tr.a kl++b::q::List.map Tr.a kr),.trs T c (kl++Tr.nd b true (aB++[e]) bks'::Tr.nd q true ges gks'::kr),.raw r] F' es bes_1 b_1 aF kl_1 u kr_1) ?_
   exact⟨2 * T - 1 - (aB++[e]).length,by simp;lia,el++x::er,aB++[e],b,bks',kl,.nd q true ges gks',kr,rfl,rfl,rfl,hj,⟨sJ hp.sh r1 r2,(mq hel r3).trans hp.fl⟩,rfl⟩
 ·refine aj.rn (ao B (k+4)) [oI 0,oE 0,oI 3,oB false] (p:=Yr b/\Yr y.le/\Yr a/\Int.natAbs (↑T:Int)<=1000000/\decide ((↑aB.length:Int)<2 * (↑T:Int) - 1)=false/\aj (G (k+7)) [[]] [(0,.ref a),(126,.int ((↑j:Int)+1)),(129,.ref b)] [zN b y.d y.le y.lc T y.c (List.isEmpty aF) aB (aF.map Tr.a),.trs T c aF,.trs T c (kl++Tr.nd g w ges gks::kr),zN a d0 le lc T c false es (List.map Tr.a kl++b::g::List.map Tr.a kr),.raw r] F' K) ?_
  refine⟨rfl,rfl,rfl,ht,Rr (by lia),aj.pk [0,0,0] rfl (rZ kl (.nd g w ges gks::kr) ho rfl rfl) ?_⟩
  refine aj.rn (ao B (k+4)) [] (p:=K Fl.next [(0,.ref a),(126,.int ((↑j:Int)+1)),(129,.ref b)] [.trs T c (kl++Tr.nd b true aB aF::Tr.nd g w ges gks::kr),zN a d0 le lc T c false es (List.map Tr.a kl++b::g::List.map Tr.a kr),.raw r] F') ?_
  exact hK (es,kl++.nd b true aB aF::.nd g w ges gks::kr) _ _ _ hp rfl ((Vw.keep [1,0,0] rfl).trans done)
theorem Ih(hT:3<=T/\T<=1000)(s:Sh T (d+1) lo (.nd a true es ks))(hi:i<ks.length):aL (G (k+8)) 11 [.ref a,.int i] [.tr T c (.nd a true es ks)] F (Mv T a d lo (flat (.nd a true es ks))) (λ_=>.none) λx=>[.tr T c (.nd a true x.1 x.2)]:=by
 refine aL.of (B (k+7) 11 c11 rfl) λr K hK=>?_
 show aj (G (k+7)) [c11] [(0,.ref a),(126,.int i)] [.tr T c (.nd a true es ks),.raw r] F K
 have hK:∀(x:List E × List Tr) fl m A1,Mv T a d lo (flat (.nd a true es ks)) x->fl.val=.none->Vw F A1 ([.tr T c (.nd a true x.1 x.2)]++[.raw r])->K fl m A1 F:=λx fl m A1=>hK x fl m A1
 cases i with
 | zero =>
  refine aj.rn (ao B (k+4)) [oB true,oB true] (p:=decide ((↑0:Int)=0)=true/\K (.ret V.none) [(0,.ref a),(126,.int 0)] [.tr T c (Tr.nd a true es ks),.raw r] F) ?_
  exact⟨rfl,hK (es,ks) _ _ _ ⟨s,rfl⟩ rfl (Vw.refl _ _)⟩
 | succ j =>
  obtain⟨kl,t,u,kr,rfl,hj⟩:∃kl t u kr,ks=kl++t::u::kr/\kl.length=j:=by
   refine⟨ks.take j,ks[j],ks[j+1],ks.drop (j+2),?_,by rw[Rp];lia⟩
   rw[<-QH,<-QH,Q0]
  obtain⟨b,o,aB,aF⟩:=t
  have st:Sh T d (T - 1) (.nd b o aB aF):=s.2.2 _ (by simp)
  refine aj.bT [0] rfl (aR a true es (kl++.nd b o aB aF::u::kr)) λy ho=>aj.bT [1] rfl (jQ kl (u::kr) b o aB aF) λx2 ho2=>?_
  have e:=ho.y rfl
  have hc:=ho.cr
  rw[e] at hc |-
  rw[aX,<-bG]
  have hi1:((j+1:Nat):Int) - 1=(kl.map Tr.a).length:=by rw[Rt,hj];lia
  have ht:Int.natAbs (T:Int)<=1000000:=by lia
  by_cases hm:aB.length=2 * T - 1
  ·refine aj.rn (ao B (k+4)) [oB false,oI 3,oK 3,on b,oI 0,oE 0,oI 3,oB true] (p:=decide ((↑(j+1):Int)=0)=false/\Yr a/\Yr y.lc/\idxV (List.map Tr.a kl++b::List.map Tr.a (u::kr)) ((↑(j+1):Int) - 1)=some b/\Yr b/\Yr x2.le/\Yr a/\Int.natAbs (↑T:Int)<=1000000/\decide ((↑aB.length:Int)=2 * (↑T:Int) - 1)=true/\K (.ret V.none) [(0,.ref a),(126,.int (j+1)),(129,.ref b)] [.k o (.nd b x2.d x2.le x2.lc T x2.c (List.isEmpty aF) aB (aF.map Tr.a)),.trs T c aF,.trs T c (kl++u::kr),zN a y.d y.le y.lc T c false es (List.map Tr.a kl++b::List.map Tr.a (u::kr)),.raw r] F) ?_
   refine⟨rfl,rfl,rfl,bH hi1,rfl,rfl,rfl,ht,RB (by lia),hK (es,kl++.nd b o aB aF::u::kr) _ _ _ ⟨s,rfl⟩ rfl (Vw.go [0,0,0] rfl (rZ kl (u::kr) ho2 rfl rfl) (Vw.fin [1,0] rfl (aD (ks:=kl++.nd b o aB aF::u::kr) (oM hc) aX.symm bG) [0,0] rfl))⟩
  ·refine aj.rn (ao B (k+4)) [oB false,oI 3,oK 3,on b,oI 0,oE 0,oI 3,oB false,oI 3] (p:=decide ((↑(j+1):Int)=0)=false/\Yr a/\Yr y.lc/\idxV (List.map Tr.a kl++b::List.map Tr.a (u::kr)) ((↑(j+1):Int) - 1)=some b/\Yr b/\Yr x2.le/\Yr a/\Int.natAbs (↑T:Int)<=1000000/\decide ((↑aB.length:Int)=2 * (↑T:Int) - 1)=false/\Yr a/\au (G (k+7)) 8 [.ref a,.int ((↑(j+1):Int) - 1)] [.k o (.nd b x2.d x2.le x2.lc T x2.c (List.isEmpty aF) aB (aF.map Tr.a)),.trs T c aF,.trs T c (kl++u::kr),zN a y.d y.le y.lc T c false es (List.map Tr.a kl++b::List.map Tr.a (u::kr)),.raw r] F (bF (G (k+7)) 129 [c11_4] [(0,.ref a),(126,.int (j+1)),(129,.ref b)] K)) ?_
   have sl:=st.lo
   have el:(es.take j).length=kl.length:=by have:=s.1;simp at this;rw[Rp];lia
   refine⟨rfl,rfl,rfl,bH hi1,rfl,rfl,rfl,ht,Rr (by lia),rfl,au.pk [0,0] rfl (aD ho2 rfl rfl) (au.call [2,0] rfl (gV (ka:=kl.map Tr.a) B (k+1) F hc hi1 hT.1 (st.sz hT.2)) λq _=>?_)⟩
   refine aj.pk [1,1] rfl (eE kl (u::kr) (.nd q true aB aF)) (aj.vw (Vw.keep [1,0,0] rfl) ?_)
   refine aj.rn (ao B (k+4)) [] (p:=aj (G (k+7)) [c11_4] [(0,.ref a),(126,.int (j+1)),(129,.ref q)] [zN a y.d y.le y.lc T c false es (List.map Tr.a kl++q::List.map Tr.a (u::kr)),.trs T c (kl++Tr.nd q true aB aF::u::kr),.raw r] F K) ?_
   refine aj.whl (λn m A F'=>∃es' bes' b' bks' kl' u' kr',KD T c a d lo j (flat (.nd a true es (kl++.nd b o aB aF::u::kr))) y.d y.le y.lc r F n m A F' es' bes' b' bks' kl' u' kr') _ ⟨es,aB,q,aF,kl,u,kr,rfl,rfl,rfl,hj,⟨jV s (jc st),?_⟩,rfl⟩ λn m A F' ⟨es,aB,b,aF,kl,u,kr,h⟩=>yN B k hc hT h hK
   rw[<-Q0 j es,bh el,bh el,fV b q o true]
end
theorem jd{l:List α}{i:Int}(h:i=l.length):0<=i/\(l++r).take i.toNat=l:=⟨by lia,List.take_left' (by lia)⟩
theorem oN{l:List α}{i:Int}(h:i=l.length):0<=i+1/\List.drop (i+1).toNat (l++x::r)=r:=by
 refine⟨by lia,?_⟩
 rw[show l++x::r=(l++[x])++r by simp]
 exact List.drop_left' (by rw[Rd,Q5];lia)
theorem oO{l:List α}{i:Int}(h:i=l.length):0<=i/\(l++r).drop i.toNat=r:=⟨by lia,List.drop_left' (by lia)⟩
theorem oU(h:x=y):(List.map xK.f x).map vW.f=xG y:=(Kf _).trans (congrArg xG h)
theorem uD(h:x=y):(List.map Hp.f x).map vW.f=refs y:=(Kf _).trans (congrArg refs h)
section
variable{G:Nat->bI}(B:bD G)(k:Nat){F:CL}{T c b:Nat}{cl cr:List E}{mid:E}{ckl ckr:List Tr}
include B
theorem Dn(hT:3<=T/\T<=1000)(hcl:cl.length=T - 1)(hcr:cr.length=T - 1) :
  aL (G (k+4)) 13 [.ref b] [.tr T c (.nd b true (cl++mid::cr) [])] F (λ_=>True) (λp:Nat × Nat=>.ref p.1) λp=>[.k true (.ce p.1 (.tup [.ref b,mid.r,.ref p.2])),.tr T c (.nd b true cl []),.tr T c (.nd p.2 true cr [])]:=by
 refine aL.of (B (k+3) 13 c13 rfl) λr K hK=>?_
 show aj (G (k+3)) [c13] [(0,.ref b)] [.tr T c (.nd b true (cl++mid::cr) []),.raw r] F K
 refine aj.bT [0] rfl (aR b true (cl++mid::cr) []) λy ho=>aj.fact (λH S=>(S.kd (n:=0) rfl).2) λkv=>?_
 have e:=ho.y rfl
 rw[e] at ho |-
 have hl:(cl++mid::cr).length=2 * T - 1:=by rw[Rd,Rn];lia
 refine aj.rn (ao B k) [oI 0,oI 0,oI 0,oI 0,oI 0] (p:=Yr b/\Yr b/\(T<=1000/\(↑((cl++mid::cr).length):Int)<=2 * (↑T:Int) - 1)/\decide ((↑((cl++mid::cr).length):Int)=2 * (↑T:Int) - 1)=true/\Yr b/\Yr b/\Yr b/\∀(a d:Nat),au (G (k+3)) 4 [.ref a,.int T,.ref c,.bool true] [zO a 2 d [],zN b y.d y.le y.lc T c true (cl++mid::cr) (List.map Tr.a []),.trs T c [],.raw r] F λu A F=>gD u (bF (G (k+3)) 131 [c13_2] [(0,.ref b)] K (.ref a) A F)) ?_
 refine⟨rfl,rfl,⟨hT.2,by lia⟩,RB (by lia),rfl,rfl,rfl,λq d=>au.call [0] rfl (yC B (k+1) F hT.1) λx _=>?_⟩
 have i1:(T:Int) - 1=cl.length:=by lia
 have kl:∀e∈cl,aQ F e:=λe h=>kv e (Q9 _ h)
 have kr:∀e∈cr,aQ F e:=λe h=>kv e (QZ _ (.tail _ h))
 refine aj.rn (ao B k) [oI 1,oI 1,oE 1,oI 0,oI 2,oI 0,Mr cr,oI 3,oI 3,oE 3,oe mid,oI 3,oI 3,oE 3,oI 0,oI 5,oI 0,Mr cl,oI 5,oB false] (p:=Yr b/\Yr b/\Yr y.le/\0<=(↑T:Int) - 1+1/\∀(q_1:Nat),Yr q_1/\∀(q_2:Nat),Yr q/\(Yr q_2/\List.map (Lk.f vW) (List.map (Lk.f xK) (List.drop (Int.toNat ((↑T:Int) - 1+1)) (cl++mid::cr)))=xG cr/\∀(e:E),e∈cr->aQ F e)/\Yr b/\Yr b/\Yr y.le/\idxV (cl++mid::cr) ((↑T:Int) - 1)=some mid/\Yr b/\Yr b/\Yr y.le/\0<=(↑T:Int) - 1/\∀(q_3:Nat),Yr q_3/\∀(q_4:Nat),Yr b/\(Yr q_4/\List.map (Lk.f vW) (List.map (Lk.f xK) (List.take (Int.toNat ((↑T:Int) - 1)) (cl++mid::cr)))=xG cl/\∀(e:E),e∈cl->aQ F e)/\Yr b/\false=false/\∀(q_5:Nat),K (.ret (.ref q_5)) [(0,.ref b),(131,.ref q),(132,E.r mid)] [zT q_5 [.ref b,E.r mid,.ref q],.mt,zL q_3 (List.map (Lk.f xK) (List.take (Int.toNat ((↑T:Int) - 1)) (cl++mid::cr))),.mt,zL q_1 (List.map (Lk.f xK) (List.drop (Int.toNat ((↑T:Int) - 1+1)) (cl++mid::cr))),zN q d q_2 x.2 T c true cr [],zN b y.d q_4 y.lc T c true cl (List.map Tr.a []),.trs T c [],.raw r] F) ?_
 exact⟨rfl,rfl,rfl,(oN (r:=cr) (x:=mid) i1).1,λ_=>⟨rfl,λ_=>⟨rfl,⟨rfl,oU (oN i1).2,kr⟩,rfl,rfl,rfl,bH i1,rfl,rfl,rfl,(jd (r:=cr) i1).1,λ_=>⟨rfl,λ_=>⟨rfl,⟨rfl,oU (jd i1).2,kl⟩,rfl,rfl,λp =>
  hK (p,q) _ _ _ trivial rfl (Vw.go [7] rfl (kE [] []) (Vw.go [8,0] rfl (aD (ks:=[]) ho rfl rfl) (Vw.fin [7,1] rfl (aD (ks:=[]) ho rfl rfl) [2,1,0,4] rfl)))⟩⟩⟩⟩⟩
theorem yO(hT:3<=T/\T<=1000)(hcl:cl.length=T - 1)(hcr:cr.length=T - 1)(hkl:ckl.length=T)(hkr:ckr.length=T) :
  aL (G (k+4)) 13 [.ref b] [.tr T c (.nd b true (cl++mid::cr) (ckl++ckr))] F (λ_=>True) (λp:Nat × Nat=>.ref p.1) λp=>[.k true (.ce p.1 (.tup [.ref b,mid.r,.ref p.2])),.tr T c (.nd b true cl ckl),.tr T c (.nd p.2 true cr ckr)]:=by
 refine aL.of (B (k+3) 13 c13 rfl) λr K hK=>?_
 show aj (G (k+3)) [c13] [(0,.ref b)] [.tr T c (.nd b true (cl++mid::cr) (ckl++ckr)),.raw r] F K
 refine aj.bT [0] rfl (aR b true (cl++mid::cr) (ckl++ckr)) λy ho=>aj.fact (λH S=>(S.kd (n:=0) rfl).2) λkv=>?_
 have e:=ho.y rfl
 rw[e] at ho |-
 have hl:(cl++mid::cr).length=2 * T - 1:=by rw[Rd,Rn];lia
 have f1:ckl.isEmpty=false:=by cases ckl with|nil=>simp at hkl;lia|cons=>rfl
 have f2:ckr.isEmpty=false:=by cases ckr with|nil=>simp at hkr;lia|cons=>rfl
 have f3:(ckl++ckr).isEmpty=false:=by cases ckl with|nil=>cases f1|cons=>rfl
 rw[f3,Rv]
 refine aj.rn (ao B k) [oI 0,oI 0,oI 0,oI 0,oI 0] (p:=Yr b/\Yr b/\(T<=1000/\(↑((cl++mid::cr).length):Int)<=2 * (↑T:Int) - 1)/\decide ((↑((cl++mid::cr).length):Int)=2 * (↑T:Int) - 1)=true/\Yr b/\Yr b/\Yr b/\∀(a d:Nat),au (G (k+3)) 4 [.ref a,.int T,.ref c,.bool false] [zO a 2 d [],zN b y.d y.le y.lc T c false (cl++mid::cr) (List.map Tr.a ckl++List.map Tr.a ckr),.trs T c (ckl++ckr),.raw r] F λu A F=>gD u (bF (G (k+3)) 131 [c13_2] [(0,.ref b)] K (.ref a) A F)) ?_
 refine⟨rfl,rfl,⟨hT.2,by lia⟩,RB (by lia),rfl,rfl,rfl,λq d=>au.call [0] rfl (yC B (k+1) F hT.1) λx _=>?_⟩
 have i1:(T:Int) - 1=cl.length:=by lia
 have kl:∀e∈cl,aQ F e:=λe h=>kv e (Q9 _ h)
 have kr:∀e∈cr,aQ F e:=λe h=>kv e (QZ _ (.tail _ h))
 have i2:(T:Int) - 1+1=(ckl.map Tr.a).length:=by rw[Rt];lia
 refine aj.rn (ao B k) [oI 1,oI 1,oE 1,oI 0,oI 2,oI 0,Mr cr,oI 3,oI 3,oE 3,oe mid,oI 3,oI 3,oE 3,oI 0,oI 5,oI 0,Mr cl,oI 5,oB true,oI 5,oI 5,oK 5,oI 0,oI 6,oI 0,Nf (List.map Tr.a ckr),oI 7,oI 7,oK 7,oI 0,oI 9,oI 0,Nf (List.map Tr.a ckl)] (p:=Yr b/\Yr b/\Yr y.le/\0<=(↑T:Int) - 1+1/\∀(q_1:Nat),Yr q_1/\∀(q_2:Nat),Yr q/\(Yr q_2/\List.map (Lk.f vW) (List.map (Lk.f xK) (List.drop (Int.toNat ((↑T:Int) - 1+1)) (cl++mid::cr)))=xG cr/\∀(e:E),e∈cr->aQ F e)/\Yr b/\Yr b/\Yr y.le/\idxV (cl++mid::cr) ((↑T:Int) - 1)=some mid/\Yr b/\Yr b/\Yr y.le/\0<=(↑T:Int) - 1/\∀(q_3:Nat),Yr q_3/\∀(q_4:Nat),Yr b/\(Yr q_4/\List.map (Lk.f vW) (List.map (Lk.f xK) (List.take (Int.toNat ((↑T:Int) - 1)) (cl++mid::cr)))=xG cl/\∀(e:E),e∈cl->aQ F e)/\Yr b/\Yt/\Yr b/\Yr b/\Yr y.lc/\0<=(↑T:Int) - 1+1/\∀(q_5:Nat),Yr q_5/\∀(q_6:Nat),Yr q/\(Yr q_6/\List.map (Lk.f vW) (List.map (Lk.f Hp) (List.drop (Int.toNat ((↑T:Int) - 1+1)) (List.map Tr.a ckl++List.map Tr.a ckr)))=refs (ckr.map Tr.a))/\Yr b/\Yr b/\Yr y.lc/\0<=(↑T:Int) - 1+1/\∀(q_7:Nat),Yr q_7/\∀(q_8:Nat),Yr b/\(Yr q_8/\List.map (Lk.f vW) (List.map (Lk.f Hp) (List.take (Int.toNat ((↑T:Int) - 1+1)) (List.map Tr.a ckl++List.map Tr.a ckr)))=refs (ckl.map Tr.a))/\∀(q_9:Nat),K (.ret (.ref q_9)) [(0,.ref b),(131,.ref q),(132,E.r mid)] [zT q_9 [.ref b,E.r mid,.ref q],.mt,zL q_7 (List.map (Lk.f Hp) (List.take (Int.toNat ((↑T:Int) - 1+1)) (List.map Tr.a ckl++List.map Tr.a ckr))),.mt,zL q_5 (List.map (Lk.f Hp) (List.drop (Int.toNat ((↑T:Int) - 1+1)) (List.map Tr.a ckl++List.map Tr.a ckr))),.mt,zL q_3 (List.map (Lk.f xK) (List.take (Int.toNat ((↑T:Int) - 1)) (cl++mid::cr))),.mt,zL q_1 (List.map (Lk.f xK) (List.drop (Int.toNat ((↑T:Int) - 1+1)) (cl++mid::cr))),zN q d q_2 q_6 T c false cr (ckr.map Tr.a),zN b y.d q_4 q_8 T c false cl (ckl.map Tr.a),.trs T c (ckl++ckr),.raw r] F) ?_
 exact⟨rfl,rfl,rfl,(oN (r:=cr) (x:=mid) i1).1,λ_=>⟨rfl,λ_=>⟨rfl,⟨rfl,oU (oN i1).2,kr⟩,rfl,rfl,rfl,bH i1,rfl,rfl,rfl,(jd (r:=cr) i1).1,λ_=>⟨rfl,λ_=>⟨rfl,⟨rfl,oU (jd i1).2,kl⟩,rfl,rfl,
  rfl,rfl,rfl,(oO (r:=ckr.map Tr.a) i2).1,λ_=>⟨rfl,λ_=>⟨rfl,⟨rfl,uD (oO i2).2⟩,rfl,rfl,rfl,(jd (r:=ckr.map Tr.a) i2).1,λ_=>⟨rfl,λ_=>⟨rfl,⟨rfl,uD (jd i2).2⟩,λp =>
  hK (p,q) _ _ _ trivial rfl (Vw.go [11] rfl (kE ckl ckr) (Vw.go [12,0] rfl (aD (ks:=ckl) ho f1.symm rfl) (Vw.fin [11,1] rfl (aD (ks:=ckr) ho f2.symm rfl) [2,1,0,8] rfl)))⟩⟩⟩⟩⟩⟩⟩⟩⟩
theorem Fv(hT:3<=T/\T<=1000)(hcl:cl.length=T - 1)(hcr:cr.length=T - 1)(hk:ckl=[]/\ckr=[]\/ckl.length=T/\ckr.length=T) :
  aL (G (k+4)) 13 [.ref b] [.tr T c (.nd b true (cl++mid::cr) (ckl++ckr))] F (λ_=>True) (λp:Nat × Nat=>.ref p.1) λp=>[.k true (.ce p.1 (.tup [.ref b,mid.r,.ref p.2])),.tr T c (.nd b true cl ckl),.tr T c (.nd p.2 true cr ckr)]:=by
 rcases hk with ⟨rfl,rfl⟩|hk
 ·exact Dn B k hT hcl hcr
 ·exact yO B k hT hcl hcr hk.1 hk.2
end
theorem oV{α:Type}{l r:List α}{x:α}{i:Int}(h:i=l.length):(0<=i/\i<=((l++r).length:Int))/\(l++r).take i.toNat++x::(l++r).drop i.toNat=l++x::r :=
 ⟨⟨by lia,by rw[Rd];lia⟩,by rw[(jd h).2,(oO h).2]⟩
theorem yP{α:Type}{l r:List α}{x y:α}{i:Int}(h:i=l.length):(0<=i+1/\i+1<=((l++y::r).length:Int))/\List.take (i+1).toNat (l++y::r)++x::List.drop (i+1).toNat (l++y::r)=l++y::x::r:=by
 have:=oV (l:=l++[y]) (r:=r) (x:=x) (i:=i+1) (by rw[Rd,Q5];lia)
 rwa [dJ,dJ] at this
section
variable{G:Nat->bI}(B:bD G)(k:Nat){F:CL}{T c a b q d le lc:Nat}{el er aB:List E}{mid:E}{ka kb:List Nat}{aF:List Tr}{o:Bool}
include B
theorem KH(hT:T<=1000)(hm:aQ F mid)(w:cO mid.k el er)(hs:bw (el++er))(hn:(el++er).length<2 * T - 1)(hl:el.length=ka.length)(hr:er.length=kb.length) :
  aL (β:=Unit) (G (k+4)) 16 [.ref a,.ref b,mid.r,.ref q] [.k true (.nd a d le lc T c false (el++er) (ka++b::kb)),.tr T c (.nd b o aB aF)] F (λ_=>True) (λ_=>.none) λ_=>[.k true (.nd a d le lc T c false (el++mid::er) (ka++b::q::kb)),.tr T c (.nd b o aB aF)]:=by
 refine aL.of (B (k+3) 16 c16 rfl) λr K hK=>?_
 show aj (G (k+3)) [c16] [(0,.ref a),(129,.ref b),(132,mid.r),(131,.ref q)] [.k true (.nd a d le lc T c false (el++er) (ka++b::kb)),.tr T c (.nd b o aB aF),.raw r] F K
 obtain⟨hp,hh⟩:=jy w
 have hp':(pos mid.k (el++er):Int)=el.length:=by rw[hp]
 have i1:=oV (r:=er) (x:=mid) hp'
 have i2:=yP (i:=(pos mid.k (el++er):Int)) (r:=kb) (x:=q) (y:=b) (l:=ka) (by lia)
 refine aj.rn (ao B k) [oI 0,oI 0,oI 0,oe mid,oI 0,oI 0,oI 0,oI 1,oE 1,oE 1,oX mid,oI 1,oK 1,oB false,oI 1,oK 1,on b,oI 2,oI 1,oK 1,oK 1,oR q] (p:=Yr a/\Yr a/\(T<=1000/\(↑((el++er).length):Int)<=2 * (↑T:Int) - 1)/\(!decide ((↑((el++er).length):Int)=2 * (↑T:Int) - 1))=true/\Yr a/\Yt/\(E.r mid=E.r mid/\aQ F mid)/\Yr a/\Yr a/\bw (el++er)/\∀(p:Nat),Yr p/\(!hit mid.k (el++er))=true/\Yr a/\Yr le/\Yr le/\(el++er).length<=1000000/\((0<=(↑(pos mid.k (el++er)):Int)/\(↑(pos mid.k (el++er)):Int)<=(↑((el++er).length):Int))/\E.r mid=E.r mid/\aQ F mid)/\Yr a/\Yr lc/\decide ((↑((ka++b::kb).length):Int)=0)=false/\Yr a/\Yr lc/\idxV (ka++b::kb) (↑(pos mid.k (el++er)):Int)=some b/\Yr b/\b=b/\Yt/\Yr a/\Yr lc/\Yr lc/\(ka++b::kb).length<=1000000/\((0<=(↑(pos mid.k (el++er)):Int)+1/\(↑(pos mid.k (el++er)):Int)+1<=(↑((ka++b::kb).length):Int))/\Yr q/\True)/\K Fl.next [(0,.ref a),(129,.ref b),(132,E.r mid),(131,.ref q),(42,.int mid.k),(123,.int (↑(pos mid.k (el++er)):Int)),(125,.bool (hit mid.k (el++er)))] [zT p [.int (↑(pos mid.k (el++er)):Int),.bool (hit mid.k (el++er))],zN a d le lc T c false (List.take (Int.toNat (↑(pos mid.k (el++er)):Int)) (el++er)++mid::List.drop (Int.toNat (↑(pos mid.k (el++er)):Int)) (el++er)) (List.take (Int.toNat ((↑(pos mid.k (el++er)):Int)+1)) (ka++b::kb)++q::List.drop (Int.toNat ((↑(pos mid.k (el++er)):Int)+1)) (ka++b::kb)),.tr T c (Tr.nd b o aB aF),.raw r] F) ?_
 rw[i1.2,i2.2]
 exact⟨rfl,rfl,⟨hT,by lia⟩,by rw[Rr (by lia)];rfl,rfl,rfl,⟨rfl,hm⟩,rfl,rfl,hs,λ_=>⟨rfl,by rw[hh];rfl,rfl,rfl,rfl,by lia,⟨i1.1,rfl,hm⟩,rfl,rfl,Rr (by rw[Rd,Rn];lia),rfl,rfl,bH (by lia),rfl,rfl,rfl,rfl,rfl,rfl,by rw[Rd,Rn];rw[Rd] at hn;lia,⟨i2.1,rfl,trivial⟩,
  hK () _ _ _ trivial rfl (Vw.keep [1,1,1] rfl)⟩⟩
theorem Dp(hT:3<=T/\T<=1000)(hm:aQ F mid) :
  aL (G (k+4)) 16 [.ref a,.ref b,mid.r,.ref q] [.k true (.nd a d le lc T c false [] [])] F (λ_=>True) (λ_=>.none) λy:Nat=>[.k true (.nd a d le y T c false [mid] [b,q])]:=by
 refine aL.of (B (k+3) 16 c16 rfl) λr K hK=>?_
 show aj (G (k+3)) [c16] [(0,.ref a),(129,.ref b),(132,mid.r),(131,.ref q)] [.k true (.nd a d le lc T c false [] []),.raw r] F K
 refine aj.rn (ao B k) [oI 0,oI 0,oI 0,oe mid,oI 0,oI 0,oI 0,oI 1,oE 1,oE 1,oX mid,oI 1,oK 1,oB true,oI 2,oI 0,Nf [b,q]] (p:=Yr a/\Yr a/\(T<=1000/\(↑0:Int)<=2 * (↑T:Int) - 1)/\(!decide ((↑0:Int)=2 * (↑T:Int) - 1))=true/\Yr a/\Yt/\(E.r mid=E.r mid/\aQ F mid)/\Yr a/\Yr a/\bw []/\∀(p:Nat),Yr p/\Yt/\Yr a/\Yr le/\Yr le/\0<=1000000/\((0<=(↑(pos mid.k []):Int)/\(↑(pos mid.k []):Int)<=(↑0:Int))/\E.r mid=E.r mid/\aQ F mid)/\Yr a/\Yr lc/\decide ((↑0:Int)=0)=true/\∀(q_1:Nat),Yr a/\(Yr q_1/\[V.ref b,V.ref q]=refs [b,q])/\K Fl.next [(0,.ref a),(129,.ref b),(132,E.r mid),(131,.ref q),(42,.int mid.k),(123,.int (pos mid.k [])),(125,.bool (hit mid.k []))] [.mt,zT p [.int (pos mid.k []),.bool (hit mid.k [])],zN a d le q_1 T c false (List.take (Int.toNat (↑(pos mid.k []):Int)) []++mid::List.drop (Int.toNat (↑(pos mid.k []):Int)) []) [b,q],.raw r] F) ?_
 exact⟨rfl,rfl,⟨hT.2,by lia⟩,by rw[Rr (by lia)];rfl,rfl,rfl,⟨rfl,hm⟩,rfl,rfl,List.Pairwise.nil,λ_=>⟨rfl,rfl,rfl,rfl,rfl,Nat.zero_le _,⟨⟨Int.le_refl _,Int.le_refl _⟩,rfl,hm⟩,rfl,rfl,rfl,λy=>⟨rfl,⟨rfl,rfl⟩,hK y _ _ _ trivial rfl (Vw.keep [2,2] rfl)⟩⟩⟩
end
theorem yQ:∀{d T lo a:Nat} {o:Bool} {es es':List E} {ks:List Tr},es'.length=es.length->Sh T d lo (.nd a o es ks)->Sh T d lo (.nd a o es' ks)
 | 0,_,_,_,_,_,_,_,h,s=>by obtain⟨q,s⟩:=s;exact⟨q,h▸s⟩
 | _+1,_,_,_,_,_,_,_,h,s=>by obtain⟨q,s,t⟩:=s;exact⟨h▸q,h▸s,t⟩
noncomputable def Tr.es:Tr->List E
 | .nd _ _ es _=>es
structure Ny(T a d lo:Nat)(fs:List E)(x:List E × List Tr):Prop where
 sh:Sh T d lo (.nd a true x.1 x.2)
 fl:flat (.nd a true x.1 x.2)=fs
def Ms(a:Nat)(e:E)(io:Bool)(m:Loc):Prop:=m=[(0,.ref a),(130,e.r),(12,.bool io)]\/∃x y z w,m=[(0,.ref a),(130,e.r),(12,.bool io),(42,.int x),(123,.int y),(125,.bool z),(127,.ref w)]
def yR(G:Nat->bI)(F:CL)(T d:Nat)(e:E)(io:Bool)(κ:Nat):Prop:=∀{c lo a:Nat} {es:List E} {ks:List Tr},Sh T d lo (.nd a true es ks)->bw (flat (.nd a true es ks))->es.length<2 * T - 1 ->
 aL (G κ) 12 [.ref a,e.r,.bool io] [.tr T c (.nd a true es ks)] F (Ny T a d lo (iM e (flat (.nd a true es ks)))) (λ_=>vO (bR e.k (flat (.nd a true es ks)))) λx=>[.tr T c (.nd a true x.1 x.2)]
structure II(T c a d lo:Nat)(e:E)(io:Bool)(fs:List E)(r F:CL)(n:Nat)(m:Loc)(A:List Th)(F':CL)(es:List E)(ks:List Tr):Prop where
 m:Ms a e io m
 A:A=[.tr T c (.nd a true es ks),.raw r]
 F:F'=F
 s:Sh T d lo (.nd a true es ks)
 f:flat (.nd a true es ks)=fs
 z:n=0->hit e.k es=false->∀t,ks[pos e.k es]?=some t->t.es.length<2 * T - 1
 y:n≠0\/d=0->es.length<2 * T - 1
section
variable{G:Nat->bI}(B:bD G)(k:Nat){F:CL}{T c a d lo:Nat}{e:E}{io:Bool}{fs:List E}{r:CL}{K:KS}
include B
theorem yS{n:Nat}(hT:3<=T/\T<=1000)(hc:Own F c c true)(he:aQ F e)(sr:bw fs)(IH:yR G F T d e io (k+8)){q d0 le lc:Nat}{i y:Int}{z:Bool}{el er aB:List E}{kl kr aF:List Tr}
  (hs:Sh T (d+1) lo (.nd a true (el++er) (kl++.nd q true aB aF::kr))) (hf:flat (.nd a true (el++er) (kl++.nd q true aB aF::kr))=fs) (h4:el.length=kl.length) (h5:er.length=kr.length) (hi:i=el.length) (w:cO e.k el er) (w2:cO e.k (fj el kl) (gF er kr))
  (hz:aB.length=2 * T - 1->0<n/\(el++er).length<2 * T - 1)
  (hK:∀(x:List E × List Tr) fl m A1,Ny T a (d+1) lo (iM e fs) x->fl.val=vO (bR e.k fs)->Vw F A1 ([.tr T c (.nd a true x.1 x.2)]++[.raw r])->K fl m A1 F) :
  aj (G (k+8)) [c12e_1,[],[],[]] [(0,.ref a),(130,e.r),(12,.bool io),(42,.int y),(123,.int i),(125,.bool z),(127,.ref q)] [.k true (.nd a d0 le lc T c false (el++er) (kl.map Tr.a++q::kr.map Tr.a)),.tr T c (.nd q true aB aF),.trs T c (kl++kr),.raw r] F
   (cB (λm A F'=>∃n',n'<n/\∃es ks,II T c a (d+1) lo e io fs r F n' m A F' es ks) (Rest (G (k+8)) [[]] K) K):=by
 have st:Sh T d (T - 1) (.nd q true aB aF):=hs.2.2 _ (by simp)
 have sl:=st.lo
 refine aj.bT [1] rfl (aR q true aB aF) λx ho=>aj.fact (λH S=>(S.kd (n:=0) rfl).2) λkv=>?_
 by_cases hb:aB.length=2 * T - 1
 ·obtain⟨hn,hn2⟩:=hz hb
  obtain⟨cl,mid,cr,ckl,ckr,rfl,rfl,e1,e2,e3,e4⟩:=Ky hT.1 st hb
  have hm:aQ F mid:=kv mid (by simp)
  have fc:∀p,flat (.nd a true (el++mid::er) (kl++.nd q true cl ckl::.nd p true cr ckr::kr))=fs:=λp=>(yt (a:=a) (o:=true) h4 (e4 p).2.2).trans hf
  have sc:bw (el++mid::er):=eG (ks:=kl++.nd q true cl ckl::.nd 0 true cr ckr::kr) (by rw[<-aq a true,fc];exact sr)
  refine aj.rn (ao B (k+5)) [oI 0,oI 0,oB true,oI 2,oI 0,oI 0] (p:=Yr q/\Yr q/\(T<=1000/\(↑((cl++mid::cr).length):Int)<=2 * (↑T:Int) - 1)/\decide ((↑((cl++mid::cr).length):Int)=2 * (↑T:Int) - 1)=true/\Yr a/\Yr q/\au (G (k+8)) 13 [.ref q] [zN q x.d x.le x.lc T x.c ((ckl++ckr).isEmpty) (cl++mid::cr) ((ckl++ckr).map Tr.a),.trs T c (ckl++ckr),zN a d0 le lc T c false (el++er) (List.map Tr.a kl++q::List.map Tr.a kr),.trs T c (kl++kr),.raw r] F λv A F_1=>rsX v (St.mk A F_1 [oB true]) λNz st=>opt (Rs.cell Nz) λc_1=>opt (Cell.tp c_1) λus=>eY (G (k+8)) cN 16 (V.ref a::us) [] [] st (KK.mk (λx st=>xs (G (k+8)) cN 98 [c12f_1,c12e_2,[],[],[]] [(0,.ref a),(130,E.r e),(12,.bool io),(42,.int y),(123,.int i),(125,.bool z),(127,.ref q)] st (cB (λm A F'=>∃(n':Nat),n'<n/\∃(es:List E),∃(ks:List Tr),II T c a (d+1) lo e io fs r F n' m A F' es ks) (Rest (G (k+8)) [[]] K) K)) (some (bx (G (k+8)) [c12f_1,c12e_2,[],[],[]] [(0,.ref a),(130,E.r e),(12,.bool io),(42,.int y),(123,.int i),(125,.bool z),(127,.ref q)] (cB (λm A F'=>∃(n':Nat),n'<n/\∃(es:List E),∃(ks:List Tr),II T c a (d+1) lo e io fs r F n' m A F' es ks) (Rest (G (k+8)) [[]] K) K))))) ?_
  refine⟨rfl,rfl,⟨hT.2,by lia⟩,RB (by lia),rfl,rfl,au.pk [0,0] rfl (aD ho rfl rfl) (au.call [0] rfl (Fv B (k+4) hT e1 e2 e3) λp _=>?_)⟩
  refine xc (p:=Yr p.1/\au (G (k+8)) 16 [.ref a,.ref q,E.r mid,.ref p.2] [zT p.1 [.ref q,E.r mid,.ref p.2],.tr T c (Tr.nd q true cl ckl),.tr T c (Tr.nd p.2 true cr ckr),zN a d0 le lc T c false (el++er) (List.map Tr.a kl++q::List.map Tr.a kr),.trs T c (kl++kr),.raw r] F (bx (G (k+8)) [c12f_1,c12e_2,[],[],[]] [(0,.ref a),(130,E.r e),(12,.bool io),(42,.int y),(123,.int i),(125,.bool z),(127,.ref q)] (cB (λm A F'=>∃(n':Nat),n'<n/\∃(es:List E),∃(ks:List Tr),II T c a (d+1) lo e io fs r F n' m A F' es ks) (Rest (G (k+8)) [[]] K) K))) ?_
  refine⟨rfl,au.call [3,1] rfl (KH B (k+4) hT.2 hm (bN sc) (sc.sublist ((List.sublist_cons_self _ _).append_left _)) hn2 (by rw[Rt,h4]) (by rw[Rt,h5])) λ_ _=>?_⟩
  refine aj.pk [1,2,2] rfl (qL kl kr (.nd q true cl ckl) (.nd p.2 true cr ckr)) (aj.pk [1,0] rfl (aD (ks:=kl++.nd q true cl ckl::.nd p.2 true cr ckr::kr) hc aX.symm kW) (aj.vw (Vw.keep [0,1] rfl) ?_))
  refine aj.rn (ao B (k+5)) [] (p:=∃(n':Nat),n'<n/\∃(es:List E),∃(ks:List Tr),II T c a (d+1) lo e io fs r F n' [(0,.ref a),(130,E.r e),(12,.bool io),(42,.int y),(123,.int i),(125,.bool z),(127,.ref q)] [.tr T c (Tr.nd a true (el++mid::er) (kl++Tr.nd q true cl ckl::Tr.nd p.2 true cr ckr::kr)),.raw r] F es ks) ?_
  refine⟨0,hn,el++mid::er,_,.inr ⟨_,_,_,_,rfl⟩,rfl,rfl,HY hs hn2 (e4 p.2).1 (e4 p.2).2.1,fc p.2,λ_ hh t ht=>?_,λh=>h.elim (λh=>absurd rfl h) nofun⟩
  rcases half w h4.symm sc hh ht with rfl|rfl
  ·show cl.length<_;lia
  ·show cr.length<_;lia
 ·refine aj.rn (ao B (k+5)) [oI 0,oI 0,oB false,oI 0] (p:=Yr q/\Yr q/\(T<=1000/\(↑aB.length:Int)<=2 * (↑T:Int) - 1)/\decide ((↑aB.length:Int)=2 * (↑T:Int) - 1)=false/\Yr q/\au (G (k+8)) 12 [.ref q,E.r e,.bool io] [zN q x.d x.le x.lc T x.c (List.isEmpty aF) aB (aF.map Tr.a),.trs T c aF,zN a d0 le lc T c false (el++er) (List.map Tr.a kl++q::List.map Tr.a kr),.trs T c (kl++kr),.raw r] F (bF (G (k+8)) 139 [c12e_3,[],[],[]] [(0,.ref a),(130,E.r e),(12,.bool io),(42,.int y),(123,.int i),(125,.bool z),(127,.ref q)] (cB (λm A F'=>∃(n':Nat),n'<n/\∃(es:List E),∃(ks:List Tr),II T c a (d+1) lo e io fs r F n' m A F' es ks) (Rest (G (k+8)) [[]] K) K))) ?_
  refine⟨rfl,rfl,⟨hT.2,by lia⟩,Rr (by lia),rfl,au.pk [0,0] rfl (aD ho rfl rfl) (au.call [0] rfl (IH st ?_ (by lia)) λx hx=>?_)⟩
  ·have:=oJ h4 (by rw[<-aq a true,hf];exact sr)
   exact this
  obtain⟨x1,x2⟩:=x
  have hs2:=jV hs hx.sh
  have hf2:flat (.nd a true (el++er) (kl++.nd q true x1 x2::kr))=iM e fs:=by
   rw[bh h4,hx.fl,<-hf,bh h4,w2.ins]
  have hv:vO (bR e.k (flat (.nd q true aB aF)))=vO (bR e.k fs):=by rw[<-hf,bh h4,w2.bR]
  have hik:i=(kl.length:Int):=by lia
  refine aj.pk [0,1] rfl (eE kl kr (.nd q true x1 x2)) (aj.pk [1,0] rfl (aD (ks:=kl++.nd q true x1 x2::kr) hc aX.symm bG) ?_)
  cases io with
  | false =>
   refine aj.rn (ao B (k+5)) [oB false] (p:=false=false/\K (.ret (vO (bR e.k (flat (Tr.nd q true aB aF))))) [(0,.ref a),(130,E.r e),(12,.bool false),(42,.int y),(123,.int i),(125,.bool z),(127,.ref q),(139,vO (bR e.k (flat (Tr.nd q true aB aF))))] [.tr T c (Tr.nd a true (el++er) (kl++Tr.nd q true x1 x2::kr)),.raw r] F) ?_
   exact⟨rfl,hK (_,_) _ _ _ ⟨hs2,hf2⟩ hv (Vw.refl _ _)⟩
  | true =>
   refine aj.rn (ao B (k+5)) [oB true,oI 0] (p:=Yt/\Yr a/\au (G (k+8)) 11 [.ref a,.int i] [.tr T c (Tr.nd a true (el++er) (kl++Tr.nd q true x1 x2::kr)),.raw r] F (bx (G (k+8)) [[],c12e_4,[],[],[]] [(0,.ref a),(130,E.r e),(12,.bool true),(42,.int y),(123,.int i),(125,.bool z),(127,.ref q),(139,vO (bR e.k (flat (Tr.nd q true aB aF))))] (cB (λm A F'=>∃(n':Nat),n'<n/\∃(es:List E),∃(ks:List Tr),II T c a (d+1) lo e true fs r F n' m A F' es ks) (Rest (G (k+8)) [[]] K) K))) ?_
   have co:=Ih (c:=c) (F:=F) B k hT hs2 (i:=kl.length) (by rw[Rd,Rn];lia)
   rw[<-hik] at co
   refine⟨rfl,rfl,au.call [0] rfl co λx hx=>?_⟩
   refine aj.rn (ao B (k+5)) [] (p:=K (.ret (vO (bR e.k (flat (Tr.nd q true aB aF))))) [(0,.ref a),(130,E.r e),(12,.bool true),(42,.int y),(123,.int i),(125,.bool z),(127,.ref q),(139,vO (bR e.k (flat (Tr.nd q true aB aF))))] [.tr T c (Tr.nd a true x.1 x.2),.raw r] F) ?_
   exact hK x _ _ _ ⟨hx.sh,hx.fl.trans hf2⟩ hv (Vw.refl _ _)
theorem yU(hT:3<=T/\T<=1000)(he:aQ F e)(sr:bw fs)(IH:∀d',d=d'+1->yR G F T d' e io (k+8))(h:II T c a d lo e io fs r F n m A F' es ks)
  (hK:∀(x:List E × List Tr) fl m A1,Ny T a d lo (iM e fs) x->fl.val=vO (bR e.k fs)->Vw F A1 ([.tr T c (.nd a true x.1 x.2)]++[.raw r])->K fl m A1 F) :
  aj (G (k+8)) [[.ite .tt c12a [.brk]]] m A F' (cB (λm A F'=>∃n',n'<n/\∃es ks,II T c a d lo e io fs r F n' m A F' es ks) (Rest (G (k+8)) [[]] K) K):=by
 obtain⟨hm,rfl,rfl,hs,hf,hz,hy⟩:=h
 have srt:bw (fl es ks):=by rw[<-aq a true,hf];exact sr
 rw[aq] at hf
 have se:=eG srt
 have zk:=Ft hT.2 hs
 refine aj.bT [0] rfl (aR a true es ks) λy ho=>aj.fact (λH S=>(S.kd (n:=0) rfl).2) λkv=>?_
 have ey:=ho.y rfl
 rw[ey] at ho |-
 cases hh:hit e.k es with
 | true =>
  obtain⟨e0,h1,h2,A,B',w,h3,h4⟩:=kI hs.ks srt hh
  have lt:pos e.k es<es.length:=(QJ.mp h1).1
  have fin:∀fl m A1,fl.val=e0.r->Vw F' A1 ([.k true (.nd a y.d y.le y.lc T c ks.isEmpty (es.set (pos e.k es) e) (ks.map Tr.a)),.trs T c ks,.raw r])->K fl m A1 F':=λfl m A1 hv v =>
   hK (es.set (pos e.k es) e,ks) fl m A1 ⟨yQ (by simp) hs,by rw[aq,h4,<-hf,h3,w.Kv h2]⟩ (hv.trans (by rw[<-hf,h3,w.jU h2];rfl)) (v.trans (Vw.fin [0,0] rfl (aD ho rfl rfl) [0,0] rfl))
  have i1:=bU h1
  have i2:0<=(pos e.k es:Int)/\(pos e.k es:Int)<es.length:=by lia
  rcases hm with rfl|⟨x1,y1,z1,w1,rfl⟩
  ·refine aj.rn (ao B (k+5)) [oB true,oe e,oI 0,oI 0,oI 0,oB true,oI 1,oE 1,oe e0,oI 1,oE 1,oX e] (p:=Yt/\(E.r e=E.r e/\aQ F' e)/\Yr a/\Yr a/\bw es/\∀(p:Nat),Yr p/\hit e.k es=true/\Yr a/\Yr y.le/\idxV es (↑(pos e.k es):Int)=some e0/\Yr a/\Yr y.le/\((0<=(↑(pos e.k es):Int)/\(↑(pos e.k es):Int)<(↑es.length:Int))/\E.r e=E.r e/\aQ F' e)/\K (.ret e0.r) [(0,.ref a),(130,E.r e),(12,.bool io),(42,.int e.k),(123,.int (pos e.k es)),(125,.bool (hit e.k es)),(157,E.r e0)] [zT p [.int (pos e.k es),.bool (hit e.k es)],zN a y.d y.le y.lc T c (List.isEmpty ks) (List.set es (Int.toNat (↑(pos e.k es):Int)) e) (ks.map Tr.a),.trs T c ks,.raw r] F') ?_
   exact⟨rfl,⟨rfl,he⟩,rfl,rfl,se,λ_=>⟨rfl,hh,rfl,rfl,i1,rfl,rfl,⟨i2,rfl,he⟩,fin _ _ _ rfl (Vw.keep [1,1,1] rfl)⟩⟩
  ·refine aj.rn (ao B (k+5)) [oB true,oe e,oI 0,oI 0,oI 0,oB true,oI 1,oE 1,oe e0,oI 1,oE 1,oX e] (p:=Yt/\(E.r e=E.r e/\aQ F' e)/\Yr a/\Yr a/\bw es/\∀(p:Nat),Yr p/\hit e.k es=true/\Yr a/\Yr y.le/\idxV es (↑(pos e.k es):Int)=some e0/\Yr a/\Yr y.le/\((0<=(↑(pos e.k es):Int)/\(↑(pos e.k es):Int)<(↑es.length:Int))/\E.r e=E.r e/\aQ F' e)/\K (.ret e0.r) [(0,.ref a),(130,E.r e),(12,.bool io),(42,.int e.k),(123,.int (pos e.k es)),(125,.bool (hit e.k es)),(127,.ref w1),(157,E.r e0)] [zT p [.int (pos e.k es),.bool (hit e.k es)],zN a y.d y.le y.lc T c (List.isEmpty ks) (List.set es (Int.toNat (↑(pos e.k es):Int)) e) (ks.map Tr.a),.trs T c ks,.raw r] F') ?_
   exact⟨rfl,⟨rfl,he⟩,rfl,rfl,se,λ_=>⟨rfl,hh,rfl,rfl,i1,rfl,rfl,⟨i2,rfl,he⟩,fin _ _ _ rfl (Vw.keep [1,1,1] rfl)⟩⟩
 | false =>
  cases d with
  | zero =>
   obtain⟨rfl,s1⟩:=hs
   obtain⟨el,er,rfl,h2,w⟩:=dD se hh
   have hp:(pos e.k (el++er):Int)=el.length:=by rw[h2]
   have i1:=oV (r:=er) (x:=e) hp
   have hn:=hy (.inr rfl)
   have fin:∀fl m A1,fl.val=.none->Vw F' A1 ([.k true (.nd a y.d y.le y.lc T c true (el++e::er) []),.trs T c [],.raw r])->K fl m A1 F':=λfl m A1 hv v =>
    hK (el++e::er,[]) fl m A1 ⟨⟨rfl,by simp at s1 hn |-;lia,by simp at s1 hn |-;lia⟩,by rw[aq,aN,<-hf,aN,w.Ku]⟩ (hv.trans (by rw[<-hf,aN,w.qD];rfl)) (v.trans (Vw.fin [0,0] rfl (aD (ks:=[]) ho rfl rfl) [0,0] rfl))
   rcases hm with rfl|⟨x1,y1,z1,w1,rfl⟩
   ·refine aj.rn (ao B (k+5)) [oB true,oe e,oI 0,oI 0,oI 0,oB false,oI 1,oB true,oI 1,oE 1,oE 1,oX e] (p:=Yt/\(E.r e=E.r e/\aQ F' e)/\Yr a/\Yr a/\bw (el++er)/\∀(p:Nat),Yr p/\hit e.k (el++er)=false/\Yr a/\Yt/\Yr a/\Yr y.le/\Yr y.le/\(el++er).length<=1000000/\((0<=(↑(pos e.k (el++er)):Int)/\(↑(pos e.k (el++er)):Int)<=(↑((el++er).length):Int))/\E.r e=E.r e/\aQ F' e)/\K (.ret V.none) [(0,.ref a),(130,E.r e),(12,.bool io),(42,.int e.k),(123,.int (↑(pos e.k (el++er)):Int)),(125,.bool (hit e.k (el++er)))] [zT p [.int (↑(pos e.k (el++er)):Int),.bool (hit e.k (el++er))],zN a y.d y.le y.lc T c true (List.take (Int.toNat (↑(pos e.k (el++er)):Int)) (el++er)++e::List.drop (Int.toNat (↑(pos e.k (el++er)):Int)) (el++er)) (List.map Tr.a []),.trs T c [],.raw r] F') ?_
    rw[i1.2]
    exact⟨rfl,⟨rfl,he⟩,rfl,rfl,se,λ_=>⟨rfl,hh,rfl,rfl,rfl,rfl,rfl,by lia,⟨i1.1,rfl,he⟩,fin _ _ _ rfl (Vw.keep [1,1,1] rfl)⟩⟩
   ·refine aj.rn (ao B (k+5)) [oB true,oe e,oI 0,oI 0,oI 0,oB false,oI 1,oB true,oI 1,oE 1,oE 1,oX e] (p:=Yt/\(E.r e=E.r e/\aQ F' e)/\Yr a/\Yr a/\bw (el++er)/\∀(p:Nat),Yr p/\hit e.k (el++er)=false/\Yr a/\Yt/\Yr a/\Yr y.le/\Yr y.le/\(el++er).length<=1000000/\((0<=(↑(pos e.k (el++er)):Int)/\(↑(pos e.k (el++er)):Int)<=(↑((el++er).length):Int))/\E.r e=E.r e/\aQ F' e)/\K (.ret V.none) [(0,.ref a),(130,E.r e),(12,.bool io),(42,.int e.k),(123,.int (↑(pos e.k (el++er)):Int)),(125,.bool (hit e.k (el++er))),(127,.ref w1)] [zT p [.int (↑(pos e.k (el++er)):Int),.bool (hit e.k (el++er))],zN a y.d y.le y.lc T c true (List.take (Int.toNat (↑(pos e.k (el++er)):Int)) (el++er)++e::List.drop (Int.toNat (↑(pos e.k (el++er)):Int)) (el++er)) (List.map Tr.a []),.trs T c [],.raw r] F') ?_
    rw[i1.2]
    exact⟨rfl,⟨rfl,he⟩,rfl,rfl,se,λ_=>⟨rfl,hh,rfl,rfl,rfl,rfl,rfl,by lia,⟨i1.1,rfl,he⟩,fin _ _ _ rfl (Vw.keep [1,1,1] rfl)⟩⟩
  | succ d =>
   obtain⟨el,er,kl,t,kr,rfl,rfl,h3,h4,h5,w,w2⟩:=jz srt hh hs.1
   obtain⟨b,o,aB,aF⟩:=t
   have st:Sh T d (T - 1) (.nd b o aB aF):=hs.2.2 _ (by simp)
   have hi:(pos e.k (el++er):Int)=(kl.map Tr.a).length:=by rw[Rt];lia
   rw[aX,<-bG]
   refine aj.pk [1] rfl (fH kl kr (.nd b o aB aF)) ?_
   have rest:=λq y0 z=>yS (lo:=lo) (r:=r) (n:=n) (q:=q) (d0:=y.d) (le:=y.le) (lc:=y.lc) (y:=y0) (z:=z) B k hT ho he sr (IH d rfl) (jV hs (jc st)) (by rw[bh h4,fV q b true o,<-bh (a:=a) (o:=true) h4,aq];exact hf) h4 h5 (by rw[h3]) w w2 (λhb=>by
    have hn0:n≠0:=λh0=>by
     have:aB.length<2 * T - 1:=hz h0 hh (.nd b o aB aF) (cC (by rw[<-h4,h3]))
     lia
    exact⟨Nat.pos_of_ne_zero hn0,hy (.inl hn0)⟩) hK
   rcases hm with rfl|⟨x1,y1,z1,w1,rfl⟩
   ·refine aj.rn (ao B (k+5)) [oB true,oe e,oI 2,oI 2,oI 0,oB false,oI 3,oB false,oI 3] (p:=Yt/\(E.r e=E.r e/\aQ F' e)/\Yr a/\Yr a/\bw (el++er)/\∀(p:Nat),Yr p/\hit e.k (el++er)=false/\Yr a/\false=false/\Yr a/\au (G (k+8)) 8 [.ref a,.int (↑(pos e.k (el++er)):Int)] [zT p [.int (↑(pos e.k (el++er)):Int),.bool (hit e.k (el++er))],.tr T c (Tr.nd b o aB aF),.trs T c (kl++kr),zN a y.d y.le y.lc T c false (el++er) (List.map Tr.a kl++b::List.map Tr.a kr),.raw r] F' (bF (G (k+8)) 127 [c12e_1,[],[],[]] [(0,.ref a),(130,E.r e),(12,.bool io),(42,.int e.k),(123,.int (↑(pos e.k (el++er)):Int)),(125,.bool (hit e.k (el++er)))] (cB (λm A F'_1=>∃(n':Nat),n'<n/\∃(es:List E),∃(ks:List Tr),II T c a (d+1) lo e io fs r F' n' m A F'_1 es ks) (Rest (G (k+8)) [[]] K) K))) ?_
    exact⟨rfl,⟨rfl,he⟩,rfl,rfl,se,λ_=>⟨rfl,hh,rfl,rfl,rfl,au.call [3,1] rfl (gV (ka:=kl.map Tr.a) B (k+2) F' ho.cr hi hT.1 (st.sz hT.2)) λq _=>aj.vw (Vw.keep [0,0,1,1] rfl) (rest q _ _)⟩⟩
   ·refine aj.rn (ao B (k+5)) [oB true,oe e,oI 2,oI 2,oI 0,oB false,oI 3,oB false,oI 3] (p:=Yt/\(E.r e=E.r e/\aQ F' e)/\Yr a/\Yr a/\bw (el++er)/\∀(p:Nat),Yr p/\hit e.k (el++er)=false/\Yr a/\false=false/\Yr a/\au (G (k+8)) 8 [.ref a,.int (↑(pos e.k (el++er)):Int)] [zT p [.int (↑(pos e.k (el++er)):Int),.bool (hit e.k (el++er))],.tr T c (Tr.nd b o aB aF),.trs T c (kl++kr),zN a y.d y.le y.lc T c false (el++er) (List.map Tr.a kl++b::List.map Tr.a kr),.raw r] F' (bF (G (k+8)) 127 [c12e_1,[],[],[]] [(0,.ref a),(130,E.r e),(12,.bool io),(42,.int e.k),(123,.int (↑(pos e.k (el++er)):Int)),(125,.bool (hit e.k (el++er))),(127,.ref w1)] (cB (λm A F'_1=>∃(n':Nat),n'<n/\∃(es:List E),∃(ks:List Tr),II T c a (d+1) lo e io fs r F' n' m A F'_1 es ks) (Rest (G (k+8)) [[]] K) K))) ?_
    exact⟨rfl,⟨rfl,he⟩,rfl,rfl,se,λ_=>⟨rfl,hh,rfl,rfl,rfl,au.call [3,1] rfl (gV (ka:=kl.map Tr.a) B (k+2) F' ho.cr hi hT.1 (st.sz hT.2)) λq _=>aj.vw (Vw.keep [0,0,1,1] rfl) (rest q _ _)⟩⟩
theorem qM(hT:3<=T/\T<=1000)(he:aQ F e)(IH:∀d',d=d'+1->yR G F T d' e io (k+8)):yR G F T d e io (k+9):=λ{c lo a es ks} s sr hn=>by
 refine aL.of (B (k+8) 12 c12 rfl) λr K hK=>?_
 show aj (G (k+8)) [c12] [(0,.ref a),(130,e.r),(12,.bool io)] [.tr T c (.nd a true es ks),.raw r] F K
 refine aj.bT [0] rfl (aR a true es ks) λy ho=>?_
 have ey:=ho.y rfl
 rw[ey] at ho |-
 refine aj.rn (ao B (k+5)) [oI 0,oI 0] (p:=Yr a/\Yr a/\(T<=1000/\(↑es.length:Int)<=2 * (↑T:Int) - 1)/\(!decide ((↑es.length:Int)=2 * (↑T:Int) - 1))=true/\aj (G (k+8)) [c12_1] [(0,.ref a),(130,E.r e),(12,.bool io)] [zN a y.d y.le y.lc T c (List.isEmpty ks) es (ks.map Tr.a),.trs T c ks,.raw r] F K) ?_
 refine⟨rfl,rfl,⟨hT.2,by lia⟩,by rw[Rr (by lia)];rfl,aj.pk [0,0] rfl (aD ho rfl rfl) ?_⟩
 exact aj.whl (λn m A F'=>∃es' ks',II T c a d lo e io (flat (.nd a true es ks)) r F n m A F' es' ks') 1 ⟨es,ks,.inl rfl,rfl,rfl,s,rfl,nofun,λ_=>hn⟩ λn m A F' ⟨es',ks',hI⟩=>yU B k hT he sr IH hI hK
theorem yV(hT:3<=T/\T<=1000)(he:aQ F e):∀d,yR G F T d e io (k+d+9)
 | 0=>qM B k hT he λd' h=>(Nat.succ_ne_zero d' h.symm).elim
 | d+1=>qM B (k+(d+1)) hT he λd' h=>by cases h;exact yV hT he d
end
theorem Ent.pk(is:List Nat)(hp:pick is A=some (B,R))(e:Ent F B B'):Ent F A (B'++R):=λls h=>by
 obtain⟨l1,l2,p,g1,g2⟩:=jr hp h
 obtain⟨l3,h3,p3⟩:=e l1 g1
 exact⟨l3++l2,h3.app g2,by rw[Rb];exact p.trans (p3.append_right _)⟩
def Pk(F:CL)(A:List Th)(l:CL):Prop:=∃ls,Al F A ls/\l=ls.flatten
theorem pack(A:List Th):jw F A (Pk F A) λl=>[.raw l]:=λls h=>⟨ls.flatten,⟨ls,h,rfl⟩,[ls.flatten],⟨rfl,trivial⟩,List.Perm.of_eq (aG _).symm⟩
theorem Pk.un(h:Pk F A l):Ent F [.raw l] A:=rY λx hx=>by
 obtain⟨ls,h1,h2⟩:=h
 have hx:x=l:=hx
 exact⟨ls,h1,List.Perm.of_eq (hx.trans h2)⟩
def dF{β:Type}(F:CL)(A:List Th)(p:β->Prop)(A':β->List Th):Prop:=∀H,Sat A F H->∃x,p x/\Sat (A' x) F H
theorem dF.fin(x:β)(h:p x)(w:Vw F A (A' x)):dF F A p A':=λH S=>⟨x,h,w H S⟩
theorem dF.bT(is:List Nat)(hp:pick is A=some (B,R))(e:jw F B p2 B')(h:∀b,p2 b->dF F (B' b++R) p A'):dF F A p A':=λH S=>by
 obtain⟨l1,l2,g1,g2,g3⟩:=fU hp S
 obtain⟨b,hb,l3,s1,s2⟩:=e l1 g1
 exact h b hb H (iw s1 g2 (g3.perm (s2.append_right _)))
theorem aL.Qk(hB:HW Γ' Γ f b)(h:∀(r:CL) (K:KS),(∀fl m A1,dF F A1 (λx=>p x/\fl.val=v x) (λx=>A' x++[.raw r])->K fl m A1 F)->aj Γ' [b] (iU (cU f) us) (A++[.raw r]) F K):aL Γ f us A F p v A':=λr H Q X S q=>by
 refine hB us H Q X ?_
 have e:b=[b].flatten:=(Rx b).symm
 rw[e]
 refine h r (λfl _ A1 F1=>F1=F/\dF F A1 (λx=>p x/\fl.val=v x) (λx=>A' x++[.raw r])) (λfl m A1 h=>⟨rfl,h⟩) H _ _ S λfl m' A1 F1 H' k S'=>?_
 obtain⟨e2,k⟩:=k
 rw[e2] at S'
 obtain⟨x,⟨h1,h2⟩,h3⟩:=k H' S'
 show Q fl.val H'
 rw[h2]
 exact q _ _ h1 h3
structure Pr where
 q:Nat
 g:Nat
 i:Nat
 nd:Nat
 le:Nat
 lc:Nat
 lf:Bool
 es:List E
 ks:List Nat
 l:CL
 e:E
 A:List E
 B:List E
structure Pu(F:CL)(T c a d lo:Nat)(key:Int)(fs:List E)(x:Pr):Prop where
 at_:x.es[x.i]?=some x.e
 k:x.e.k=key
 fs:fs=x.A++x.e::x.B
 w:cO key x.A x.B
 cls:∀e,∃es ks,Ent F [.k true (.nd x.g x.nd x.le x.lc T c x.lf (x.es.set x.i e) x.ks),.raw x.l] [.tr T c (.nd a true es ks)]/\Sh T d lo (.nd a true es ks)/\flat (.nd a true es ks)=x.A++e::x.B
def NK(G:Nat->bI)(F:CL)(T c d:Nat)(key:Int)(κ:Nat):Prop:=∀{lo a:Nat} {es:List E} {ks:List Tr},Sh T d lo (.nd a true es ks)->bw (fl es ks)->bR key (fl es ks)≠none ->
 aL (G κ) 9 [.ref a,.int key] [.tr T c (.nd a true es ks)] F (Pu F T c a d lo key (fl es ks)) (λx=>.ref x.q) λx=>[.k true (.ce x.q (.tup [.ref x.g,.int x.i])),.k true (.nd x.g x.nd x.le x.lc T c x.lf x.es x.ks),.raw x.l]
section
variable{G:Nat->bI}(B:bD G)(k:Nat){F:CL}{T c a d lo:Nat}{key:Int}
include B
theorem uE(hT:3<=T/\T<=1000)(IH:∀d',d=d'+1->NK G F T c d' key (k+6)):NK G F T c d key (k+7):=λ{lo a es ks} s sr hf=>by
 refine aL.Qk (B (k+6) 9 c9 rfl) λr K hK=>?_
 show aj (G (k+6)) [c9] [(0,.ref a),(42,.int key)] [.tr T c (.nd a true es ks),.raw r] F K
 have se:=eG sr
 refine aj.bT [0] rfl (aR a true es ks) λy ho=>?_
 have ey:=ho.y rfl
 rw[ey] at ho |-
 cases hh:hit key es with
 | true =>
  obtain⟨e0,q1,q2,A,B',w,h3,h4⟩:=kI s.ks sr hh
  refine aj.bT [1] rfl (pack [.trs T c ks]) λl hl=>?_
  refine aj.rn (ao B (k+3)) [oI 1,oI 1,oI 0,oB true] (p:=Yr a/\Yr a/\bw es/\∀(p:Nat),Yr p/\hit key es=true/\∀(q:Nat),K (.ret (.ref q)) [(0,.ref a),(42,.int key),(123,.int (pos key es)),(125,.bool (hit key es))] [zT q [.ref a,.int (pos key es)],zT p [.int (pos key es),.bool (hit key es)],.raw l,zN a y.d y.le y.lc T c (List.isEmpty ks) es (ks.map Tr.a),.raw r] F) ?_
  exact⟨rfl,rfl,se,λ_=>⟨rfl,hh,λq=>hK _ _ _ (dF.fin ⟨q,a,pos key es,y.d,y.le,y.lc,ks.isEmpty,es,ks.map Tr.a,l,e0,A,B'⟩
   ⟨⟨q1,q2,h3,w,λe=>⟨_,_,(Ent.app (A:=[.k true _]) (Ent.refl _ _) hl.un).trans (aD ho rfl rfl),yQ (by simp) s,by rw[aq,h4]⟩⟩,rfl⟩ (Vw.keep [0,2,1,1] rfl))⟩⟩
 | false =>
  cases d with
  | zero =>
   obtain⟨rfl,_⟩:=s
   obtain⟨el,er,rfl,_,w⟩:=dD se hh
   rw[aN,w.qD] at hf
   exact absurd rfl hf
  | succ d =>
   obtain⟨el,er,kl,t,kr,rfl,rfl,h3,h4,h5,w,w2⟩:=jz sr hh s.1
   rw[bB _ _ _ h4,w2.bR] at hf
   have st:=oJ h4 sr
   obtain⟨b,o,aB,aF⟩:=t
   have s1:Sh T d (T - 1) (.nd b o aB aF):=s.2.2 _ (by simp)
   have hi:(pos key (el++er):Int)=(kl.map Tr.a).length:=by rw[Rt];lia
   rw[aX,<-bG]
   refine aj.pk [1] rfl (fH kl kr (.nd b o aB aF)) ?_
   refine aj.rn (ao B (k+3)) [oI 2,oI 2,oI 0,oB false,oI 3,oB false,oI 3] (p:=Yr a/\Yr a/\bw (el++er)/\∀(p:Nat),Yr p/\hit key (el++er)=false/\Yr a/\false=false/\Yr a/\au (G (k+6)) 8 [.ref a,.int (↑(pos key (el++er)):Int)] [zT p [.int (↑(pos key (el++er)):Int),.bool (hit key (el++er))],.tr T c (Tr.nd b o aB aF),.trs T c (kl++kr),zN a y.d y.le y.lc T c false (el++er) (List.map Tr.a kl++b::List.map Tr.a kr),.raw r] F (bF (G (k+6)) 127 [c9d_1,[],[]] [(0,.ref a),(42,.int key),(123,.int (↑(pos key (el++er)):Int)),(125,.bool (hit key (el++er)))] K)) ?_
   refine⟨rfl,rfl,se,λq0=>⟨rfl,hh,rfl,rfl,rfl,au.call [3,1] rfl (gV (ka:=kl.map Tr.a) B k F ho.cr hi hT.1 (s1.sz hT.2)) λq _=>?_⟩⟩
   refine aj.rn (ao B (k+3)) [oI 1] (p:=Yr q/\au (G (k+6)) 9 [.ref q,.int key] [zN a y.d y.le y.lc T c false (el++er) (List.map Tr.a kl++q::List.map Tr.a kr),.tr T c (Tr.nd q true aB aF),zT q0 [.int (↑(pos key (el++er)):Int),.bool (hit key (el++er))],.trs T c (kl++kr),.raw r] F (dY [(0,.ref a),(42,.int key),(123,.int (↑(pos key (el++er)):Int)),(125,.bool (hit key (el++er))),(127,.ref q)] K)) ?_
   refine⟨rfl,au.call [1] rfl (IH d rfl (jc s1) (by rw[<-aq b o];exact st) (by rw[<-aq b o];exact hf)) λx hx=>?_⟩
   refine hK _ _ _ (dF.bT [2,2,3] rfl (pack [.raw x.l,.k true (.nd a y.d y.le y.lc T c false (el++er) (kl.map Tr.a++q::kr.map Tr.a)),.trs T c (kl++kr)]) λl hl=>dF.fin ⟨x.q,x.g,x.i,x.nd,x.le,x.lc,x.lf,x.es,x.ks,l,x.e,fj el kl++x.A,x.B++gF er kr⟩ ⟨⟨hx.at_,hx.k,?_,⟨λy hy=>(Ry.mp hy).elim (w2.1 y) (hx.w.1 y),λy hy=>(Ry.mp hy).elim (hx.w.2 y) (w2.2 y)⟩,λe=>?_⟩,rfl⟩ (Vw.keep [1,1,0,1] rfl))
   ·rw[bB _ _ _ h4,aq,hx.fs];simp
   ·obtain⟨es,ks,g1,g2,g3⟩:=hx.cls e
    refine⟨el++er,kl++.nd q true es ks::kr,?_,jV s g2,by rw[bh h4,g3];simp⟩
    refine(Ent.app (A:=[.k true _]) (Ent.refl _ _) hl.un).trans ((Ent.pk [0,0] rfl g1).trans ((Ent.pk [0,1] rfl (eE kl kr (.nd q true es ks))).trans ((Ent.pk [1,0] rfl (aD (ks:=kl++.nd q true es ks::kr) ho aX.symm bG)).trans (Ent.refl _ _))))
theorem Fw(hT:3<=T/\T<=1000):∀d,NK G F T c d key (k+d+7)
 | 0=>uE B k hT λd' h=>(Nat.succ_ne_zero d' h.symm).elim
 | d+1=>uE B (k+(d+1)) hT λd' h=>by cases h;exact Fw hT d
end
structure Dq(T a d lo:Nat)(key:Int)(fs:List E)(x:List E × List Tr):Prop where
 sh:Sh T d lo (.nd a true x.1 x.2)
 fl:flat (.nd a true x.1 x.2)=jT key fs
def sU(G:Nat->bI)(F:CL)(T c d κ:Nat):Prop:=∀{lo a:Nat} {key:Int} {es:List E} {ks:List Tr} {pv:V},Sh T d lo (.nd a true es ks)->bw (fl es ks)->(lo<es.length\/lo=0/\d=0)->(pv=.none\/(∃p,pv=.ref p)/\T<=es.length) ->
 aL (G κ) 21 [.ref a,.int key,pv,.none] [.tr T c (.nd a true es ks)] F (Dq T a d lo key (fl es ks)) (λ_=>vO (bR key (fl es ks))) λx=>[.tr T c (.nd a true x.1 x.2)]
theorem aj.NP{Γ:bI}{F:CL}{A:List Th}{m:Loc}{r:List CS}{rs:lM}{K:KS}{x y:Nat}{e:CE}(h:gR Γ e m A F λv A1 F1=>∃q u w,v=.ref q/\(∀H,Sat A1 F1 H->H q=some (.tup [u,w]))/\aj Γ (r::rs) (put (put m x u) y w) A1 F1 K):aj Γ ((.asg (.tup [.var x,.var y]) e::r)::rs) m A F K:=λH Q X S q=>by
 refine⟨m,Le.refl _,?_⟩
 show DE Γ m e H (λv H=>DT Γ (.tup [.var x,.var y]) v m H (λm H=>gH Γ (r++rs.flatten) m H Q X) X) λx H=>X x m H
 refine h H _ _ S λv A1 F1 H1 k S1=>?_
 obtain⟨p,u,w,ev,h1,h2⟩:=k
 rw[ev]
 show(match H1 p with|some (.tup vs)=>_|_=>False)
 rw[h1 H1 S1]
 exact⟨rfl,h2 H1 Q X S1 q⟩
theorem yW{el er:List E}{e0 e1:E}{kl kr:List Tr}{t0 u:Tr}(hel:el.length=kl.length)(hs:bw (fl (el++e0::er) (kl++t0::u::kr)))(h:e1∈flat u)(hk:er.length=kr.length):cO e1.k (el++[e0]) er:=by
 have se:=eG hs
 have h1:e0.k<e1.k:=qH hel hs h
 refine⟨λx hx=>?_,λx hx=>?_⟩
 ·rcases Ry.mp hx with hx|hx
  ·exact Int.lt_trans ((bN se).1 x hx) h1
  ·rw[Rf.mp hx];exact h1
 ·cases er with
  | nil=>cases hx
  | cons e2 er=>cases kr with
   | nil=>cases hk
   | cons g kr =>
    have h2:e1.k<e2.k:=uy (el:=el++[e0]) (kl:=kl++[t0]) (b:=u) (g:=g) (kr:=kr) (er:=er) (by rw[Rd,Rd,hel];rfl) (by rw[dJ,dJ];exact hs) h
    rcases RJ.mp hx with rfl|hx
    ·exact h2
    ·exact Int.lt_trans h2 ((bN (A:=el++[e0]) (e:=e2) (B:=er) (by rw[dJ];exact se)).2 x hx)
section
variable{G:Nat->bI}(B:bD G)(k:Nat){F:CL}{T c a d d0 le lc lo:Nat}{key:Int}{es:List E}{as:List Nat}{A:List Th}{lf:Bool}{pv:V}{K:KS}
include B
theorem uF(hT:3<=T/\T<=1000)(hp:pv=.none\/(∃p,pv=.ref p)/\T<=es.length)(h:aj (G (k+8)) [c21_1] [(0,.ref a),(42,.int key),(133,pv),(134,.none)] (.k true (.nd a d0 le lc T c lf es as)::A) F K) :
  aj (G (k+8)) [c21] [(0,.ref a),(42,.int key),(133,pv),(134,.none)] (.k true (.nd a d0 le lc T c lf es as)::A) F K:=by
 rcases hp with rfl|⟨⟨p,rfl⟩,hn⟩
 ·refine aj.run (ao B (k+5)) [oB true,bM] ?_
  refine xc (p:=Yt/\Yt/\aj (G (k+5+3)) [c21_1] [(0,.ref a),(42,.int key),(133,.none),(134,.none)] (zN a d0 le lc T c lf es as::A) F K) ?_
  exact⟨rfl,rfl,h⟩
 ·refine aj.run (ao B (k+5)) [oB false,oI 0,oI 0,bM] ?_
  refine xc (p:=false=false/\Yr a/\Yr a/\(T<=1000/\(↑T:Int) - 1<=(↑es.length:Int))/\(!decide ((↑es.length:Int)=(↑T:Int) - 1))=true/\aj (G (k+5+3)) [c21_1] [(0,.ref a),(42,.int key),(133,.ref p),(134,.none)] (zN a d0 le lc T c lf es as::A) F K) ?_
  exact⟨rfl,rfl,rfl,⟨hT.2,by lia⟩,by rw[Rr (by lia)];rfl,h⟩
theorem yX(hT:3<=T/\T<=1000):sU G F T c 0 (k+9):=λ{lo a key es ks pv} s sr hlo hp=>by
 refine aL.of (B (k+8) 21 c21 rfl) λr K hK=>?_
 show aj (G (k+8)) [c21] [(0,.ref a),(42,.int key),(133,pv),(134,.none)] [.tr T c (.nd a true es ks),.raw r] F K
 have z:=Ft hT.2 s
 obtain⟨rfl,s1⟩:=s
 rw[aN] at sr hK
 refine aj.bT [0] rfl (aR a true es []) λy ho=>?_
 have ey:=ho.y rfl
 rw[ey] at ho |-
 refine uF B k hT hp ?_
 cases hh:hit key es with
 | true =>
  obtain⟨el,e0,er,rfl,h2,h3,h4⟩:=iB hh
  have w:cO key el er:=h3▸bN sr
  have hp':(pos key (el++e0::er):Int)=el.length:=by rw[h2]
  refine aj.rn (ao B (k+5)) [oI 0,oI 0,oI 0,oB true,oB false,oB false,oI 1,oB true,oI 1,oE 1,oE 1,Hl e0 (el++er)] (p:=Yr a/\Yr a/\bw (el++e0::er)/\∀(p:Nat),Yr p/\hit key (el++e0::er)=true/\false=false/\false=false/\Yr a/\Yt/\Yr a/\Yr y.le/\Yr y.le/\(el++e0::er).length<=1000000/\cM (el++e0::er) [V.int (↑(pos key (el++e0::er)):Int)]=some (e0,el++er)/\K (.ret e0.r) [(0,.ref a),(42,.int key),(133,pv),(134,.none),(123,.int (↑(pos key (el++e0::er)):Int)),(125,.bool (hit key (el++e0::er))),(135,.none)] [zT p [.int (↑(pos key (el++e0::er)):Int),.bool (hit key (el++e0::er))],zN a y.d y.le y.lc T c true (el++er) (List.map Tr.a []),.trs T c [],.raw r] F) ?_
  refine⟨rfl,rfl,sr,λ_=>⟨rfl,hh,rfl,rfl,rfl,rfl,rfl,rfl,rfl,by lia,qK hp',hK (el++er,[]) _ _ _ ⟨⟨rfl,by simp at s1 hlo |-;lia,by simp at s1 hlo |-;lia⟩,by rw[aq,aN,w.CZ h3]⟩ (by rw[w.jU h3];rfl) (Vw.fin [1,1] rfl (aD (ks:=[]) ho rfl rfl) [0,1] rfl)⟩⟩
 | false =>
  obtain⟨el,er,rfl,_,w⟩:=dD sr hh
  have wd:=w.del (M:=[])
  refine aj.rn (ao B (k+5)) [oI 0,oI 0,oI 0,oB false,oI 1,oB true,oB false] (p:=Yr a/\Yr a/\bw (el++er)/\∀(p:Nat),Yr p/\hit key (el++er)=false/\Yr a/\Yt/\false=false/\K (.ret V.none) [(0,.ref a),(42,.int key),(133,pv),(134,.none),(123,.int (↑(pos key (el++er)):Int)),(125,.bool (hit key (el++er))),(135,.none)] [zT p [.int (↑(pos key (el++er)):Int),.bool (hit key (el++er))],zN a y.d y.le y.lc T c true (el++er) (List.map Tr.a []),.trs T c [],.raw r] F) ?_
  exact⟨rfl,rfl,sr,λ_=>⟨rfl,hh,rfl,rfl,rfl,hK (el++er,[]) _ _ _ ⟨⟨rfl,s1⟩,by rw[aq,aN];exact wd.symm⟩ (by rw[w.qD];rfl) (Vw.fin [1,1] rfl (aD (ks:=[]) ho rfl rfl) [0,1] rfl)⟩⟩
def Tl(tl:Loc):Prop:=tl=[]\/∃u,tl=[(153,u)]
theorem jB{okey:V}{tl:Loc}{r:CL}{fs:List E}{b i:Nat}{z:Bool}{el er aB:List E}{kl kr aF:List Tr}(htl:Tl tl)(ho:Own F c c true)(s:Sh T (d+1) lo (.nd a true (el++er) (kl++.nd b true aB aF::kr)))(hf:flat (.nd a true (el++er) (kl++.nd b true aB aF::kr))=fs)(sr:bw fs)(hel:el.length=kl.length)(w:cO key el er)(hT:3<=T/\T<=1000)(hb:T<=aB.length)(IH:sU G F T c d (k+8))
  (hP:∀(i b:Nat) z x,Dq T a (d+1) lo key fs x->aj (G (k+8)) [c21_8] ((0,.ref a)::(42,.int key)::(133,pv)::(134,.none)::(123,.int i)::(125,.bool z)::(135,okey)::(tl++[(127,.ref b),(107,vO (bR key fs))])) [.tr T c (.nd a true x.1 x.2),.raw r] F K) :
  au (G (k+8)) 21 [.ref b,.int key,.ref a,.none] [.tr T c (.nd b true aB aF),.k true (.nd a d0 le lc T c false (el++er) (kl.map Tr.a++b::kr.map Tr.a)),.trs T c (kl++kr),.raw r] F (bF (G (k+8)) 107 [c21_8] ((0,.ref a)::(42,.int key)::(133,pv)::(134,.none)::(123,.int i)::(125,.bool z)::(135,okey)::(tl++[(127,.ref b)])) K):=by
 have her:er.length=kr.length:=by have h1:=s.1;simp only [Rd,Rn] at h1;lia
 have st:Sh T d (T - 1) (.nd b true aB aF):=s.2.2 _ (by simp)
 rw[bh hel] at hf
 have w2:cO key (fj el kl) (gF er kr):=ux w hel her (hf▸sr)
 have sk:bw (fl aB aF):=by
  rw[<-hf,aq] at sr
  exact(Ra.mp (Ra.mp sr).2.1).1
 rw[aq] at hf
 refine au.call [0] rfl (IH st sk (.inl (by lia)) (.inr ⟨⟨a,rfl⟩,hb⟩)) λx hx=>?_
 refine aj.pk [0,1] rfl (eE kl kr (.nd b true x.1 x.2)) (aj.pk [1,0] rfl (aD (ks:=kl++.nd b true x.1 x.2::kr) ho aX.symm bG) ?_)
 have hP:=hP i b z (el++er,kl++.nd b true x.1 x.2::kr) ⟨jV s hx.sh,by rw[bh hel,hx.fl,<-hf,w2.del]⟩
 rw[<-hf,w2.bR] at hP
 rcases htl with rfl|⟨u,rfl⟩<;>exact hP
theorem Dr{okey:V}{tl:Loc}{r:CL}{fs:List E}{b i:Nat}{z:Bool}{el er aB:List E}{kl kr aF:List Tr}(htl:Tl tl)(ho:Own F c c true)(s:Sh T (d+1) lo (.nd a true (el++er) (kl++.nd b true aB aF::kr)))(hf:flat (.nd a true (el++er) (kl++.nd b true aB aF::kr))=fs)(sr:bw fs)(hel:el.length=kl.length)(w:cO key el er)(hT:3<=T/\T<=1000)(hlo:lo<(el++er).length)(hi:i=kl.length)(IH:sU G F T c d (k+8))
  (hP:∀(i b:Nat) z x,Dq T a (d+1) lo key fs x->aj (G (k+8)) [c21_8] ((0,.ref a)::(42,.int key)::(133,pv)::(134,.none)::(123,.int i)::(125,.bool z)::(135,okey)::(tl++[(127,.ref b),(107,vO (bR key fs))])) [.tr T c (.nd a true x.1 x.2),.raw r] F K) :
  aj (G (k+8)) [c21_6] ((0,.ref a)::(42,.int key)::(133,pv)::(134,.none)::(123,.int i)::(125,.bool z)::(135,okey)::(tl++[(127,.ref b)])) [.tr T c (.nd b true aB aF),.k true (.nd a d0 le lc T c false (el++er) (kl.map Tr.a++b::kr.map Tr.a)),.trs T c (kl++kr),.raw r] F K:=by
 have st:Sh T d (T - 1) (.nd b true aB aF):=s.2.2 _ (by simp)
 have sl:=st.lo
 refine aj.bT [0] rfl (aR b true aB aF) λx hx=>?_
 have ex:=hx.y rfl
 rw[ex] at hx |-
 by_cases hm:aB.length=T - 1
 ·have bal:=Ig (c:=c) (F:=F) B k (x:=⟨el,er,kl,b,aB,aF,kr⟩) (i:=(i:Int)) (a:=a) (d:=d) (lo:=lo) (T:=T) (key:=key) ⟨hT,s,hlo,hel,w,hf▸sr,hm⟩ (by rw[hi])
  rcases htl with rfl|⟨u,rfl⟩
  ·refine aj.rn (ao B (k+5)) [oI 0,oI 0,oB true,oI 0] (p:=Yr b/\Yr b/\(T<=1000/\(↑T:Int) - 1<=(↑aB.length:Int))/\decide ((↑aB.length:Int)=(↑T:Int) - 1)=true/\Yr b/\au (G (k+8)) 20 [.ref b,.ref a,.int i] [zN b x.d x.le x.lc T c (List.isEmpty aF) aB (aF.map Tr.a),.trs T c aF,zN a d0 le lc T c false (el++er) (List.map Tr.a kl++b::List.map Tr.a kr),.trs T c (kl++kr),.raw r] F (bx (G (k+8)) [c21f_1,c21_7] [(0,.ref a),(42,.int key),(133,pv),(134,.none),(123,.int i),(125,.bool z),(135,okey),(127,.ref b)] K)) ?_
   refine⟨rfl,rfl,⟨hT.2,by lia⟩,RB (by lia),rfl,au.pk [0,0] rfl (aD hx rfl rfl) (au.pk [0,1] rfl (eE kl kr (.nd b true aB aF)) (au.pk [1,0] rfl (aD (ks:=kl++.nd b true aB aF::kr) ho aX.symm bG) (au.call [0] rfl bal λy hy=>?_)))⟩
   obtain⟨el',er',kl',b',bes',bks',kr'⟩:=y
   refine aj.bT [0] rfl (aR a true (el'++er') (kl'++.nd b' true bes' bks'::kr')) λy ho2=>aj.bT [1] rfl (jQ kl' kr' b' true bes' bks') λx2 hx2=>?_
   have e1:=ho2.y rfl
   have e2:=hx2.y rfl
   rw[e2] at hx2
   rw[e1,e2,aX,<-bG]
   obtain⟨hpos,hhit⟩:=jy hy.w
   have hT':T<=bes'.length:=hy.T
   have hne:el'.length=kl'.length:=hy.ne
   have hfl:flat (.nd a true (el'++er') (kl'++.nd b' true bes' bks'::kr'))=fs:=hy.fl.trans hf
   refine aj.rn (ao B (k+5)) [oI 3,oI 3,oI 0,oI 4,oK 4,on b',oI 1,oI 1,oI 1] (p:=Yr a/\Yr a/\bw (el'++er')/\∀(p:Nat),Yr p/\(!hit key (el'++er'))=true/\Yr a/\Yr y.lc/\idxV (List.map Tr.a kl'++b'::List.map Tr.a kr') (↑(pos key (el'++er')):Int)=some b'/\Yr b'/\Yr b'/\(T<=1000/\(↑T:Int) - 1<=(↑bes'.length:Int))/\(!decide ((↑bes'.length:Int)=(↑T:Int) - 1))=true/\Yr b'/\au (G (k+8)) 21 [.ref b',.int key,.ref a,.none] [zT p [.int (↑(pos key (el'++er')):Int),.bool (hit key (el'++er'))],zN b' x2.d x2.le x2.lc T c (List.isEmpty bks') bes' (bks'.map Tr.a),.trs T c bks',.trs T c (kl'++kr'),zN a y.d y.le y.lc T c false (el'++er') (List.map Tr.a kl'++b'::List.map Tr.a kr'),.raw r] F (bF (G (k+8)) 107 [c21_8] [(0,.ref a),(42,.int key),(133,pv),(134,.none),(123,.int (↑(pos key (el'++er')):Int)),(125,.bool (hit key (el'++er'))),(135,okey),(127,.ref b')] K)) ?_
   exact⟨rfl,rfl,eG (ks:=kl'++.nd b' true bes' bks'::kr') (by rw[<-aq a true,hfl];exact sr),λ_=>⟨rfl,by rw[hhit];rfl,rfl,rfl,bH (by rw[Rt,hpos,hne]),rfl,rfl,⟨hT.2,by lia⟩,by rw[Rr (by lia)];rfl,rfl,au.pk [1,1] rfl (aD hx2 rfl rfl) (au.vw (Vw.keep [0,2,1,1] rfl) (jB (r:=r) B k (.inl rfl) ho hy.sh hfl sr hne hy.w hT hT' IH hP))⟩⟩
  ·refine aj.rn (ao B (k+5)) [oI 0,oI 0,oB true,oI 0] (p:=Yr b/\Yr b/\(T<=1000/\(↑T:Int) - 1<=(↑aB.length:Int))/\decide ((↑aB.length:Int)=(↑T:Int) - 1)=true/\Yr b/\au (G (k+8)) 20 [.ref b,.ref a,.int i] [zN b x.d x.le x.lc T c (List.isEmpty aF) aB (aF.map Tr.a),.trs T c aF,zN a d0 le lc T c false (el++er) (List.map Tr.a kl++b::List.map Tr.a kr),.trs T c (kl++kr),.raw r] F (bx (G (k+8)) [c21f_1,c21_7] [(0,.ref a),(42,.int key),(133,pv),(134,.none),(123,.int i),(125,.bool z),(135,okey),(153,u),(127,.ref b)] K)) ?_
   refine⟨rfl,rfl,⟨hT.2,by lia⟩,RB (by lia),rfl,au.pk [0,0] rfl (aD hx rfl rfl) (au.pk [0,1] rfl (eE kl kr (.nd b true aB aF)) (au.pk [1,0] rfl (aD (ks:=kl++.nd b true aB aF::kr) ho aX.symm bG) (au.call [0] rfl bal λy hy=>?_)))⟩
   obtain⟨el',er',kl',b',bes',bks',kr'⟩:=y
   refine aj.bT [0] rfl (aR a true (el'++er') (kl'++.nd b' true bes' bks'::kr')) λy ho2=>aj.bT [1] rfl (jQ kl' kr' b' true bes' bks') λx2 hx2=>?_
   have e1:=ho2.y rfl
   have e2:=hx2.y rfl
   rw[e2] at hx2
   rw[e1,e2,aX,<-bG]
   obtain⟨hpos,hhit⟩:=jy hy.w
   have hT':T<=bes'.length:=hy.T
   have hne:el'.length=kl'.length:=hy.ne
   have hfl:flat (.nd a true (el'++er') (kl'++.nd b' true bes' bks'::kr'))=fs:=hy.fl.trans hf
   refine aj.rn (ao B (k+5)) [oI 3,oI 3,oI 0,oI 4,oK 4,on b',oI 1,oI 1,oI 1] (p:=Yr a/\Yr a/\bw (el'++er')/\∀(p:Nat),Yr p/\(!hit key (el'++er'))=true/\Yr a/\Yr y.lc/\idxV (List.map Tr.a kl'++b'::List.map Tr.a kr') (↑(pos key (el'++er')):Int)=some b'/\Yr b'/\Yr b'/\(T<=1000/\(↑T:Int) - 1<=(↑bes'.length:Int))/\(!decide ((↑bes'.length:Int)=(↑T:Int) - 1))=true/\Yr b'/\au (G (k+8)) 21 [.ref b',.int key,.ref a,.none] [zT p [.int (↑(pos key (el'++er')):Int),.bool (hit key (el'++er'))],zN b' x2.d x2.le x2.lc T c (List.isEmpty bks') bes' (bks'.map Tr.a),.trs T c bks',.trs T c (kl'++kr'),zN a y.d y.le y.lc T c false (el'++er') (List.map Tr.a kl'++b'::List.map Tr.a kr'),.raw r] F (bF (G (k+8)) 107 [c21_8] [(0,.ref a),(42,.int key),(133,pv),(134,.none),(123,.int (↑(pos key (el'++er')):Int)),(125,.bool (hit key (el'++er'))),(135,okey),(153,u),(127,.ref b')] K)) ?_
   exact⟨rfl,rfl,eG (ks:=kl'++.nd b' true bes' bks'::kr') (by rw[<-aq a true,hfl];exact sr),λ_=>⟨rfl,by rw[hhit];rfl,rfl,rfl,bH (by rw[Rt,hpos,hne]),rfl,rfl,⟨hT.2,by lia⟩,by rw[Rr (by lia)];rfl,rfl,au.pk [1,1] rfl (aD hx2 rfl rfl) (au.vw (Vw.keep [0,2,1,1] rfl) (jB (r:=r) B k (.inr ⟨u,rfl⟩) ho hy.sh hfl sr hne hy.w hT hT' IH hP))⟩⟩
 ·rcases htl with rfl|⟨u,rfl⟩
  ·refine aj.rn (ao B (k+5)) [oI 0,oI 0,oB false,oI 0] (p:=Yr b/\Yr b/\(T<=1000/\(↑T:Int) - 1<=(↑aB.length:Int))/\decide ((↑aB.length:Int)=(↑T:Int) - 1)=false/\Yr b/\au (G (k+8)) 21 [.ref b,.int key,.ref a,.none] [zN b x.d x.le x.lc T c (List.isEmpty aF) aB (aF.map Tr.a),.trs T c aF,zN a d0 le lc T c false (el++er) (List.map Tr.a kl++b::List.map Tr.a kr),.trs T c (kl++kr),.raw r] F (bF (G (k+8)) 107 [c21_8] [(0,.ref a),(42,.int key),(133,pv),(134,.none),(123,.int i),(125,.bool z),(135,okey),(127,.ref b)] K)) ?_
   exact⟨rfl,rfl,⟨hT.2,by lia⟩,Rr (by lia),rfl,au.pk [0,0] rfl (aD hx rfl rfl) (jB (r:=r) B k (.inl rfl) ho s hf sr hel w hT (by lia) IH hP)⟩
  ·refine aj.rn (ao B (k+5)) [oI 0,oI 0,oB false,oI 0] (p:=Yr b/\Yr b/\(T<=1000/\(↑T:Int) - 1<=(↑aB.length:Int))/\decide ((↑aB.length:Int)=(↑T:Int) - 1)=false/\Yr b/\au (G (k+8)) 21 [.ref b,.int key,.ref a,.none] [zN b x.d x.le x.lc T c (List.isEmpty aF) aB (aF.map Tr.a),.trs T c aF,zN a d0 le lc T c false (el++er) (List.map Tr.a kl++b::List.map Tr.a kr),.trs T c (kl++kr),.raw r] F (bF (G (k+8)) 107 [c21_8] [(0,.ref a),(42,.int key),(133,pv),(134,.none),(123,.int i),(125,.bool z),(135,okey),(153,u),(127,.ref b)] K)) ?_
   exact⟨rfl,rfl,⟨hT.2,by lia⟩,Rr (by lia),rfl,au.pk [0,0] rfl (aD hx rfl rfl) (jB (r:=r) B k (.inr ⟨u,rfl⟩) ho s hf sr hel w hT (by lia) IH hP)⟩
theorem qN{okey:V}{tl:Loc}{r:CL}{fs:List E}{i:Nat}{z:Bool}{el er:List E}{kl kr:List Tr}{b:Nat}{o:Bool}{aB:List E}{aF:List Tr}(htl:Tl tl)(ho:Own F c c true)(s:Sh T (d+1) lo (.nd a true (el++er) (kl++.nd b o aB aF::kr)))(hf:flat (.nd a true (el++er) (kl++.nd b o aB aF::kr))=fs)(sr:bw fs)(hel:el.length=kl.length)(w:cO key el er)(hT:3<=T/\T<=1000)(hlo:lo<(el++er).length)(hi:i=kl.length)(IH:sU G F T c d (k+8))
  (hP:∀(i b:Nat) z x,Dq T a (d+1) lo key fs x->aj (G (k+8)) [c21_8] ((0,.ref a)::(42,.int key)::(133,pv)::(134,.none)::(123,.int i)::(125,.bool z)::(135,okey)::(tl++[(127,.ref b),(107,vO (bR key fs))])) [.tr T c (.nd a true x.1 x.2),.raw r] F K) :
  au (G (k+8)) 8 [.ref a,.int i] [.k true (.nd a d0 le lc T c false (el++er) (kl.map Tr.a++b::kr.map Tr.a)),.tr T c (.nd b o aB aF),.trs T c (kl++kr),.raw r] F (bF (G (k+8)) 127 [c21_6] ((0,.ref a)::(42,.int key)::(133,pv)::(134,.none)::(123,.int i)::(125,.bool z)::(135,okey)::tl) K):=by
 have st:Sh T d (T - 1) (.nd b o aB aF):=s.2.2 _ (by simp)
 refine au.call [0,0] rfl (gV (ka:=kl.map Tr.a) B (k+2) F ho.cr (by rw[Rt,hi]) hT.1 (st.sz hT.2)) λq _=>?_
 have go:=Dr (r:=r) (i:=i) (z:=z) (okey:=okey) (tl:=tl) (d0:=d0) (le:=le) (lc:=lc) (b:=q) B k htl ho (jV s (jc st)) (by rw[bh hel,fV q b true o,<-bh (a:=a) (o:=true) hel];exact hf) sr hel w hT hlo hi IH hP
 refine aj.vw (Vw.keep [1,0,0,0] rfl) ?_
 rcases htl with rfl|⟨u,rfl⟩<;>exact go
theorem yZ{r:CL}{fs:List E}{i b:Nat}{z:Bool}{e1:E}{ks:List Tr}(he:aQ F e1)(gn:aL (G (k+8)) 9 [.ref a,.int key] [.tr T c (.nd a true es ks)] F (Pu F T c a d lo key fs) (λx=>.ref x.q) λx=>[.k true (.ce x.q (.tup [.ref x.g,.int x.i])),.k true (.nd x.g x.nd x.le x.lc T c x.lf x.es x.ks),.raw x.l])
  (hP:∀A e B es ks fl m A1,e.k=key->fs=A++e::B->cO key A B->Sh T d lo (.nd a true es ks)->flat (.nd a true es ks)=A++e1::B->fl.val=e.r->Vw F A1 ([.tr T c (.nd a true es ks)]++[.raw r])->K fl m A1 F) :
  aj (G (k+8)) [c21_8] [(0,.ref a),(42,.int e1.k),(133,pv),(134,.none),(123,.int i),(125,.bool z),(135,.int key),(153,e1.r),(127,.ref b),(107,e1.r)] [.tr T c (.nd a true es ks),.raw r] F K:=by
 refine aj.run (ao B (k+5)) [oB true,bM] ?_
 refine xc (p:=Yt/\aj (G (k+5+3)) [c21g,c21_9] [(0,.ref a),(42,.int e1.k),(133,pv),(134,.none),(123,.int i),(125,.bool z),(135,.int key),(153,E.r e1),(127,.ref b),(107,E.r e1)] [.tr T c (Tr.nd a true es ks),.raw r] F K) ?_
 refine⟨rfl,aj.NP (gR.run (ao B (k+5)) [oI 0] ?_)⟩
 refine xc (p:=Yr a/\au (G (k+5+3)) 9 [.ref a,.int key] [.tr T c (Tr.nd a true es ks),.raw r] F λv A F=>∃(q:Nat),∃(u:V),∃(w:V),v=.ref q/\(∀(H:AH),Sat A F H->H q=some (Cell.tup [u,w]))/\aj (G (k+5+3)) [c21g_1,c21_9] (put (put [(0,.ref a),(42,.int e1.k),(133,pv),(134,.none),(123,.int i),(125,.bool z),(135,.int key),(153,E.r e1),(127,.ref b),(107,E.r e1)] 100 u) 123 w) A F K) ?_
 refine⟨rfl,au.call [0] rfl gn λx hx=>⟨_,_,_,rfl,λH S=>(S.kd (n:=0) rfl).1 _ (.head _),?_⟩⟩
 have lt:x.i<x.es.length:=(QJ.mp hx.at_).1
 obtain⟨es3,ks3,g1,g2,g3⟩:=hx.cls e1
 refine aj.rn (ao B (k+5)) [oI 1,oE 1,oe (Pr.e x),oI 1,oE 1,oX e1] (p:=Yt/\Yt/\Yr x.g/\Yr x.le/\idxV x.es (↑x.i:Int)=some x.e/\Yr x.g/\Yr x.le/\((0<=(↑x.i:Int)/\(↑x.i:Int)<(↑x.es.length:Int))/\E.r e1=E.r e1/\aQ F e1)/\K (.ret x.e.r) [(0,.ref a),(42,.int e1.k),(133,pv),(134,.none),(123,.int x.i),(125,.bool z),(135,.int key),(153,E.r e1),(127,.ref b),(107,E.r x.e),(100,.ref x.g),(139,E.r x.e)] [zT x.q [.ref x.g,.int x.i],zN x.g x.nd x.le x.lc T c x.lf (List.set x.es (Int.toNat (↑x.i:Int)) e1) x.ks,.raw x.l,.raw r] F) ?_
 exact⟨rfl,rfl,rfl,rfl,bU hx.at_,rfl,rfl,⟨⟨by lia,by lia⟩,rfl,he⟩,hP x.A x.e x.B es3 ks3 _ _ _ hx.k hx.fs hx.w g2 g3 rfl (Vw.fin [1,1] rfl g1 [0,1] rfl)⟩
theorem za(hT:3<=T/\T<=1000)(IH:sU G F T c d (k+d+9)):sU G F T c (d+1) (k+d+10):=λ{lo a key es ks pv} s sr hlo hp=>by
 refine aL.of (B (k+d+9) 21 c21 rfl) λr K hK=>?_
 show aj (G (k+d+9)) [c21] [(0,.ref a),(42,.int key),(133,pv),(134,.none)] [.tr T c (.nd a true es ks),.raw r] F K
 have se:=eG sr
 have hlo:lo<es.length:=hlo.elim id λh=>absurd h.2 (Nat.succ_ne_zero d)
 refine aj.bT [0] rfl (aR a true es ks) λy ho=>?_
 have ey:=ho.y rfl
 rw[ey] at ho |-
 refine uF B (k+d+1) hT hp ?_
 cases hh:hit key es with
 | true =>
  obtain⟨el,e0,er,rfl,h2,h3,h4⟩:=iB hh
  have hks:=s.1
  obtain⟨kl,t0,u,kr,rfl,hj⟩:∃kl t u kr,ks=kl++t::u::kr/\kl.length=el.length:=by
   have h5:el.length+1<ks.length:=by rw[hks,Rd,Rn];lia
   refine⟨ks.take el.length,ks[el.length],ks[el.length+1],ks.drop (el.length+2),?_,by rw[Rp];lia⟩
   rw[<-QH,<-QH,Q0]
  have her:er.length=kr.length:=by simp only [Rd,Rn] at hks;lia
  obtain⟨b,o,aB,aF⟩:=u
  obtain⟨e1,fr,f0,mn⟩:=H8 (F:=F) (c:=c) B hT.1 (s.2.2 (.nd b o aB aF) (by simp)) (by lia) (k+5)
  have hw:=yW hj.symm sr (e1:=e1) (by rw[f0];exact .head _) her
  have hl:fl (el++e0::er) (kl++t0::.nd b o aB aF::kr)=(fj el kl++flat t0)++e0::(e1::(fr++gF er kr)):=by rw[jA hj.symm,f0];simp
  have gn:=@Fw G B (k+1) F T c key hT (d+1) lo a
  have k1:k+5+d+4=k+d+9:=by lia
  have k2:k+1+(d+1)+7=k+d+9:=by lia
  rw[k1] at mn
  rw[k2] at gn
  generalize fj el kl++flat t0=A at hl
  generalize fr++gF er kr=B' at hl
  have s0:bw (A++e0::(e1::B')):=hl▸sr
  have s1:bw ((A++[e0])++e1::B'):=by rw[dJ];exact s0
  have w0:cO key A (e1::B'):=h3▸bN s0
  have w1:cO e1.k (A++[e0]) B':=bN s1
  have wB:cO key A B':=⟨w0.1,λy hy=>w0.2 y (.tail _ hy)⟩
  have d1:jT e1.k ((A++[e0])++e1::B')=A++e0::B':=by rw[w1.CZ rfl,dJ]
  have f1:bR e1.k ((A++[e0])++e1::B')=some e1:=w1.jU rfl
  rw[dJ] at d1 f1
  have v1:vO (bR key (A++e0::(e1::B')))=e0.r:=by rw[w0.jU h3];rfl
  have d0:jT key (A++e0::(e1::B'))=A++e1::B':=w0.CZ h3
  have sn:bw (A++e0::B'):=s0.sublist ((List.Sublist.refl A).append ((List.sublist_cons_self e1 B').cons₂ e0))
  have hp':((pos key (el++e0::er):Nat):Int)+1=(((kl++[t0]).length:Nat):Int):=by rw[<-h2,Rd,Q5];lia
  have fs:=aq a true (el++e0::er) (kl++t0::.nd b o aB aF::kr)
  rw[hl] at fs
  rw[hl] at hK
  rw[<-dJ el] at s fs hlo hh se hp' hp
  rw[<-dJ kl] at s fs
  rw[<-dJ el,<-dJ kl]
  rw[aX,<-bG]
  refine aj.pk [1] rfl (fH (kl++[t0]) kr (.nd b o aB aF)) ?_
  refine aj.rn (ao B (k+d+6)) [oI 2,oI 2,oI 0,oB true,oB false,oB false,oI 3,oB false,oI 3,oK 3,on b,oI 1] (p:=Yr a/\Yr a/\bw (el++[e0]++er)/\∀(p:Nat),Yr p/\hit key (el++[e0]++er)=true/\false=false/\false=false/\Yr a/\false=false/\Yr a/\Yr y.lc/\idxV ((kl++[t0]).map Tr.a++b::List.map Tr.a kr) ((↑(pos key (el++[e0]++er)):Int)+1)=some b/\Yr b/\au (G (k+d+1+8)) 18 [.ref b] [zT p [.int (↑(pos key (el++[e0]++er)):Int),.bool (hit key (el++[e0]++er))],.tr T c (Tr.nd b o aB aF),.trs T c (kl++[t0]++kr),zN a y.d y.le y.lc T c false (el++[e0]++er) ((kl++[t0]).map Tr.a++b::List.map Tr.a kr),.raw r] F (bF (G (k+d+1+8)) 153 [c21a_5,c21_4] [(0,.ref a),(42,.int key),(133,pv),(134,.none),(123,.int (↑(pos key (el++[e0]++er)):Int)),(125,.bool (hit key (el++[e0]++er))),(135,.int key)] K)) ?_
  refine⟨rfl,rfl,se,λq0=>⟨rfl,hh,rfl,rfl,rfl,rfl,rfl,rfl,bH (by rw[hp',Rt]),rfl,au.call [1] rfl mn λ_ he=>?_⟩⟩
  refine aj.rn (ao B (k+d+6)) [oe e1,oI 3,oB false,oI 3] (p:=(E.r e1=E.r e1/\aQ F e1)/\Yr a/\false=false/\Yr a/\au (G (k+d+1+8)) 8 [.ref a,.int ((↑(pos key (el++[e0]++er)):Int)+1)] [.tr T c (Tr.nd b o aB aF),zT q0 [.int (↑(pos key (el++[e0]++er)):Int),.bool (hit key (el++[e0]++er))],.trs T c (kl++[t0]++kr),zN a y.d y.le y.lc T c false (el++[e0]++er) ((kl++[t0]).map Tr.a++b::List.map Tr.a kr),.raw r] F (bF (G (k+d+1+8)) 127 [c21_6] [(0,.ref a),(42,.int e1.k),(133,pv),(134,.none),(123,.int ((↑(pos key (el++[e0]++er)):Int)+1)),(125,.bool (hit key (el++[e0]++er))),(135,.int key),(153,E.r e1)] K)) ?_
  rw[hp']
  refine⟨⟨rfl,he⟩,rfl,rfl,rfl,au.vw (Vw.keep [3,0,1,1] rfl) (qN (tl:=[(153,e1.r)]) (okey:=.int key) (r:=r) B (k+d+1) (.inr ⟨_,rfl⟩) ho s fs s0 (by rw[Rd,Rd,hj];rfl) hw hT hlo rfl IH λi b z x hx=>?_)⟩
  have hfl:fl x.1 x.2=A++e0::B':=by rw[<-aq a true,hx.fl,d1]
  have gx:=gn hx.sh (by rw[hfl];exact sn) (by rw[hfl,wB.jU h3];exact nofun)
  rw[hfl] at gx
  rw[f1]
  exact yZ (r:=r) B (k+d+1) he gx λA2 e2 B2 es2 ks2 fl m A1 q1 q2 q3 q4 q5 q6 v=>by
   obtain⟨rfl,rfl,rfl⟩:=yx wB q3 h3 q1 q2
   exact hK (es2,ks2) fl m A1 ⟨q4,q5.trans d0.symm⟩ (q6.trans v1.symm) v
 | false =>
  obtain⟨el,er,kl,t,kr,rfl,rfl,h3,h4,h5,w,w2⟩:=jz sr hh s.1
  obtain⟨b,o,aB,aF⟩:=t
  rw[aX,<-bG]
  refine aj.pk [1] rfl (fH kl kr (.nd b o aB aF)) ?_
  refine aj.rn (ao B (k+d+6)) [oI 2,oI 2,oI 0,oB false,oI 3,oB false,oI 3] (p:=Yr a/\Yr a/\bw (el++er)/\∀(p:Nat),Yr p/\hit key (el++er)=false/\Yr a/\false=false/\Yr a/\au (G (k+d+1+8)) 8 [.ref a,.int (↑(pos key (el++er)):Int)] [zT p [.int (↑(pos key (el++er)):Int),.bool (hit key (el++er))],.tr T c (Tr.nd b o aB aF),.trs T c (kl++kr),zN a y.d y.le y.lc T c false (el++er) (List.map Tr.a kl++b::List.map Tr.a kr),.raw r] F (bF (G (k+d+1+8)) 127 [c21_6] [(0,.ref a),(42,.int key),(133,pv),(134,.none),(123,.int (↑(pos key (el++er)):Int)),(125,.bool (hit key (el++er))),(135,.none)] K)) ?_
  refine⟨rfl,rfl,se,λq0=>⟨rfl,hh,rfl,rfl,rfl,au.vw (Vw.keep [3,1,1,1] rfl) (qN (tl:=[]) (r:=r) B (k+d+1) (.inl rfl) ho s rfl (by rw[aq];exact sr) h4 w hT hlo (by rw[<-h3,h4]) IH λi b1 z x hx=>?_)⟩⟩
  show aj (G (k+d+9)) [c21_8] [(0,.ref a),(42,.int key),(133,pv),(134,.none),(123,.int i),(125,.bool z),(135,.none),(127,.ref b1),(107,vO (bR key (flat (.nd a true (el++er) (kl++_::kr)))))] [.tr T c (.nd a true x.1 x.2),.raw r] F K
  rw[aq] at hx |-
  refine aj.rn (ao B (k+d+6)) [oB false] (p:=false=false/\K (.ret (vO (bR key (fl (el++er) (kl++Tr.nd b o aB aF::kr))))) [(0,.ref a),(42,.int key),(133,pv),(134,.none),(123,.int i),(125,.bool z),(135,.none),(127,.ref b1),(107,vO (bR key (fl (el++er) (kl++Tr.nd b o aB aF::kr))))] [.tr T c (Tr.nd a true x.1 x.2),.raw r] F) ?_
  exact⟨rfl,hK x _ _ _ hx rfl (Vw.refl _ _)⟩
theorem zc(hT:3<=T/\T<=1000):∀d,sU G F T c d (k+d+9)
 | 0=>yX B k hT
 | d+1=>za B k hT (zc hT d)
end
section
variable{F F':CL}(h:∀p∈F,p∈F')
include h
theorem aQ.mono(k:aQ F e):aQ F' e:=by
 obtain⟨d,k⟩:=k
 exact⟨d,λp hp=>h p (k p hp)⟩
theorem cI.mono(k:cI F c):cI F' c:=by
 obtain⟨d,k⟩:=k
 exact⟨d,λp hp=>h p (k p hp)⟩
theorem qO(k:J3 F w t l):J3 F' w t l:=by
 obtain⟨k1,k2⟩:=k
 refine⟨?_,?_⟩
 ·cases w with
  | true=>exact k1
  | false=>exact⟨k1.1,λp hp=>h p (k1.2 p hp)⟩
 ·cases t with
  | nd=>exact λe he=>(k2 e he).mono h
  | _=>trivial
theorem jW(t:Tr):∀{l:CL},tree F T c t l->tree F' T c t l:=by
 induction t using Tr.ind with
 | h a o es ks ih =>
  intro l k
  rw[eZ] at k |-
  obtain⟨d,le,lc,c',l1,l2,e,h2,h3,h4⟩:=k
  refine⟨d,le,lc,c',l1,l2,e,qO h h2,⟨h3.y,h3.n,h3.cr.mono h⟩,?_⟩
  clear h2 e
  induction ks generalizing l2 with
  | nil=>rw[dN] at h4 |-;exact h4
  | cons x r ih2 =>
   rw[aY] at h4 |-
   obtain⟨l3,l4,e,h5,h6⟩:=h4
   exact⟨l3,l4,e,ih x (.head _) h5,ih2 (λy hy=>ih y (.tail _ hy)) l4 h6⟩
theorem mz:∀{ks:List Tr} {l:CL},trees F T c ks l->trees F' T c ks l
 | [],l,k=>by rw[dN] at k |-;exact k
 | x::r,l,k=>by
  rw[aY] at k |-
  obtain⟨l1,l2,e,h1,h2⟩:=k
  exact⟨l1,l2,e,jW h x h1,mz h2⟩
theorem Ds(k:th F t l):th F' t l:=by
 cases t with
 | k w t=>exact qO h k
 | tr T c t=>exact jW h t k
 | trs T c ts=>exact mz h k
 | _=>exact k
theorem iD:∀{A:List Th} {ls:List CL},Al F A ls->Al F' A ls
 | [],[],k=>k
 | [],_::_,k=>k.elim
 | _::_,[],k=>k.elim
 | _::_,_::_,k=>⟨Ds h k.1,iD k.2⟩
end
theorem eO{X F:CL}:∀p∈F,p∈X++F:=λp hp=>QZ X hp
def qP{β:Type}(Γ:bI)(f:Nat)(us:List V)(A:List Th)(F:CL)(p:β->Prop)(v:β->V)(X:β->CL)(A':β->List Th):Prop:=∀(r:CL) (H:AH) (Q:QV) (Y:QX),Sat (A++[.raw r]) F H->(∀b H',p b->Sat (A' b++[.raw r]) (X b++F) H'->Q (v b) H')->Γ f us H Q Y
section
variable{Γ:bI}{A B R:List Th}{F:CL}{m:Loc}{rs:lM}{K:KS}
theorem au.nJ{β:Type}{f:Nat}{us:List V}{p:β->Prop}{v:β->V}{X:β->CL}{A':β->List Th}{K:KV}(is:List Nat)(hp:pick is A=some (B,R))(h:qP Γ f us B F p v X A')(k:∀b,p b->K (v b) (A' b++R) (X b++F)):au Γ f us A F K:=λH Q Y S q=>by
 obtain⟨l1,l2,g1,g2,g3⟩:=fU hp S
 refine h l2.flatten H Q Y (iw (l2:=[l2.flatten]) g1 ⟨rfl,trivial⟩ (by rw[aG];exact g3)) λb H' hb S'=>q _ _ _ _ (k b hb) ?_
 obtain⟨ls,s1,s2⟩:=S'
 obtain⟨l3,l4,rfl,s3,s4⟩:=s1.split
 refine uo (P:=λl4=>Holds H' ((l3++l4).flatten++(X b++F))->_) s4 (λx e s2=>?_) s2
 have e:x=l2.flatten:=e
 refine iw s3 (iD eO g2) ?_
 rw[Rb,aG,e,Rg] at s2
 exact s2
theorem aL.NQ(hB:HW Γ' Γ f b)(h:∀(r:CL) (K:KS),(∀x fl m A1,p x->fl.val=v x->Vw (X x++F) A1 (A' x++[.raw r])->K fl m A1 (X x++F))->aj Γ' [b] (iU (cU f) us) (A++[.raw r]) F K):qP Γ f us A F p v X A':=λr H Q Y S q=>by
 refine hB us H Q Y ?_
 have e:b=[b].flatten:=(Rx b).symm
 rw[e]
 refine h r (λfl _ A1 F1=>∃x,p x/\fl.val=v x/\F1=X x++F/\Vw (X x++F) A1 (A' x++[.raw r])) (λx fl m A1 h1 h2 h3=>⟨x,h1,h2,rfl,h3⟩) H _ _ S λfl m' A1 F1 H' k S'=>?_
 obtain⟨x,hx,e1,e2,e3⟩:=k
 show Q fl.val H'
 rw[e1]
 rw[e2] at S'
 exact q _ _ hx (e3 _ S')
theorem aj.Ai{t:Kd}(is:List Nat)(hp:pick is A=some ([.k true t],R))(h:aj Γ rs m R (cl t++F) K):aj Γ rs m A F K:=λH Q Y S k=>by
 obtain⟨l1,l2,g1,g2,g3⟩:=fU hp S
 refine uo (P:=λl1=>Holds H (l1.flatten++(l2.flatten++F))->_) g1 (λx hx g3=>?_) g3
 have e:x=cl t:=hx.1
 rw[aG,e] at g3
 exact h H Q Y ⟨l2,iD eO g2,g3.perm (QG _ _ _)⟩ k
end
section
variable{G:Nat->bI}(B:bD G)(k:Nat){F:CL}{a d cl T b c:Nat}{n:Int}{io:Bool}
include B
theorem Fx:aL (β:=Unit) (G (k+4)) 29 [.ref p] [.k true (.ob p 3 i (aH t x j rc ic pa pk key rd))] F (λ_=>True) (λ_=>.none) λ_=>[.k true (.ob p 3 i (aH t x j rc ic pa true key rd))]:=by
 refine aL.of (B (k+3) 29 c29 rfl) λr K hK=>?_
 show aj (G (k+3)) [c29] [(0,.ref p)] [.k true (.ob p 3 i (aH t x j rc ic pa pk key rd)),.raw r] F K
 cases pk with
 | true =>
  refine aj.rn (ao B k) [oI 0,oB false] (p:=Yr p/\false=false/\K Fl.next [(0,.ref p)] [zO p 3 i (aH t x j rc ic pa true key rd),.raw r] F) ?_
  exact⟨rfl,rfl,hK () _ _ _ trivial rfl (Vw.refl _ _)⟩
 | false =>
  refine aj.rn (ao B k) [oI 0,oB true,oI 0] (p:=Yr p/\Yt/\Yr p/\K Fl.next [(0,.ref p)] [zO p 3 i (aH t x j rc ic pa true key rd),.raw r] F) ?_
  exact⟨rfl,rfl,rfl,hK () _ _ _ trivial rfl (Vw.refl _ _)⟩
theorem Dt:aL (β:=Unit) (G (k+5)) 39 [.ref a] [.k true (.ob a 7 d (aC c false cl T b n io)),.k true (.ce cl (.list []))] F (λ_=>True) (λ_=>.none) λ_=>[.k true (.ob a 7 d (aC c false cl T b n io)),.k true (.ce cl (.list []))]:=by
 refine aL.of (B (k+4) 39 c39 rfl) λr K hK=>?_
 show aj (G (k+4)) [c39] [(0,.ref a)] [.k true (.ob a 7 d (aC c false cl T b n io)),.k true (.ce cl (.list [])),.raw r] F K
 refine aj.rn (ao B (k+1)) [oI 0,oB false] (p:=Yr a/\false=false/\aj (G (k+4)) [c39_1] [(0,.ref a)] [zO a 7 d (aC c false cl T b n io),zL cl [],.raw r] F K) ?_
 refine⟨rfl,rfl,aj.eU (gR.run (ao B (k+1)) [oI 0] ?_)⟩
 refine xc (p:=Yr a/\∃(a_1:Nat),∃(xs:List V),V.ref cl=.ref a_1/\∃(I:Nat->Loc->List Th->CL->Prop),I 0 [(0,.ref a)] [zO a 7 d (aC c false cl T b n io),zL cl [],.raw r] F/\∀(i:Nat) (m:Loc) (A:List Th) (F:CL),I i m A F->(∀(H:AH),Sat A F H->H a_1=some (Cell.list xs))/\match xs[i]? with|some x=>aj (G (k+4)) [c39b] (put m 84 x) A F (cB (I (i+1)) (Rest (G (k+4)) [[]] K) K)|none=>aj (G (k+4)) [[]] m A F K) ?_
 refine⟨rfl,cl,[],rfl,λi m A F'=>m=[(0,.ref a)]/\A=[.k true (.ob a 7 d (aC c false cl T b n io)),.k true (.ce cl (.list [])),.raw r]/\F'=F,⟨rfl,rfl,rfl⟩,λi m A F' hI=>?_⟩
 obtain⟨rfl,rfl,rfl⟩:=hI
 refine⟨λH S=>(S.kd (n:=1) rfl).1 _ (.head _),?_⟩
 show aj (G (k+4)) [[]] _ _ _ _
 refine aj.rn (ao B (k+1)) [] (p:=K Fl.next [(0,.ref a)] [zO a 7 d (aC c false cl T b n io),zL cl [],.raw r] F') ?_
 exact hK () _ _ _ trivial rfl (Vw.refl _ _)
theorem Ii{p t i pa:Nat}{x:V}{rc ic pk rd:Bool}{j:Int}{key:V}:aL (β:=Unit) (G (k+5)) 39 [.ref a] [.k true (.ob a 7 d (aC c false cl T b n io)),.k true (.ce cl (.list [.ref p])),.k true (.ob p 3 i (aH t x j rc ic pa pk key rd))] F (λ_=>True) (λ_=>.none) λ_ =>
  [.k true (.ob a 7 d (aC c false cl T b n io)),.k true (.ce cl (.list [.ref p])),.k true (.ob p 3 i (aH t x j rc ic pa true key rd))]:=by
 refine aL.of (B (k+4) 39 c39 rfl) λr K hK=>?_
 show aj (G (k+4)) [c39] [(0,.ref a)] [.k true (.ob a 7 d (aC c false cl T b n io)),.k true (.ce cl (.list [.ref p])),.k true (.ob p 3 i (aH t x j rc ic pa pk key rd)),.raw r] F K
 refine aj.rn (ao B (k+1)) [oI 0,oB false] (p:=Yr a/\false=false/\aj (G (k+4)) [c39_1] [(0,.ref a)] [zO a 7 d (aC c false cl T b n io),zL cl [.ref p],zO p 3 i (aH t x j rc ic pa pk key rd),.raw r] F K) ?_
 refine⟨rfl,rfl,aj.eU (gR.run (ao B (k+1)) [oI 0] ?_)⟩
 refine xc (p:=Yr a/\∃(a_1:Nat),∃(xs:List V),V.ref cl=.ref a_1/\∃(I:Nat->Loc->List Th->CL->Prop),I 0 [(0,.ref a)] [zO a 7 d (aC c false cl T b n io),zL cl [.ref p],zO p 3 i (aH t x j rc ic pa pk key rd),.raw r] F/\∀(i:Nat) (m:Loc) (A:List Th) (F:CL),I i m A F->(∀(H:AH),Sat A F H->H a_1=some (Cell.list xs))/\match xs[i]? with|some x=>aj (G (k+4)) [c39b] (put m 84 x) A F (cB (I (i+1)) (Rest (G (k+4)) [[]] K) K)|none=>aj (G (k+4)) [[]] m A F K) ?_
 refine⟨rfl,cl,[.ref p],rfl,λy m A F'=>F'=F/\(y=0/\m=[(0,.ref a)]/\A=[.k true (.ob a 7 d (aC c false cl T b n io)),.k true (.ce cl (.list [.ref p])),.k true (.ob p 3 i (aH t x j rc ic pa pk key rd)),.raw r] \/
  y=1/\m=[(0,.ref a),(84,.ref p)]/\A=[.k true (.ob p 3 i (aH t x j rc ic pa true key rd)),.k true (.ob a 7 d (aC c false cl T b n io)),.k true (.ce cl (.list [.ref p])),.raw r]),⟨rfl,.inl ⟨rfl,rfl,rfl⟩⟩,λy m A F' hI=>?_⟩
 obtain⟨rfl,⟨rfl,rfl,rfl⟩|⟨rfl,rfl,rfl⟩⟩:=hI
 ·refine⟨λH S=>(S.kd (n:=1) rfl).1 _ (.head _),?_⟩
  show aj (G (k+4)) [c39b] [(0,.ref a),(84,.ref p)] _ _ _
  refine aj.rn (ao B (k+1)) [oI 2] (p:=Yr p/\au (G (k+4)) 29 [.ref p] [zO a 7 d (aC c false cl T b n io),zL cl [.ref p],zO p 3 i (aH t x j rc ic pa pk key rd),.raw r] F' (bx (G (k+4)) [[]] [(0,.ref a),(84,.ref p)] (cB (λm A F'_1=>F'_1=F'/\(0+1=0/\m=[(0,V.ref a)]/\A=[zO a 7 d (aC c false cl T b n io),zL cl [.ref p],zO p 3 i (aH t x j rc ic pa pk key rd),Th.raw r]\/0+1=1/\m=[(0,V.ref a),(84,V.ref p)]/\A=[zO p 3 i (aH t x j rc ic pa true key rd),zO a 7 d (aC c false cl T b n io),zL cl [.ref p],Th.raw r])) (Rest (G (k+4)) [[]] K) K))) ?_
  refine⟨rfl,au.call [2] rfl (Fx B k) λ_ _=>?_⟩
  refine aj.rn (ao B (k+1)) [] (p:=F'=F'/\(0+1=0/\[(0,V.ref a),(84,V.ref p)]=[(0,V.ref a)]/\[zO p 3 i (aH t x j rc ic pa true key rd),zO a 7 d (aC c false cl T b n io),zL cl [.ref p],Th.raw r]=[zO a 7 d (aC c false cl T b n io),zL cl [.ref p],zO p 3 i (aH t x j rc ic pa pk key rd),Th.raw r]\/0+1=1/\[(0,V.ref a),(84,V.ref p)]=[(0,V.ref a),(84,V.ref p)]/\[zO p 3 i (aH t x j rc ic pa true key rd),zO a 7 d (aC c false cl T b n io),zL cl [.ref p],Th.raw r]=[zO p 3 i (aH t x j rc ic pa true key rd),zO a 7 d (aC c false cl T b n io),zL cl [.ref p],Th.raw r])) ?_
  exact⟨rfl,.inr ⟨rfl,rfl,rfl⟩⟩
 ·refine⟨λH S=>(S.kd (n:=2) rfl).1 _ (.head _),?_⟩
  show aj (G (k+4)) [[]] _ _ _ _
  refine aj.rn (ao B (k+1)) [] (p:=K Fl.next [(0,.ref a),(84,.ref p)] [zO p 3 i (aH t x j rc ic pa true key rd),zO a 7 d (aC c false cl T b n io),zL cl [.ref p],.raw r] F') ?_
  exact hK () _ _ _ trivial rfl (Vw.keep [1,1,0,0] rfl)
end
noncomputable def rl:Nat->Nat
 | 0=>0
 | _+1=>1
theorem Sh.dn{T lo lo' a:Nat}{o:Bool}{es:List E}{ks:List Tr}:∀{d:Nat},Sh T d lo (.nd a o es ks)->lo'<=es.length->Sh T d lo' (.nd a o es ks)
 | 0,⟨h1,_,h3⟩,h=>⟨h1,h,h3⟩
 | _+1,⟨h1,⟨_,h3⟩,h4⟩,h=>⟨h1,⟨h,h3⟩,h4⟩
theorem zf:Ent F [] [.trs T c []]:=λls h=>by
 cases ls with
 | cons=>exact h.elim
 | nil=>exact⟨[[]],⟨by show trees F T c [] [];rw[dN],trivial⟩,RG _⟩
structure Ij where
 t:Tr
 d:Nat
 l:CL
structure Jy(T d:Nat)(fs:List E)(p0:CL->Prop)(x:Ij):Prop where
 sh:Sh T x.d (rl x.d) x.t
 d:x.d<=d+1
 fl:flat x.t=fs
 l:p0 x.l
section
variable{G:Nat->bI}(B:bD G)(k:Nat){F:CL}{a i cl T b c d:Nat}{n:Int}{io jo:Bool}{e:E}{v:V}{es:List E}{ks:List Tr}{l r:CL}{K:KS}{fs:List E}{p0:CL->Prop}
include B
theorem zj(htl:tl=[]\/∃u,tl=[(155,u)])(hT:3<=T/\T<=1000)(he:aQ F e)(hd:d<=60)(hl:p0 l)(hs:Sh T d (rl d) (.nd b true es ks))(hf:flat (.nd b true es ks)=fs)(sr:bw fs)(hn:es.length<2 * T - 1)
  (hK:∀(t:Tr) l fl m A1,Sh T d (rl d) t->flat t=iM e fs->p0 l->fl.val=vO (bR e.k fs)->Vw F A1 [.k true (.ob a 7 i (aC c false cl T t.a (bif (bR e.k fs).isSome then n else n+1) io)),.tr T c t,.raw l,.raw r]->K fl m A1 F) :
  aj (G (k+69)) [c40_4] ((0,.ref a)::(107,e.r)::(12,.bool jo)::(128,v)::tl) [.tr T c (.nd b true es ks),.k true (.ob a 7 i (aC c false cl T b n io)),.raw l,.raw r] F K:=by
 have ins:=@yV G B (k+(60 - d)) F T e jo hT he d c (rl d) b es ks hs (hf▸sr) hn
 rw[show k+(60 - d)+d+9=k+69 by lia,hf] at ins
 rcases htl with rfl|⟨u,rfl⟩
 ·refine aj.rn (ao B (k+66)) [oI 1,oI 0] (p:=Yr a/\Yr b/\au (G (k+69)) 12 [.ref b,E.r e,.bool jo] [.tr T c (Tr.nd b true es ks),zO a 7 i (aC c false cl T b n io),.raw l,.raw r] F (bF (G (k+69)) 139 [c40_5] [(0,.ref a),(107,E.r e),(12,.bool jo),(128,v)] K)) ?_
  refine⟨rfl,rfl,au.call [0] rfl ins λx hx=>?_⟩
  cases hfn:bR e.k fs with
  | none =>
   rw[hfn] at hK
   refine aj.rn (ao B (k+66)) [oB true,oI 1,oI 1] (p:=Yt/\Yr a/\Yr a/\K (.ret (vO none)) [(0,.ref a),(107,E.r e),(12,.bool jo),(128,v),(139,vO none)] [.tr T c (Tr.nd b true x.1 x.2),zO a 7 i (aC c false cl T b (n+1) io),.raw l,.raw r] F) ?_
   exact⟨rfl,rfl,rfl,hK (.nd b true x.1 x.2) l _ _ _ hx.sh hx.fl hl rfl (Vw.keep [1,0,0,0] rfl)⟩
  | some e0 =>
   rw[hfn] at hK
   refine aj.rn (ao B (k+66)) [oB false] (p:=false=false/\K (.ret (vO (some e0))) [(0,.ref a),(107,E.r e),(12,.bool jo),(128,v),(139,vO (some e0))] [.tr T c (Tr.nd b true x.1 x.2),zO a 7 i (aC c false cl T b n io),.raw l,.raw r] F) ?_
   exact⟨rfl,hK (.nd b true x.1 x.2) l _ _ _ hx.sh hx.fl hl rfl (Vw.keep [1,0,0,0] rfl)⟩
 ·refine aj.rn (ao B (k+66)) [oI 1,oI 0] (p:=Yr a/\Yr b/\au (G (k+69)) 12 [.ref b,E.r e,.bool jo] [.tr T c (Tr.nd b true es ks),zO a 7 i (aC c false cl T b n io),.raw l,.raw r] F (bF (G (k+69)) 139 [c40_5] [(0,.ref a),(107,E.r e),(12,.bool jo),(128,v),(155,u)] K)) ?_
  refine⟨rfl,rfl,au.call [0] rfl ins λx hx=>?_⟩
  cases hfn:bR e.k fs with
  | none =>
   rw[hfn] at hK
   refine aj.rn (ao B (k+66)) [oB true,oI 1,oI 1] (p:=Yt/\Yr a/\Yr a/\K (.ret (vO none)) [(0,.ref a),(107,E.r e),(12,.bool jo),(128,v),(155,u),(139,vO none)] [.tr T c (Tr.nd b true x.1 x.2),zO a 7 i (aC c false cl T b (n+1) io),.raw l,.raw r] F) ?_
   exact⟨rfl,rfl,rfl,hK (.nd b true x.1 x.2) l _ _ _ hx.sh hx.fl hl rfl (Vw.keep [1,0,0,0] rfl)⟩
  | some e0 =>
   rw[hfn] at hK
   refine aj.rn (ao B (k+66)) [oB false] (p:=false=false/\K (.ret (vO (some e0))) [(0,.ref a),(107,E.r e),(12,.bool jo),(128,v),(155,u),(139,vO (some e0))] [.tr T c (Tr.nd b true x.1 x.2),zO a 7 i (aC c false cl T b n io),.raw l,.raw r] F) ?_
   exact⟨rfl,hK (.nd b true x.1 x.2) l _ _ _ hx.sh hx.fl hl rfl (Vw.keep [1,0,0,0] rfl)⟩
theorem uG(hT:3<=T/\T<=1000)(he:aQ F e)(hd:d<=59)(hl:p0 l)(hs:Sh T d (rl d) (.nd b true es ks))(hf:flat (.nd b true es ks)=fs)(sr:bw fs)
  (hK:∀(x:Ij) fl m A1,Jy T d (iM e fs) p0 x->fl.val=vO (bR e.k fs)->Vw F A1 [.k true (.ob a 7 i (aC c false cl T x.t.a (bif (bR e.k fs).isSome then n else n+1) io)),.tr T c x.t,.raw x.l,.raw r]->K fl m A1 F) :
  aj (G (k+69)) [c40_3] [(0,.ref a),(107,e.r),(12,.bool jo),(128,v)] [.tr T c (.nd b true es ks),.k true (.ob a 7 i (aC c false cl T b n io)),.raw l,.raw r] F K:=by
 have sl:=hs.lo
 refine aj.bT [0] rfl (aR b true es ks) λx ho=>aj.fact (λH S=>(S.kd (n:=0) rfl).2) λkv=>?_
 have ex:=ho.y rfl
 rw[ex] at ho |-
 by_cases hm:es.length=2 * T - 1
 ·have hs1:Sh T d (T - 1) (.nd b true es ks):=hs.dn (by lia)
  obtain⟨el,mid,er,kl,kr,rfl,rfl,e1,e2,e3,e4⟩:=Ky hT.1 hs1 hm
  have hmid:aQ F mid:=kv mid (by simp)
  refine aj.rn (ao B (k+66)) [oI 2,oI 0,oI 0,oB true,oI 2,oI 2,oI 2,oI 3,oI 3,oI 0,oI 1,oI 0] (p:=Yr a/\Yr b/\Yr b/\(T<=1000/\(↑((el++mid::er).length):Int)<=2 * (↑T:Int) - 1)/\decide ((↑((el++mid::er).length):Int)=2 * (↑T:Int) - 1)=true/\Yr a/\Yr a/\Yr a/\∀(a_1 d:Nat),au (G (k+69)) 4 [.ref a_1,.int T,.ref c,.bool false] [zO a_1 2 d [],zN b x.d x.le x.lc T c ((kl++kr).isEmpty) (el++mid::er) ((kl++kr).map Tr.a),.trs T c (kl++kr),zO a 7 i (aC c false cl T b n io),.raw l,.raw r] F λv_1 A F=>gD v_1 (BP (G (k+69)) cN (.attr (.var 0) 8) (.ref a_1) (some (bx (G (k+69)) [c40b_2,c40_4] [(0,.ref a),(107,E.r e),(12,.bool jo),(128,v),(155,.ref b)] K)) [(0,.ref a),(107,E.r e),(12,.bool jo),(128,v),(155,.ref b)] (St.mk A F [oI 3,oI 3,oB true,oI 1,oB true]) λm st=>xs (G (k+69)) cN 97 [c40b_2,c40_4] m st K)) ?_
  refine⟨rfl,rfl,rfl,⟨hT.2,by lia⟩,RB (by lia),rfl,rfl,rfl,λq0 dq=>au.call [0] rfl (yC B (k+67) F hT.1) λz _=>?_⟩
  refine xc (p:=Yr a/\Yr a/\Yr q0/\Yr b/\au (G (k+69)) 13 [.ref b] [zN q0 dq z.1 z.2 T c false [] [],zN b x.d x.le x.lc T c ((kl++kr).isEmpty) (el++mid::er) ((kl++kr).map Tr.a),.trs T c (kl++kr),zO a 7 i (aC c false cl T q0 n io),.raw l,.raw r] F λv_1 A F=>rsX v_1 (St.mk A F [oB true]) λr st=>opt (Rs.cell r) λc=>opt (Cell.tp c) λus=>eY (G (k+69)) cN 16 (V.ref q0::us) [] [] st (KK.mk (λx st=>xs (G (k+69)) cN 96 [[],c40_4] [(0,.ref a),(107,E.r e),(12,.bool jo),(128,v),(155,.ref b)] st K) (some (bx (G (k+69)) [[],c40_4] [(0,.ref a),(107,E.r e),(12,.bool jo),(128,v),(155,.ref b)] K)))) ?_
  refine⟨rfl,rfl,rfl,rfl,au.pk [1,1] rfl (aD ho rfl rfl) (au.call [0] rfl (Fv B (k+65) hT e1 e2 e3) λp _=>?_)⟩
  refine xc (p:=Yr p.1/\au (G (k+69)) 16 [.ref q0,.ref b,E.r mid,.ref p.2] [zT p.1 [.ref b,E.r mid,.ref p.2],.tr T c (Tr.nd b true el kl),.tr T c (Tr.nd p.2 true er kr),zN q0 dq z.1 z.2 T c false [] [],zO a 7 i (aC c false cl T q0 n io),.raw l,.raw r] F (bx (G (k+69)) [[],c40_4] [(0,.ref a),(107,E.r e),(12,.bool jo),(128,v),(155,.ref b)] K)) ?_
  refine⟨rfl,au.call [3] rfl (Dp B (k+65) hT hmid) λy _=>?_⟩
  refine aj.pk [] rfl zf (aj.pk [3,3,0] rfl (qL [] [] (.nd b true el kl) (.nd p.2 true er kr)) (aj.pk [1,0] rfl (aD (ks:=[.nd b true el kl,.nd p.2 true er kr]) ho rfl rfl) (aj.vw (Vw.keep [0,1,1,1] rfl) ?_)))
  refine zj (p0:=p0) (d:=d+1) (fs:=fs) B k (.inr ⟨_,rfl⟩) hT he (by lia) hl ⟨rfl,⟨RN _,by show 1<=_;lia⟩,λt ht=>?_⟩ ?_ sr (by show 1<_;lia) λt l fl m A1 h1 h2 h3 h4 h5=>hK ⟨t,d+1,l⟩ fl m A1 ⟨h1,RN _,h2,h3⟩ h4 h5
  ·rcases RJ.mp ht with rfl|ht
   ·exact(e4 p.2).1
   ·rw[Rf.mp ht];exact(e4 p.2).2.1
  ·rw[aq,bV,gw,aN,Rx,(e4 p.2).2.2];exact hf
 ·refine aj.run (ao B (k+66)) [oI 2,oI 0,oI 0,oB false,bM] ?_
  refine xc (p:=Yr a/\Yr b/\Yr b/\(T<=1000/\(↑es.length:Int)<=2 * (↑T:Int) - 1)/\decide ((↑es.length:Int)=2 * (↑T:Int) - 1)=false/\aj (G (k+66+3)) [c40_4] [(0,.ref a),(107,E.r e),(12,.bool jo),(128,v)] [zN b x.d x.le x.lc T c (List.isEmpty ks) es (ks.map Tr.a),.trs T c ks,zO a 7 i (aC c false cl T b n io),.raw l,.raw r] F K) ?_
  exact⟨rfl,rfl,rfl,⟨hT.2,by lia⟩,Rr (by lia),aj.pk [0,0] rfl (aD ho rfl rfl) (zj (p0:=p0) B k (.inl rfl) hT he (by lia) hl hs hf sr (by lia) λt l fl m A1 h1 h2 h3 h4 h5=>hK ⟨t,d,l⟩ fl m A1 ⟨h1,Nat.le_succ _,h2,h3⟩ h4 h5)⟩
theorem KJ{o:Bool}{l0:CL}(hc:cI F c)(hT:3<=T/\T<=1000)(he:aQ F e)(hd:d<=59)(hs:Sh T d (rl d) (.nd b o es ks))(hf:flat (.nd b o es ks)=fs)(sr:bw fs)
  (ck:aL (G (k+69)) 39 [.ref a] [.k true (.ob a 7 i (aC c false cl T b n io)),.raw l0] F p0 (λ_=>.none) λl=>[.k true (.ob a 7 i (aC c false cl T b n io)),.raw l]) :
  aL (G (k+70)) 40 [.ref a,e.r,.bool jo] [.k true (.ob a 7 i (aC c false cl T b n io)),.tr T c (.nd b o es ks),.raw l0] F (Jy T d (iM e fs) p0) (λ_=>vO (bR e.k fs)) λx=>[.k true (.ob a 7 i (aC c false cl T x.t.a (bif (bR e.k fs).isSome then n else n+1) io)),.tr T c x.t,.raw x.l]:=by
 refine aL.of (B (k+69) 40 c40 rfl) λr K hK=>?_
 show aj (G (k+69)) [c40] [(0,.ref a),(107,e.r),(12,.bool jo)] [.k true (.ob a 7 i (aC c false cl T b n io)),.tr T c (.nd b o es ks),.raw l0,.raw r] F K
 have hz:=hs.sz hT.2
 refine aj.rn (ao B (k+66)) [oI 0] (p:=Yr a/\au (G (k+69)) 39 [.ref a] [zO a 7 i (aC c false cl T b n io),.tr T c (Tr.nd b o es ks),.raw l0,.raw r] F (bx (G (k+69)) [c40_1] [(0,.ref a),(107,E.r e),(12,.bool jo)] K)) ?_
 refine⟨rfl,au.call [0,1] rfl ck λl hl=>?_⟩
 refine aj.bT [2] rfl (aR b o es ks) λx ho=>?_
 cases o with
 | true =>
  have ex:=ho.y rfl
  rw[ex] at ho |-
  refine aj.rn (ao B (k+66)) [oI 2,oI 0,oI 2] (p:=Yr a/\Yr b/\Yr a/\au (G (k+69)) 24 [.ref b,.ref c] [zN b x.d x.le x.lc T c (List.isEmpty ks) es (ks.map Tr.a),.trs T c ks,zO a 7 i (aC c false cl T b n io),.raw l,.raw r] F (bF (G (k+69)) 128 [c40_2] [(0,.ref a),(107,E.r e),(12,.bool jo)] K)) ?_
  refine⟨rfl,rfl,rfl,au.call [0] rfl (sO B (k+64) F ho.cr) λ_ _=>aj.pk [0,0] rfl (aD ho rfl rfl) ?_⟩
  refine aj.run (ao B (k+66)) [oB false,bM] ?_
  refine xc (p:=false=false/\aj (G (k+66+3)) [c40_3] [(0,.ref a),(107,E.r e),(12,.bool jo),(128,.none)] [.tr T c (Tr.nd b true es ks),zO a 7 i (aC c false cl T b n io),.raw l,.raw r] F K) ?_
  exact⟨rfl,uG (p0:=p0) B k hT he hd hl hs hf sr λx fl m A1 h1 h2 h3=>hK x fl m A1 h1 h2 h3⟩
 | false =>
  refine aj.rn (ao B (k+66)) [oI 2,oI 0,oI 2] (p:=Yr a/\Yr b/\Yr a/\au (G (k+69)) 24 [.ref b,.ref c] [.k false (.nd b x.d x.le x.lc T x.c (List.isEmpty ks) es (ks.map Tr.a)),.trs T c ks,zO a 7 i (aC c false cl T b n io),.raw l,.raw r] F (bF (G (k+69)) 128 [c40_2] [(0,.ref a),(107,E.r e),(12,.bool jo)] K)) ?_
  refine⟨rfl,rfl,rfl,au.call [0] rfl (sS B (k+64) F hc ho hT.1 ⟨by lia,by rw[Rt];lia⟩ (by cases ks<;>rfl)) λq _=>aj.pk [0,0] rfl (aD (ks:=ks) (oM hc) rfl rfl) ?_⟩
  refine aj.run (ao B (k+66)) [oI 0,oB true,oI 1,bM] ?_
  refine xc (p:=Yr q.1/\Yt/\Yr a/\aj (G (k+66+3)) [c40_3] [(0,.ref a),(107,E.r e),(12,.bool jo),(128,.ref q.1)] [.tr T c (Tr.nd q.1 true es ks),zO a 7 i (aC c false cl T q.1 n io),.raw l,.raw r] F K) ?_
  refine⟨rfl,rfl,rfl,(uG (p0:=p0) B k hT he hd hl (jc hs) (by rw[fV q.1 b true false];exact hf) sr λx fl m A1 h1 h2 h3=>hK x fl m A1 h1 h2 h3)⟩
end
theorem Sh.up:∀{d:Nat} {t:Tr},3<=T->Sh T d (T - 1) t->Sh T d (rl d) t
 | 0,.nd _ _ _ _,_,s=>s.dn (Nat.zero_le _)
 | _+1,.nd _ _ _ _,h,s=>s.dn (by have:=s.lo;show 1<=_;lia)
section
variable{G:Nat->bI}(B:bD G)(k:Nat){F:CL}{a i cl T b c d:Nat}{n key:Int}{io jo:Bool}{e:E}{v:V}{es:List E}{ks:List Tr}{l r:CL}{K:KS}{fs:List E}{p0:CL->Prop}
include B
theorem uH(hc:cI F c)(hT:3<=T/\T<=1000)(hfn:bR key fs=some e)(hd:d<=60)(hl:p0 l)(hs:Sh T d (rl d) (.nd b true es ks))(hf:flat (.nd b true es ks)=fs)(sr:bw fs)
  (hK:∀(x:Ij) fl m A1,Jy T d (jT key fs) p0 x->fl.val=e.r->Vw F A1 [.k true (.ob a 7 i (aC c false cl T x.t.a (n - 1) io)),.tr T c x.t,.raw x.l,.raw r]->K fl m A1 F) :
  aj (G (k+69)) [c42_3] [(0,.ref a),(42,.int key),(134,.none),(128,v)] [.tr T c (.nd b true es ks),.k true (.ob a 7 i (aC c false cl T b n io)),.raw l,.raw r] F K:=by
 have hlo:0<es.length\/0=0/\d=0:=by
  cases d with
  | zero=>exact .inr ⟨rfl,rfl⟩
  | succ d=>exact .inl hs.lo.1
 rw[aq] at hf
 have del:=@zc G B (k+(60 - d)) F T c hT d 0 b key es ks .none (hs.dn (Nat.zero_le _)) (hf▸sr) hlo (.inl rfl)
 rw[show k+(60 - d)+d+9=k+69 by lia,hf,hfn] at del
 refine aj.rn (ao B (k+66)) [oI 1,oI 0] (p:=Yr a/\Yr b/\au (G (k+69)) 21 [.ref b,.int key,.none,.none] [.tr T c (Tr.nd b true es ks),zO a 7 i (aC c false cl T b n io),.raw l,.raw r] F (bF (G (k+69)) 107 [c42_4] [(0,.ref a),(42,.int key),(134,.none),(128,v)] K)) ?_
 refine⟨rfl,rfl,au.call [0] rfl del λx hx=>?_⟩
 obtain⟨es',ks'⟩:=x
 refine aj.bT [0] rfl (aR b true es' ks') λx ho=>?_
 have ex:=ho.y rfl
 rw[ex] at ho |-
 have sh:Sh T d 0 (.nd b true es' ks'):=hx.sh
 have fl:flat (.nd b true es' ks')=jT key fs:=hx.fl
 by_cases hn:es'.length=0
 ·obtain rfl:=List.eq_nil_of_length_eq_zero hn
  cases d with
  | zero =>
   obtain⟨rfl,s2⟩:=sh
   refine aj.rn (ao B (k+66)) [oB true,oI 2,oI 2,oI 2,oI 0,oE 0,oB true,oI 2,oI 0,oB false] (p:=Yt/\Yr a/\Yr a/\Yr a/\Yr b/\Yr x.le/\decide ((↑0:Int)=0)=true/\Yr a/\Yr b/\false=false/\K (.ret (vO (some e))) [(0,.ref a),(42,.int key),(134,.none),(128,v),(107,vO (some e))] [zN b x.d x.le x.lc T c true [] (List.map Tr.a []),.trs T c [],zO a 7 i (aC c false cl T b (n - 1) io),.raw l,.raw r] F) ?_
   exact⟨rfl,rfl,rfl,rfl,rfl,rfl,rfl,rfl,rfl,rfl,hK ⟨.nd b true [] [],0,l⟩ _ _ _ ⟨⟨rfl,s2⟩,Nat.zero_le _,fl,hl⟩ rfl (Vw.go [0,0] rfl (aD (ks:=[]) ho rfl rfl) (Vw.keep [1,0,0,0] rfl))⟩
  | succ d =>
   obtain⟨s1,s2,s3⟩:=sh
   obtain⟨t,rfl⟩:∃t,ks'=[t]:=by
    cases ks' with
    | nil=>cases s1
    | cons t r=>cases r with
     | nil=>exact⟨t,rfl⟩
     | cons=>cases s1
   refine aj.rn (ao B (k+66)) [oB true,oI 2,oI 2,oI 2,oI 0,oE 0,oB true,oI 2,oI 0,oB true,oI 2,oI 0,oK 0,oI 2,oI 0,oK 0,on (Tr.a t),oI 2] (p:=Yt/\Yr a/\Yr a/\Yr a/\Yr b/\Yr x.le/\decide ((↑0:Int)=0)=true/\Yr a/\Yr b/\Yt/\Yr a/\Yr b/\Yr x.lc/\decide ((↑((List.map Tr.a [t]).length):Int)=1)=true/\Yr a/\Yr b/\Yr x.lc/\idxV (List.map Tr.a [t]) 0=some t.a/\Yr a/\K (.ret (vO (some e))) [(0,.ref a),(42,.int key),(134,.none),(128,v),(107,vO (some e))] [zN b x.d x.le x.lc T c false [] (List.map Tr.a [t]),.trs T c [t],zO a 7 i (aC c false cl T t.a (n - 1) io),.raw l,.raw r] F) ?_
   exact⟨rfl,rfl,rfl,rfl,rfl,rfl,rfl,rfl,rfl,rfl,rfl,rfl,rfl,rfl,rfl,rfl,rfl,rfl,rfl,hK ⟨t,d,l⟩ _ _ _ ⟨(s3 t (.head _)).up hT.1,by show d<=d+1+1;lia,by rw[<-fl,aq,gw,aN,Rx],hl⟩ rfl (Vw.go [1] rfl (fH [] [] t) (Vw.keep [3,0,2,2] rfl))⟩
 ·refine aj.rn (ao B (k+66)) [oB true,oI 2,oI 2,oI 2,oI 0,oE 0,oB false] (p:=Yt/\Yr a/\Yr a/\Yr a/\Yr b/\Yr x.le/\decide ((↑es'.length:Int)=0)=false/\K (.ret (vO (some e))) [(0,.ref a),(42,.int key),(134,.none),(128,v),(107,vO (some e))] [zN b x.d x.le x.lc T c (List.isEmpty ks') es' (ks'.map Tr.a),.trs T c ks',zO a 7 i (aC c false cl T b (n - 1) io),.raw l,.raw r] F) ?_
  refine⟨rfl,rfl,rfl,rfl,rfl,rfl,Rr (by lia),hK ⟨.nd b true es' ks',d,l⟩ _ _ _ ⟨sh.dn ?_,Nat.le_succ _,fl,hl⟩ rfl (Vw.go [0,0] rfl (aD ho rfl rfl) (Vw.keep [1,0,0,0] rfl))⟩
  cases d with
  | zero=>exact Nat.zero_le _
  | succ d=>show 1<=_;lia
theorem KN{o:Bool}{l0:CL}(hc:cI F c)(hT:3<=T/\T<=1000)(hfn:bR key fs=some e)(hd:d<=60)(hs:Sh T d (rl d) (.nd b o es ks))(hf:flat (.nd b o es ks)=fs)(sr:bw fs)
  (ck:aL (G (k+69)) 39 [.ref a] [.k true (.ob a 7 i (aC c false cl T b n io)),.raw l0] F p0 (λ_=>.none) λl=>[.k true (.ob a 7 i (aC c false cl T b n io)),.raw l]) :
  aL (G (k+70)) 42 [.ref a,.int key,.none] [.k true (.ob a 7 i (aC c false cl T b n io)),.tr T c (.nd b o es ks),.raw l0] F (Jy T d (jT key fs) p0) (λ_=>e.r) λx=>[.k true (.ob a 7 i (aC c false cl T x.t.a (n - 1) io)),.tr T c x.t,.raw x.l]:=by
 refine aL.of (B (k+69) 42 c42 rfl) λr K hK=>?_
 show aj (G (k+69)) [c42] [(0,.ref a),(42,.int key),(134,.none)] [.k true (.ob a 7 i (aC c false cl T b n io)),.tr T c (.nd b o es ks),.raw l0,.raw r] F K
 have hz:=hs.sz hT.2
 refine aj.rn (ao B (k+66)) [oI 0] (p:=Yr a/\au (G (k+69)) 39 [.ref a] [zO a 7 i (aC c false cl T b n io),.tr T c (Tr.nd b o es ks),.raw l0,.raw r] F (bx (G (k+69)) [c42_1] [(0,.ref a),(42,.int key),(134,.none)] K)) ?_
 refine⟨rfl,au.call [0,1] rfl ck λl hl=>?_⟩
 refine aj.bT [2] rfl (aR b o es ks) λx ho=>?_
 cases o with
 | true =>
  have ex:=ho.y rfl
  rw[ex] at ho |-
  refine aj.rn (ao B (k+66)) [oI 2,oI 0,oI 2] (p:=Yr a/\Yr b/\Yr a/\au (G (k+69)) 24 [.ref b,.ref c] [zN b x.d x.le x.lc T c (List.isEmpty ks) es (ks.map Tr.a),.trs T c ks,zO a 7 i (aC c false cl T b n io),.raw l,.raw r] F (bF (G (k+69)) 128 [c42_2] [(0,.ref a),(42,.int key),(134,.none)] K)) ?_
  refine⟨rfl,rfl,rfl,au.call [0] rfl (sO B (k+64) F ho.cr) λ_ _=>aj.pk [0,0] rfl (aD ho rfl rfl) ?_⟩
  refine aj.run (ao B (k+66)) [oB false,bM] ?_
  refine xc (p:=false=false/\aj (G (k+66+3)) [c42_3] [(0,.ref a),(42,.int key),(134,.none),(128,.none)] [.tr T c (Tr.nd b true es ks),zO a 7 i (aC c false cl T b n io),.raw l,.raw r] F K) ?_
  exact⟨rfl,uH (p0:=p0) B k hc hT hfn hd hl hs hf sr λx fl m A1 h1 h2 h3=>hK x fl m A1 h1 h2 h3⟩
 | false =>
  refine aj.rn (ao B (k+66)) [oI 2,oI 0,oI 2] (p:=Yr a/\Yr b/\Yr a/\au (G (k+69)) 24 [.ref b,.ref c] [.k false (.nd b x.d x.le x.lc T x.c (List.isEmpty ks) es (ks.map Tr.a)),.trs T c ks,zO a 7 i (aC c false cl T b n io),.raw l,.raw r] F (bF (G (k+69)) 128 [c42_2] [(0,.ref a),(42,.int key),(134,.none)] K)) ?_
  refine⟨rfl,rfl,rfl,au.call [0] rfl (sS B (k+64) F hc ho hT.1 ⟨by lia,by rw[Rt];lia⟩ (by cases ks<;>rfl)) λq _=>aj.pk [0,0] rfl (aD (ks:=ks) (oM hc) rfl rfl) ?_⟩
  refine aj.run (ao B (k+66)) [oI 0,oB true,oI 1,bM] ?_
  refine xc (p:=Yr q.1/\Yt/\Yr a/\aj (G (k+66+3)) [c42_3] [(0,.ref a),(42,.int key),(134,.none),(128,.ref q.1)] [.tr T c (Tr.nd q.1 true es ks),zO a 7 i (aC c false cl T q.1 n io),.raw l,.raw r] F K) ?_
  exact⟨rfl,rfl,rfl,uH (p0:=p0) B k hc hT hfn hd hl (jc hs) (by rw[fV q.1 b true false];exact hf) sr λx fl m A1 h1 h2 h3=>hK x fl m A1 h1 h2 h3⟩
theorem KQ(hc:cI F c)(hT:3<=T/\T<=1000)(hfn:bR key fs=some e)(hd:d<=60)(hs:Sh T d (rl d) (.nd b o es ks))(hf:flat (.nd b o es ks)=fs)(sr:bw fs)
  (ck:aL (G (k+69)) 39 [.ref a] [.k true (.ob a 7 i (aC c false cl T b n io)),.raw l0] F p0 (λ_=>.none) λl=>[.k true (.ob a 7 i (aC c false cl T b n io)),.raw l]) :
  aL (G (k+71)) 43 [.ref a,.int key] [.k true (.ob a 7 i (aC c false cl T b n io)),.tr T c (.nd b o es ks),.raw l0] F (Jy T d (jT key fs) p0) (λ_=>e.r) λx=>[.k true (.ob a 7 i (aC c false cl T x.t.a (n - 1) io)),.tr T c x.t,.raw x.l]:=by
 refine aL.of (B (k+70) 43 c43 rfl) λr K hK=>?_
 show aj (G (k+70)) [c43] [(0,.ref a),(42,.int key)] [.k true (.ob a 7 i (aC c false cl T b n io)),.tr T c (.nd b o es ks),.raw l0,.raw r] F K
 refine aj.rn (ao B (k+67)) [oI 0] (p:=Yr a/\au (G (k+70)) 42 [.ref a,.int key,.none] [zO a 7 i (aC c false cl T b n io),.tr T c (Tr.nd b o es ks),.raw l0,.raw r] F (dY [(0,.ref a),(42,.int key)] K)) ?_
 exact⟨rfl,au.call [0,0,0] rfl (KN B k hc hT hfn hd hs hf sr ck) λx hx=>hK x _ _ _ hx rfl (Vw.refl _ _)⟩
end
theorem oW:∀{es:List E} {ks:List Tr},x∈fl es ks->x∈es\/∃k∈ks,x∈flat k
 | es,[],h=>by rw[aN] at h;exact .inl h
 | [],k::ks,h=>by
  rw[fl] at h
  rcases Ry.mp h with h|h
  ·exact .inr ⟨k,.head _,h⟩
  ·rcases oW h with h|⟨k',h1,h2⟩
   ·cases h
   ·exact .inr ⟨k',.tail _ h1,h2⟩
 | e::es,k::ks,h=>by
  rw[fl] at h
  rcases Ry.mp h with h|h
  ·exact .inr ⟨k,.head _,h⟩
  ·rcases RJ.mp h with rfl|h
   ·exact .inl (.head _)
   ·rcases oW h with h|⟨k',h1,h2⟩
    ·exact .inl (.tail _ h)
    ·exact .inr ⟨k',.tail _ h1,h2⟩
theorem mF:∀{ks:List Tr} {l:CL},trees F T c ks l->k∈ks->∃l',tree F T c k l'
 | [],_,_,h=>nomatch h
 | _::_,_,h,hk=>by
  rw[aY] at h
  obtain⟨l1,l2,_,h1,h2⟩:=h
  rcases RJ.mp hk with rfl|hk
  ·exact⟨l1,h1⟩
  ·exact mF h2 hk
theorem tree.kvs:∀{l:CL},tree F T c t l->∀e∈flat t,aQ F e:=by
 induction t using Tr.ind with
 | h a o es ks ih =>
  intro l h e he
  rw[aq] at he
  rw[eZ] at h
  obtain⟨d,le,lc,c',l1,l2,_,h2,_,h4⟩:=h
  rcases oW he with h1|⟨k,h1,h3⟩
  ·exact h2.2 e h1
  ·obtain⟨l3,h5⟩:=mF h4 h1
   exact ih k h1 h5 e h3
theorem zm(h:at' A n=some (.tr T c t)):∀H,Sat A F H->∀e∈flat t,aQ F e:=λH S=>by
 obtain⟨l,r,h1,_⟩:=S.at h
 exact tree.kvs h1
theorem uI(h:bR key fs=some e):e∈fs:=List.mem_of_find?_eq_some h
section
variable{G:Nat->bI}(B:bD G)(k:Nat){F:CL}{a i cl T c d:Nat}{n key:Int}{io im:Bool}{e:E}{t:Tr}
include B
theorem KR(hd:d<=60)(hs:Sh T d (rl d) t)(sr:bw (flat t)):aL (β:=Unit) (G (k+71)) 41 [.ref a,.int key] [.k true (.ob a 7 i (aC c im cl T t.a n io)),.tr T c t] F (λ_=>True) (λ_=>vO (bR key (flat t))) λ_=>[.k true (.ob a 7 i (aC c im cl T t.a n io)),.tr T c t]:=by
 refine aL.of (B (k+70) 41 c41 rfl) λr K hK=>?_
 show aj (G (k+70)) [c41] [(0,.ref a),(42,.int key)] [.k true (.ob a 7 i (aC c im cl T t.a n io)),.tr T c t,.raw r] F K
 have get:=H7 (c:=c) (F:=F) B (key:=key) hs sr (k+(66 - d))
 rw[show k+(66 - d)+d+4=k+70 by lia] at get
 refine aj.rn (ao B (k+67)) [oI 0,oI 1] (p:=Yr a/\Yr t.a/\au (G (k+70)) 10 [.ref t.a,.int key] [zO a 7 i (aC c im cl T t.a n io),.tr T c t,.raw r] F (dY [(0,.ref a),(42,.int key)] K)) ?_
 exact⟨rfl,rfl,au.call [1] rfl get λ_ _=>hK () _ _ _ trivial rfl (Vw.keep [1,0,0] rfl)⟩
theorem KY(hd:d<=60)(hs:Sh T d (rl d) t)(sr:bw (flat t))(hf:bR key (flat t)=some e):aL (β:=Unit) (G (k+72)) 57 [.ref a,.int key] [.k true (.ob a 7 i (aC c im cl T t.a n io)),.tr T c t] F (λ_=>True) (λ_=>.int e.v) λ_=>[.k true (.ob a 7 i (aC c im cl T t.a n io)),.tr T c t]:=by
 refine aL.of (B (k+71) 57 c57 rfl) λr K hK=>?_
 show aj (G (k+71)) [c57] [(0,.ref a),(42,.int key)] [.k true (.ob a 7 i (aC c im cl T t.a n io)),.tr T c t,.raw r] F K
 have ge:=KR (a:=a) (i:=i) (cl:=cl) (c:=c) (n:=n) (io:=io) (im:=im) (key:=key) (F:=F) B k hd hs sr
 rw[hf] at ge
 refine aj.fact (zm (n:=1) rfl) λkv=>?_
 have he:=kv e (uI hf)
 refine aj.rn (ao B (k+68)) [oI 0] (p:=Yr a/\au (G (k+71)) 41 [.ref a,.int key] [zO a 7 i (aC c im cl T t.a n io),.tr T c t,.raw r] F (bF (G (k+71)) 107 [c57_1] [(0,.ref a),(42,.int key)] K)) ?_
 refine⟨rfl,au.call [0,0] rfl ge λ_ _=>?_⟩
 show aj (G (k+71)) [c57_1] [(0,.ref a),(42,.int key),(107,e.r)] _ _ _
 refine aj.rn (ao B (k+68)) [oB false,oe e] (p:=false=false/\(E.r e=E.r e/\aQ F e)/\K (.ret (.int e.v)) [(0,.ref a),(42,.int key),(107,E.r e)] [zO a 7 i (aC c im cl T t.a n io),.tr T c t,.raw r] F) ?_
 exact⟨rfl,⟨rfl,he⟩,hK () _ _ _ trivial rfl (Vw.refl _ _)⟩
theorem zp:aL (β:=Unit) (G (k+4)) 45 [.ref a] [.k true (.ob a 7 i (aC c im cl T b n io))] F (λ_=>True) (λ_=>.int n) λ_=>[.k true (.ob a 7 i (aC c im cl T b n io))]:=by
 refine aL.of (B (k+3) 45 c45 rfl) λr K hK=>?_
 show aj (G (k+3)) [c45] [(0,.ref a)] [.k true (.ob a 7 i (aC c im cl T b n io)),.raw r] F K
 refine aj.rn (ao B k) [oI 0] (p:=Yr a/\K (.ret (.int n)) [(0,.ref a)] [zO a 7 i (aC c im cl T b n io),.raw r] F) ?_
 exact⟨rfl,hK () _ _ _ trivial rfl (Vw.refl _ _)⟩
theorem Ik:aL (β:=Unit) (G (k+4)) 51 [.ref a,.int x,.int v] [.k true (.ob a 6 i [])] F (λ_=>True) (λ_=>.none) λ_=>[.k true (.ob a 6 i [(6,.int x),(7,.int v)])]:=by
 refine aL.of (B (k+3) 51 c51 rfl) λr K hK=>?_
 show aj (G (k+3)) [c51] [(0,.ref a),(42,.int x),(87,.int v)] [.k true (.ob a 6 i []),.raw r] F K
 refine aj.rn (ao B k) [oI 0,oI 0] (p:=Yr a/\Yr a/\K Fl.next [(0,.ref a),(42,.int x),(87,.int v)] [zO a 6 i [(6,.int x),(7,.int v)],.raw r] F) ?_
 exact⟨rfl,rfl,hK () _ _ _ trivial rfl (Vw.refl _ _)⟩
end
structure Ql where
 x:Ij
 e:Nat
 d:Nat
section
variable{G:Nat->bI}(B:bD G)(k:Nat){F:CL}{a i cl T c d b:Nat}{n x v:Int}{io o:Bool}{es:List E}{ks:List Tr}{fs:List E}
include B
theorem Fy(hc:cI F c)(hT:3<=T/\T<=1000)(hd:d<=59)(hs:Sh T d (rl d) (.nd b o es ks))(hf:flat (.nd b o es ks)=fs)(sr:bw fs)
  (ck:∀F,aL (β:=Unit) (G (k+69)) 39 [.ref a] [.k true (.ob a 7 i (aC c false cl T b n io)),.raw l0] F (λ_=>True) (λ_=>.none) λ_=>[.k true (.ob a 7 i (aC c false cl T b n io)),.raw l1]) :
  qP (G (k+71)) 58 [.ref a,.int x,.int v] [.k true (.ob a 7 i (aC c false cl T b n io)),.tr T c (.nd b o es ks),.raw l0] F (λy:Ql=>Jy T d (iM ⟨y.e,x,v⟩ fs) (λl=>l=l1) y.x) (λ_=>.none) (λy=>Mine.cl (.ob y.e 6 y.d [(6,.int x),(7,.int v)]))
   λy=>[.k true (.ob a 7 i (aC c false cl T y.x.t.a (bif (bR x fs).isSome then n else n+1) io)),.tr T c y.x.t,.raw y.x.l]:=by
 refine aL.NQ (B (k+70) 58 c58 rfl) λr K hK=>?_
 show aj (G (k+70)) [c58] [(0,.ref a),(42,.int x),(87,.int v)] [.k true (.ob a 7 i (aC c false cl T b n io)),.tr T c (.nd b o es ks),.raw l0,.raw r] F K
 refine aj.rn (ao B (k+67)) [] (p:=∀(a_1 d:Nat),au (G (k+70)) 51 [.ref a_1,.int x,.int v] [zO a_1 6 d [],zO a 7 i (aC c false cl T b n io),.tr T c (Tr.nd b o es ks),.raw l0,.raw r] F λu A F=>gD u (bF (G (k+70)) 107 [c58_1] [(0,.ref a),(42,.int x),(87,.int v)] K (.ref a_1) A F)) ?_
 refine λq dq=>au.call [0] rfl (Ik B (k+66)) λ_ _=>aj.Ai [0] rfl ?_
 show aj (G (k+70)) [c58_1] [(0,.ref a),(42,.int x),(87,.int v),(107,.ref q)] [.k true (.ob a 7 i (aC c false cl T b n io)),.tr T c (.nd b o es ks),.raw l0,.raw r] (Mine.cl (.ob q 6 dq [(6,.int x),(7,.int v)])++F) K
 have he:aQ (Mine.cl (.ob q 6 dq [(6,.int x),(7,.int v)])++F) ⟨q,x,v⟩:=⟨dq,λp hp=>Q9 _ hp⟩
 refine aj.rn (ao B (k+67)) [oI 0,oI 0] (p:=Yr a/\Yr a/\au (G (k+70)) 40 [.ref a,.ref q,.bool io] [zO a 7 i (aC c false cl T b n io),.tr T c (Tr.nd b o es ks),.raw l0,.raw r] (Mine.cl (.ob q 6 dq [(6,.int x),(7,.int v)])++F) (bx (G (k+70)) [[]] [(0,.ref a),(42,.int x),(87,.int v),(107,.ref q)] K)) ?_
 refine⟨rfl,rfl,au.call [0,0,0] rfl (KJ (e:=⟨q,x,v⟩) (p0:=λl=>l=l1) B k (hc.mono eO) hT he hd hs hf sr λr H Q X S q=>ck _ r H Q X S λ_ H' _ S'=>q l1 H' rfl S') λy hy=>?_⟩
 refine aj.rn (ao B (k+67)) [] (p:=K Fl.next [(0,.ref a),(42,.int x),(87,.int v),(107,.ref q)] [zO a 7 i (aC c false cl T (Tr.a (Ij.t y)) (bif Option.isSome (bR x fs) then n else n+1) io),.tr T c (Ij.t y),.raw (Ij.l y),.raw r] (Mine.cl (.ob q 6 dq [(6,.int x),(7,.int v)])++F)) ?_
 exact hK ⟨y,q,dq⟩ _ _ _ hy rfl (Vw.refl _ _)
end
def c56r:=.asg (.attr (.var 0) 12) (.var 12)::nL
def B56(G:Nat->bI):Prop:=∀k (a d:Nat) (fs:Loc) (t ov io:V) (H:AH) (Q:QV) (X:QX),H a=some (.inst 7 d)->H d=some (.ns fs) ->
 G k 37 [.ref a,t,ov] H (λ_ H=>gH (G k) c56r [(0,.ref a),(1,t),(138,ov),(12,io)] H (λfl _ H'=>Q fl.val H') (λ_ _ _=>False)) X->G (k+1) 56 [.ref a,t,ov,io] H Q X
theorem aL.BL {G:Nat->bI} {F:CL} {A:List Th} {β:Type} {k a d:Nat} {fs:Loc} {t ov io:V} {p:β->Prop} {v:β->V} {X:β->CL} {A':β->List Th} (B:B56 G) (h:∀(r:CL) (K:KS),(∀x fl m A1,p x->fl.val=v x->Vw (X x++F) A1 (A' x++[.raw r])->K fl m A1 (X x++F)) ->
  au (G k) 37 [.ref a,t,ov] (.k true (.ob a 7 d fs)::A++[.raw r]) F (bx (G k) [c56r] [(0,.ref a),(1,t),(138,ov),(12,io)] K)):qP (G (k+1)) 56 [.ref a,t,ov,io] (.k true (.ob a 7 d fs)::A) F p v X A':=λr H Q Y S q=>by
 have i:=(S.kd (n:=0) rfl).1
 refine B k a d fs t ov io H Q Y (i _ (.head _)) (i _ (.tail _ (.head _))) ?_
 refine h r (λfl _ A1 F1=>∃x,p x/\fl.val=v x/\F1=X x++F/\Vw (X x++F) A1 (A' x++[.raw r])) (λx fl m A1 h1 h2 h3=>⟨x,h1,h2,rfl,h3⟩) H _ _ S λu A1 F1 H' k S'=>?_
 have e:c56r=[c56r].flatten:=(Rx c56r).symm
 rw[e]
 refine k H' _ _ S' λfl m' A1 F1 H' k S'=>?_
 obtain⟨x,hx,e1,e2,e3⟩:=k
 show Q fl.val H'
 rw[e1]
 rw[e2] at S'
 exact q _ _ hx (e3 _ S')
theorem oY:Ent F [.k true (.ce q (.list []))] [.stk q []]:=rY λl h=>by
 have h:l=_:=h.1
 exact⟨[l],⟨⟨[],rfl,h⟩,trivial⟩,List.Perm.of_eq (aG l).symm⟩
section
variable{G:Nat->bI}(B:bD G)(k:Nat){F:CL}{a d T:Nat}
include B
structure Mw where
 c:Nat
 dc:Nat
 cl:Nat
 b:Nat
theorem KZ(hT:3<=T):qP (G (k+4)) 37 [.ref a,.int T,.none] [.k true (.ob a 7 d [])] F (λ_=>True) (λ_=>.none) (λx:Mw=>cl (.ob x.c 1 x.dc [])) λx=>[.k true (.ob a 7 d [(2,.ref x.c),(11,.bool false),(10,.ref x.cl),(1,.int T),(8,.ref x.b),(9,.int 0)]),.k true (.ce x.cl (.list [])),.tr T x.c (.nd x.b true [] [])]:=by
 refine aL.NQ (B (k+3) 37 c37 rfl) λr K hK=>?_
 show aj (G (k+3)) [c37] [(0,.ref a),(1,.int T),(138,.none)] [.k true (.ob a 7 d []),.raw r] F K
 refine aj.run (ao B k) [oI 1,bM] ?_
 refine xc (p:=∀(a_1 d_1:Nat),Yr a/\aj (G (k+3)) [c37_1] [(0,.ref a),(1,.int T),(138,.none)] [zO a_1 1 d_1 [],zO a 7 d [(2,.ref a_1)],.raw r] F K) ?_
 refine λc dc=>⟨rfl,aj.Ai [0] rfl ?_⟩
 show aj (G (k+3)) [c37_1] [(0,.ref a),(1,.int T),(138,.none)] [.k true (.ob a 7 d [(2,.ref c)]),.raw r] (cl (.ob c 1 dc [])++F) K
 have hc:cI (cl (.ob c 1 dc [])++F) c:=⟨dc,λp hp=>Q9 _ hp⟩
 refine aj.rn (ao B k) [oI 0,oI 1,oB false,oB false,oI 1,oI 1,oI 1,oI 2,oI 2] (p:=Yr a/\∀(q:Nat),Yr a/\false=false/\decide ((↑T:Int)<3)=false/\Yr a/\Yr a/\Yr a/\∀(a_1 d_1:Nat),au (G (k+3)) 4 [.ref a_1,.int T,.ref c,.bool true] [zO a_1 2 d_1 [],zL q [],zO a 7 d [(2,.ref c),(11,.bool false),(10,.ref q),(1,.int T)],.raw r] (cl (.ob c 1 dc [])++F) λv A F=>gD v (BP (G (k+3)) cN (.attr (.var 0) 8) (.ref a_1) (some (bx (G (k+3)) [c37c_3,[]] [(0,.ref a),(1,.int T),(138,.none)] K)) [(0,.ref a),(1,.int T),(138,.none)] (St.mk A F [oI 2,oI 2]) λm st=>xs (G (k+3)) cN 93 [c37c_3,[]] m st K)) ?_
 refine⟨rfl,λq=>⟨rfl,rfl,Rr (by lia),rfl,rfl,rfl,λb db=>au.call [0] rfl (yC B (k+1) _ hT) λz _=>?_⟩⟩
 refine xc (p:=Yr a/\Yr a/\K Fl.next [(0,.ref a),(1,.int T),(138,.none)] [zN b db z.1 z.2 T c true [] [],zL q [],zO a 7 d [(2,.ref c),(11,.bool false),(10,.ref q),(1,.int T),(8,.ref b),(9,.int 0)],.raw r] (cl (.ob c 1 dc [])++F)) ?_
 exact⟨rfl,rfl,hK ⟨c,dc,q,b⟩ _ _ _ trivial rfl (Vw.go [] rfl zf (Vw.go [1,0] rfl (aD (ks:=[]) (oM hc) rfl rfl) (Vw.keep [2,1,0,0] rfl)))⟩
theorem K1{a0 d0 c0 cl0 b:Nat}{n:Int}{io:Bool}{t:V}:qP (G (k+4)) 37 [.ref a,t,.ref a0] [.k true (.ob a 7 d []),.k true (.ob a0 7 d0 (aC c0 true cl0 T b n io))] F (λ_=>True) (λ_=>.none) (λx:Mw=>cl (.ob x.c 1 x.dc [])) λx =>
  [.k true (.ob a 7 d [(2,.ref x.c),(11,.bool false),(10,.ref x.cl),(1,.int T),(8,.ref b),(9,.int n)]),.k true (.ce x.cl (.list [])),.k true (.ob a0 7 d0 (aC c0 true cl0 T b n io))]:=by
 refine aL.NQ (B (k+3) 37 c37 rfl) λr K hK=>?_
 show aj (G (k+3)) [c37] [(0,.ref a),(1,t),(138,.ref a0)] [.k true (.ob a 7 d []),.k true (.ob a0 7 d0 (aC c0 true cl0 T b n io)),.raw r] F K
 refine aj.run (ao B k) [oI 1,bM] ?_
 refine xc (p:=∀(a_1 d_1:Nat),Yr a/\aj (G (k+3)) [c37_1] [(0,.ref a),(1,t),(138,.ref a0)] [zO a_1 1 d_1 [],zO a 7 d [(2,.ref a_1)],zO a0 7 d0 (aC c0 true cl0 T b n io),.raw r] F K) ?_
 refine λc dc=>⟨rfl,aj.Ai [0] rfl ?_⟩
 show aj (G (k+3)) [c37_1] [(0,.ref a),(1,t),(138,.ref a0)] [.k true (.ob a 7 d [(2,.ref c)]),.k true (.ob a0 7 d0 (aC c0 true cl0 T b n io)),.raw r] (cl (.ob c 1 dc [])++F) K
 refine aj.rn (ao B k) [oI 0,oI 1,oB true,oI 2,oB false,oI 2,oI 1,oI 2,oI 1,oI 2,oI 1] (p:=Yr a/\∀(q:Nat),Yr a/\Yt/\Yr a0/\false=false/\Yr a0/\Yr a/\Yr a0/\Yr a/\Yr a0/\Yr a/\K Fl.next [(0,.ref a),(1,t),(138,.ref a0)] [zL q [],zO a 7 d [(2,.ref c),(11,.bool false),(10,.ref q),(1,.int T),(8,.ref b),(9,.int n)],zO a0 7 d0 (aC c0 true cl0 T b n io),.raw r] (cl (.ob c 1 dc [])++F)) ?_
 exact⟨rfl,λq=>⟨rfl,rfl,rfl,rfl,rfl,rfl,rfl,rfl,rfl,rfl,hK ⟨c,dc,q,b⟩ _ _ _ trivial rfl (Vw.keep [1,0,0,0] rfl)⟩⟩
theorem K3{c cl b:Nat}{n:Int}:aL (β:=Unit) (G (k+4)) 38 [.ref a] [.k true (.ob a 7 d (aC c false cl T b n io))] F (λ_=>True) (λ_=>.none) λ_=>[.k true (.ob a 7 d (aC c true cl T b n io))]:=by
 refine aL.of (B (k+3) 38 c38 rfl) λr K hK=>?_
 show aj (G (k+3)) [c38] [(0,.ref a)] [.k true (.ob a 7 d (aC c false cl T b n io)),.raw r] F K
 refine aj.rn (ao B k) [oI 0,oB true,oI 0] (p:=Yr a/\Yt/\Yr a/\K Fl.next [(0,.ref a)] [zO a 7 d (aC c true cl T b n io),.raw r] F) ?_
 exact⟨rfl,rfl,rfl,hK () _ _ _ trivial rfl (Vw.refl _ _)⟩
theorem Il:aL (G (k+4)) 26 [.ref a,.ref t] [.k true (.ob a 3 d [])] F (λ_=>True) (λ_=>.none) λpa:Nat=>[.k true (.ob a 3 d (aH t .none 0 false true pa false .none false)),.stk pa []]:=by
 refine aL.of (B (k+3) 26 c26 rfl) λr K hK=>?_
 show aj (G (k+3)) [c26] [(0,.ref a),(13,.ref t)] [.k true (.ob a 3 d []),.raw r] F K
 refine aj.rn (ao B k) [oI 0,oI 0,oI 0,oI 0,oI 0,oI 1,oI 1,oI 1,oI 1] (p:=Yr a/\Yr a/\Yr a/\Yr a/\Yr a/\∀(q:Nat),Yr a/\Yr a/\Yr a/\Yr a/\K Fl.next [(0,.ref a),(13,.ref t)] [zL q [],zO a 3 d (aH t .none 0 false true q false .none false),.raw r] F) ?_
 exact⟨rfl,rfl,rfl,rfl,rfl,λq=>⟨rfl,rfl,rfl,rfl,hK q _ _ _ trivial rfl (Vw.go [0] rfl oY (Vw.keep [1,0,0] rfl))⟩⟩
structure Mx where
 p:Nat
 d:Nat
 pa:Nat
theorem FJ{c cl b:Nat}{n:Int}:aL (G (k+5)) 48 [.ref a] [.k true (.ob a 7 d (aC c im cl T b n io))] F (λ_=>True) (λx:Mx=>.ref x.p) λx=>[.k true (.ob x.p 3 x.d (aH a .none 0 false true x.pa false .none false)),.stk x.pa [],.k true (.ob a 7 d (aC c im cl T b n io))]:=by
 refine aL.of (B (k+4) 48 c48 rfl) λr K hK=>?_
 show aj (G (k+4)) [c48] [(0,.ref a)] [.k true (.ob a 7 d (aC c im cl T b n io)),.raw r] F K
 refine aj.rn (ao B (k+1)) [] (p:=∀(a_1 d_1:Nat),au (G (k+4)) 26 [.ref a_1,.ref a] [zO a_1 3 d_1 [],zO a 7 d (aC c im cl T b n io),.raw r] F λu A F=>gD u (dY [(0,.ref a)] K (.ref a_1) A F)) ?_
 exact λp dp=>au.call [0] rfl (Il B k) λpa _=>hK ⟨p,dp,pa⟩ _ _ _ trivial rfl (Vw.refl _ _)
theorem K4{c cl b p t i pa:Nat}{n:Int}{j:Int}:aL (β:=Unit) (G (k+4)) 49 [.ref a,.ref p] [.k true (.ob a 7 d (aC c im cl T b n io)),.k true (.ce cl (.list [])),.k true (.ob p 3 i (aH t x j rc ic pa pk key rd))] F (λ_=>True) (λ_=>.none) λ_ =>
  [.k true (.ob a 7 d (aC c im cl T b n io)),.k true (.ce cl (.list [.ref p])),.k true (.ob p 3 i (aH t x j rc ic pa pk key rd))]:=by
 refine aL.of (B (k+3) 49 c49 rfl) λr K hK=>?_
 show aj (G (k+3)) [c49] [(0,.ref a),(84,.ref p)] [.k true (.ob a 7 d (aC c im cl T b n io)),.k true (.ce cl (.list [])),.k true (.ob p 3 i (aH t x j rc ic pa pk key rd)),.raw r] F K
 refine aj.rn (ao B k) [oI 0,oI 1,oB true,oI 0,oI 1,oI 1,oR p] (p:=Yr a/\Yr cl/\Yt/\Yr a/\Yr cl/\Yr cl/\0<=1000000/\(Yr p/\True)/\K Fl.next [(0,.ref a),(84,.ref p)] [zO a 7 d (aC c im cl T b n io),zL cl [.ref p],zO p 3 i (aH t x j rc ic pa pk key rd),.raw r] F) ?_
 exact⟨rfl,rfl,rfl,rfl,rfl,rfl,Nat.zero_le _,⟨rfl,trivial⟩,hK () _ _ _ trivial rfl (Vw.refl _ _)⟩
theorem K5(h56:B56 G)(hT:3<=T):qP (G (k+5)) 56 [.ref a,.int T,.none,.bool io] [.k true (.ob a 7 d [])] F (λ_=>True) (λ_=>.none) (λx:Mw=>cl (.ob x.c 1 x.dc [])) λx=>[.k true (.ob a 7 d (aC x.c false x.cl T x.b 0 io)),.k true (.ce x.cl (.list [])),.tr T x.c (.nd x.b true [] [])]:=by
 refine aL.BL h56 λr K hK=>au.nJ [0] rfl (KZ B k hT) λx _=>?_
 refine aj.rn (ao B (k+1)) [oI 0] (p:=Yr a/\K Fl.next [(0,.ref a),(1,.int T),(138,.none),(12,.bool io)] [zO a 7 d (aC x.c false x.cl T x.b 0 io),zL x.cl [],.tr T x.c (Tr.nd x.b true [] []),.raw r] (cl (.ob x.c 1 x.dc [])++F)) ?_
 exact⟨rfl,hK x _ _ _ trivial rfl (Vw.refl _ _)⟩
theorem K6(h56:B56 G):qP (G (k+5)) 56 [.ref a,t,.ref a0,.bool jo] [.k true (.ob a 7 d []),.k true (.ob a0 7 d0 (aC c0 true cl0 T b n io))] F (λ_=>True) (λ_=>.none) (λx:Mw=>cl (.ob x.c 1 x.dc [])) λx =>
  [.k true (.ob a 7 d (aC x.c false x.cl T b n jo)),.k true (.ce x.cl (.list [])),.k true (.ob a0 7 d0 (aC c0 true cl0 T b n io))]:=by
 refine aL.BL h56 λr K hK=>au.nJ [0,0] rfl (K1 B k) λx _=>?_
 refine aj.rn (ao B (k+1)) [oI 0] (p:=Yr a/\K Fl.next [(0,.ref a),(1,t),(138,.ref a0),(12,.bool jo)] [zO a 7 d (aC x.c false x.cl T b n jo),zL x.cl [],zO a0 7 d0 (aC c0 true cl0 T b n io),.raw r] (cl (.ob x.c 1 x.dc [])++F)) ?_
 exact⟨rfl,hK x _ _ _ trivial rfl (Vw.refl _ _)⟩
end
def oZ(F:CL)(T a:Nat)(es:List E)(ks:List Tr):Prop:=∃x:Kp,(∀p∈cl (.nd a x.d x.le x.lc T x.c ks.isEmpty es (ks.map Tr.a)),p∈F)/\∀e∈es,aQ F e
def Fz(F:CL)(T:Nat):Nat->Tr->Prop
 | 0,.nd a _ es ks=>oZ F T a es ks
 | d+1,.nd a _ es ks=>oZ F T a es ks/\∀k∈ks,Fz F T d k
theorem Fz.nd:∀{d:Nat},Fz F T d (.nd a o es ks)->oZ F T a es ks
 | 0,h=>h
 | _+1,h=>h.1
theorem uJ(h:∀p∈F,p∈F'):∀{d:Nat} {t:Tr} {l:CL},tree F T c t l->(∀p∈l,p∈F')->Fz F' T d t:=by
 intro d
 induction d with
 | zero =>
  intro t l k g
  obtain⟨a,o,es,ks⟩:=t
  rw[eZ] at k
  obtain⟨d,le,lc,c',l1,l2,e,h2,_,_⟩:=k
  refine⟨⟨d,le,lc,c'⟩,λp hp=>?_,λe he=>(h2.2 e he).mono h⟩
  cases o with
  | true=>exact g p (e▸Q9 _ ((show l1=_ from h2.1)▸hp))
  | false=>exact h p (h2.1.2 p hp)
 | succ n ih =>
  intro t l k g
  obtain⟨a,o,es,ks⟩:=t
  rw[eZ] at k
  obtain⟨d,le,lc,c',l1,l2,e,h2,_,h4⟩:=k
  refine⟨⟨⟨d,le,lc,c'⟩,λp hp=>?_,λe he=>(h2.2 e he).mono h⟩,λk hk=>?_⟩
  ·cases o with
   | true=>exact g p (e▸Q9 _ ((show l1=_ from h2.1)▸hp))
   | false=>exact h p (h2.1.2 p hp)
  ·have g2:∀p∈l2,p∈F':=λp hp=>g p (e▸QZ _ hp)
   clear h2 e g
   induction ks generalizing l2 with
   | nil=>cases hk
   | cons x r ih2 =>
    rw[aY] at h4
    obtain⟨l3,l4,e,h5,h6⟩:=h4
    rcases RJ.mp hk with rfl|hk
    ·exact ih h5 λp hp=>g2 p (e▸Q9 _ hp)
    ·exact ih2 l4 h6 hk λp hp=>g2 p (e▸QZ _ hp)
section
variable{Γ:bI}{A:List Th}{F:CL}{m:Loc}{rs:lM}{K:KS}
theorem aj.rd(h:oZ F T a es ks)(k:∀x:Kp,aj Γ rs m (.k false (.nd a x.d x.le x.lc T x.c ks.isEmpty es (ks.map Tr.a))::A) F K):aj Γ rs m A F K:=λH Q X S q=>by
 obtain⟨x,h1,h2⟩:=h
 refine k x H Q X ?_ q
 obtain⟨ls,s1,s2⟩:=S
 exact Sat.cons (t:=.k false (.nd a x.d x.le x.lc T x.c ks.isEmpty es (ks.map Tr.a))) (l:=[]) ⟨⟨rfl,h1⟩,h2⟩ s1 s2
end
def Pa(d0:Nat)(t0:Tr):List (Nat × Int)->Nat->Tr->List E->List E->Prop
 | [],d,t,L,R=>d=d0/\t=t0/\L=[]/\R=[]
 | x::xs,d,t,L,R=>∃a o el er kl kr L' R',x=(a,((kl.length:Nat):Int))/\el.length=kl.length/\er.length=kr.length/\L=L'++fj el kl/\R=gF er kr++R'/\Pa d0 t0 xs (d+1) (.nd a o (el++er) (kl++t::kr)) L' R'
section
variable{F:CL}{T d0 lo0:Nat}{t0:Tr}(hs:Sh T d0 lo0 t0)(hz:Fz F T d0 t0)
include hs hz
theorem Pa.ok:∀{xs:List (Nat × Int)} {d:Nat} {t:Tr} {L R:List E},Pa d0 t0 xs d t L R->(∃lo,Sh T d lo t)/\Fz F T d t/\L++(flat t++R)=flat t0
 | [],d,t,L,R,h=>by
  obtain⟨rfl,rfl,rfl,rfl⟩:=h
  exact⟨⟨_,hs⟩,hz,Rx _⟩
 | x::xs,d,t,L,R,h=>by
  obtain⟨a,o,el,er,kl,kr,L',R',_,h1,h2,rfl,rfl,h3⟩:=h
  obtain⟨⟨lo,q1⟩,q2,q3⟩:=Pa.ok h3
  refine⟨⟨_,q1.2.2 t (by simp)⟩,q2.2 t (by simp),?_⟩
  rw[<-q3,bh h1]
  simp only [Rg]
end
structure Gp(d0:Nat)(t0:Tr)(xs:List (Nat × Int))(d a:Nat)(o:Bool)(es:List E)(ks:List Tr)(i:Int)(b:Bool)(A B:List E)(L R el er:List E):Prop where
 p:Pa d0 t0 xs d (.nd a o es ks) L R
 es:es=el++er
 i:i=((el.length:Nat):Int)
 k:ks=[]/\A=L++el/\B=er++R\/∃kl k kr,ks=kl++k::kr/\el.length=kl.length/\er.length=kr.length/\A=L++(fj el kl++bif b then flat k else [])/\B=(bif b then [] else flat k)++(gF er kr++R)
structure bW where
 xs:List (Nat × Int)
 d:Nat
 a:Nat
 o:Bool
 es:List E
 ks:List Tr
 i:Int
 L:List E
 R:List E
 el:List E
 er:List E
def bW.ok(d0:Nat)(t0:Tr)(b:Bool)(A B:List E)(x:bW):Prop:=Gp d0 t0 x.xs x.d x.a x.o x.es x.ks x.i b A B x.L x.R x.el x.er
theorem Pa.len:∀{xs:List (Nat × Int)} {d:Nat} {t:Tr} {L R:List E},Pa d0 t0 xs d t L R->xs.length+d=d0
 | [],d,t,L,R,h=>by rw[h.1];exact Nat.zero_add _
 | x::xs,d,t,L,R,h=>by
  obtain⟨a,o,el,er,kl,kr,L',R',_,_,_,_,_,h3⟩:=h
  have:=Pa.len h3
  rw[Rn];lia
theorem fu:fj [] []=[]:=by rw[fj];exact nofun
theorem K7{T lo d0 d a a':Nat}{o o':Bool}{xs:List (Nat × Int)}{el er es':List E}{kl kr ks':List Tr}{L R C D:List E}(h:Pa d0 t0 xs (d+1) (.nd a o (el++er) (kl++.nd a' o' es' ks'::kr)) L R)(s:Sh T d lo (.nd a' o' es' ks'))(h1:el.length=kl.length)(h2:er.length=kr.length)
  (hC:C=L++(fj el kl++[])) (hD:D=flat (.nd a' o' es' ks')++(gF er kr++R)):Gp d0 t0 ((a,((kl.length:Nat):Int))::xs) d a' o' es' ks' 0 false C D (L++fj el kl) (gF er kr++R) [] es':=by
 rw[Rx] at hC
 refine⟨⟨a,o,el,er,kl,kr,L,R,rfl,h1,h2,rfl,rfl,h⟩,rfl,rfl,?_⟩
 cases ks' with
 | nil=>exact .inl ⟨rfl,by rw[Rx];exact hC,by rw[hD,aq,aN]⟩
 | cons k r =>
  have hk:=s.ks
  refine .inr ⟨[],k,r,rfl,rfl,?_,by rw[hC,fu];exact(Rx _).symm,?_⟩
  ·rcases hk with e|e
   ·cases e
   ·rw[Rn] at e;lia
  ·have:=bB es' k r (el:=[]) (kl:=[]) rfl
   rw[fu] at this
   rw[hD,aq]
   show fl ([]++es') ([]++k::r)++_=flat k++_
   rw[this,List.nil_append,Rg]
theorem iG:gF [] []=[]:=aN []
theorem K8{T lo d0 d a a':Nat}{o o':Bool}{xs:List (Nat × Int)}{el er es':List E}{kl kr ks':List Tr}{L R C D:List E}(h:Pa d0 t0 xs (d+1) (.nd a o (el++er) (kl++.nd a' o' es' ks'::kr)) L R)(s:Sh T d lo (.nd a' o' es' ks'))(h1:el.length=kl.length)(h2:er.length=kr.length)
  (hC:C=L++(fj el kl++flat (.nd a' o' es' ks'))) (hD:D=[]++(gF er kr++R)):Gp d0 t0 ((a,((kl.length:Nat):Int))::xs) d a' o' es' ks' es'.length true C D (L++fj el kl) (gF er kr++R) es' []:=by
 refine⟨⟨a,o,el,er,kl,kr,L,R,rfl,h1,h2,rfl,rfl,h⟩,(Rx _).symm,rfl,?_⟩
 rcases Q8 ks' with rfl|⟨kl',k,e⟩
 ·exact .inl ⟨rfl,by rw[hC,aq,aN,Rg],hD⟩
 ·have e:ks'=kl'++k::[]:=by rw[e,List.concat_eq_append]
  subst e
  have hk:es'.length=kl'.length:=by
   rcases s.ks with e|e
   ·simp at e
   ·simp at e;exact e.symm
  refine .inr ⟨kl',k,[],rfl,hk,rfl,?_,by rw[hD,iG];rfl⟩
  have:=bB [] k [] hk
  rw[iG,Rx,Rx] at this
  rw[hC,aq,this,Rg]
  rfl
theorem jC:∀{el:List E} {kl:List Tr},el.length=kl.length->fj (el++[e]) (kl++[k])=fj el kl++(flat k++[e])
 | [],[],_=>by
  show flat k++e::fj [] []=fj [] []++_
  rw[fu];rfl
 | x::el,y::kl,h=>by
  show flat y++x::fj (el++[e]) (kl++[k])=(flat y++x::fj el kl)++_
  rw[jC (Nat.succ.inj h),Rg];rfl
theorem mG:gF (e::er) (k::kr)=e::(flat k++gF er kr):=by
 show e::fl er (k::kr)=_
 have:=bB er k kr (el:=[]) (kl:=[]) rfl
 rw[fu] at this
 exact congrArg (e::·) this
section
variable{G:Nat->bI}(B:bD G)(k:Nat){F:CL}{T d0 lo0 p i t pa:Nat}{t0:Tr}{rc ic pk rd:Bool}{key:V}{C D:List E}
include B
theorem uK(hs:Sh T d0 lo0 t0)(hz:Fz F T d0 t0)(hT:T<=1000)(hd:d0<=1000){x:bW}(hx:x.ok d0 t0 false C D):aL (G (k+4)) 27 [.ref p] [.k true (.ob p 3 i (aH t (.ref x.a) x.i rc ic pa pk key rd)),.stk pa x.xs.reverse] F (λy:bW=>y.ks=[]/\y.ok d0 t0 false C D) (λ_=>.none) λy=>[.k true (.ob p 3 i (aH t (.ref y.a) y.i rc ic pa pk key rd)),.stk pa y.xs.reverse]:=by
 refine aL.of (B (k+3) 27 c27 rfl) λr K hK=>?_
 show aj (G (k+3)) [c27] [(0,.ref p)] [.k true (.ob p 3 i (aH t (.ref x.a) x.i rc ic pa pk key rd)),.stk pa x.xs.reverse,.raw r] F K
 refine aj.rn (ao B k) [oI 0] (p:=Yr p/\Yt/\aj (G (k+3)) [c27_1] [(0,.ref p)] [zO p 3 i (aH t (.ref x.a) x.i rc ic pa pk key rd),.stk pa (List.reverse x.xs),.raw r] F K) ?_
 refine⟨rfl,rfl,aj.whl (λn m A F'=>F'=F/\m=[(0,.ref p)]/\∃y:bW,n=y.d/\y.ok d0 t0 false C D/\Vw F A [.k true (.ob p 3 i (aH t (.ref y.a) y.i rc ic pa pk key rd)),.stk pa y.xs.reverse,.raw r]) _ ⟨rfl,rfl,x,rfl,hx,Vw.refl _ _⟩ λn m A F' hI=>?_⟩
 obtain⟨rfl,rfl,y,rfl,hy,hv⟩:=hI
 obtain⟨xs,d,a,o,es,ks,j,L,R,el,er⟩:=y
 refine aj.vw hv ?_
 obtain⟨⟨lo,s⟩,z,_⟩:=Pa.ok hs hz hy.p
 refine aj.rd z.nd λnd=>?_
 have ln:=Pa.len hy.p
 obtain⟨p1,p2,p3,hk⟩:=hy
 dsimp only at p1 p2 p3 hk ln s
 rcases hk with ⟨rfl,hC,hD⟩|⟨kl,kc,kr,rfl,h1,h2,hC,hD⟩
 ·refine aj.rn (ao B k) [oI 1,oI 0,oB false] (p:=Yr p/\Yr a/\false=false/\aj (G (k+3)) [[]] [(0,.ref p)] [.k false (.nd a nd.d nd.le nd.lc T nd.c true es (List.map Tr.a [])),zO p 3 i (aH t (.ref a) j rc ic pa pk key rd),.stk pa (List.reverse xs),.raw r] F' K) ?_
  refine⟨rfl,rfl,rfl,?_⟩
  refine aj.rn (ao B k) [] (p:=K Fl.next [(0,.ref p)] [.k false (.nd a nd.d nd.le nd.lc T nd.c true es (List.map Tr.a [])),zO p 3 i (aH t (.ref a) j rc ic pa pk key rd),.stk pa (List.reverse xs),.raw r] F') ?_
  exact hK ⟨xs,d,a,o,es,[],j,L,R,el,er⟩ _ _ _ ⟨rfl,p1,p2,p3,.inl ⟨rfl,hC,hD⟩⟩ rfl (Vw.keep [1,1,1] rfl)
 ·obtain⟨a',o',es',ks'⟩:=kc
  have hj:j=((kl.map Tr.a).length:Int):=by rw[p3,h1,Rt]
  cases d with
  | zero=>exact absurd s.1 (by simp)
  | succ d =>
   subst p2
   rw[aX,<-bG]
   refine aj.rn (ao B k) [oI 1,oI 0,oB true,oI 1,oI 2,oI 1,oI 1,oI 3,oI 0,oI 2,oI 1,oI 2,oK 1,on a',oI 2,oI 2,oI 2] (p:=Yr p/\Yr a/\Yt/\Yr p/\Yr pa/\Yr p/\Yr p/\∀(q:Nat),Yr pa/\(List.reverse xs).length<=1000000/\Yr q/\Yr p/\Yr a/\Yr p/\Yr nd.lc/\idxV (List.map Tr.a kl++a'::List.map Tr.a kr) j=some a'/\Yr p/\Yr p/\Yt/\Yr p/\∃(k:Nat),k<d+1/\F'=F'/\[(0,V.ref p)]=[(0,V.ref p)]/\∃(y:bW),k=bW.d y/\bW.ok d0 t0 false C D y/\Vw F' [.mt,.k false (.nd a nd.d nd.le nd.lc T nd.c false (el++er) (List.map Tr.a kl++a'::List.map Tr.a kr)),zO p 3 i (aH t (.ref a') 0 rc ic pa pk key rd),.stk pa (List.reverse xs++[(a,j)]),.raw r] [zO p 3 i (aH t (.ref y.a) y.i rc ic pa pk key rd),.stk pa (List.reverse y.xs),.raw r]) ?_
   rw[<-List.reverse_cons]
   refine⟨rfl,rfl,rfl,rfl,rfl,rfl,rfl,λq=>⟨rfl,by rw[List.length_reverse];lia,rfl,rfl,rfl,rfl,rfl,bH hj,rfl,rfl,rfl,rfl,?_⟩⟩
   refine⟨d,Nat.lt_succ_self _,rfl,rfl,⟨(a,j)::xs,d,a',o',es',ks',0,L++fj el kl,gF er kr++R,[],es'⟩,rfl,?_,Vw.keep [2,2,2] rfl⟩
   rw[show j=((kl.length:Nat):Int) by rw[p3,h1]]
   exact K7 p1 (s.2.2 _ (by simp)) h1 h2 hC hD
theorem uL(hs:Sh T d0 lo0 t0)(hz:Fz F T d0 t0)(hT:T<=1000)(hd:d0<=1000){x:bW}(hx:x.ok d0 t0 true C D):aL (G (k+4)) 28 [.ref p] [.k true (.ob p 3 i (aH t (.ref x.a) x.i rc ic pa pk key rd)),.stk pa x.xs.reverse] F (λy:bW=>y.ks=[]/\y.ok d0 t0 true C D) (λ_=>.none) λy=>[.k true (.ob p 3 i (aH t (.ref y.a) y.i rc ic pa pk key rd)),.stk pa y.xs.reverse]:=by
 refine aL.of (B (k+3) 28 c28 rfl) λr K hK=>?_
 show aj (G (k+3)) [c28] [(0,.ref p)] [.k true (.ob p 3 i (aH t (.ref x.a) x.i rc ic pa pk key rd)),.stk pa x.xs.reverse,.raw r] F K
 refine aj.rn (ao B k) [oI 0] (p:=Yr p/\Yt/\aj (G (k+3)) [c28_1] [(0,.ref p)] [zO p 3 i (aH t (.ref x.a) x.i rc ic pa pk key rd),.stk pa (List.reverse x.xs),.raw r] F K) ?_
 refine⟨rfl,rfl,aj.whl (λn m A F'=>F'=F/\m=[(0,.ref p)]/\∃y:bW,n=y.d/\y.ok d0 t0 true C D/\Vw F A [.k true (.ob p 3 i (aH t (.ref y.a) y.i rc ic pa pk key rd)),.stk pa y.xs.reverse,.raw r]) _ ⟨rfl,rfl,x,rfl,hx,Vw.refl _ _⟩ λn m A F' hI=>?_⟩
 obtain⟨rfl,rfl,y,rfl,hy,hv⟩:=hI
 obtain⟨xs,d,a,o,es,ks,j,L,R,el,er⟩:=y
 refine aj.vw hv ?_
 obtain⟨⟨lo,s⟩,z,_⟩:=Pa.ok hs hz hy.p
 refine aj.rd z.nd λnd=>?_
 have ln:=Pa.len hy.p
 obtain⟨p1,p2,p3,hk⟩:=hy
 dsimp only at p1 p2 p3 hk ln s
 rcases hk with ⟨rfl,hC,hD⟩|⟨kl,kc,kr,rfl,h1,h2,hC,hD⟩
 ·refine aj.rn (ao B k) [oI 1,oI 0,oB false] (p:=Yr p/\Yr a/\false=false/\aj (G (k+3)) [[]] [(0,.ref p)] [.k false (.nd a nd.d nd.le nd.lc T nd.c true es (List.map Tr.a [])),zO p 3 i (aH t (.ref a) j rc ic pa pk key rd),.stk pa (List.reverse xs),.raw r] F' K) ?_
  refine⟨rfl,rfl,rfl,?_⟩
  refine aj.rn (ao B k) [] (p:=K Fl.next [(0,.ref p)] [.k false (.nd a nd.d nd.le nd.lc T nd.c true es (List.map Tr.a [])),zO p 3 i (aH t (.ref a) j rc ic pa pk key rd),.stk pa (List.reverse xs),.raw r] F') ?_
  exact hK ⟨xs,d,a,o,es,[],j,L,R,el,er⟩ _ _ _ ⟨rfl,p1,p2,p3,.inl ⟨rfl,hC,hD⟩⟩ rfl (Vw.keep [1,1,1] rfl)
 ·obtain⟨a',o',es',ks'⟩:=kc
  have hj:j=((kl.map Tr.a).length:Int):=by rw[p3,h1,Rt]
  cases d with
  | zero=>exact absurd s.1 (by simp)
  | succ d =>
   subst p2
   rw[aX,<-bG]
   refine aj.rd (z.2 (.nd a' o' es' ks') (by simp)).nd λnd2=>?_
   refine aj.rn (ao B k) [oI 2,oI 1,oB true,oI 2,oI 3,oI 2,oI 2,oI 4,oI 0,oI 3,oI 2,oI 3,oK 2,on a',oI 3,oI 3,oI 3,oI 1,oE 1,oI 3] (p:=Yr p/\Yr a/\Yt/\Yr p/\Yr pa/\Yr p/\Yr p/\∀(q:Nat),Yr pa/\(List.reverse xs).length<=1000000/\Yr q/\Yr p/\Yr a/\Yr p/\Yr nd.lc/\idxV (List.map Tr.a kl++a'::List.map Tr.a kr) j=some a'/\Yr p/\Yr p/\Yt/\Yr p/\Yr a'/\Yr nd2.le/\Yr p/\∃(k:Nat),k<d+1/\F'=F'/\[(0,V.ref p)]=[(0,V.ref p)]/\∃(y:bW),k=bW.d y/\bW.ok d0 t0 true C D y/\Vw F' [.mt,.k false (.nd a' nd2.d nd2.le nd2.lc T nd2.c (List.isEmpty ks') es' (ks'.map Tr.a)),.k false (.nd a nd.d nd.le nd.lc T nd.c false (el++er) (List.map Tr.a kl++a'::List.map Tr.a kr)),zO p 3 i (aH t (.ref a') es'.length rc ic pa pk key rd),.stk pa (List.reverse xs++[(a,j)]),.raw r] [zO p 3 i (aH t (.ref y.a) y.i rc ic pa pk key rd),.stk pa (List.reverse y.xs),.raw r]) ?_
   rw[<-List.reverse_cons]
   refine⟨rfl,rfl,rfl,rfl,rfl,rfl,rfl,λq=>⟨rfl,by rw[List.length_reverse];lia,rfl,rfl,rfl,rfl,rfl,bH hj,rfl,rfl,rfl,rfl,rfl,rfl,rfl,?_⟩⟩
   refine⟨d,Nat.lt_succ_self _,rfl,rfl,⟨(a,j)::xs,d,a',o',es',ks',es'.length,L++fj el kl,gF er kr++R,es',[]⟩,rfl,?_,Vw.keep [3,3,3] rfl⟩
   rw[show j=((kl.length:Nat):Int) by rw[p3,h1]]
   exact K8 p1 (s.2.2 _ (by simp)) h1 h2 hC hD
end
structure Wn(key:Int)(b:Bool)(A B:List E):Prop where
 a:∀x∈A,x.k<key\/b=false/\x.k=key
 b:∀x∈B,key<x.k\/b=true/\x.k=key
theorem Gp.leaf{d0:Nat}{xs:List (Nat × Int)}{d a:Nat}{o:Bool}{es:List E}{i:Int}{b b':Bool}{A B L R el er:List E}(h:Gp d0 t0 xs d a o es [] i b A B L R el er):Gp d0 t0 xs d a o es [] i b' A B L R el er :=
 ⟨h.p,h.es,h.i,h.k.elim (λh=>.inl h) λ⟨kl,k,kr,e,_⟩=>by cases kl<;>cases e⟩
theorem zq{T d0 lo0:Nat}(hs:Sh T d0 lo0 t0)(hz:Fz F T d0 t0){xs:List (Nat × Int)}{d a:Nat}{o:Bool}{es:List E}{ks:List Tr}{i:Int}{b:Bool}{A B L R el er:List E}(h:Gp d0 t0 xs d a o es ks i b A B L R el er):A++B=flat t0:=by
 obtain⟨h1,rfl,_,h4⟩:=h
 rw[<-(Pa.ok hs hz h1).2.2]
 rcases h4 with ⟨rfl,rfl,rfl⟩|⟨kl,k,kr,rfl,h5,h6,rfl,rfl⟩
 ·rw[aq,aN];simp
 ·rw[bh h5]
  cases b<;>simp
section
variable{G:Nat->bI}(B:bD G)(k:Nat){F:CL}{T d0 lo0 p i t pa:Nat}{t0:Tr}{rc ic pk rd bf:Bool}{key:Int}{ky cn:V}{j x:Int}
include B
theorem jX:aL (β:=Unit) (G (k+4)) 33 [.ref p,.bool bf,.int x] [.k true (.ob p 3 i (aH t cn j rc ic pa pk ky rd))] F (λ_=>True) (λ_=>.none) λ_=>[.k true (.ob p 3 i (aH t cn (bif bf then x else x+1) rc ic pa pk ky rd))]:=by
 refine aL.of (B (k+3) 33 c33 rfl) λr K hK=>?_
 show aj (G (k+3)) [c33] [(0,.ref p),(137,.bool bf),(123,.int x)] [.k true (.ob p 3 i (aH t cn j rc ic pa pk ky rd)),.raw r] F K
 cases bf with
 | true =>
  refine aj.rn (ao B k) [oB true,oI 0] (p:=Yt/\Yr p/\K Fl.next [(0,.ref p),(137,.bool true),(123,.int x)] [zO p 3 i (aH t cn x rc ic pa pk ky rd),.raw r] F) ?_
  exact⟨rfl,rfl,hK () _ _ _ trivial rfl (Vw.refl _ _)⟩
 | false =>
  refine aj.rn (ao B k) [oB false,oI 0] (p:=false=false/\Yr p/\K Fl.next [(0,.ref p),(137,.bool false),(123,.int x)] [zO p 3 i (aH t cn (x+1) rc ic pa pk ky rd),.raw r] F) ?_
  exact⟨rfl,rfl,hK () _ _ _ trivial rfl (Vw.refl _ _)⟩
structure Mz(d0:Nat)(t0:Tr)(key:Int)(b:Bool)(y:bW):Prop where
 lf:y.ks=[]
 g:∃A B,y.ok d0 t0 false A B/\Wn key b A B
structure uM(F:CL)(d0:Nat)(t0:Tr)(p i t pa dt:Nat)(bt:Loc)(bf:Bool)(key j:Int)(r:CL)(n:Nat)(m:Loc)(A:List Th)(xs:List (Nat × Int))(a:Nat)(o:Bool)(es:List E)(ks:List Tr)(L R:List E):Prop where
 m:m=[(0,.ref p),(42,.int key),(137,.bool bf)]\/∃x y,m=[(0,.ref p),(42,.int key),(137,.bool bf),(123,.int x),(125,.bool y)]
 A:Vw F A [.k true (.ob p 3 i (aH t (.ref a) j false bf pa false (.int key) false)),.stk pa xs.reverse,.k true (.ob t 7 dt bt),.raw r]
 p:Pa d0 t0 xs n (.nd a o es ks) L R
 w:cO key L R
theorem uN(hs:Sh T d0 lo0 t0)(hz:Fz F T d0 t0)(sr:bw (flat t0)){xs:List (Nat × Int)}(nd:Kp)(hm:m=[(0,.ref p),(42,.int key),(137,.bool bf)]\/∃x y,m=[(0,.ref p),(42,.int key),(137,.bool bf),(123,.int x),(125,.bool y)])(hp:Pa d0 t0 xs d (.nd a o es []) L R)(hw:cO key L R)
  (hK:∀(y:bW) fl m A1,Mz d0 t0 key bf y->fl.val=.none->Vw F A1 [.k true (.ob p 3 i (aH t (.ref y.a) y.i false bf pa false (.int key) false)),.stk pa y.xs.reverse,.k true (.ob t 7 dt bt),.raw r]->K fl m A1 F) :
  aj (G (k+5)) [c34_9] m [.k false (.nd a nd.d nd.le nd.lc T nd.c true es []),.k true (.ob p 3 i (aH t (.ref a) j false bf pa false (.int key) false)),.stk pa xs.reverse,.k true (.ob t 7 dt bt),.raw r] F K:=by
 obtain⟨_,z,hfl⟩:=Pa.ok hs hz hp
 rw[aq,aN] at hfl
 have s1:bw es:=by
  rw[<-hfl] at sr
  exact(Ra.mp (Ra.mp sr).2.1).1
 cases hh:hit key es with
 | true =>
  obtain⟨el,e0,er,rfl,h2,h3,_⟩:=iB hh
  have hpos:(pos key (el++e0::er):Int)=el.length:=by rw[h2]
  have w:cO key (L++el) (er++R):=by
   rw[<-h3];refine bN ?_
   rw[<-hfl] at sr
   simpa only [Rg,Rq] using sr
  have fin:∀fl m A1,fl.val=.none->Vw F A1 [.k true (.ob p 3 i (aH t (.ref a) (bif bf then (pos key (el++e0::er):Int) else (pos key (el++e0::er):Int)+1) false bf pa false (.int key) false)),.stk pa xs.reverse,.k true (.ob t 7 dt bt),.raw r]->K fl m A1 F:=λfl m A1 hv v=>by
   rw[hpos] at v
   cases bf with
   | true =>
    refine hK ⟨xs,d,a,o,el++e0::er,[],_,L,R,el,e0::er⟩ fl m A1 ⟨rfl,L++el,(e0::er)++R,⟨hp,rfl,rfl,.inl ⟨rfl,rfl,rfl⟩⟩,λx hx=>.inl (w.1 x hx),λx hx=>?_⟩ hv v
    rcases RJ.mp hx with rfl|hx
    ·exact .inr ⟨rfl,h3⟩
    ·exact .inl (w.2 x hx)
   | false =>
    refine hK ⟨xs,d,a,o,el++e0::er,[],_,L,R,el++[e0],er⟩ fl m A1 ⟨rfl,L++(el++[e0]),er++R,⟨hp,(dJ el er e0).symm,by rw[Rd];rfl,.inl ⟨rfl,rfl,rfl⟩⟩,λx hx=>?_,λx hx=>.inl (w.2 x hx)⟩ hv v
    rw[<-Rg] at hx
    rcases Ry.mp hx with hx|hx
    ·exact .inl (w.1 x hx)
    ·rw[Rf.mp hx];exact .inr ⟨rfl,h3⟩
  rcases hm with rfl|⟨x,y,rfl⟩
  ·refine aj.rn (ao B (k+2)) [oI 1,oI 0,oI 0,oI 0,oB true,oI 2] (p:=Yr p/\Yr a/\Yr a/\bw (el++e0::er)/\∀(p_1:Nat),Yr p_1/\hit key (el++e0::er)=true/\Yr p/\au (G (k+5)) 33 [.ref p,.bool bf,.int (↑(pos key (el++e0::er)):Int)] [zT p_1 [.int (↑(pos key (el++e0::er)):Int),.bool (hit key (el++e0::er))],.k false (.nd a nd.d nd.le nd.lc T nd.c true (el++e0::er) []),zO p 3 i (aH t (.ref a) j false bf pa false (.int key) false),.stk pa (List.reverse xs),zO t 7 dt bt,.raw r] F (bx (G (k+5)) [[],[]] [(0,.ref p),(42,.int key),(137,.bool bf),(123,.int (↑(pos key (el++e0::er)):Int)),(125,.bool (hit key (el++e0::er)))] K)) ?_
   refine⟨rfl,rfl,rfl,s1,λq0=>⟨rfl,hh,rfl,au.call [2] rfl (jX B (k+1)) λ_ _=>?_⟩⟩
   refine aj.rn (ao B (k+2)) [] (p:=K Fl.next [(0,.ref p),(42,.int key),(137,.bool bf),(123,.int (↑(pos key (el++e0::er)):Int)),(125,.bool (hit key (el++e0::er)))] [zO p 3 i (aH t (.ref a) (bif bf then (↑(pos key (el++e0::er)):Int) else (↑(pos key (el++e0::er)):Int)+1) false bf pa false (.int key) false),zT q0 [.int (↑(pos key (el++e0::er)):Int),.bool (hit key (el++e0::er))],.k false (.nd a nd.d nd.le nd.lc T nd.c true (el++e0::er) []),.stk pa (List.reverse xs),zO t 7 dt bt,.raw r] F) ?_
   exact fin _ _ _ rfl (Vw.keep [0,2,2,2] rfl)
  ·refine aj.rn (ao B (k+2)) [oI 1,oI 0,oI 0,oI 0,oB true,oI 2] (p:=Yr p/\Yr a/\Yr a/\bw (el++e0::er)/\∀(p_1:Nat),Yr p_1/\hit key (el++e0::er)=true/\Yr p/\au (G (k+5)) 33 [.ref p,.bool bf,.int (↑(pos key (el++e0::er)):Int)] [zT p_1 [.int (↑(pos key (el++e0::er)):Int),.bool (hit key (el++e0::er))],.k false (.nd a nd.d nd.le nd.lc T nd.c true (el++e0::er) []),zO p 3 i (aH t (.ref a) j false bf pa false (.int key) false),.stk pa (List.reverse xs),zO t 7 dt bt,.raw r] F (bx (G (k+5)) [[],[]] [(0,.ref p),(42,.int key),(137,.bool bf),(123,.int (↑(pos key (el++e0::er)):Int)),(125,.bool (hit key (el++e0::er)))] K)) ?_
   refine⟨rfl,rfl,rfl,s1,λq0=>⟨rfl,hh,rfl,au.call [2] rfl (jX B (k+1)) λ_ _=>?_⟩⟩
   refine aj.rn (ao B (k+2)) [] (p:=K Fl.next [(0,.ref p),(42,.int key),(137,.bool bf),(123,.int (↑(pos key (el++e0::er)):Int)),(125,.bool (hit key (el++e0::er)))] [zO p 3 i (aH t (.ref a) (bif bf then (↑(pos key (el++e0::er)):Int) else (↑(pos key (el++e0::er)):Int)+1) false bf pa false (.int key) false),zT q0 [.int (↑(pos key (el++e0::er)):Int),.bool (hit key (el++e0::er))],.k false (.nd a nd.d nd.le nd.lc T nd.c true (el++e0::er) []),.stk pa (List.reverse xs),zO t 7 dt bt,.raw r] F) ?_
   exact fin _ _ _ rfl (Vw.keep [0,2,2,2] rfl)
 | false =>
  obtain⟨el,er,rfl,h2,w⟩:=dD s1 hh
  have hpos:(pos key (el++er):Int)=el.length:=by rw[h2]
  have fin:∀fl m A1,fl.val=.none->Vw F A1 [.k true (.ob p 3 i (aH t (.ref a) (pos key (el++er):Int) false bf pa false (.int key) false)),.stk pa xs.reverse,.k true (.ob t 7 dt bt),.raw r]->K fl m A1 F:=λfl m A1 hv v =>
   hK ⟨xs,d,a,o,el++er,[],_,L,R,el,er⟩ fl m A1 ⟨rfl,L++el,er++R,⟨hp,rfl,hpos,.inl ⟨rfl,rfl,rfl⟩⟩,λx hx=>.inl ((Ry.mp hx).elim (hw.1 x) (w.1 x)),λx hx=>.inl ((Ry.mp hx).elim (w.2 x) (hw.2 x))⟩ hv v
  rcases hm with rfl|⟨x,y,rfl⟩
  ·refine aj.rn (ao B (k+2)) [oI 1,oI 0,oI 0,oI 0,oB false,oI 2] (p:=Yr p/\Yr a/\Yr a/\bw (el++er)/\∀(p_1:Nat),Yr p_1/\hit key (el++er)=false/\Yr p/\K Fl.next [(0,.ref p),(42,.int key),(137,.bool bf),(123,.int (↑(pos key (el++er)):Int)),(125,.bool (hit key (el++er)))] [zT p_1 [.int (↑(pos key (el++er)):Int),.bool (hit key (el++er))],.k false (.nd a nd.d nd.le nd.lc T nd.c true (el++er) []),zO p 3 i (aH t (.ref a) (↑(pos key (el++er)):Int) false bf pa false (.int key) false),.stk pa (List.reverse xs),zO t 7 dt bt,.raw r] F) ?_
   exact⟨rfl,rfl,rfl,s1,λq0=>⟨rfl,hh,rfl,fin _ _ _ rfl (Vw.keep [2,2,2,2] rfl)⟩⟩
  ·refine aj.rn (ao B (k+2)) [oI 1,oI 0,oI 0,oI 0,oB false,oI 2] (p:=Yr p/\Yr a/\Yr a/\bw (el++er)/\∀(p_1:Nat),Yr p_1/\hit key (el++er)=false/\Yr p/\K Fl.next [(0,.ref p),(42,.int key),(137,.bool bf),(123,.int (↑(pos key (el++er)):Int)),(125,.bool (hit key (el++er)))] [zT p_1 [.int (↑(pos key (el++er)):Int),.bool (hit key (el++er))],.k false (.nd a nd.d nd.le nd.lc T nd.c true (el++er) []),zO p 3 i (aH t (.ref a) (↑(pos key (el++er)):Int) false bf pa false (.int key) false),.stk pa (List.reverse xs),zO t 7 dt bt,.raw r] F) ?_
   exact⟨rfl,rfl,rfl,s1,λq0=>⟨rfl,hh,rfl,fin _ _ _ rfl (Vw.keep [2,2,2,2] rfl)⟩⟩
theorem Du(hs:Sh T d0 lo0 t0)(hz:Fz F T d0 t0)(hT:T<=1000)(hd:d0<=1000)(sr:bw (flat t0)){dt:Nat}{n:Nat}{A:List Th}{xs:List (Nat × Int)}{a:Nat}{o:Bool}{es:List E}{ks:List Tr}{L R:List E}(hF:F'=F)(h:uM F d0 t0 p i t pa dt bt bf key j r n m A xs a o es ks L R)
  (hK:∀(y:bW) fl m A1,Mz d0 t0 key bf y->fl.val=.none->Vw F A1 [.k true (.ob p 3 i (aH t (.ref y.a) y.i false bf pa false (.int key) false)),.stk pa y.xs.reverse,.k true (.ob t 7 dt bt),.raw r]->K fl m A1 F) :
  aj (G (k+5)) [[.ite (.not (.attr (.attr (.var 0) 14) 3)) c34a [.brk]]] m A F' (cB (λm A F'=>∃n',n'<n/\F'=F/\∃xs a o es ks L R,uM F d0 t0 p i t pa dt bt bf key j r n' m A xs a o es ks L R) (Rest (G (k+5)) [c34_9] K) K):=by
 subst hF
 obtain⟨hm,hA,hp,hw⟩:=h
 obtain⟨⟨lo,s⟩,z,hfl⟩:=Pa.ok hs hz hp
 have ln:=Pa.len hp
 refine aj.vw hA (aj.rd z.nd λnd=>?_)
 have srt:bw (fl es ks):=by
  rw[<-aq a o]
  rw[<-hfl] at sr
  exact(Ra.mp (Ra.mp sr).2.1).1
 have se:=eG srt
 rcases hk0:ks with _|⟨k0,kr0⟩
 ·subst hk0
  rcases hm with rfl|⟨x,y,rfl⟩
  ·refine aj.rn (ao B (k+2)) [oI 1,oI 0,oB false] (p:=Yr p/\Yr a/\false=false/\aj (G (k+5)) [c34_9] [(0,.ref p),(42,.int key),(137,.bool bf)] [.k false (.nd a nd.d nd.le nd.lc T nd.c true es (List.map Tr.a [])),zO p 3 i (aH t (.ref a) j false bf pa false (.int key) false),.stk pa (List.reverse xs),zO t 7 dt bt,.raw r] F' K) ?_
   exact⟨rfl,rfl,rfl,uN (r:=r) B k hs hz sr nd (.inl rfl) hp hw hK⟩
  ·refine aj.rn (ao B (k+2)) [oI 1,oI 0,oB false] (p:=Yr p/\Yr a/\false=false/\aj (G (k+5)) [c34_9] [(0,.ref p),(42,.int key),(137,.bool bf),(123,.int x),(125,.bool y)] [.k false (.nd a nd.d nd.le nd.lc T nd.c true es (List.map Tr.a [])),zO p 3 i (aH t (.ref a) j false bf pa false (.int key) false),.stk pa (List.reverse xs),zO t 7 dt bt,.raw r] F' K) ?_
   exact⟨rfl,rfl,rfl,uN (r:=r) B k hs hz sr nd (.inr ⟨_,_,rfl⟩) hp hw hK⟩
 ·rw[<-hk0]
  have hne:ks.isEmpty=false:=by rw[hk0];rfl
  rw[hne]
  obtain⟨n,rfl⟩:∃n',n=n'+1:=by
   cases n with
   | zero=>exact absurd (s.1) (by rw[hk0];exact nofun)
   | succ n=>exact⟨n,rfl⟩
  cases hh:hit key es with
  | true =>
   obtain⟨el,e0,er,rfl,h2,h3,_⟩:=iB hh
   have hks:=s.1
   obtain⟨kl,k1,k2,kr,rfl,hj⟩:∃kl t u kr,ks=kl++t::u::kr/\kl.length=el.length:=by
    have h5:el.length+1<ks.length:=by rw[hks,Rd,Rn];lia
    refine⟨ks.take el.length,ks[el.length],ks[el.length+1],ks.drop (el.length+2),?_,by rw[Rp];lia⟩
    rw[<-QH,<-QH,Q0]
   have her:er.length=kr.length:=by simp only [Rd,Rn] at hks;lia
   have hpos:(pos key (el++e0::er):Int)=el.length:=by rw[h2]
   rw[aq,jA hj.symm] at hfl
   have w:cO key (L++(fj el kl++flat k1)) ((flat k2++gF er kr)++R):=by
    rw[<-h3];refine bN ?_
    rw[<-hfl] at sr
    simpa only [Rg,Rq] using sr
   have g1:bW.ok d0 t0 true (L++(fj el kl++flat k1)) ([]++(gF (e0::er) (k2::kr)++R)) ⟨xs,n+1,a,o,el++e0::er,kl++k1::k2::kr,el.length,L,R,el,e0::er⟩:=⟨hp,rfl,rfl,.inr ⟨kl,k1,k2::kr,rfl,hj.symm,by rw[Rn,Rn,her],rfl,rfl⟩⟩
   have g2:bW.ok d0 t0 false (L++(fj (el++[e0]) (kl++[k1])++[])) (flat k2++(gF er kr++R)) ⟨xs,n+1,a,o,el++e0::er,kl++k1::k2::kr,(el.length:Int)+1,L,R,el++[e0],er⟩:=⟨hp,(dJ el er e0).symm,by rw[Rd];rfl,.inr ⟨kl++[k1],k2,kr,(dJ kl (k2::kr) k1).symm,by rw[Rd,Rd,hj];rfl,her,rfl,rfl⟩⟩
   have wt:Wn key true (L++(fj el kl++flat k1)) ([]++(gF (e0::er) (k2::kr)++R)):=⟨λx hx=>.inl (w.1 x hx),λx hx=>by
    rw[mG] at hx
    rcases RJ.mp (show x∈e0::((flat k2++gF er kr)++R) from hx) with rfl|hx
    ·exact .inr ⟨rfl,h3⟩
    ·exact .inl (w.2 x hx)⟩
   have wf:Wn key false (L++(fj (el++[e0]) (kl++[k1])++[])) (flat k2++(gF er kr++R)):=⟨λx hx=>by
    rw[jC hj.symm,Rx] at hx
    have hx:x∈(L++(fj el kl++flat k1))++[e0]:=by simpa only [Rg] using hx
    rcases Ry.mp hx with hx|hx
    ·exact .inl (w.1 x hx)
    ·rw[Rf.mp hx];exact .inr ⟨rfl,h3⟩,λx hx=>.inl (w.2 x (by simpa only [Rg] using hx))⟩
   cases bf with
   | true =>
    have fin:∀(y:bW) fl m A1,y.ks=[]->y.ok d0 t0 true _ _->fl.val=.none->Vw F' A1 [.k true (.ob p 3 i (aH t (.ref y.a) y.i false true pa false (.int key) false)),.stk pa y.xs.reverse,.k true (.ob t 7 dt bt),.raw r]->K fl m A1 F':=λy fl m A1 h1 h2 hv v=>by
     obtain⟨xs',d',a',o',es',ks',i',L',R',el',er'⟩:=y
     have h1:ks'=[]:=h1
     subst h1
     exact hK _ fl m A1 ⟨rfl,_,_,Gp.leaf h2,wt⟩ hv v
    rcases hm with rfl|⟨x,y,rfl⟩
    ·refine aj.rn (ao B (k+2)) [oI 1,oI 0,oB true,oI 1,oI 0,oI 0,oI 0,oB true,oI 2] (p:=Yr p/\Yr a/\Yt/\Yr p/\Yr a/\Yr a/\bw (el++e0::er)/\∀(p_1:Nat),Yr p_1/\hit key (el++e0::er)=true/\Yr p/\au (G (k+5)) 33 [.ref p,.bool true,.int (↑(pos key (el++e0::er)):Int)] [zT p_1 [.int (↑(pos key (el++e0::er)):Int),.bool (hit key (el++e0::er))],.k false (.nd a nd.d nd.le nd.lc T nd.c false (el++e0::er) ((kl++k1::k2::kr).map Tr.a)),zO p 3 i (aH t (.ref a) j false true pa false (.int key) false),.stk pa (List.reverse xs),zO t 7 dt bt,.raw r] F' (bx (G (k+5)) [c34b_1,c34a_2,[]] [(0,.ref p),(42,.int key),(137,.bool true),(123,.int (↑(pos key (el++e0::er)):Int)),(125,.bool (hit key (el++e0::er)))] (cB (λm A F'_1=>∃(n':Nat),n'<n+1/\F'_1=F'/\∃(xs:List (Nat × Int)),∃(a:Nat),∃(o:Bool),∃(es:List E),∃(ks:List Tr),∃(L:List E),∃(R:List E),uM F' d0 t0 p i t pa dt bt true key j r n' m A xs a o es ks L R) (Rest (G (k+5)) [c34_9] K) K))) ?_
     refine⟨rfl,rfl,rfl,rfl,rfl,rfl,se,λq0=>⟨rfl,hh,rfl,au.call [2] rfl (jX B (k+1)) λ_ _=>?_⟩⟩
     refine aj.rn (ao B (k+2)) [oB true,oI 0] (p:=Yt/\Yr p/\au (G (k+5)) 28 [.ref p] [zO p 3 i (aH t (.ref a) (bif true then (↑(pos key (el++e0::er)):Int) else (↑(pos key (el++e0::er)):Int)+1) false true pa false (.int key) false),zT q0 [.int (↑(pos key (el++e0::er)):Int),.bool (hit key (el++e0::er))],.k false (.nd a nd.d nd.le nd.lc T nd.c false (el++e0::er) ((kl++k1::k2::kr).map Tr.a)),.stk pa (List.reverse xs),zO t 7 dt bt,.raw r] F' (bx (G (k+5)) [[],c34b_2,c34a_2,[]] [(0,.ref p),(42,.int key),(137,.bool true),(123,.int (↑(pos key (el++e0::er)):Int)),(125,.bool (hit key (el++e0::er)))] (cB (λm A F'_1=>∃(n':Nat),n'<n+1/\F'_1=F'/\∃(xs:List (Nat × Int)),∃(a:Nat),∃(o:Bool),∃(es:List E),∃(ks:List Tr),∃(L:List E),∃(R:List E),uM F' d0 t0 p i t pa dt bt true key j r n' m A xs a o es ks L R) (Rest (G (k+5)) [c34_9] K) K))) ?_
     rw[hpos]
     refine⟨rfl,rfl,au.call [0,2] rfl (uL B (k+1) hs hz hT hd g1) λy hy=>?_⟩
     refine aj.rn (ao B (k+2)) [] (p:=K (.ret V.none) [(0,.ref p),(42,.int key),(137,.bool true),(123,.int el.length),(125,.bool (hit key (el++e0::er)))] [zO p 3 i (aH t (.ref y.a) y.i false true pa false (.int key) false),.stk pa (List.reverse y.xs),zT q0 [.int el.length,.bool (hit key (el++e0::er))],.k false (.nd a nd.d nd.le nd.lc T nd.c false (el++e0::er) ((kl++k1::k2::kr).map Tr.a)),zO t 7 dt bt,.raw r] F') ?_
     exact fin y _ _ _ hy.1 hy.2 rfl (Vw.keep [0,0,2,2] rfl)
    ·refine aj.rn (ao B (k+2)) [oI 1,oI 0,oB true,oI 1,oI 0,oI 0,oI 0,oB true,oI 2] (p:=Yr p/\Yr a/\Yt/\Yr p/\Yr a/\Yr a/\bw (el++e0::er)/\∀(p_1:Nat),Yr p_1/\hit key (el++e0::er)=true/\Yr p/\au (G (k+5)) 33 [.ref p,.bool true,.int (↑(pos key (el++e0::er)):Int)] [zT p_1 [.int (↑(pos key (el++e0::er)):Int),.bool (hit key (el++e0::er))],.k false (.nd a nd.d nd.le nd.lc T nd.c false (el++e0::er) ((kl++k1::k2::kr).map Tr.a)),zO p 3 i (aH t (.ref a) j false true pa false (.int key) false),.stk pa (List.reverse xs),zO t 7 dt bt,.raw r] F' (bx (G (k+5)) [c34b_1,c34a_2,[]] [(0,.ref p),(42,.int key),(137,.bool true),(123,.int (↑(pos key (el++e0::er)):Int)),(125,.bool (hit key (el++e0::er)))] (cB (λm A F'_1=>∃(n':Nat),n'<n+1/\F'_1=F'/\∃(xs:List (Nat × Int)),∃(a:Nat),∃(o:Bool),∃(es:List E),∃(ks:List Tr),∃(L:List E),∃(R:List E),uM F' d0 t0 p i t pa dt bt true key j r n' m A xs a o es ks L R) (Rest (G (k+5)) [c34_9] K) K))) ?_
     refine⟨rfl,rfl,rfl,rfl,rfl,rfl,se,λq0=>⟨rfl,hh,rfl,au.call [2] rfl (jX B (k+1)) λ_ _=>?_⟩⟩
     refine aj.rn (ao B (k+2)) [oB true,oI 0] (p:=Yt/\Yr p/\au (G (k+5)) 28 [.ref p] [zO p 3 i (aH t (.ref a) (bif true then (↑(pos key (el++e0::er)):Int) else (↑(pos key (el++e0::er)):Int)+1) false true pa false (.int key) false),zT q0 [.int (↑(pos key (el++e0::er)):Int),.bool (hit key (el++e0::er))],.k false (.nd a nd.d nd.le nd.lc T nd.c false (el++e0::er) ((kl++k1::k2::kr).map Tr.a)),.stk pa (List.reverse xs),zO t 7 dt bt,.raw r] F' (bx (G (k+5)) [[],c34b_2,c34a_2,[]] [(0,.ref p),(42,.int key),(137,.bool true),(123,.int (↑(pos key (el++e0::er)):Int)),(125,.bool (hit key (el++e0::er)))] (cB (λm A F'_1=>∃(n':Nat),n'<n+1/\F'_1=F'/\∃(xs:List (Nat × Int)),∃(a:Nat),∃(o:Bool),∃(es:List E),∃(ks:List Tr),∃(L:List E),∃(R:List E),uM F' d0 t0 p i t pa dt bt true key j r n' m A xs a o es ks L R) (Rest (G (k+5)) [c34_9] K) K))) ?_
     rw[hpos]
     refine⟨rfl,rfl,au.call [0,2] rfl (uL B (k+1) hs hz hT hd g1) λy hy=>?_⟩
     refine aj.rn (ao B (k+2)) [] (p:=K (.ret V.none) [(0,.ref p),(42,.int key),(137,.bool true),(123,.int el.length),(125,.bool (hit key (el++e0::er)))] [zO p 3 i (aH t (.ref y.a) y.i false true pa false (.int key) false),.stk pa (List.reverse y.xs),zT q0 [.int el.length,.bool (hit key (el++e0::er))],.k false (.nd a nd.d nd.le nd.lc T nd.c false (el++e0::er) ((kl++k1::k2::kr).map Tr.a)),zO t 7 dt bt,.raw r] F') ?_
     exact fin y _ _ _ hy.1 hy.2 rfl (Vw.keep [0,0,2,2] rfl)
   | false =>
    have fin:∀(y:bW) fl m A1,y.ks=[]->y.ok d0 t0 false _ _->fl.val=.none->Vw F' A1 [.k true (.ob p 3 i (aH t (.ref y.a) y.i false false pa false (.int key) false)),.stk pa y.xs.reverse,.k true (.ob t 7 dt bt),.raw r]->K fl m A1 F':=λy fl m A1 h1 h2 hv v=>by
     obtain⟨xs',d',a',o',es',ks',i',L',R',el',er'⟩:=y
     have h1:ks'=[]:=h1
     subst h1
     exact hK _ fl m A1 ⟨rfl,_,_,Gp.leaf h2,wf⟩ hv v
    rcases hm with rfl|⟨x,y,rfl⟩
    ·refine aj.rn (ao B (k+2)) [oI 1,oI 0,oB true,oI 1,oI 0,oI 0,oI 0,oB true,oI 2] (p:=Yr p/\Yr a/\Yt/\Yr p/\Yr a/\Yr a/\bw (el++e0::er)/\∀(p_1:Nat),Yr p_1/\hit key (el++e0::er)=true/\Yr p/\au (G (k+5)) 33 [.ref p,.bool false,.int (↑(pos key (el++e0::er)):Int)] [zT p_1 [.int (↑(pos key (el++e0::er)):Int),.bool (hit key (el++e0::er))],.k false (.nd a nd.d nd.le nd.lc T nd.c false (el++e0::er) ((kl++k1::k2::kr).map Tr.a)),zO p 3 i (aH t (.ref a) j false false pa false (.int key) false),.stk pa (List.reverse xs),zO t 7 dt bt,.raw r] F' (bx (G (k+5)) [c34b_1,c34a_2,[]] [(0,.ref p),(42,.int key),(137,.bool false),(123,.int (↑(pos key (el++e0::er)):Int)),(125,.bool (hit key (el++e0::er)))] (cB (λm A F'_1=>∃(n':Nat),n'<n+1/\F'_1=F'/\∃(xs:List (Nat × Int)),∃(a:Nat),∃(o:Bool),∃(es:List E),∃(ks:List Tr),∃(L:List E),∃(R:List E),uM F' d0 t0 p i t pa dt bt false key j r n' m A xs a o es ks L R) (Rest (G (k+5)) [c34_9] K) K))) ?_
     refine⟨rfl,rfl,rfl,rfl,rfl,rfl,se,λq0=>⟨rfl,hh,rfl,au.call [2] rfl (jX B (k+1)) λ_ _=>?_⟩⟩
     refine aj.rn (ao B (k+2)) [oB false,oI 0] (p:=false=false/\Yr p/\au (G (k+5)) 27 [.ref p] [zO p 3 i (aH t (.ref a) (bif false then (↑(pos key (el++e0::er)):Int) else (↑(pos key (el++e0::er)):Int)+1) false false pa false (.int key) false),zT q0 [.int (↑(pos key (el++e0::er)):Int),.bool (hit key (el++e0::er))],.k false (.nd a nd.d nd.le nd.lc T nd.c false (el++e0::er) ((kl++k1::k2::kr).map Tr.a)),.stk pa (List.reverse xs),zO t 7 dt bt,.raw r] F' (bx (G (k+5)) [[],c34b_2,c34a_2,[]] [(0,.ref p),(42,.int key),(137,.bool false),(123,.int (↑(pos key (el++e0::er)):Int)),(125,.bool (hit key (el++e0::er)))] (cB (λm A F'_1=>∃(n':Nat),n'<n+1/\F'_1=F'/\∃(xs:List (Nat × Int)),∃(a:Nat),∃(o:Bool),∃(es:List E),∃(ks:List Tr),∃(L:List E),∃(R:List E),uM F' d0 t0 p i t pa dt bt false key j r n' m A xs a o es ks L R) (Rest (G (k+5)) [c34_9] K) K))) ?_
     rw[hpos]
     refine⟨rfl,rfl,au.call [0,2] rfl (uK B (k+1) hs hz hT hd g2) λy hy=>?_⟩
     refine aj.rn (ao B (k+2)) [] (p:=K (.ret V.none) [(0,.ref p),(42,.int key),(137,.bool false),(123,.int el.length),(125,.bool (hit key (el++e0::er)))] [zO p 3 i (aH t (.ref y.a) y.i false false pa false (.int key) false),.stk pa (List.reverse y.xs),zT q0 [.int el.length,.bool (hit key (el++e0::er))],.k false (.nd a nd.d nd.le nd.lc T nd.c false (el++e0::er) ((kl++k1::k2::kr).map Tr.a)),zO t 7 dt bt,.raw r] F') ?_
     exact fin y _ _ _ hy.1 hy.2 rfl (Vw.keep [0,0,2,2] rfl)
    ·refine aj.rn (ao B (k+2)) [oI 1,oI 0,oB true,oI 1,oI 0,oI 0,oI 0,oB true,oI 2] (p:=Yr p/\Yr a/\Yt/\Yr p/\Yr a/\Yr a/\bw (el++e0::er)/\∀(p_1:Nat),Yr p_1/\hit key (el++e0::er)=true/\Yr p/\au (G (k+5)) 33 [.ref p,.bool false,.int (↑(pos key (el++e0::er)):Int)] [zT p_1 [.int (↑(pos key (el++e0::er)):Int),.bool (hit key (el++e0::er))],.k false (.nd a nd.d nd.le nd.lc T nd.c false (el++e0::er) ((kl++k1::k2::kr).map Tr.a)),zO p 3 i (aH t (.ref a) j false false pa false (.int key) false),.stk pa (List.reverse xs),zO t 7 dt bt,.raw r] F' (bx (G (k+5)) [c34b_1,c34a_2,[]] [(0,.ref p),(42,.int key),(137,.bool false),(123,.int (↑(pos key (el++e0::er)):Int)),(125,.bool (hit key (el++e0::er)))] (cB (λm A F'_1=>∃(n':Nat),n'<n+1/\F'_1=F'/\∃(xs:List (Nat × Int)),∃(a:Nat),∃(o:Bool),∃(es:List E),∃(ks:List Tr),∃(L:List E),∃(R:List E),uM F' d0 t0 p i t pa dt bt false key j r n' m A xs a o es ks L R) (Rest (G (k+5)) [c34_9] K) K))) ?_
     refine⟨rfl,rfl,rfl,rfl,rfl,rfl,se,λq0=>⟨rfl,hh,rfl,au.call [2] rfl (jX B (k+1)) λ_ _=>?_⟩⟩
     refine aj.rn (ao B (k+2)) [oB false,oI 0] (p:=false=false/\Yr p/\au (G (k+5)) 27 [.ref p] [zO p 3 i (aH t (.ref a) (bif false then (↑(pos key (el++e0::er)):Int) else (↑(pos key (el++e0::er)):Int)+1) false false pa false (.int key) false),zT q0 [.int (↑(pos key (el++e0::er)):Int),.bool (hit key (el++e0::er))],.k false (.nd a nd.d nd.le nd.lc T nd.c false (el++e0::er) ((kl++k1::k2::kr).map Tr.a)),.stk pa (List.reverse xs),zO t 7 dt bt,.raw r] F' (bx (G (k+5)) [[],c34b_2,c34a_2,[]] [(0,.ref p),(42,.int key),(137,.bool false),(123,.int (↑(pos key (el++e0::er)):Int)),(125,.bool (hit key (el++e0::er)))] (cB (λm A F'_1=>∃(n':Nat),n'<n+1/\F'_1=F'/\∃(xs:List (Nat × Int)),∃(a:Nat),∃(o:Bool),∃(es:List E),∃(ks:List Tr),∃(L:List E),∃(R:List E),uM F' d0 t0 p i t pa dt bt false key j r n' m A xs a o es ks L R) (Rest (G (k+5)) [c34_9] K) K))) ?_
     rw[hpos]
     refine⟨rfl,rfl,au.call [0,2] rfl (uK B (k+1) hs hz hT hd g2) λy hy=>?_⟩
     refine aj.rn (ao B (k+2)) [] (p:=K (.ret V.none) [(0,.ref p),(42,.int key),(137,.bool false),(123,.int el.length),(125,.bool (hit key (el++e0::er)))] [zO p 3 i (aH t (.ref y.a) y.i false false pa false (.int key) false),.stk pa (List.reverse y.xs),zT q0 [.int el.length,.bool (hit key (el++e0::er))],.k false (.nd a nd.d nd.le nd.lc T nd.c false (el++e0::er) ((kl++k1::k2::kr).map Tr.a)),zO t 7 dt bt,.raw r] F') ?_
     exact fin y _ _ _ hy.1 hy.2 rfl (Vw.keep [0,0,2,2] rfl)
  | false =>
   obtain⟨el,er,kl,kc,kr,rfl,rfl,h3,h4,h5,w,w2⟩:=jz srt hh s.1
   obtain⟨a',o',es',ks'⟩:=kc
   have hpos:(pos key (el++er):Int)=((kl.length:Nat):Int):=by rw[<-h3,h4]
   have hat:idxV (kl.map Tr.a++a'::kr.map Tr.a) (pos key (el++er):Int)=some a':=bH (by rw[Rt];exact hpos)
   have fin:∀m A,(m=[(0,.ref p),(42,.int key),(137,.bool bf)]\/∃x y,m=[(0,.ref p),(42,.int key),(137,.bool bf),(123,.int x),(125,.bool y)])->Vw F' A [.k true (.ob p 3 i (aH t (.ref a') j false bf pa false (.int key) false)),.stk pa ((a,(pos key (el++er):Int))::xs).reverse,.k true (.ob t 7 dt bt),.raw r] ->
     ∃n',n'<n+1/\F'=F'/\∃xs a o es ks L R,uM F' d0 t0 p i t pa dt bt bf key j r n' m A xs a o es ks L R:=λm A h1 h2=>by
    rw[hpos] at h2
    exact⟨n,Nat.lt_succ_self _,rfl,_,a',o',es',ks',L++fj el kl,gF er kr++R,h1,h2,⟨a,o,el,er,kl,kr,L,R,rfl,h4,h5,rfl,rfl,hp⟩,⟨λx hx=>(Ry.mp hx).elim (hw.1 x) (w2.1 x),λx hx=>(Ry.mp hx).elim (w2.2 x) (hw.2 x)⟩⟩
   rw[<-bG]
   rcases hm with rfl|⟨x,y,rfl⟩
   ·refine aj.rn (ao B (k+2)) [oI 1,oI 0,oB true,oI 1,oI 0,oI 0,oI 0,oB false,oI 2,oI 3,oI 2,oI 4,oI 0,oI 3,oI 2,oK 2,on a',oI 3,oI 3] (p:=Yr p/\Yr a/\Yt/\Yr p/\Yr a/\Yr a/\bw (el++er)/\∀(p_1:Nat),Yr p_1/\hit key (el++er)=false/\Yr p/\Yr pa/\Yr p/\∀(q:Nat),Yr pa/\(List.reverse xs).length<=1000000/\Yr q/\Yr p/\Yr a/\Yr nd.lc/\idxV (List.map Tr.a kl++a'::List.map Tr.a kr) (↑(pos key (el++er)):Int)=some a'/\Yr p/\Yr p/\Yt/\∃(n':Nat),n'<n+1/\F'=F'/\∃(xs_1:List (Nat × Int)),∃(a_1:Nat),∃(o:Bool),∃(es:List E),∃(ks:List Tr),∃(L:List E),∃(R:List E),uM F' d0 t0 p i t pa dt bt bf key j r n' [(0,.ref p),(42,.int key),(137,.bool bf),(123,.int (↑(pos key (el++er)):Int)),(125,.bool (hit key (el++er)))] [.mt,zT p_1 [.int (↑(pos key (el++er)):Int),.bool (hit key (el++er))],.k false (.nd a nd.d nd.le nd.lc T nd.c false (el++er) (List.map Tr.a kl++a'::List.map Tr.a kr)),zO p 3 i (aH t (.ref a') j false bf pa false (.int key) false),.stk pa (List.reverse xs++[(a,(↑(pos key (el++er)):Int))]),zO t 7 dt bt,.raw r] xs_1 a_1 o es ks L R) ?_
    rw[<-List.reverse_cons]
    exact⟨rfl,rfl,rfl,rfl,rfl,rfl,se,λ_=>⟨rfl,hh,rfl,rfl,rfl,λ_=>⟨rfl,by rw[List.length_reverse];lia,rfl,rfl,rfl,rfl,hat,rfl,rfl,rfl,fin _ _ (.inr ⟨_,_,rfl⟩) (Vw.keep [3,3,3,3] rfl)⟩⟩⟩
   ·refine aj.rn (ao B (k+2)) [oI 1,oI 0,oB true,oI 1,oI 0,oI 0,oI 0,oB false,oI 2,oI 3,oI 2,oI 4,oI 0,oI 3,oI 2,oK 2,on a',oI 3,oI 3] (p:=Yr p/\Yr a/\Yt/\Yr p/\Yr a/\Yr a/\bw (el++er)/\∀(p_1:Nat),Yr p_1/\hit key (el++er)=false/\Yr p/\Yr pa/\Yr p/\∀(q:Nat),Yr pa/\(List.reverse xs).length<=1000000/\Yr q/\Yr p/\Yr a/\Yr nd.lc/\idxV (List.map Tr.a kl++a'::List.map Tr.a kr) (↑(pos key (el++er)):Int)=some a'/\Yr p/\Yr p/\Yt/\∃(n':Nat),n'<n+1/\F'=F'/\∃(xs_1:List (Nat × Int)),∃(a_1:Nat),∃(o:Bool),∃(es:List E),∃(ks:List Tr),∃(L:List E),∃(R:List E),uM F' d0 t0 p i t pa dt bt bf key j r n' [(0,.ref p),(42,.int key),(137,.bool bf),(123,.int (↑(pos key (el++er)):Int)),(125,.bool (hit key (el++er)))] [.mt,zT p_1 [.int (↑(pos key (el++er)):Int),.bool (hit key (el++er))],.k false (.nd a nd.d nd.le nd.lc T nd.c false (el++er) (List.map Tr.a kl++a'::List.map Tr.a kr)),zO p 3 i (aH t (.ref a') j false bf pa false (.int key) false),.stk pa (List.reverse xs++[(a,(↑(pos key (el++er)):Int))]),zO t 7 dt bt,.raw r] xs_1 a_1 o es ks L R) ?_
    rw[<-List.reverse_cons]
    exact⟨rfl,rfl,rfl,rfl,rfl,rfl,se,λ_=>⟨rfl,hh,rfl,rfl,rfl,λ_=>⟨rfl,by rw[List.length_reverse];lia,rfl,rfl,rfl,rfl,hat,rfl,rfl,rfl,fin _ _ (.inr ⟨_,_,rfl⟩) (Vw.keep [3,3,3,3] rfl)⟩⟩⟩
theorem zu(hs:Sh T d0 lo0 t0)(hz:Fz F T d0 t0)(hT:T<=1000)(hd:d0<=1000)(sr:bw (flat t0)){dt c cl:Nat}{im io:Bool}{n:Int}:aL (G (k+6)) 34 [.ref p,.int key,.bool bf] [.k true (.ob p 3 i (aH t cn j rc ic pa pk ky rd)),.k true (.ob t 7 dt (aC c im cl T t0.a n io))] F (λy:bW × Nat=>Mz d0 t0 key bf y.1) (λ_=>.none)
  λy=>[.k true (.ob p 3 i (aH t (.ref y.1.a) y.1.i false bf y.2 false (.int key) false)),.stk y.2 y.1.xs.reverse,.k true (.ob t 7 dt (aC c im cl T t0.a n io))]:=by
 refine aL.of (B (k+5) 34 c34 rfl) λr K hK=>?_
 show aj (G (k+5)) [c34] [(0,.ref p),(42,.int key),(137,.bool bf)] [.k true (.ob p 3 i (aH t cn j rc ic pa pk ky rd)),.k true (.ob t 7 dt (aC c im cl T t0.a n io)),.raw r] F K
 obtain⟨a,o,es,ks⟩:=t0
 refine aj.rn (ao B (k+2)) [oI 0,oI 1,oI 0,oI 0,oI 0,oI 1,oI 1,oI 1,oI 1,oI 1] (p:=Yr p/\Yr t/\Yr p/\Yr p/\Yt/\Yr p/\∀(q:Nat),Yr p/\Yr p/\Yr p/\Yr p/\Yr p/\aj (G (k+5)) [c34_8] [(0,.ref p),(42,.int key),(137,.bool bf)] [zL q [],zO p 3 i (aH t (.ref a) j false bf q false (.int key) false),zO t 7 dt (aC c im cl T a n io),.raw r] F K) ?_
 refine⟨rfl,rfl,rfl,rfl,rfl,rfl,λq=>⟨rfl,rfl,rfl,rfl,rfl,aj.pk [0] rfl oY (aj.vw (Vw.keep [1,0,0,0] rfl) ?_)⟩⟩
 exact aj.whl (λn' m A F'=>F'=F/\∃xs a' o' es' ks' L R,uM F d0 (.nd a o es ks) p i t q dt (aC c im cl T a n io) bf key j r n' m A xs a' o' es' ks' L R) d0 ⟨rfl,[],a,o,es,ks,[],[],.inl rfl,Vw.refl _ _,⟨rfl,rfl,rfl,rfl⟩,⟨nofun,nofun⟩⟩ λn' m A F' ⟨hF,xs,a',o',es',ks',L,R,h⟩ =>
  Du B k hs hz hT hd sr hF h λy fl m A1 h1 h2 h3=>hK (y,q) fl m A1 h1 h2 h3
end
section
variable{G:Nat->bI}(B:bD G)(k:Nat){F:CL}{T d0 lo0 p i t pa:Nat}{t0:Tr}{rc ic pk rd:Bool}{key:Int}{ky cn:V}{j:Int}
include B
theorem FN:aL (β:=Unit) (G (k+4)) 30 [.ref p] [.k true (.ob p 3 i (aH t cn j rc ic pa false ky rd))] F (λ_=>True) (λ_=>.none) λ_=>[.k true (.ob p 3 i (aH t cn j rc ic pa false ky rd))]:=by
 refine aL.of (B (k+3) 30 c30 rfl) λr K hK=>?_
 show aj (G (k+3)) [c30] [(0,.ref p)] [.k true (.ob p 3 i (aH t cn j rc ic pa false ky rd)),.raw r] F K
 refine aj.rn (ao B k) [oI 0,oB false] (p:=Yr p/\false=false/\K Fl.next [(0,.ref p)] [zO p 3 i (aH t cn j rc ic pa false ky rd),.raw r] F) ?_
 exact⟨rfl,rfl,hK () _ _ _ trivial rfl (Vw.refl _ _)⟩
theorem Im:aL (β:=Unit) (G (k+4)) 30 [.ref p] [.k true (.ob p 3 i (aH t cn j rc ic pa true .none rd))] F (λ_=>True) (λ_=>.none) λ_=>[.k true (.ob p 3 i (aH t cn j rc ic pa false .none rd))]:=by
 refine aL.of (B (k+3) 30 c30 rfl) λr K hK=>?_
 show aj (G (k+3)) [c30] [(0,.ref p)] [.k true (.ob p 3 i (aH t cn j rc ic pa true .none rd)),.raw r] F K
 refine aj.rn (ao B k) [oI 0,oB true,oI 0,oB false,oI 0,oI 0] (p:=Yr p/\Yt/\Yr p/\false=false/\Yr p/\Yr p/\K Fl.next [(0,.ref p)] [zO p 3 i (aH t cn j rc ic pa false .none rd),.raw r] F) ?_
 exact⟨rfl,rfl,rfl,rfl,rfl,rfl,hK () _ _ _ trivial rfl (Vw.refl _ _)⟩
theorem Io(hs:Sh T d0 lo0 t0)(hz:Fz F T d0 t0)(hT:T<=1000)(hd:d0<=1000)(sr:bw (flat t0)){dt c cl:Nat}{n:Int}:aL (G (k+7)) 30 [.ref p] [.k true (.ob p 3 i (aH t cn j rc ic pa true (.int key) rd)),.k true (.ob t 7 dt (aC c im cl T t0.a n io))] F (λy:bW × Nat=>Mz d0 t0 key (bif rd then !ic else ic) y.1) (λ_=>.none)
  λy=>[.k true (.ob p 3 i (aH t (.ref y.1.a) y.1.i false ic y.2 false .none false)),.stk y.2 y.1.xs.reverse,.k true (.ob t 7 dt (aC c im cl T t0.a n io))]:=by
 refine aL.of (B (k+6) 30 c30 rfl) λr K hK=>?_
 show aj (G (k+6)) [c30] [(0,.ref p)] [.k true (.ob p 3 i (aH t cn j rc ic pa true (.int key) rd)),.k true (.ob t 7 dt (aC c im cl T t0.a n io)),.raw r] F K
 cases rd with
 | true =>
  refine aj.rn (ao B (k+3)) [oI 0,oB true,oI 0,oB true,oI 0,oI 0,oB true,oI 0,oI 0,oI 0] (p:=Yr p/\Yt/\Yr p/\Yt/\Yr p/\Yr p/\Yt/\Yr p/\Yr p/\Yr p/\au (G (k+6)) 34 [.ref p,.int key,.bool !ic] [zO p 3 i (aH t cn j rc ic pa true (.int key) true),zO t 7 dt (aC c im cl T t0.a n io),.raw r] F (bx (G (k+6)) [c30b_3,c30a_1,[]] [(0,.ref p),(17,.bool ic),(137,.bool !ic)] K)) ?_
  refine⟨rfl,rfl,rfl,rfl,rfl,rfl,rfl,rfl,rfl,rfl,au.call [0,0] rfl (zu B k hs hz hT hd sr) λy hy=>?_⟩
  refine aj.rn (ao B (k+3)) [oI 0,oI 0,oI 0] (p:=Yr p/\Yr p/\Yr p/\K Fl.next [(0,.ref p),(17,.bool ic),(137,.bool !ic)] [zO p 3 i (aH t (.ref y.1.a) y.1.i false ic y.2 false .none false),.stk y.2 (List.reverse y.1.xs),zO t 7 dt (aC c im cl T t0.a n io),.raw r] F) ?_
  exact⟨rfl,rfl,rfl,hK y _ _ _ hy rfl (Vw.refl _ _)⟩
 | false =>
  refine aj.rn (ao B (k+3)) [oI 0,oB true,oI 0,oB true,oI 0,oI 0,oB false,oI 0,oI 0,oI 0] (p:=Yr p/\Yt/\Yr p/\Yt/\Yr p/\Yr p/\false=false/\Yr p/\Yr p/\Yr p/\au (G (k+6)) 34 [.ref p,.int key,.bool ic] [zO p 3 i (aH t cn j rc ic pa true (.int key) false),zO t 7 dt (aC c im cl T t0.a n io),.raw r] F (bx (G (k+6)) [c30b_3,c30a_1,[]] [(0,.ref p),(17,.bool ic),(137,.bool ic)] K)) ?_
  refine⟨rfl,rfl,rfl,rfl,rfl,rfl,rfl,rfl,rfl,rfl,au.call [0,0] rfl (zu B k hs hz hT hd sr) λy hy=>?_⟩
  refine aj.rn (ao B (k+3)) [oI 0,oI 0,oI 0] (p:=Yr p/\Yr p/\Yr p/\K Fl.next [(0,.ref p),(17,.bool ic),(137,.bool ic)] [zO p 3 i (aH t (.ref y.1.a) y.1.i false ic y.2 false .none false),.stk y.2 (List.reverse y.1.xs),zO t 7 dt (aC c im cl T t0.a n io),.raw r] F) ?_
  exact⟨rfl,rfl,rfl,hK y _ _ _ hy rfl (Vw.refl _ _)⟩
theorem K9:aL (G (k+4)) 35 [.ref p] [.k true (.ob p 3 i (aH t cn j rc ic pa pk ky rd))] F (λ_=>True) (λ_=>.none) λy:Nat=>[.k true (.ob p 3 i (aH t .none 0 false true y false .none rd)),.stk y []]:=by
 refine aL.of (B (k+3) 35 c35 rfl) λr K hK=>?_
 show aj (G (k+3)) [c35] [(0,.ref p)] [.k true (.ob p 3 i (aH t cn j rc ic pa pk ky rd)),.raw r] F K
 refine aj.rn (ao B k) [oI 0,oI 0,oI 0,oI 0,oI 1,oI 1,oI 1] (p:=Yr p/\Yr p/\Yr p/\Yr p/\∀(q:Nat),Yr p/\Yr p/\Yr p/\K Fl.next [(0,.ref p)] [zL q [],zO p 3 i (aH t .none 0 false true q false .none rd),.raw r] F) ?_
 exact⟨rfl,rfl,rfl,rfl,λy=>⟨rfl,rfl,rfl,hK y _ _ _ trivial rfl (Vw.go [0] rfl oY (Vw.keep [1,0,0] rfl))⟩⟩
theorem Dv:aL (G (k+4)) 36 [.ref p] [.k true (.ob p 3 i (aH t cn j rc ic pa pk ky rd))] F (λ_=>True) (λ_=>.none) λy:Nat=>[.k true (.ob p 3 i (aH t .none 1 false false y false .none rd)),.stk y []]:=by
 refine aL.of (B (k+3) 36 c36 rfl) λr K hK=>?_
 show aj (G (k+3)) [c36] [(0,.ref p)] [.k true (.ob p 3 i (aH t cn j rc ic pa pk ky rd)),.raw r] F K
 refine aj.rn (ao B k) [oI 0,oI 0,oI 0,oI 0,oI 1,oI 1,oI 1] (p:=Yr p/\Yr p/\Yr p/\Yr p/\∀(q:Nat),Yr p/\Yr p/\Yr p/\K Fl.next [(0,.ref p)] [zL q [],zO p 3 i (aH t .none 1 false false q false .none rd),.raw r] F) ?_
 exact⟨rfl,rfl,rfl,rfl,λy=>⟨rfl,rfl,rfl,hK y _ _ _ trivial rfl (Vw.go [0] rfl oY (Vw.keep [1,0,0] rfl))⟩⟩
end
def pG(d0:Nat)(t0:Tr)(rc ic:Bool)(A B:List E)(y:bW):Prop:=rc=false/\y.ks=[]/\y.ok d0 t0 false A B\/rc=true/\y.ok d0 t0 (!ic) A B
section
variable{G:Nat->bI}(B:bD G)(k:Nat){F:CL}{T d0 lo0 p i t pa:Nat}{t0:Tr}{rc ic pk rd:Bool}{key:Int}{ky cn:V}{j:Int}{C D:List E}
include B
theorem o7(hs:Sh T d0 lo0 t0)(hz:Fz F T d0 t0)(hT:T<=1000)(hd:d0<=1000){y:bW}(hy:y.ok d0 t0 true C D)
  (h1:∀e D' (z:bW) rc' m A1,D=e::D'->pG d0 t0 rc' true (C++[e]) D' z->Vw F A1 [.k true (.ob p 3 i (aH t (.ref z.a) z.i rc' true pa false (.int e.k) true)),.stk pa z.xs.reverse,.raw r]->K (.ret e.r) m A1 F)
  (h2:∀m A1,D=[]->Vw F A1 [.k true (.ob p 3 i (aH t .none 1 false true pa false ky rd)),.stk pa [],.raw r]->K (.ret .none) m A1 F)
  (h3:∀(z:bW) A1,z.xs.length<y.xs.length->z.ok d0 t0 true C D->Vw F A1 [.k true (.ob p 3 i (aH t (.ref z.a) z.i false true pa false ky rd)),.stk pa z.xs.reverse,.raw r]->I [(0,.ref p)] A1 F) :
  aj (G (k+5)) [c32d_1,[]] [(0,.ref p)] [.k true (.ob p 3 i (aH t (.ref y.a) y.i false ic pa false ky rd)),.stk pa y.xs.reverse,.raw r] F (cB I O K):=by
 obtain⟨xs,d,a,o,es,ks,j,L,R,el,er⟩:=y
 obtain⟨⟨lo,s⟩,z,_⟩:=Pa.ok hs hz hy.p
 have ln:=Pa.len hy.p
 obtain⟨p1,p2,p3,hk⟩:=hy
 dsimp only at p1 p2 p3 hk ln s z
 subst p2
 subst p3
 have ndh:=z.nd
 refine aj.rd z.nd λnd=>?_
 refine aj.fact (λH S=>(S.kd (n:=0) rfl).2) λkv=>?_
 cases er with
 | cons e er =>
  have he:aQ F e:=kv e (by simp)
  have hat:idxV (el++e::er) ((el.length:Nat):Int)=some e:=bH rfl
  have hlt:((el.length:Nat):Int)<((el++e::er).length:Nat):=by rw[Rd,Rn];lia
  rcases hk with ⟨rfl,hC,hD⟩|⟨kl,kc,kr,rfl,h4,h5,hC,hD⟩
  ·refine aj.rn (ao B (k+2)) [oI 1,oI 1,oI 1,oI 0,oE 0,oB true,oI 1,oI 0,oI 1,oE 0,oe e,oI 1,oI 1,oI 1,oI 0,oB false,oe e,oI 1,oI 1] (p:=Yr p/\Yr p/\Yr p/\Yr a/\Yr nd.le/\decide ((↑el.length:Int)<(↑((el++e::er).length):Int))=true/\Yr p/\Yr a/\Yr p/\Yr nd.le/\idxV (el++e::er) (↑el.length:Int)=some e/\Yr p/\Yr p/\Yr p/\Yr a/\false=false/\(E.r e=E.r e/\aQ F e)/\Yr p/\Yr p/\K (.ret e.r) [(0,.ref p),(107,E.r e)] [.k false (.nd a nd.d nd.le nd.lc T nd.c true (el++e::er) (List.map Tr.a [])),zO p 3 i (aH t (.ref a) ((↑el.length:Int)+1) false true pa false (.int e.k) true),.stk pa (List.reverse xs),.raw r] F) ?_
   exact⟨rfl,rfl,rfl,rfl,rfl,RB hlt,rfl,rfl,rfl,rfl,hat,rfl,rfl,rfl,rfl,rfl,⟨rfl,he⟩,rfl,rfl,h1 e (er++R) ⟨xs,d,a,o,el++e::er,[],(el.length:Int)+1,L,R,el++[e],er⟩ false _ _ hD (.inl ⟨rfl,rfl,p1,(dJ el er e).symm,by rw[Rd];rfl,.inl ⟨rfl,by rw[hC,Rg],rfl⟩⟩) (Vw.keep [1,1,1] rfl)⟩
  ·rw[aX]
   cases kr with
   | nil=>cases h5
   | cons k2 kr =>
    refine aj.rn (ao B (k+2)) [oI 1,oI 1,oI 1,oI 0,oE 0,oB true,oI 1,oI 0,oI 1,oE 0,oe e,oI 1,oI 1,oI 1,oI 0,oB true,oI 1,oe e,oI 1,oI 1] (p:=Yr p/\Yr p/\Yr p/\Yr a/\Yr nd.le/\decide ((↑el.length:Int)<(↑((el++e::er).length):Int))=true/\Yr p/\Yr a/\Yr p/\Yr nd.le/\idxV (el++e::er) (↑el.length:Int)=some e/\Yr p/\Yr p/\Yr p/\Yr a/\Yt/\Yr p/\(E.r e=E.r e/\aQ F e)/\Yr p/\Yr p/\K (.ret e.r) [(0,.ref p),(107,E.r e)] [.k false (.nd a nd.d nd.le nd.lc T nd.c false (el++e::er) ((kl++kc::k2::kr).map Tr.a)),zO p 3 i (aH t (.ref a) ((↑el.length:Int)+1) true true pa false (.int e.k) true),.stk pa (List.reverse xs),.raw r] F) ?_
    refine⟨rfl,rfl,rfl,rfl,rfl,RB hlt,rfl,rfl,rfl,rfl,hat,rfl,rfl,rfl,rfl,rfl,rfl,⟨rfl,he⟩,rfl,rfl,h1 e (flat k2++(gF er kr++R)) ⟨xs,d,a,o,el++e::er,kl++kc::k2::kr,(el.length:Int)+1,L,R,el++[e],er⟩ true _ _ ?_ (.inr ⟨rfl,p1,(dJ el er e).symm,by rw[Rd];rfl,.inr ⟨kl++[kc],k2,kr,(dJ kl (k2::kr) kc).symm,by rw[Rd,Rd,h4];rfl,Nat.succ.inj h5,?_,rfl⟩⟩) (Vw.keep [1,1,1] rfl)⟩
    ·rw[hD,mG];simp
    ·rw[hC,jC h4];simp
 | nil =>
  have hnl:¬((el.length:Nat):Int)<((el++[]).length:Nat):=by rw[Rx];lia
  have hD:D=R:=by
   rcases hk with ⟨rfl,hC,hD⟩|⟨kl,kc,kr,rfl,h4,h5,hC,hD⟩
   ·exact hD
   ·cases kr with
    | nil=>rw[iG] at hD;exact hD
    | cons=>cases h5
  have hC:C=L++flat (.nd a o (el++[]) ks):=by
   rcases hk with ⟨rfl,hC,hD⟩|⟨kl,kc,kr,rfl,h4,h5,hC,hD⟩
   ·rw[hC,aq,aN,Rx]
   ·cases kr with
    | nil=>rw[hC,bh h4,iG,Rx];rfl
    | cons=>cases h5
  cases xs with
  | nil =>
   obtain⟨_,_,_,rfl⟩:=p1
   refine aj.rn (ao B (k+2)) [oI 1,oI 1,oI 1,oI 0,oE 0,oB false,oI 1,oI 2,oB false,oI 1,oI 1,oB false] (p:=Yr p/\Yr p/\Yr p/\Yr a/\Yr nd.le/\decide ((↑el.length:Int)<(↑((el++[]).length):Int))=false/\Yr p/\Yr pa/\decide (0<(↑((List.reverse ([]:List (Nat × Int))).length):Int))=false/\Yr p/\Yr p/\K (.ret V.none) [(0,.ref p)] [.k false (.nd a nd.d nd.le nd.lc T nd.c (List.isEmpty ks) (el++[]) (ks.map Tr.a)),zO p 3 i (aH t .none 1 false true pa false ky rd),.stk pa (List.reverse ([]:List (Nat × Int))),.raw r] F) ?_
   exact⟨rfl,rfl,rfl,rfl,rfl,Rr hnl,rfl,rfl,rfl,rfl,rfl,h2 _ _ hD (Vw.keep [1,1,1] rfl)⟩
  | cons x xs =>
   obtain⟨a',o',el',er',kl',kr',L',R',rfl,h4,h5,h6,h7,h8⟩:=p1
   have hlen:decide ((0:Int)<((((a',((kl'.length:Nat):Int))::xs).reverse.length:Nat):Int))=true:=RB (by rw[List.length_reverse,Rn];lia)
   refine aj.rn (ao B (k+2)) [oI 1,oI 1,oI 1,oI 0,oE 0,oB false,oI 1,oI 2,oB true,oI 1,oI 2,oI 2,O5 a' (↑(List.length kl'):Int) (List.reverse xs),oI 0,oI 2,oI 2] (p:=Yr p/\Yr p/\Yr p/\Yr a/\Yr nd.le/\decide ((↑el.length:Int)<(↑((el++[]).length):Int))=false/\Yr p/\Yr pa/\decide (0<(↑((((a',(↑kl'.length:Int))::xs).reverse).length):Int))=true/\Yr p/\Yr pa/\Yr pa/\(((a',(↑kl'.length:Int))::xs).reverse).length<=1000000/\((a',(↑kl'.length:Int))::xs).reverse=List.reverse xs++[(a',(↑kl'.length:Int))]/\∀(q:Nat),Yr q/\Yr p/\Yr p/\I [(0,.ref p)] [zT q [.ref a',.int kl'.length],.k false (.nd a nd.d nd.le nd.lc T nd.c (List.isEmpty ks) (el++[]) (ks.map Tr.a)),zO p 3 i (aH t (.ref a') kl'.length false true pa false ky rd),.stk pa (List.reverse xs),.raw r] F) ?_
   refine⟨rfl,rfl,rfl,rfl,rfl,Rr hnl,rfl,rfl,hlen,rfl,rfl,rfl,by rw[List.length_reverse];lia,List.reverse_cons,λq=>⟨rfl,rfl,rfl,h3 ⟨xs,d+1,a',o',el'++er',kl'++.nd a o (el++[]) ks::kr',((kl'.length:Nat):Int),L',R',el',er'⟩ _ (Nat.lt_succ_self _) ⟨h8,rfl,by rw[h4],.inr ⟨kl',_,kr',rfl,h4,h5,?_,?_⟩⟩ (Vw.keep [2,2,2] rfl)⟩⟩
   ·rw[hC,h6,Rg];rfl
   ·rw[hD,h7];rfl
theorem uO(hs:Sh T d0 lo0 t0)(hz:Fz F T d0 t0)(hT:T<=1000)(hd:d0<=1000){r:CL}{K:KS}{y:bW}(hy:pG d0 t0 rc ic C D y)
  (h1:∀e D' (z:bW) rc' m A1,D=e::D'->pG d0 t0 rc' true (C++[e]) D' z->Vw F A1 [.k true (.ob p 3 i (aH t (.ref z.a) z.i rc' true pa false (.int e.k) true)),.stk pa z.xs.reverse,.raw r]->K (.ret e.r) m A1 F)
  (h2:∀m A1,D=[]->Vw F A1 [.k true (.ob p 3 i (aH t .none 1 false true pa false ky rd)),.stk pa [],.raw r]->K (.ret .none) m A1 F) :
  aj (G (k+5)) [c32_3] [(0,.ref p)] [.k true (.ob p 3 i (aH t (.ref y.a) y.i rc ic pa false ky rd)),.stk pa y.xs.reverse,.raw r] F K:=by
 refine aj.whl (λn m A F'=>F'=F/\m=[(0,.ref p)]/\∃(y:bW) (rc ic:Bool),Vw F A [.k true (.ob p 3 i (aH t (.ref y.a) y.i rc ic pa false ky rd)),.stk pa y.xs.reverse,.raw r]/\(rc=false/\y.ok d0 t0 true C D/\n=y.xs.length\/rc=true/\y.ok d0 t0 (!ic) C D/\n=d0+1)) (bif rc then d0+1 else y.xs.length) ⟨rfl,rfl,y,rc,ic,Vw.refl _ _,?_⟩ λn m A F' hI=>?_
 ·rcases hy with ⟨rfl,hl,hy⟩|⟨rfl,hy⟩
  ·obtain⟨xs,d,a,o,es,ks,j,L,R,el,er⟩:=y
   have hl:ks=[]:=hl
   subst hl
   exact .inl ⟨rfl,Gp.leaf hy,rfl⟩
  ·exact .inr ⟨rfl,hy,rfl⟩
 ·obtain⟨rfl,rfl,y,rc,ic,hv,hI⟩:=hI
  refine aj.vw hv ?_
  have fin:∀(y:bW) n,y.xs.length<=n->∀(z:bW) A1,z.xs.length<y.xs.length->z.ok d0 t0 true C D->Vw F' A1 [.k true (.ob p 3 i (aH t (.ref z.a) z.i false true pa false ky rd)),.stk pa z.xs.reverse,.raw r]->∃n',n'<n/\F'=F'/\[(0,V.ref p)]=[(0,V.ref p)]/\∃(y:bW) (rc ic:Bool),Vw F' A1 [.k true (.ob p 3 i (aH t (.ref y.a) y.i rc ic pa false ky rd)),.stk pa y.xs.reverse,.raw r]/\(rc=false/\y.ok d0 t0 true C D/\n'=y.xs.length\/rc=true/\y.ok d0 t0 (!ic) C D/\n'=d0+1):=λy n hn z A1 hz hz2 hz3 =>
   ⟨z.xs.length,Nat.lt_of_lt_of_le hz hn,rfl,rfl,z,false,true,hz3,.inl ⟨rfl,hz2,rfl⟩⟩
  rcases hI with ⟨rfl,hy,rfl⟩|⟨rfl,hy,rfl⟩
  ·refine aj.run (ao B (k+2)) [oB true,oI 0,oB false,bM] ?_
   refine xc (p:=Yt/\Yr p/\false=false/\aj (G (k+2+3)) [c32d_1,[]] [(0,.ref p)] [zO p 3 i (aH t (.ref y.a) y.i false ic pa false ky rd),.stk pa (List.reverse y.xs),.raw r] F' (cB (λm A F=>∃(k:Nat),k<List.length y.xs/\F=F'/\m=[(0,V.ref p)]/\∃(y:bW),∃(rc:Bool),∃(ic:Bool),Vw F' A [zO p 3 i (aH t (.ref y.a) y.i rc ic pa false ky rd),.stk pa (List.reverse y.xs),.raw r]/\(rc=false/\bW.ok d0 t0 true C D y/\k=List.length y.xs\/rc=true/\bW.ok d0 t0 (!ic) C D y/\k=d0+1)) (Rest (G (k+5)) [[]] K) K)) ?_
   exact⟨rfl,rfl,rfl,o7 B k hs hz hT hd hy h1 h2 (fin y _ (RN _))⟩
  ·cases ic with
   | false =>
    have ln:=Pa.len hy.p
    refine aj.run (ao B (k+2)) [oB true,oI 0,oB true,oI 0,oB false,oI 0,bM] ?_
    refine xc (p:=Yt/\Yr p/\Yt/\Yr p/\false=false/\Yr p/\aj (G (k+2+3)) [c32d_1,[]] [(0,.ref p)] [zO p 3 i (aH t (.ref y.a) y.i false false pa false ky rd),.stk pa (List.reverse y.xs),.raw r] F' (cB (λm A F=>∃(k:Nat),k<d0+1/\F=F'/\m=[(0,V.ref p)]/\∃(y:bW),∃(rc:Bool),∃(ic:Bool),Vw F' A [zO p 3 i (aH t (.ref y.a) y.i rc ic pa false ky rd),.stk pa (List.reverse y.xs),.raw r]/\(rc=false/\bW.ok d0 t0 true C D y/\k=List.length y.xs\/rc=true/\bW.ok d0 t0 (!ic) C D y/\k=d0+1)) (Rest (G (k+5)) [[]] K) K)) ?_
    exact⟨rfl,rfl,rfl,rfl,rfl,rfl,o7 B k hs hz hT hd hy h1 h2 (fin y _ (by lia))⟩
   | true =>
    refine aj.rn (ao B (k+2)) [oB true,oI 0,oB true,oI 0,oB true,oI 0] (p:=Yt/\Yr p/\Yt/\Yr p/\Yt/\Yr p/\au (G (k+5)) 27 [.ref p] [zO p 3 i (aH t (.ref y.a) y.i true true pa false ky rd),.stk pa (List.reverse y.xs),.raw r] F' (bx (G (k+5)) [[],c32e_1,c32d_1,[]] [(0,.ref p)] (cB (λm A F=>∃(k:Nat),k<d0+1/\F=F'/\m=[(0,V.ref p)]/\∃(y:bW),∃(rc:Bool),∃(ic:Bool),Vw F' A [zO p 3 i (aH t (.ref y.a) y.i rc ic pa false ky rd),.stk pa (List.reverse y.xs),.raw r]/\(rc=false/\bW.ok d0 t0 true C D y/\k=List.length y.xs\/rc=true/\bW.ok d0 t0 (!ic) C D y/\k=d0+1)) (Rest (G (k+5)) [[]] K) K))) ?_
    refine⟨rfl,rfl,rfl,rfl,rfl,rfl,au.call [0,0] rfl (uK B (k+1) hs hz hT hd hy) λz hz2=>?_⟩
    obtain⟨xs,d,a,o,es,ks,j,L,R,el,er⟩:=z
    obtain⟨hl,hz2⟩:=hz2
    have hl:ks=[]:=hl
    subst hl
    have ln:=Pa.len hz2.p
    refine aj.run (ao B (k+2)) [oI 0,bM] ?_
    refine xc (p:=Yr p/\aj (G (k+2+3)) [c32d_1,[]] [(0,.ref p)] [zO p 3 i (aH t (.ref a) j false true pa false ky rd),.stk pa (List.reverse xs),.raw r] F' (cB (λm A F=>∃(k:Nat),k<d0+1/\F=F'/\m=[(0,V.ref p)]/\∃(y:bW),∃(rc:Bool),∃(ic:Bool),Vw F' A [zO p 3 i (aH t (.ref y.a) y.i rc ic pa false ky rd),.stk pa (List.reverse y.xs),.raw r]/\(rc=false/\bW.ok d0 t0 true C D y/\k=List.length y.xs\/rc=true/\bW.ok d0 t0 (!ic) C D y/\k=d0+1)) (Rest (G (k+5)) [[]] K) K)) ?_
    exact⟨rfl,o7 B k (y:=⟨xs,d,a,o,es,[],j,L,R,el,er⟩) hs hz hT hd (Gp.leaf hz2) h1 h2 (fin _ _ (by dsimp only;lia))⟩
theorem La(hs:Sh T d0 lo0 t0)(hz:Fz F T d0 t0)(hT:T<=1000)(hd:d0<=1000)(hy:pG d0 t0 rc ic C D y)
  (h1:∀e D' (z:bW) rc' m A1,D=e::D'->pG d0 t0 rc' true (C++[e]) D' z->Vw F A1 [.k true (.ob p 3 i (aH t (.ref z.a) z.i rc' true pa false (.int e.k) true)),.stk pa z.xs.reverse,.raw r]->K (.ret e.r) m A1 F)
  (h2:∀m A1,D=[]->Vw F A1 [.k true (.ob p 3 i (aH t .none 1 false true pa false .none rd)),.stk pa [],.raw r]->K (.ret .none) m A1 F) :
  aj (G (k+5)) [c32_1] [(0,.ref p)] [.k true (.ob p 3 i (aH t (.ref y.a) y.i rc ic pa false ky rd)),.stk pa y.xs.reverse,.raw r] F K:=by
 refine aj.rn (ao B (k+2)) [oI 0,oI 0,oB false] (p:=Yr p/\Yr p/\false=false/\aj (G (k+5)) [c32_3] [(0,.ref p)] [zO p 3 i (aH t (.ref y.a) y.i rc ic pa false .none rd),.stk pa (List.reverse y.xs),.raw r] F K) ?_
 exact⟨rfl,rfl,rfl,uO B k hs hz hT hd hy h1 h2⟩
theorem Dw(hs:Sh T d0 lo0 t0)(hz:Fz F T d0 t0)(hT:T<=1000)(hd:d0<=1000){dt c cl:Nat}{n:Int}
  (h1:∀e D' (z:bW) rc' m A1,flat t0=e::D'->pG d0 t0 rc' true [e] D' z->Vw F A1 [.k true (.ob p 3 i (aH t (.ref z.a) z.i rc' true pa false (.int e.k) true)),.stk pa z.xs.reverse,.k true (.ob t 7 dt (aC c im cl T t0.a n io)),.raw r]->K (.ret e.r) m A1 F)
  (h2:∀m A1,flat t0=[]->Vw F A1 [.k true (.ob p 3 i (aH t .none 1 false true pa false .none rd)),.stk pa [],.k true (.ob t 7 dt (aC c im cl T t0.a n io)),.raw r]->K (.ret .none) m A1 F) :
  aj (G (k+5)) [c32_1] [(0,.ref p)] [.k true (.ob p 3 i (aH t .none 0 false ic pa false ky rd)),.stk pa [],.k true (.ob t 7 dt (aC c im cl T t0.a n io)),.raw r] F K:=by
 have gr:∃x:bW,x.ok d0 t0 false [] (flat t0)/\x.a=t0.a/\x.i=0/\x.xs=[]:=by
  obtain⟨a,o,es,ks⟩:=t0
  refine⟨⟨[],d0,a,o,es,ks,0,[],[],[],es⟩,⟨⟨rfl,rfl,rfl,rfl⟩,rfl,rfl,?_⟩,rfl,rfl,rfl⟩
  cases ks with
  | nil=>exact .inl ⟨rfl,rfl,by rw[aq,aN,Rx]⟩
  | cons k kr =>
   refine .inr ⟨[],k,kr,rfl,rfl,?_,by rw[fu];rfl,?_⟩
   ·rcases hs.ks with e|e
    ·cases e
    ·rw[Rn] at e;lia
   ·have:=bB es k kr (el:=[]) (kl:=[]) rfl
    rw[fu] at this
    rw[aq,Rx]
    exact this
 obtain⟨x,gx,xa,xi,xx⟩:=gr
 have sl:=uK (rc:=false) (ic:=ic) (pa:=pa) (pk:=false) (key:=.none) (rd:=rd) (p:=p) (i:=i) (t:=t) B (k+1) hs hz hT hd gx
 rw[xa,xi,xx] at sl
 refine aj.rn (ao B (k+2)) [oI 0,oI 0,oB true,oI 0,oB false,oI 0,oI 0,oI 2,oI 0,oI 0,oI 0] (p:=Yr p/\Yr p/\Yt/\Yr p/\decide ((0:Int)=1)=false/\Yr p/\decide ((0:Int)=0)=true/\Yr p/\Yr t/\Yr p/\Yr p/\Yr p/\au (G (k+5)) 27 [.ref p] [zO p 3 i (aH t (.ref t0.a) 0 false ic pa false .none rd),.stk pa [],zO t 7 dt (aC c im cl T t0.a n io),.raw r] F (bx (G (k+5)) [[],[],c32_3] [(0,.ref p)] K)) ?_
 refine⟨rfl,rfl,rfl,rfl,rfl,rfl,rfl,rfl,rfl,rfl,rfl,rfl,au.call [0,0] rfl sl λy hy=>?_⟩
 refine aj.bT [2,2] rfl (pack [.k true (.ob t 7 dt (aC c im cl T t0.a n io)),.raw r]) λl hl=>?_
 refine aj.vw (Vw.keep [1,1,0] rfl) ?_
 refine aj.rn (ao B (k+2)) [] (p:=aj (G (k+5)) [c32_3] [(0,.ref p)] [zO p 3 i (aH t (.ref y.a) y.i false ic pa false .none rd),.stk pa (List.reverse y.xs),.raw l] F K) ?_
 exact uO B k hs hz hT hd (.inl ⟨rfl,hy⟩) (λe D' z rc' m A1 q1 q2 v=>h1 e D' z rc' m A1 q1 q2 (v.trans (Vw.fin [2] rfl hl.un [2,2,0,0] rfl))) λm A1 q v=>h2 m A1 q (v.trans (Vw.fin [2] rfl hl.un [2,2,0,0] rfl))
theorem zx{xs:List (Nat × Int)}(h2:∀m A1,Vw F A1 [.k true (.ob p 3 i (aH t .none 1 rc ic pa false .none rd)),.stk pa xs,.raw r]->K (.ret .none) m A1 F) :
  aj (G (k+5)) [c32_1] [(0,.ref p)] [.k true (.ob p 3 i (aH t .none 1 rc ic pa false ky rd)),.stk pa xs,.raw r] F K:=by
 refine aj.rn (ao B (k+2)) [oI 0,oI 0,oB true,oI 0,oB true] (p:=Yr p/\Yr p/\Yt/\Yr p/\decide ((1:Int)=1)=true/\K (.ret V.none) [(0,.ref p)] [zO p 3 i (aH t .none 1 rc ic pa false .none rd),.stk pa xs,.raw r] F) ?_
 exact⟨rfl,rfl,rfl,rfl,rfl,h2 _ _ (Vw.refl _ _)⟩
end
section
variable{G:Nat->bI}(B:bD G)(k:Nat){F:CL}{T d0 lo0 p i t pa:Nat}{t0:Tr}{rc ic pk rd:Bool}{key:Int}{ky cn:V}{j:Int}{C D:List E}
include B
theorem pq(hs:Sh T d0 lo0 t0)(hz:Fz F T d0 t0)(hT:T<=1000)(hd:d0<=1000){y:bW}(hy:y.ok d0 t0 false C D)
  (h1:∀e C' (z:bW) rc' m A1,C=C'++[e]->pG d0 t0 rc' false C' (e::D) z->Vw F A1 [.k true (.ob p 3 i (aH t (.ref z.a) z.i rc' false pa false (.int e.k) true)),.stk pa z.xs.reverse,.raw r]->K (.ret e.r) m A1 F)
  (h2:∀m A1,C=[]->Vw F A1 [.k true (.ob p 3 i (aH t .none 0 false false pa false ky rd)),.stk pa [],.raw r]->K (.ret .none) m A1 F)
  (h3:∀(z:bW) A1,z.xs.length<y.xs.length->z.ok d0 t0 false C D->Vw F A1 [.k true (.ob p 3 i (aH t (.ref z.a) z.i false false pa false ky rd)),.stk pa z.xs.reverse,.raw r]->I [(0,.ref p)] A1 F) :
  aj (G (k+5)) [c31d_1,[]] [(0,.ref p)] [.k true (.ob p 3 i (aH t (.ref y.a) y.i false ic pa false ky rd)),.stk pa y.xs.reverse,.raw r] F (cB I O K):=by
 obtain⟨xs,d,a,o,es,ks,j,L,R,el,er⟩:=y
 obtain⟨⟨lo,s⟩,z,_⟩:=Pa.ok hs hz hy.p
 have ln:=Pa.len hy.p
 obtain⟨p1,p2,p3,hk⟩:=hy
 dsimp only at p1 p2 p3 hk ln s z
 subst p2
 subst p3
 refine aj.rd z.nd λnd=>?_
 refine aj.fact (λH S=>(S.kd (n:=0) rfl).2) λkv=>?_
 rcases Q8 el with rfl|⟨el,e,he⟩
 ·have hlt:¬(0:Int)<=((([]:List E).length:Nat):Int) - 1:=by show ¬(0:Int)<=(0:Int) - 1;lia
  have hC:C=L:=by
   rcases hk with ⟨rfl,hC,hD⟩|⟨kl,kc,kr,rfl,h4,h5,hC,hD⟩
   ·rw[hC,Rx]
   ·cases kl with
    | nil=>rw[hC,fu];exact Rx L
    | cons=>cases h4
  have hD:D=flat (.nd a o ([]++er) ks)++R:=by
   rcases hk with ⟨rfl,hC,hD⟩|⟨kl,kc,kr,rfl,h4,h5,hC,hD⟩
   ·rw[hD,aq,aN];rfl
   ·cases kl with
    | nil=>rw[hD,bh h4,fu];simp
    | cons=>cases h4
  cases xs with
  | nil =>
   obtain⟨_,_,rfl,_⟩:=p1
   refine aj.rn (ao B (k+2)) [oI 1,oI 1,oI 1,oI 1,oB false,oI 1,oI 2,oB false,oI 1,oI 1,oB false] (p:=Yr p/\Yr p/\Yr p/\Yr p/\decide (0<=(↑0:Int) - 1)=false/\Yr p/\Yr pa/\decide (0<(↑((List.reverse ([]:List (Nat × Int))).length):Int))=false/\Yr p/\Yr p/\K (.ret V.none) [(0,.ref p)] [.k false (.nd a nd.d nd.le nd.lc T nd.c (List.isEmpty ks) er (ks.map Tr.a)),zO p 3 i (aH t .none 0 false false pa false ky rd),.stk pa (List.reverse ([]:List (Nat × Int))),.raw r] F) ?_
   exact⟨rfl,rfl,rfl,rfl,rfl,rfl,rfl,rfl,rfl,rfl,h2 _ _ hC (Vw.keep [1,1,1] rfl)⟩
  | cons x xs =>
   obtain⟨a',o',el',er',kl',kr',L',R',rfl,h4,h5,h6,h7,h8⟩:=p1
   have hlen:decide ((0:Int)<((((a',((kl'.length:Nat):Int))::xs).reverse.length:Nat):Int))=true:=RB (by rw[List.length_reverse,Rn];lia)
   refine aj.rn (ao B (k+2)) [oI 1,oI 1,oI 1,oI 1,oB false,oI 1,oI 2,oB true,oI 1,oI 2,oI 2,O5 a' (↑(List.length kl'):Int) (List.reverse xs),oI 0,oI 2,oI 2] (p:=Yr p/\Yr p/\Yr p/\Yr p/\decide (0<=(↑0:Int) - 1)=false/\Yr p/\Yr pa/\decide (0<(↑((((a',(↑kl'.length:Int))::xs).reverse).length):Int))=true/\Yr p/\Yr pa/\Yr pa/\(((a',(↑kl'.length:Int))::xs).reverse).length<=1000000/\((a',(↑kl'.length:Int))::xs).reverse=List.reverse xs++[(a',(↑kl'.length:Int))]/\∀(q:Nat),Yr q/\Yr p/\Yr p/\I [(0,.ref p)] [zT q [.ref a',.int kl'.length],.k false (.nd a nd.d nd.le nd.lc T nd.c (List.isEmpty ks) er (ks.map Tr.a)),zO p 3 i (aH t (.ref a') kl'.length false false pa false ky rd),.stk pa (List.reverse xs),.raw r] F) ?_
   refine⟨rfl,rfl,rfl,rfl,rfl,rfl,rfl,hlen,rfl,rfl,rfl,by rw[List.length_reverse];lia,List.reverse_cons,λq=>⟨rfl,rfl,rfl,h3 ⟨xs,d+1,a',o',el'++er',kl'++.nd a o ([]++er) ks::kr',((kl'.length:Nat):Int),L',R',el',er'⟩ _ (Nat.lt_succ_self _) ⟨h8,rfl,by rw[h4],.inr ⟨kl',_,kr',rfl,h4,h5,?_,?_⟩⟩ (Vw.keep [2,2,2] rfl)⟩⟩
   ·rw[hC,h6];exact congrArg (L'++·) (Rx _).symm
   ·rw[hD,h7];rfl
 ·obtain rfl:_=el++[e]:=he.trans (by rw[List.concat_eq_append])
  have hke:aQ F e:=kv e (by simp)
  have hidx:(((el++[e]).length:Nat):Int) - 1=((el.length:Nat):Int):=by rw[Rd,Q5];lia
  have hat:idxV ((el++[e])++er) ((el.length:Nat):Int)=some e:=by rw[dJ];exact bH rfl
  have hge:(0:Int)<=((el.length:Nat):Int):=by lia
  rcases hk with ⟨rfl,hC,hD⟩|⟨kl,kc,kr,rfl,h4,h5,hC,hD⟩
  ·refine aj.rn (ao B (k+2)) [oI 1,oI 1,oI 1,oI 1,oB true,oI 1,oI 0,oI 1,oE 0,oe e,oI 1,oI 0,oB false,oe e,oI 1,oI 1] (p:=Yr p/\Yr p/\Yr p/\Yr p/\decide (0<=(↑((el++[e]).length):Int) - 1)=true/\Yr p/\Yr a/\Yr p/\Yr nd.le/\idxV (el++[e]++er) ((↑((el++[e]).length):Int) - 1)=some e/\Yr p/\Yr a/\false=false/\(E.r e=E.r e/\aQ F e)/\Yr p/\Yr p/\K (.ret e.r) [(0,.ref p),(107,E.r e)] [.k false (.nd a nd.d nd.le nd.lc T nd.c true (el++[e]++er) (List.map Tr.a [])),zO p 3 i (aH t (.ref a) ((↑((el++[e]).length):Int) - 1) false false pa false (.int e.k) true),.stk pa (List.reverse xs),.raw r] F) ?_
   rw[hidx]
   exact⟨rfl,rfl,rfl,rfl,RB hge,rfl,rfl,rfl,rfl,hat,rfl,rfl,rfl,⟨rfl,hke⟩,rfl,rfl,h1 e (L++el) ⟨xs,d,a,o,(el++[e])++er,[],((el.length:Nat):Int),L,R,el,e::er⟩ false _ _ (by rw[hC,Rg]) (.inl ⟨rfl,rfl,p1,dJ el er e,rfl,.inl ⟨rfl,rfl,by rw[hD];rfl⟩⟩) (Vw.keep [1,1,1] rfl)⟩
  ·rcases Q8 kl with rfl|⟨kl,k1,hkl⟩
   ·rw[Rd] at h4;cases h4
   ·obtain rfl:_=kl++[k1]:=hkl.trans (by rw[List.concat_eq_append])
    have h6:el.length=kl.length:=by rw[Rd,Rd] at h4;exact Nat.succ.inj h4
    rw[aX]
    refine aj.rn (ao B (k+2)) [oI 1,oI 1,oI 1,oI 1,oB true,oI 1,oI 0,oI 1,oE 0,oe e,oI 1,oI 0,oB true,oI 1,oe e,oI 1,oI 1] (p:=Yr p/\Yr p/\Yr p/\Yr p/\decide (0<=(↑((el++[e]).length):Int) - 1)=true/\Yr p/\Yr a/\Yr p/\Yr nd.le/\idxV (el++[e]++er) ((↑((el++[e]).length):Int) - 1)=some e/\Yr p/\Yr a/\Yt/\Yr p/\(E.r e=E.r e/\aQ F e)/\Yr p/\Yr p/\K (.ret e.r) [(0,.ref p),(107,E.r e)] [.k false (.nd a nd.d nd.le nd.lc T nd.c false (el++[e]++er) ((kl++[k1]++kc::kr).map Tr.a)),zO p 3 i (aH t (.ref a) ((↑((el++[e]).length):Int) - 1) true false pa false (.int e.k) true),.stk pa (List.reverse xs),.raw r] F) ?_
    rw[hidx]
    refine⟨rfl,rfl,rfl,rfl,RB hge,rfl,rfl,rfl,rfl,hat,rfl,rfl,rfl,rfl,⟨rfl,hke⟩,rfl,rfl,h1 e (L++(fj el kl++flat k1)) ⟨xs,d,a,o,(el++[e])++er,(kl++[k1])++kc::kr,((el.length:Nat):Int),L,R,el,e::er⟩ true _ _ ?_ (.inr ⟨rfl,p1,dJ el er e,rfl,.inr ⟨kl,k1,kc::kr,dJ kl (kc::kr) k1,h6,by rw[Rn,Rn,h5],rfl,?_⟩⟩) (Vw.keep [1,1,1] rfl)⟩
    ·rw[hC,jC h6];simp
    ·rw[hD,mG];simp
theorem uP(hs:Sh T d0 lo0 t0)(hz:Fz F T d0 t0)(hT:T<=1000)(hd:d0<=1000){r:CL}{K:KS}{y:bW}(hy:pG d0 t0 rc ic C D y)
  (h1:∀e C' (z:bW) rc' m A1,C=C'++[e]->pG d0 t0 rc' false C' (e::D) z->Vw F A1 [.k true (.ob p 3 i (aH t (.ref z.a) z.i rc' false pa false (.int e.k) true)),.stk pa z.xs.reverse,.raw r]->K (.ret e.r) m A1 F)
  (h2:∀m A1,C=[]->Vw F A1 [.k true (.ob p 3 i (aH t .none 0 false false pa false ky rd)),.stk pa [],.raw r]->K (.ret .none) m A1 F) :
  aj (G (k+5)) [c31_3] [(0,.ref p)] [.k true (.ob p 3 i (aH t (.ref y.a) y.i rc ic pa false ky rd)),.stk pa y.xs.reverse,.raw r] F K:=by
 refine aj.whl (λn m A F'=>F'=F/\m=[(0,.ref p)]/\∃(y:bW) (rc ic:Bool),Vw F A [.k true (.ob p 3 i (aH t (.ref y.a) y.i rc ic pa false ky rd)),.stk pa y.xs.reverse,.raw r]/\(rc=false/\y.ok d0 t0 false C D/\n=y.xs.length\/rc=true/\y.ok d0 t0 (!ic) C D/\n=d0+1)) (bif rc then d0+1 else y.xs.length) ⟨rfl,rfl,y,rc,ic,Vw.refl _ _,?_⟩ λn m A F' hI=>?_
 ·rcases hy with ⟨rfl,hl,hy⟩|⟨rfl,hy⟩
  ·obtain⟨xs,d,a,o,es,ks,j,L,R,el,er⟩:=y
   have hl:ks=[]:=hl
   subst hl
   exact .inl ⟨rfl,hy,rfl⟩
  ·exact .inr ⟨rfl,hy,rfl⟩
 ·obtain⟨rfl,rfl,y,rc,ic,hv,hI⟩:=hI
  refine aj.vw hv ?_
  have fin:∀(y:bW) n,y.xs.length<=n->∀(z:bW) A1,z.xs.length<y.xs.length->z.ok d0 t0 false C D->Vw F' A1 [.k true (.ob p 3 i (aH t (.ref z.a) z.i false false pa false ky rd)),.stk pa z.xs.reverse,.raw r]->∃n',n'<n/\F'=F'/\[(0,V.ref p)]=[(0,V.ref p)]/\∃(y:bW) (rc ic:Bool),Vw F' A1 [.k true (.ob p 3 i (aH t (.ref y.a) y.i rc ic pa false ky rd)),.stk pa y.xs.reverse,.raw r]/\(rc=false/\y.ok d0 t0 false C D/\n'=y.xs.length\/rc=true/\y.ok d0 t0 (!ic) C D/\n'=d0+1):=λy n hn z A1 hz hz2 hz3 =>
   ⟨z.xs.length,Nat.lt_of_lt_of_le hz hn,rfl,rfl,z,false,false,hz3,.inl ⟨rfl,hz2,rfl⟩⟩
  rcases hI with ⟨rfl,hy,rfl⟩|⟨rfl,hy,rfl⟩
  ·refine aj.run (ao B (k+2)) [oB true,oI 0,oB false,bM] ?_
   refine xc (p:=Yt/\Yr p/\false=false/\aj (G (k+2+3)) [c31d_1,[]] [(0,.ref p)] [zO p 3 i (aH t (.ref y.a) y.i false ic pa false ky rd),.stk pa (List.reverse y.xs),.raw r] F' (cB (λm A F=>∃(k:Nat),k<List.length y.xs/\F=F'/\m=[(0,V.ref p)]/\∃(y:bW),∃(rc:Bool),∃(ic:Bool),Vw F' A [zO p 3 i (aH t (.ref y.a) y.i rc ic pa false ky rd),.stk pa (List.reverse y.xs),.raw r]/\(rc=false/\bW.ok d0 t0 false C D y/\k=List.length y.xs\/rc=true/\bW.ok d0 t0 (!ic) C D y/\k=d0+1)) (Rest (G (k+5)) [[]] K) K)) ?_
   exact⟨rfl,rfl,rfl,pq B k hs hz hT hd hy h1 h2 (fin y _ (RN _))⟩
  ·cases ic with
   | true =>
    have ln:=Pa.len hy.p
    refine aj.run (ao B (k+2)) [oB true,oI 0,oB true,oI 0,oB false,oI 0,bM] ?_
    refine xc (p:=Yt/\Yr p/\Yt/\Yr p/\false=false/\Yr p/\aj (G (k+2+3)) [c31d_1,[]] [(0,.ref p)] [zO p 3 i (aH t (.ref y.a) y.i false true pa false ky rd),.stk pa (List.reverse y.xs),.raw r] F' (cB (λm A F=>∃(k:Nat),k<d0+1/\F=F'/\m=[(0,V.ref p)]/\∃(y:bW),∃(rc:Bool),∃(ic:Bool),Vw F' A [zO p 3 i (aH t (.ref y.a) y.i rc ic pa false ky rd),.stk pa (List.reverse y.xs),.raw r]/\(rc=false/\bW.ok d0 t0 false C D y/\k=List.length y.xs\/rc=true/\bW.ok d0 t0 (!ic) C D y/\k=d0+1)) (Rest (G (k+5)) [[]] K) K)) ?_
    exact⟨rfl,rfl,rfl,rfl,rfl,rfl,pq B k hs hz hT hd hy h1 h2 (fin y _ (by lia))⟩
   | false =>
    refine aj.rn (ao B (k+2)) [oB true,oI 0,oB true,oI 0,oB true,oI 0] (p:=Yt/\Yr p/\Yt/\Yr p/\Yt/\Yr p/\au (G (k+5)) 28 [.ref p] [zO p 3 i (aH t (.ref y.a) y.i true false pa false ky rd),.stk pa (List.reverse y.xs),.raw r] F' (bx (G (k+5)) [[],c31e_1,c31d_1,[]] [(0,.ref p)] (cB (λm A F=>∃(k:Nat),k<d0+1/\F=F'/\m=[(0,V.ref p)]/\∃(y:bW),∃(rc:Bool),∃(ic:Bool),Vw F' A [zO p 3 i (aH t (.ref y.a) y.i rc ic pa false ky rd),.stk pa (List.reverse y.xs),.raw r]/\(rc=false/\bW.ok d0 t0 false C D y/\k=List.length y.xs\/rc=true/\bW.ok d0 t0 (!ic) C D y/\k=d0+1)) (Rest (G (k+5)) [[]] K) K))) ?_
    refine⟨rfl,rfl,rfl,rfl,rfl,rfl,au.call [0,0] rfl (uL B (k+1) hs hz hT hd hy) λz hz2=>?_⟩
    obtain⟨xs,d,a,o,es,ks,j,L,R,el,er⟩:=z
    obtain⟨hl,hz2⟩:=hz2
    have hl:ks=[]:=hl
    subst hl
    have ln:=Pa.len hz2.p
    refine aj.run (ao B (k+2)) [oI 0,bM] ?_
    refine xc (p:=Yr p/\aj (G (k+2+3)) [c31d_1,[]] [(0,.ref p)] [zO p 3 i (aH t (.ref a) j false false pa false ky rd),.stk pa (List.reverse xs),.raw r] F' (cB (λm A F=>∃(k:Nat),k<d0+1/\F=F'/\m=[(0,V.ref p)]/\∃(y:bW),∃(rc:Bool),∃(ic:Bool),Vw F' A [zO p 3 i (aH t (.ref y.a) y.i rc ic pa false ky rd),.stk pa (List.reverse y.xs),.raw r]/\(rc=false/\bW.ok d0 t0 false C D y/\k=List.length y.xs\/rc=true/\bW.ok d0 t0 (!ic) C D y/\k=d0+1)) (Rest (G (k+5)) [[]] K) K)) ?_
    exact⟨rfl,pq B k (y:=⟨xs,d,a,o,es,[],j,L,R,el,er⟩) hs hz hT hd (Gp.leaf hz2) h1 h2 (fin _ _ (by dsimp only;lia))⟩
theorem Lb(hs:Sh T d0 lo0 t0)(hz:Fz F T d0 t0)(hT:T<=1000)(hd:d0<=1000)(hy:pG d0 t0 rc ic C D y)
  (h1:∀e C' (z:bW) rc' m A1,C=C'++[e]->pG d0 t0 rc' false C' (e::D) z->Vw F A1 [.k true (.ob p 3 i (aH t (.ref z.a) z.i rc' false pa false (.int e.k) true)),.stk pa z.xs.reverse,.raw r]->K (.ret e.r) m A1 F)
  (h2:∀m A1,C=[]->Vw F A1 [.k true (.ob p 3 i (aH t .none 0 false false pa false .none rd)),.stk pa [],.raw r]->K (.ret .none) m A1 F) :
  aj (G (k+5)) [c31_1] [(0,.ref p)] [.k true (.ob p 3 i (aH t (.ref y.a) y.i rc ic pa false ky rd)),.stk pa y.xs.reverse,.raw r] F K:=by
 refine aj.rn (ao B (k+2)) [oI 0,oI 0,oB false] (p:=Yr p/\Yr p/\false=false/\aj (G (k+5)) [c31_3] [(0,.ref p)] [zO p 3 i (aH t (.ref y.a) y.i rc ic pa false .none rd),.stk pa (List.reverse y.xs),.raw r] F K) ?_
 exact⟨rfl,rfl,rfl,uP B k hs hz hT hd hy h1 h2⟩
theorem zy(hs:Sh T d0 lo0 t0)(hz:Fz F T d0 t0)(hT:T<=1000)(hd:d0<=1000){dt c cl:Nat}{n:Int}
  (h1:∀e C' (z:bW) rc' m A1,flat t0=C'++[e]->pG d0 t0 rc' false C' [e] z->Vw F A1 [.k true (.ob p 3 i (aH t (.ref z.a) z.i rc' false pa false (.int e.k) true)),.stk pa z.xs.reverse,.k true (.ob t 7 dt (aC c im cl T t0.a n io)),.raw r]->K (.ret e.r) m A1 F)
  (h2:∀m A1,flat t0=[]->Vw F A1 [.k true (.ob p 3 i (aH t .none 0 false false pa false .none rd)),.stk pa [],.k true (.ob t 7 dt (aC c im cl T t0.a n io)),.raw r]->K (.ret .none) m A1 F) :
  aj (G (k+5)) [c31_1] [(0,.ref p)] [.k true (.ob p 3 i (aH t .none 1 false ic pa false ky rd)),.stk pa [],.k true (.ob t 7 dt (aC c im cl T t0.a n io)),.raw r] F K:=by
 obtain⟨a,o,es,ks⟩:=t0
 have gx:bW.ok d0 (.nd a o es ks) true (flat (.nd a o es ks)) [] ⟨[],d0,a,o,es,ks,es.length,[],[],es,[]⟩:=by
  refine⟨⟨rfl,rfl,rfl,rfl⟩,(Rx _).symm,rfl,?_⟩
  rcases Q8 ks with rfl|⟨kl',k,e⟩
  ·exact .inl ⟨rfl,by rw[aq,aN];rfl,rfl⟩
  ·have e:ks=kl'++k::[]:=by rw[e,List.concat_eq_append]
   subst e
   have hk:es.length=kl'.length:=by
    rcases hs.ks with e|e
    ·simp at e
    ·simp at e;exact e.symm
   refine .inr ⟨kl',k,[],rfl,hk,rfl,?_,by rw[iG];rfl⟩
   have:=bB [] k [] hk
   rw[iG,Rx,Rx] at this
   rw[aq,this]
   rfl
 refine aj.rd hz.nd λnd=>?_
 refine aj.rn (ao B (k+2)) [oI 1,oI 1,oB true,oI 1,oB false,oI 1,oI 1,oI 3,oI 1,oI 1,oI 3,oI 0,oE 0,oI 1,oI 1] (p:=Yr p/\Yr p/\Yt/\Yr p/\decide ((1:Int)=0)=false/\Yr p/\decide ((1:Int)=1)=true/\Yr p/\Yr t/\Yr p/\Yr p/\Yr t/\Yr a/\Yr nd.le/\Yr p/\Yr p/\au (G (k+5)) 28 [.ref p] [.k false (.nd a nd.d nd.le nd.lc T nd.c (List.isEmpty ks) es (ks.map Tr.a)),zO p 3 i (aH t (.ref a) es.length false ic pa false .none rd),.stk pa [],zO t 7 dt (aC c im cl T a n io),.raw r] F (bx (G (k+5)) [[],[],c31_3] [(0,.ref p)] K)) ?_
 refine⟨rfl,rfl,rfl,rfl,rfl,rfl,rfl,rfl,rfl,rfl,rfl,rfl,rfl,rfl,rfl,rfl,au.call [1,1] rfl (uL B (k+1) hs hz hT hd gx) λy hy=>?_⟩
 refine aj.bT [3,3] rfl (pack [.k true (.ob t 7 dt (aC c im cl T a n io)),.raw r]) λl hl=>?_
 refine aj.vw (Vw.keep [1,1,0] rfl) ?_
 refine aj.rn (ao B (k+2)) [] (p:=aj (G (k+5)) [c31_3] [(0,.ref p)] [zO p 3 i (aH t (.ref y.a) y.i false ic pa false .none rd),.stk pa (List.reverse y.xs),.raw l] F K) ?_
 refine uP B k hs hz hT hd (.inl ⟨rfl,hy.1,?_⟩) (λe C' z rc' m A1 q1 q2 v=>h1 e C' z rc' m A1 q1 q2 (v.trans (Vw.fin [2] rfl hl.un [2,2,0,0] rfl))) λm A1 q v=>h2 m A1 q (v.trans (Vw.fin [2] rfl hl.un [2,2,0,0] rfl))
 obtain⟨xs,d,a',o',es',ks',j,L,R,el,er⟩:=y
 obtain⟨hl,hy⟩:=hy
 have hl:ks'=[]:=hl
 subst hl
 exact Gp.leaf hy
theorem Dy{xs:List (Nat × Int)}(h2:∀m A1,Vw F A1 [.k true (.ob p 3 i (aH t .none 0 rc ic pa false .none rd)),.stk pa xs,.raw r]->K (.ret .none) m A1 F) :
  aj (G (k+5)) [c31_1] [(0,.ref p)] [.k true (.ob p 3 i (aH t .none 0 rc ic pa false ky rd)),.stk pa xs,.raw r] F K:=by
 refine aj.rn (ao B (k+2)) [oI 0,oI 0,oB true,oI 0,oB true] (p:=Yr p/\Yr p/\Yt/\Yr p/\decide ((0:Int)=0)=true/\K (.ret V.none) [(0,.ref p)] [zO p 3 i (aH t .none 0 rc ic pa false .none rd),.stk pa xs,.raw r] F) ?_
 exact⟨rfl,rfl,rfl,rfl,rfl,h2 _ _ (Vw.refl _ _)⟩
end
structure Pl where
 s:Int
 k:Int
 b:Bool
noncomputable def Pl.us(x:Pl):List V:=[.int x.s,.int x.k,.bool x.b]
noncomputable def qQ(x:Pl)(e:E):Bool:=decide (x.s = -1) || (decide (x.k<e.k) || (x.b&&decide (e.k=x.k)))
def je(x:Pl)(fs:List E):Option E:=if x.s=1 then none else fs.find? (qQ x)
noncomputable def Jz(x:Pl)(e:E):Bool:=decide (x.s=1) || (decide (e.k<x.k) || (!x.b&&decide (e.k=x.k)))
def jF(x:Pl)(o:Option E)(e:E):Option E:=bif Jz x e then some e else o
def iQ(x:Pl)(fs:List E):Option E:=if x.s = -1 then none else fs.foldl (jF x) none
noncomputable def uQ:Bool->Pl
 | true=>⟨1,0,false⟩
 | false=>⟨-1,0,false⟩
def pA(up:Bool):Option E->Pl
 | none=>uQ up
 | some e=>⟨0,e.k,!up⟩
noncomputable def kO:Option E->V
 | none=>.none
 | some e=>.int e.k
theorem sV(fs:List E):je (uQ false) fs=fs.head?:=by cases fs<;>rfl
theorem fold_all:∀{A:List E} {o:Option E},(∀e∈A,Jz x e=true)->A.foldl (jF x) o=A.getLast?.or o
 | [],_,_=>rfl
 | e::A,o,h=>by
  show A.foldl (jF x) (jF x o e)=_
  rw[fold_all λy hy=>h y (.tail _ hy)]
  unfold jF
  rw[h e (.head _),List.getLast?_cons]
  cases A.getLast?<;>rfl
theorem uR:∀{A:List E} {o:Option E},(∀e∈A,Jz x e=false)->A.foldl (jF x) o=o
 | [],_,_=>rfl
 | e::A,o,h=>by
  show A.foldl (jF x) (jF x o e)=_
  rw[uR λy hy=>h y (.tail _ hy)]
  unfold jF
  rw[h e (.head _)];rfl
theorem sW(fs:List E):iQ (uQ true) fs=fs.getLast?:=by
 show fs.foldl (jF (uQ true)) none=_
 rw[fold_all λe _=>rfl]
 cases fs.getLast?<;>rfl
section
variable{k:Int}{b:Bool}{A B:List E}
theorem Wn.je(w:Wn k b A B):je ⟨0,k,b⟩ (A++B)=B.head?:=by
 show(A++B).find? (qQ ⟨0,k,b⟩)=_
 rewrite [List.find?_append,List.find?_eq_none.mpr λx hx e=>?_]
 ·cases B with
  | nil=>rfl
  | cons e B =>
   have:qQ ⟨0,k,b⟩ e=true:=by
    unfold qQ
    rcases w.b e (.head _) with h|⟨h1,h2⟩
    ·rw[RB h];rfl
    ·dsimp only;rw[h1,RB h2,Bool.and_self,Bool.or_true,Bool.or_true]
   rw[Rz,this];rfl
 ·unfold qQ at e
  rcases w.a x hx with h|⟨h1,h2⟩
  ·dsimp only at e
   rw[Rr (show ¬k<x.k by lia),Rr (show ¬x.k=k by lia),Bool.and_false] at e;cases e
  ·dsimp only at e
   rw[h1,Rr (show ¬k<x.k by lia)] at e;cases e
theorem Wn.iQ(w:Wn k b A B):iQ ⟨0,k,b⟩ (A++B)=A.getLast?:=by
 show(A++B).foldl (jF ⟨0,k,b⟩) none=_
 rewrite [List.foldl_append,uR (A:=B) λx hx=>?_,fold_all (A:=A) λx hx=>?_]
 ·exact Option.or_none
 ·unfold Jz
  dsimp only
  rcases w.a x hx with h|⟨h1,h2⟩
  ·rw[RB h];rfl
  ·rw[h1,RB h2,Bool.not_false,Bool.and_self,Bool.or_true,Bool.or_true]
 ·unfold Jz
  dsimp only
  rcases w.b x hx with h|⟨h1,h2⟩
  ·rw[Rr (show ¬x.k<k by lia),Rr (show ¬x.k=k by lia),Bool.and_false];rfl
  ·rw[h1,Rr (show ¬x.k<k by lia)];rfl
end
theorem Ld(h:bw (A++e::B)):Wn e.k false (A++[e]) B:=⟨λx hx=>by
 rcases Ry.mp hx with hx|hx
 ·exact .inl ((bN h).1 x hx)
 ·rw[Rf.mp hx];exact .inr ⟨rfl,rfl⟩,λx hx=>.inl ((bN h).2 x hx)⟩
theorem Lf(h:bw (A++e::B)):Wn e.k true A (e::B):=⟨λx hx=>.inl ((bN h).1 x hx),λx hx=>by
 rcases RJ.mp hx with rfl|hx
 ·exact .inr ⟨rfl,rfl⟩
 ·exact .inl ((bN h).2 x hx)⟩
structure Cv where
 cn:V
 j:Int
 rc:Bool
 ic:Bool
 pa:Nat
 pk:Bool
 ky:V
 rd:Bool
 xs:List (Nat × Int)
def cR(t:Nat)(c:Cv):Loc:=aH t c.cn c.j c.rc c.ic c.pa c.pk c.ky c.rd
def mH(p i t:Nat)(c:Cv):List Th:=[.k true (.ob p 3 i (cR t c)),.stk c.pa c.xs]
def NT(e:Bool)(x:Pl)(c:Cv):Prop:=x=uQ e/\∃ic pa pk rd,c=⟨.none,bif e then 1 else 0,false,ic,pa,pk,.none,rd,[]⟩
structure Qm(d0:Nat)(t0:Tr)(k:Int)(b:Bool)(c:Cv):Prop where
 y:c.ky=.int k
 e:b=bif c.rd then !c.ic else c.ic
 g:c.pk=false->∃A B y,pG d0 t0 c.rc c.ic A B y/\Wn k b A B/\c.cn=.ref y.a/\c.j=y.i/\c.xs=y.xs.reverse
def cg(d0:Nat)(t0:Tr)(x:Pl)(c:Cv):Prop:=(∃e,NT e x c)\/∃k b,x=⟨0,k,b⟩/\Qm d0 t0 k b c
noncomputable def Cv.park(c:Cv):Cv:=⟨c.cn,c.j,c.rc,c.ic,c.pa,true,c.ky,c.rd,c.xs⟩
theorem cg.park{d0 d1:Nat}{t0 t1:Tr}{x:Pl}{c:Cv}(h:cg d0 t0 x c):cg d1 t1 x c.park:=by
 rcases h with ⟨e,h1,ic,pa,pk,rd,rfl⟩|⟨k,b,h1,h2⟩
 ·exact .inl ⟨e,h1,ic,pa,true,rd,rfl⟩
 ·exact .inr ⟨k,b,h1,h2.y,h2.e,nofun⟩
theorem aL.use{β γ:Type}{f:Nat}{us:List V}{A B:List Th}{p:β->Prop}{v:β->V}{A':β->List Th}{q:γ->Prop}{w:γ->V}{C:γ->List Th}(is:List Nat){R:CL->List Th}(hp:∀r,pick is (A++[.raw r])=some (B,R r))(h:aL Γ f us B F p v A')
  (k:∀b,p b->∃c,q c/\v b=w c/\∀r,Vw F (A' b++R r) (C c++[.raw r])):aL Γ f us A F q w C:=λr H Q X S g =>
 au.call (K:=λv A1 F1=>∃c,q c/\v=w c/\F1=F/\Vw F A1 (C c++[.raw r])) is (hp r) h (λb hb=>by
  obtain⟨c,h1,h2,h3⟩:=k b hb
  exact⟨c,h1,h2,rfl,h3 r⟩) H Q X S λv A1 F1 H' hk S'=>by
  obtain⟨c,h1,h2,h3,h4⟩:=hk
  rw[h2]
  rw[h3] at S'
  exact g c H' h1 (h4 _ S')
noncomputable def Th.free:Th->Bool
 | .mt=>true
 | .raw _=>true
 | .stk _ _=>true
 | .k true (.ob _ _ _ _)=>true
 | .k true (.ce _ _)=>true
 | _=>false
theorem Dz(h:t.free=true)(g:th F t l):th F' t l:=by
 cases t with
 | k w t=>cases w with
  | false=>cases h
  | true=>cases t with
   | nd=>cases h
   | ob=>exact g
   | ce=>exact g
 | tr=>cases h
 | trs=>cases h
 | _=>exact g
theorem pB:∀{A:List Th} {ls:List CL},A.all Th.free=true->Al F A ls->Al F' A ls
 | [],[],_,_=>trivial
 | [],_::_,_,g=>g.elim
 | _::_,[],_,g=>g.elim
 | a::A,l::ls,h,g=>⟨Dz (Bool.and_eq_true_iff.mp h).1 g.1,pB (Bool.and_eq_true_iff.mp h).2 g.2⟩
theorem aL.ro(hA:A.all Th.free=true)(hB:∀b,(A' b).all Th.free=true)(hX:X=.tr T c t\/X=.mt/\Fz F T d t)
  (h:∀F',Fz F' T d t->aL Γ f us A F' p v A'):aL Γ f us (A++[X]) F p v λb=>A' b++[X]:=λr H Q Y S g=>by
 obtain⟨ls,s1,s2⟩:=S
 obtain⟨l1,lr,rfl,s3,s4⟩:=s1.split
 obtain⟨l2,lx,rfl,s5,s6⟩:=s3.split
 refine uo (P:=λlr=>Holds H ((l2++lx++lr).flatten++F)->_) s4 (λy hy s2=>uo (P:=λlx=>Holds H ((l2++lx++[y]).flatten++F)->_) s6 (λx hx s2=>?_) s2) s2
 have hy:y=r:=hy
 subst hy
 have e:∀l:List CL,((l++[x]++[y]).flatten++F).Perm ((l++[y]).flatten++(x++F)):=λl=>by
  rw[Rb,Rb,Rb,aG,aG,Rg,Rg,Rg]
  exact(QG x y F).append_left _
 have hz:Fz (x++F) T d t:=by
  rcases hX with rfl|⟨rfl,hz⟩
  ·exact uJ eO hx λp hp=>Q9 _ hp
  ·rw[show x=[] from hx];exact hz
 refine h (x++F) hz y H Q Y ⟨l2++[y],(pB hA s5).app (B:=[.raw y]) (ls':=[y]) ⟨rfl,trivial⟩,s2.perm (e l2)⟩ λb H' hb S'=>g b H' hb ?_
 obtain⟨ls,q1,q2⟩:=S'
 obtain⟨l3,lr,rfl,q3,q4⟩:=q1.split
 refine uo (P:=λlr=>Holds H' ((l3++lr).flatten++(x++F))->_) q4 (λz hz q2=>?_) q2
 have hz:z=y:=hz
 subst hz
 exact⟨l3++[x]++[z],((pB (hB b) q3).app (B:=[X]) (ls':=[x]) ⟨hx,trivial⟩).app (B:=[.raw z]) (ls':=[z]) ⟨rfl,trivial⟩,q2.perm (e l3).symm⟩
theorem Fz.kvs:∀{d:Nat} {t:Tr} {lo:Nat},Sh T d lo t->Fz F T d t->∀e∈flat t,aQ F e:=by
 intro d
 induction d with
 | zero =>
  intro t lo s z e he
  obtain⟨a,o,es,ks⟩:=t
  obtain⟨rfl,_⟩:=s
  rw[aq,aN] at he
  obtain⟨x,_,h⟩:=z
  exact h e he
 | succ n ih =>
  intro t lo s z e he
  obtain⟨a,o,es,ks⟩:=t
  rw[aq] at he
  obtain⟨⟨x,_,h⟩,hk⟩:=z
  rcases oW he with h1|⟨k,h1,h2⟩
  ·exact h e h1
  ·exact ih (s.2.2 k h1) (hk k h1) e h2
def Qn(d0:Nat)(t0:Tr)(x:Pl)(c:Cv):Prop:=(∃e,x=uQ e/\∃ic pa ky rd,c=⟨.none,bif e then 1 else 0,false,ic,pa,false,ky,rd,[]⟩) \/
 ∃k b A B y rc ic pa ky rd,x=⟨0,k,b⟩/\Wn k b A B/\pG d0 t0 rc ic A B y/\c=⟨.ref y.a,y.i,rc,ic,pa,false,ky,rd,y.xs.reverse⟩
theorem pG.fl(hs:Sh T d0 lo0 t0)(hz:Fz F T d0 t0)(h:pG d0 t0 rc ic A B y):A++B=flat t0:=by
 rcases h with ⟨_,_,h⟩|⟨_,h⟩<;>exact zq hs hz h
section
variable{G:Nat->bI}(B:bD G)(k:Nat){F:CL}{T d0 lo0 p i t dt c0 cl:Nat}{t0:Tr}{im io:Bool}{n:Int}{x:Pl}{c:Cv}
include B
theorem FP(hs:Sh T d0 lo0 t0)(hz:Fz F T d0 t0)(hT:T<=1000)(hd:d0<=1000)(sr:bw (flat t0))(h:cg d0 t0 x c):aL (G (k+7)) 30 [.ref p] (mH p i t c++[.k true (.ob t 7 dt (aC c0 im cl T t0.a n io))]) F (Qn d0 t0 x) (λ_=>.none) λc=>mH p i t c++[.k true (.ob t 7 dt (aC c0 im cl T t0.a n io))]:=by
 rcases h with ⟨e,h1,ic,pa,pk,rd,rfl⟩|⟨k',b,h1,h2⟩
 ·cases pk with
  | false=>exact aL.use [0] (λ_=>rfl) (FN B (k+3)) λ_ _=>⟨_,.inl ⟨e,h1,ic,pa,.none,rd,rfl⟩,rfl,λr=>Vw.refl _ _⟩
  | true=>exact aL.use [0] (λ_=>rfl) (Im B (k+3)) λ_ _=>⟨_,.inl ⟨e,h1,ic,pa,.none,rd,rfl⟩,rfl,λr=>Vw.refl _ _⟩
 ·obtain⟨cn,j,rc,ic,pa,pk,ky,rd,xs⟩:=c
  obtain⟨h2,h3,h4⟩:=h2
  dsimp only at h2 h3 h4
  subst h2
  cases pk with
  | false =>
   obtain⟨A,B',y,h5,h6,rfl,rfl,rfl⟩:=h4 rfl
   exact aL.use [0] (λ_=>rfl) (FN B (k+3)) λ_ _=>⟨_,.inr ⟨k',b,A,B',y,rc,ic,pa,_,rd,h1,h6,h5,rfl⟩,rfl,λr=>Vw.refl _ _⟩
  | true =>
   refine aL.use [0,1] (λ_=>rfl) (Io B k hs hz hT hd sr) λy hy=>?_
   obtain⟨h5,A,B',h6,h7⟩:=hy
   exact⟨⟨.ref y.1.a,y.1.i,false,ic,y.2,false,.none,false,y.1.xs.reverse⟩,.inr ⟨k',b,A,B',y.1,false,ic,y.2,.none,false,h1,h3▸h7,.inl ⟨rfl,h5,h6⟩,rfl⟩,rfl,λr=>Vw.keep [0,0,0,1] rfl⟩
theorem FQ(hs:Sh T d0 lo0 t0)(hz:Fz F T d0 t0)(hT:T<=1000)(hd:d0<=1000)(sr:bw (flat t0))(h:cg d0 t0 x c):aL (G (k+8)) 32 [.ref p] (mH p i t c++[.k true (.ob t 7 dt (aC c0 im cl T t0.a n io))]) F (cg d0 t0 (pA true (je x (flat t0)))) (λ_=>vO (je x (flat t0))) λc=>mH p i t c++[.k true (.ob t 7 dt (aC c0 im cl T t0.a n io))]:=by
 refine aL.of (B (k+7) 32 c32 rfl) λr K hK=>?_
 show aj (G (k+7)) [c32] [(0,.ref p)] [.k true (.ob p 3 i (aH t c.cn c.j c.rc c.ic c.pa c.pk c.ky c.rd)),.stk c.pa c.xs,.k true (.ob t 7 dt (aC c0 im cl T t0.a n io)),.raw r] F K
 refine aj.rn (ao B (k+4)) [oI 0] (p:=Yr p/\au (G (k+7)) 30 [.ref p] [zO p 3 i (cR t c),.stk c.pa c.xs,zO t 7 dt (aC c0 im cl T t0.a n io),.raw r] F (bx (G (k+7)) [c32_1] [(0,.ref p)] K)) ?_
 refine⟨rfl,au.call [0,0,0] rfl (FP B k hs hz hT hd sr h) λc hc=>?_⟩
 have f1:∀(C D:List E),C++D=flat t0->je x (flat t0)=D.head?->∀e D' (z:bW) rc' pa m A1,D=e::D'->pG d0 t0 rc' true (C++[e]) D' z->Vw F A1 (mH p i t ⟨.ref z.a,z.i,rc',true,pa,false,.int e.k,true,z.xs.reverse⟩++[.k true (.ob t 7 dt (aC c0 im cl T t0.a n io)),.raw r])->K (.ret e.r) m A1 F:=λC D q1 q2 e D' z rc' pa m A1 q3 q4 v=>by
  rw[q3] at q1 q2
  rw[q2] at hK
  exact hK ⟨.ref z.a,z.i,rc',true,pa,false,.int e.k,true,z.xs.reverse⟩ _ m A1 (.inr ⟨e.k,false,rfl,rfl,rfl,λ_=>⟨_,_,z,q4,Ld (q1▸sr),rfl,rfl,rfl⟩⟩) rfl v
 have f2:∀(D:List E),je x (flat t0)=D.head?->∀ic pa rd m A1,D=[]->Vw F A1 (mH p i t ⟨.none,1,false,ic,pa,false,.none,rd,[]⟩++[.k true (.ob t 7 dt (aC c0 im cl T t0.a n io)),.raw r])->K (.ret .none) m A1 F:=λD q2 ic pa rd m A1 q3 v=>by
  rw[q3] at q2
  rw[q2] at hK
  exact hK ⟨.none,1,false,ic,pa,false,.none,rd,[]⟩ _ m A1 (.inl ⟨true,rfl,ic,pa,false,rd,rfl⟩) rfl v
 rcases hc with ⟨e,rfl,ic,pa,ky,rd,rfl⟩|⟨k',b,A,B',y,rc,ic,pa,ky,rd,rfl,w,hr,rfl⟩
 ·cases e with
  | false=>exact Dw B (k+2) hs hz hT hd (λe D' z rc' m A1=>f1 [] (flat t0) rfl (sV _) e D' z rc' pa m A1) (λm A1=>f2 (flat t0) (sV _) true pa rd m A1)
  | true=>exact aj.bT [2,2] rfl (pack [.k true (.ob t 7 dt (aC c0 im cl T t0.a n io)),.raw r]) λl hl=>aj.vw (Vw.keep [1,1,0] rfl) (zx (r:=l) B (k+2) λm A1 v=>f2 [] rfl ic pa rd m A1 rfl (v.trans (Vw.fin [2] rfl hl.un [2,2,0,0] rfl)))
 ·have e1:je ⟨0,k',b⟩ (flat t0)=B'.head?:=by rw[<-hr.fl hs hz];exact w.je
  exact aj.bT [2,2] rfl (pack [.k true (.ob t 7 dt (aC c0 im cl T t0.a n io)),.raw r]) λl hl=>aj.vw (Vw.keep [1,1,0] rfl) (La (r:=l) B (k+2) hs hz hT hd hr (λe D' z rc' m A1 q1 q2 v=>f1 A B' (hr.fl hs hz) e1 e D' z rc' pa m A1 q1 q2 (v.trans (Vw.fin [2] rfl hl.un [2,2,0,0] rfl))) λm A1 q v=>f2 B' e1 true pa rd m A1 q (v.trans (Vw.fin [2] rfl hl.un [2,2,0,0] rfl)))
theorem FT(hs:Sh T d0 lo0 t0)(hz:Fz F T d0 t0)(hT:T<=1000)(hd:d0<=1000)(sr:bw (flat t0))(h:cg d0 t0 x c):aL (G (k+8)) 31 [.ref p] (mH p i t c++[.k true (.ob t 7 dt (aC c0 im cl T t0.a n io))]) F (cg d0 t0 (pA false (iQ x (flat t0)))) (λ_=>vO (iQ x (flat t0))) λc=>mH p i t c++[.k true (.ob t 7 dt (aC c0 im cl T t0.a n io))]:=by
 refine aL.of (B (k+7) 31 c31 rfl) λr K hK=>?_
 show aj (G (k+7)) [c31] [(0,.ref p)] [.k true (.ob p 3 i (aH t c.cn c.j c.rc c.ic c.pa c.pk c.ky c.rd)),.stk c.pa c.xs,.k true (.ob t 7 dt (aC c0 im cl T t0.a n io)),.raw r] F K
 refine aj.rn (ao B (k+4)) [oI 0] (p:=Yr p/\au (G (k+7)) 30 [.ref p] [zO p 3 i (cR t c),.stk c.pa c.xs,zO t 7 dt (aC c0 im cl T t0.a n io),.raw r] F (bx (G (k+7)) [c31_1] [(0,.ref p)] K)) ?_
 refine⟨rfl,au.call [0,0,0] rfl (FP B k hs hz hT hd sr h) λc hc=>?_⟩
 have f1:∀(C D:List E),C++D=flat t0->iQ x (flat t0)=C.getLast?->∀e C' (z:bW) rc' pa m A1,C=C'++[e]->pG d0 t0 rc' false C' (e::D) z->Vw F A1 (mH p i t ⟨.ref z.a,z.i,rc',false,pa,false,.int e.k,true,z.xs.reverse⟩++[.k true (.ob t 7 dt (aC c0 im cl T t0.a n io)),.raw r])->K (.ret e.r) m A1 F:=λC D q1 q2 e C' z rc' pa m A1 q3 q4 v=>by
  rw[q3,List.getLast?_concat] at q2
  rw[q2] at hK
  rw[q3,dJ] at q1
  exact hK ⟨.ref z.a,z.i,rc',false,pa,false,.int e.k,true,z.xs.reverse⟩ _ m A1 (.inr ⟨e.k,true,rfl,rfl,rfl,λ_=>⟨_,_,z,q4,Lf (q1▸sr),rfl,rfl,rfl⟩⟩) rfl v
 have f2:∀(C:List E),iQ x (flat t0)=C.getLast?->∀ic pa rd m A1,C=[]->Vw F A1 (mH p i t ⟨.none,0,false,ic,pa,false,.none,rd,[]⟩++[.k true (.ob t 7 dt (aC c0 im cl T t0.a n io)),.raw r])->K (.ret .none) m A1 F:=λC q2 ic pa rd m A1 q3 v=>by
  rw[q3] at q2
  rw[show iQ x (flat t0)=none from q2] at hK
  exact hK ⟨.none,0,false,ic,pa,false,.none,rd,[]⟩ _ m A1 (.inl ⟨false,rfl,ic,pa,false,rd,rfl⟩) rfl v
 rcases hc with ⟨e,rfl,ic,pa,ky,rd,rfl⟩|⟨k',b,A,B',y,rc,ic,pa,ky,rd,rfl,w,hr,rfl⟩
 ·cases e with
  | true=>exact zy B (k+2) hs hz hT hd (λe C' z rc' m A1=>f1 (flat t0) [] (Rx _) (sW _) e C' z rc' pa m A1) (λm A1=>f2 (flat t0) (sW _) false pa rd m A1)
  | false=>exact aj.bT [2,2] rfl (pack [.k true (.ob t 7 dt (aC c0 im cl T t0.a n io)),.raw r]) λl hl=>aj.vw (Vw.keep [1,1,0] rfl) (Dy (r:=l) B (k+2) λm A1 v=>f2 [] rfl ic pa rd m A1 rfl (v.trans (Vw.fin [2] rfl hl.un [2,2,0,0] rfl)))
 ·have e1:iQ ⟨0,k',b⟩ (flat t0)=A.getLast?:=by rw[<-hr.fl hs hz];exact w.iQ
  exact aj.bT [2,2] rfl (pack [.k true (.ob t 7 dt (aC c0 im cl T t0.a n io)),.raw r]) λl hl=>aj.vw (Vw.keep [1,1,0] rfl) (Lb (r:=l) B (k+2) hs hz hT hd hr (λe C' z rc' m A1 q1 q2 v=>f1 A B' (hr.fl hs hz) e1 e C' z rc' pa m A1 q1 q2 (v.trans (Vw.fin [2] rfl hl.un [2,2,0,0] rfl))) λm A1 q v=>f2 A e1 false pa rd m A1 q (v.trans (Vw.fin [2] rfl hl.un [2,2,0,0] rfl)))
theorem FW(hs:Sh T d0 lo0 t0)(hz:Fz F T d0 t0)(hT:T<=1000)(hd:d0<=1000)(sr:bw (flat t0)):aL (G (k+6)) 34 [.ref p,.int key,.bool bf] (mH p i t c++[.k true (.ob t 7 dt (aC c0 im cl T t0.a n io))]) F (cg d0 t0 ⟨0,key,bf⟩) (λ_=>.none) λc=>mH p i t c++[.k true (.ob t 7 dt (aC c0 im cl T t0.a n io))]:=by
 refine aL.use [0,1] (λ_=>rfl) (zu B k hs hz hT hd sr) λy hy=>?_
 obtain⟨h5,A,B',h6,h7⟩:=hy
 exact⟨⟨.ref y.1.a,y.1.i,false,bf,y.2,false,.int key,false,y.1.xs.reverse⟩,.inr ⟨key,bf,rfl,rfl,rfl,λ_=>⟨A,B',y.1,.inl ⟨rfl,h5,h6⟩,h7,rfl,rfl,rfl⟩⟩,rfl,λr=>Vw.keep [0,0,0,1] rfl⟩
theorem FZ:aL (G (k+4)) 35 [.ref p] (mH p i t c) F (NT false (uQ false)) (λ_=>.none) λc=>mH p i t c :=
 aL.use [0] (λ_=>rfl) (K9 B k) λy _=>⟨⟨.none,0,false,true,y,false,.none,c.rd,[]⟩,⟨rfl,_,_,_,_,rfl⟩,rfl,λr=>Vw.keep [0,0,1] rfl⟩
theorem Lg:aL (G (k+4)) 36 [.ref p] (mH p i t c) F (NT true (uQ true)) (λ_=>.none) λc=>mH p i t c :=
 aL.use [0] (λ_=>rfl) (Dv B k) λy _=>⟨⟨.none,1,false,false,y,false,.none,c.rd,[]⟩,⟨rfl,_,_,_,_,rfl⟩,rfl,λr=>Vw.keep [0,0,1] rfl⟩
end
structure RD(es:List (Int × V))(fs:List E):Prop where
 s:cG (es.map (·.1))=fs.map (·.k)
 g:∀k,bK es k=(bR k fs).map λe=>V.int e.v
theorem RD.len(h:RD es fs):es.length=fs.length:=by
 have:=(fY (es.map (·.1))).length_eq
 rw[h.s,Rt,Rt] at this
 exact this.symm
section
variable{Γ:bI}{A:List Th}{F:CL}{m:Loc}{rs:lM}{K:KS}
def qR(F:CL)(lc:Th)(J:List E->Loc->List Th->Prop)(g:List E)(m:Loc)(A1:List Th)(F1:CL):Prop:=F1=F/\∃A2,Vw F A1 (lc::A2)/\J g m A2
theorem aj.DG(Bk:lW Γ sp){z x n d:Nat}{w up:Bool}{b r:List CS}{es:List (Int × V)}{fs:List E}(hm:look m x=some (.ref d))(ha:at' A n=some (.k w (.ce d (.dict es))))(hR:RD es fs)(hl:fs.length<64)(J:List E->Loc->List Th->Prop)
  (h0:J (bif up then fs else fs.reverse) m A) (h1:∀lc e g m A',J (e::g) m A'->aj Γ [b] (put m z (.int e.k)) (lc::A') F (cB (qR F lc J g) (Rest Γ (r::rs) K) K))
  (h2:∀lc m A',J [] m A'->aj Γ (r::rs) m (lc::A') F K):aj Γ ((.eU (.var z) (.bi (bif up then 2 else 3) [.var x]) b::r)::rs) m A F K:=by
 have go:∀l,J (bif up then fs else fs.reverse) m A->∃a xs,V.ref l=.ref a/\∃I:Nat->Loc->List Th->CL->Prop,I 0 m (.k true (.ce l (.list (((bif up then fs else fs.reverse).map (·.k)).map .int)))::A) F/\∀i m A F,I i m A F->(∀H,Sat A F H->H a=some (.list xs))/\match xs[i]? with
   | some x=>aj Γ [b] (put m z x) A F (cB (I (i+1)) (Rest Γ (r::rs) K) K)
   | none=>aj Γ (r::rs) m A F K:=λl h0=>by
  generalize (bif up then fs else fs.reverse)=gs at h0
  refine⟨l,(gs.map (·.k)).map .int,rfl,λi=>qR F (.k true (.ce l (.list ((gs.map (·.k)).map .int)))) J (gs.drop i),⟨rfl,A,Vw.refl _ _,h0⟩,λi m A F' hi=>?_⟩
  obtain⟨rfl,A2,hv,hi⟩:=hi
  refine⟨λH S=>((hv H S).kd (n:=0) rfl).1 _ (.head _),?_⟩
  rw[Rm,Rm]
  cases hx:gs[i]? with
  | none =>
   rw[List.drop_eq_nil_of_le (List.getElem?_eq_none_iff.mp hx)] at hi
   exact(h2 _ m A2 hi).vw hv
  | some x =>
   obtain⟨hlt,hx⟩:=QJ.mp hx
   rw[QH hlt,hx] at hi
   exact(h1 _ x _ m A2 hi).vw hv
 cases up with
 | true =>
  refine aj.eU (gR.run Bk [oI n] ?_)
  show opt (look m x) _
  rw[hm]
  show opt (at' A n) _
  rw[ha]
  refine⟨rfl,hR.len▸hl,λl=>?_⟩
  have:=go l h0
  rw[show(bif true then fs else fs.reverse).map (·.k)=fs.map (·.k) from rfl,<-hR.s] at this
  exact this
 | false =>
  refine aj.eU (gR.run Bk [oI n] ?_)
  show opt (look m x) _
  rw[hm]
  show opt (at' A n) _
  rw[ha]
  refine⟨rfl,hR.len▸hl,λl=>?_⟩
  have:=go l h0
  rw[show(bif false then fs else fs.reverse).map (·.k)=(fs.map (·.k)).reverse from List.map_reverse,<-hR.s] at this
  exact this
end
def DK(A0:List Th)(P:List E->Loc->Prop)(g:List E)(m:Loc)(A:List Th):Prop:=A=A0/\∃M t,m=M++t/\(t=[]\/∃y,t=[(172,y)])/\P g M
section
variable{G:Nat->bI}(B:bD G)(k:Nat){F:CL}{d q:Nat}{es:List (Int × V)}{fs:List E}(hR:RD es fs)(hl:fs.length<64){x:Pl}
include B hR
include hl in
theorem Lh:aL (β:=Unit) (G (k+4)) 61 [.ref d,.ref q] [.k true (.ce d (.dict es)),.k true (.ce q (.tup x.us))] F (λ_=>True) (λ_=>kO (je x fs)) λ_=>[.k true (.ce d (.dict es)),.k true (.ce q (.tup x.us))]:=by
 refine aL.of (B (k+3) 61 c61 rfl) λr K hK=>?_
 obtain⟨s,x,b⟩:=x
 show aj (G (k+3)) [c61] [(171,.ref d),(96,.ref q)] [.k true (.ce d (.dict es)),.k true (.ce q (.tup [.int s,.int x,.bool b])),.raw r] F K
 cases hs:decide (s=1) with
 | true =>
  rw[show je ⟨s,x,b⟩ fs=none from if_pos (Rj hs)] at hK
  refine aj.rn (ao B k) [oI 1,oB true] (p:=Yr q/\decide (s=1)=true/\K (.ret V.none) [(171,.ref d),(96,.ref q),(188,.int s),(42,.int x),(137,.bool b)] [zD d es,zT q [.int s,.int x,.bool b],.raw r] F) ?_
  exact⟨rfl,hs,hK () _ _ _ trivial rfl (Vw.refl _ _)⟩
 | false =>
  rw[show je ⟨s,x,b⟩ fs=fs.find? (qQ ⟨s,x,b⟩) from if_neg (of_decide_eq_false hs)] at hK
  refine aj.rn (ao B k) [oI 1,oB false] (p:=Yr q/\decide (s=1)=false/\aj (G (k+3)) [c61_2] [(171,.ref d),(96,.ref q),(188,.int s),(42,.int x),(137,.bool b)] [zD d es,zT q [.int s,.int x,.bool b],.raw r] F K) ?_
  refine⟨rfl,hs,aj.DG (n:=0) (up:=true) (ao B k) rfl rfl hR hl (DK [.k true (.ce d (.dict es)),.k true (.ce q (.tup [.int s,.int x,.bool b])),.raw r] λg M=>M=[(171,.ref d),(96,.ref q),(188,.int s),(42,.int x),(137,.bool b)]/\fs.find? (qQ ⟨s,x,b⟩)=g.find? (qQ ⟨s,x,b⟩)) ⟨rfl,_,_,rfl,.inl rfl,rfl,rfl⟩ (λlc e g m A hJ=>?_) λlc m A hJ=>?_⟩
  ·obtain⟨rfl,M,t,rfl,ht,rfl,hf⟩:=hJ
   have hp:put ([(171,V.ref d),(96,V.ref q),(188,V.int s),(42,V.int x),(137,V.bool b)]++t) 172 (.int e.k)=[(171,.ref d),(96,.ref q),(188,.int s),(42,.int x),(137,.bool b),(172,.int e.k)]:=by
    rcases ht with rfl|⟨y,rfl⟩<;>rfl
   rw[hp]
   rw[Rz] at hf
   have fin:(decide (s = -1) || (decide (x<e.k) || (b&&decide (e.k=x))))=true->∀m,K (.ret (.int e.k)) m [lc,.k true (.ce d (.dict es)),.k true (.ce q (.tup [.int s,.int x,.bool b])),.raw r] F:=λh m=>by
    rw[show qQ ⟨s,x,b⟩ e=true from h] at hf
    rw[show fs.find? (qQ ⟨s,x,b⟩)=some e from hf] at hK
    exact hK () _ _ _ trivial rfl (Vw.keep [1,1,1] rfl)
   have go:(decide (s = -1) || (decide (x<e.k) || (b&&decide (e.k=x))))=false->fs.find? (qQ ⟨s,x,b⟩)=g.find? (qQ ⟨s,x,b⟩):=λh=>by
    rw[show qQ ⟨s,x,b⟩ e=false from h] at hf
    exact hf
   cases h1:decide (s = -1) with
   | true =>
    rw[h1] at fin
    refine aj.rn (ao B k) [oB true,oB true] (p:=decide (s = -1)=true/\Yt/\K (.ret (.int e.k)) [(171,.ref d),(96,.ref q),(188,.int s),(42,.int x),(137,.bool b),(172,.int e.k)] [lc,zD d es,zT q [.int s,.int x,.bool b],.raw r] F) ?_
    exact⟨h1,rfl,fin rfl _⟩
   | false =>
    rw[h1] at fin go
    cases h2:decide (x<e.k) with
    | true =>
     rw[h2] at fin
     refine aj.rn (ao B k) [oB false,oB true] (p:=decide (s = -1)=false/\decide (x<E.k e)=true/\K (.ret (.int e.k)) [(171,.ref d),(96,.ref q),(188,.int s),(42,.int x),(137,.bool b),(172,.int e.k)] [lc,zD d es,zT q [.int s,.int x,.bool b],.raw r] F) ?_
     exact⟨h1,h2,fin rfl _⟩
    | false =>
     rw[h2] at fin go
     cases b with
     | false =>
      refine aj.rn (ao B k) [oB false,oB false,oB false,oB false] (p:=decide (s = -1)=false/\decide (x<E.k e)=false/\false=false/\false=false/\qR F lc (DK [zD d es,zT q [.int s,.int x,.bool false],.raw r] λg M=>M=[(171,V.ref d),(96,V.ref q),(188,V.int s),(42,V.int x),(137,V.bool false)]/\List.find? (qQ (Pl.mk s x false)) fs=List.find? (qQ (Pl.mk s x false)) g) g [(171,.ref d),(96,.ref q),(188,.int s),(42,.int x),(137,.bool false),(172,.int e.k)] [lc,zD d es,zT q [.int s,.int x,.bool false],.raw r] F) ?_
      exact⟨h1,h2,rfl,rfl,rfl,_,Vw.refl _ _,rfl,_,_,rfl,.inr ⟨_,rfl⟩,rfl,go rfl⟩
     | true =>
      cases h3:decide (e.k=x) with
      | true =>
       rw[h3] at fin
       refine aj.rn (ao B k) [oB false,oB false,oB true,oB true] (p:=decide (s = -1)=false/\decide (x<E.k e)=false/\Yt/\decide (E.k e=x)=true/\K (.ret (.int e.k)) [(171,.ref d),(96,.ref q),(188,.int s),(42,.int x),(137,.bool true),(172,.int e.k)] [lc,zD d es,zT q [.int s,.int x,.bool true],.raw r] F) ?_
       exact⟨h1,h2,rfl,h3,fin rfl _⟩
      | false =>
       rw[h3] at go
       refine aj.rn (ao B k) [oB false,oB false,oB true,oB false] (p:=decide (s = -1)=false/\decide (x<E.k e)=false/\Yt/\decide (E.k e=x)=false/\qR F lc (DK [zD d es,zT q [.int s,.int x,.bool true],.raw r] λg M=>M=[(171,V.ref d),(96,V.ref q),(188,V.int s),(42,V.int x),(137,V.bool true)]/\List.find? (qQ (Pl.mk s x true)) fs=List.find? (qQ (Pl.mk s x true)) g) g [(171,.ref d),(96,.ref q),(188,.int s),(42,.int x),(137,.bool true),(172,.int e.k)] [lc,zD d es,zT q [.int s,.int x,.bool true],.raw r] F) ?_
       exact⟨h1,h2,rfl,h3,rfl,_,Vw.refl _ _,rfl,_,_,rfl,.inr ⟨_,rfl⟩,rfl,go rfl⟩
  ·obtain⟨rfl,M,t,rfl,ht,rfl,hf⟩:=hJ
   rw[hf] at hK
   refine aj.rn (ao B k) [] (p:=K (.ret V.none) ((171,V.ref d)::(96,V.ref q)::(188,V.int s)::(42,V.int x)::(137,V.bool b)::t) [lc,zD d es,zT q [.int s,.int x,.bool b],.raw r] F) ?_
   exact hK () _ _ _ trivial rfl (Vw.keep [1,1,1] rfl)
include hl in
theorem Li:aL (β:=Unit) (G (k+4)) 62 [.ref d,.ref q] [.k true (.ce d (.dict es)),.k true (.ce q (.tup x.us))] F (λ_=>True) (λ_=>kO (iQ x fs)) λ_=>[.k true (.ce d (.dict es)),.k true (.ce q (.tup x.us))]:=by
 refine aL.of (B (k+3) 62 c62 rfl) λr K hK=>?_
 obtain⟨s,x,b⟩:=x
 show aj (G (k+3)) [c62] [(171,.ref d),(96,.ref q)] [.k true (.ce d (.dict es)),.k true (.ce q (.tup [.int s,.int x,.bool b])),.raw r] F K
 cases hs:decide (s = -1) with
 | true =>
  rw[show iQ ⟨s,x,b⟩ fs=none from if_pos (Rj hs)] at hK
  refine aj.rn (ao B k) [oI 1,oB true] (p:=Yr q/\decide (s = -1)=true/\K (.ret V.none) [(171,.ref d),(96,.ref q),(188,.int s),(42,.int x),(137,.bool b),(173,.none)] [zD d es,zT q [.int s,.int x,.bool b],.raw r] F) ?_
  exact⟨rfl,hs,hK () _ _ _ trivial rfl (Vw.refl _ _)⟩
 | false =>
  rw[show iQ ⟨s,x,b⟩ fs=fs.foldl (jF ⟨s,x,b⟩) none from if_neg (of_decide_eq_false hs)] at hK
  refine aj.rn (ao B k) [oI 1,oB false] (p:=Yr q/\decide (s = -1)=false/\aj (G (k+3)) [c62_3] [(171,.ref d),(96,.ref q),(188,.int s),(42,.int x),(137,.bool b),(173,.none)] [zD d es,zT q [.int s,.int x,.bool b],.raw r] F K) ?_
  refine⟨rfl,hs,aj.DG (n:=0) (up:=true) (ao B k) rfl rfl hR hl (DK [.k true (.ce d (.dict es)),.k true (.ce q (.tup [.int s,.int x,.bool b])),.raw r] λg M=>∃o,M=[(171,.ref d),(96,.ref q),(188,.int s),(42,.int x),(137,.bool b),(173,kO o)]/\fs.foldl (jF ⟨s,x,b⟩) none=g.foldl (jF ⟨s,x,b⟩) o) ⟨rfl,_,_,rfl,.inl rfl,none,rfl,rfl⟩ (λlc e g m A hJ=>?_) λlc m A hJ=>?_⟩
  ·obtain⟨rfl,M,t,rfl,ht,o,rfl,hf⟩:=hJ
   have hp:put ([(171,V.ref d),(96,V.ref q),(188,V.int s),(42,V.int x),(137,V.bool b),(173,kO o)]++t) 172 (.int e.k)=[(171,.ref d),(96,.ref q),(188,.int s),(42,.int x),(137,.bool b),(173,kO o),(172,.int e.k)]:=by
    rcases ht with rfl|⟨y,rfl⟩<;>rfl
   rw[hp]
   have fin:∀o',(bif (decide (s=1) || (decide (e.k<x) || (!b&&decide (e.k=x)))) then some e else o)=o'->fs.foldl (jF ⟨s,x,b⟩) none=g.foldl (jF ⟨s,x,b⟩) o':=λo' h=>by
    rw[<-h];exact hf
   cases h1:decide (s=1) with
   | true =>
    rw[h1] at fin
    refine aj.rn (ao B k) [oB true,oB true] (p:=decide (s=1)=true/\Yt/\qR F lc (DK [zD d es,zT q [.int s,.int x,.bool b],.raw r] λg M=>∃(o:Option E),M=[(171,V.ref d),(96,V.ref q),(188,V.int s),(42,V.int x),(137,V.bool b),(173,kO o)]/\List.foldl (jF (Pl.mk s x b)) none fs=List.foldl (jF (Pl.mk s x b)) o g) g [(171,.ref d),(96,.ref q),(188,.int s),(42,.int x),(137,.bool b),(173,.int e.k),(172,.int e.k)] [lc,zD d es,zT q [.int s,.int x,.bool b],.raw r] F) ?_
    exact⟨h1,rfl,rfl,_,Vw.refl _ _,rfl,_,_,rfl,.inr ⟨_,rfl⟩,some e,rfl,fin _ rfl⟩
   | false =>
    rw[h1] at fin
    cases h2:decide (e.k<x) with
    | true =>
     rw[h2] at fin
     refine aj.rn (ao B k) [oB false,oB true] (p:=decide (s=1)=false/\decide (E.k e<x)=true/\qR F lc (DK [zD d es,zT q [.int s,.int x,.bool b],.raw r] λg M=>∃(o:Option E),M=[(171,V.ref d),(96,V.ref q),(188,V.int s),(42,V.int x),(137,V.bool b),(173,kO o)]/\List.foldl (jF (Pl.mk s x b)) none fs=List.foldl (jF (Pl.mk s x b)) o g) g [(171,.ref d),(96,.ref q),(188,.int s),(42,.int x),(137,.bool b),(173,.int e.k),(172,.int e.k)] [lc,zD d es,zT q [.int s,.int x,.bool b],.raw r] F) ?_
     exact⟨h1,h2,rfl,_,Vw.refl _ _,rfl,_,_,rfl,.inr ⟨_,rfl⟩,some e,rfl,fin _ rfl⟩
    | false =>
     rw[h2] at fin
     cases h3:decide (e.k=x) with
     | false =>
      rw[h3,Bool.and_false] at fin
      refine aj.rn (ao B k) [oB false,oB false,oB false,oB false] (p:=decide (s=1)=false/\decide (E.k e<x)=false/\decide (E.k e=x)=false/\false=false/\qR F lc (DK [zD d es,zT q [.int s,.int x,.bool b],.raw r] λg M=>∃(o:Option E),M=[(171,V.ref d),(96,V.ref q),(188,V.int s),(42,V.int x),(137,V.bool b),(173,kO o)]/\List.foldl (jF (Pl.mk s x b)) none fs=List.foldl (jF (Pl.mk s x b)) o g) g [(171,.ref d),(96,.ref q),(188,.int s),(42,.int x),(137,.bool b),(173,kO o),(172,.int e.k)] [lc,zD d es,zT q [.int s,.int x,.bool b],.raw r] F) ?_
      exact⟨h1,h2,h3,rfl,rfl,_,Vw.refl _ _,rfl,_,_,rfl,.inr ⟨_,rfl⟩,o,rfl,fin _ rfl⟩
     | true =>
      rw[h3] at fin
      cases b with
      | false =>
       refine aj.rn (ao B k) [oB false,oB false,oB true,oB true] (p:=decide (s=1)=false/\decide (E.k e<x)=false/\decide (E.k e=x)=true/\Yt/\qR F lc (DK [zD d es,zT q [.int s,.int x,.bool false],.raw r] λg M=>∃(o:Option E),M=[(171,V.ref d),(96,V.ref q),(188,V.int s),(42,V.int x),(137,V.bool false),(173,kO o)]/\List.foldl (jF (Pl.mk s x false)) none fs=List.foldl (jF (Pl.mk s x false)) o g) g [(171,.ref d),(96,.ref q),(188,.int s),(42,.int x),(137,.bool false),(173,.int e.k),(172,.int e.k)] [lc,zD d es,zT q [.int s,.int x,.bool false],.raw r] F) ?_
       exact⟨h1,h2,h3,rfl,rfl,_,Vw.refl _ _,rfl,_,_,rfl,.inr ⟨_,rfl⟩,some e,rfl,fin _ rfl⟩
      | true =>
       refine aj.rn (ao B k) [oB false,oB false,oB true,oB false] (p:=decide (s=1)=false/\decide (E.k e<x)=false/\decide (E.k e=x)=true/\false=false/\qR F lc (DK [zD d es,zT q [.int s,.int x,.bool true],.raw r] λg M=>∃(o:Option E),M=[(171,V.ref d),(96,V.ref q),(188,V.int s),(42,V.int x),(137,V.bool true),(173,kO o)]/\List.foldl (jF (Pl.mk s x true)) none fs=List.foldl (jF (Pl.mk s x true)) o g) g [(171,.ref d),(96,.ref q),(188,.int s),(42,.int x),(137,.bool true),(173,kO o),(172,.int e.k)] [lc,zD d es,zT q [.int s,.int x,.bool true],.raw r] F) ?_
       exact⟨h1,h2,h3,rfl,rfl,_,Vw.refl _ _,rfl,_,_,rfl,.inr ⟨_,rfl⟩,o,rfl,fin _ rfl⟩
  ·obtain⟨rfl,M,t,rfl,ht,o,rfl,hf⟩:=hJ
   rw[hf] at hK
   refine aj.rn (ao B k) [] (p:=K (.ret (kO o)) ((171,V.ref d)::(96,V.ref q)::(188,V.int s)::(42,V.int x)::(137,V.bool b)::(173,kO o)::t) [lc,zD d es,zT q [.int s,.int x,.bool b],.raw r] F) ?_
   exact hK () _ _ _ trivial rfl (Vw.keep [1,1,1] rfl)
theorem zA(ho:∀e,o=some e->aQ F e/\bR e.k fs=some e):aL (β:=Unit) (G (k+4)) 63 [vO o,kO o,.ref d] [.k true (.ce d (.dict es))] F (λ_=>True) (λ_=>.bool true) λ_=>[.k true (.ce d (.dict es))]:=by
 refine aL.of (B (k+3) 63 c63 rfl) λr K hK=>?_
 show aj (G (k+3)) [c63] [(107,vO o),(173,kO o),(171,.ref d)] [.k true (.ce d (.dict es)),.raw r] F K
 cases o with
 | none =>
  refine aj.rn (ao B k) [oB true] (p:=Yt/\K (.ret (.bool true)) [(107,vO none),(173,kO none),(171,.ref d)] [zD d es,.raw r] F) ?_
  exact⟨rfl,hK () _ _ _ trivial rfl (Vw.refl _ _)⟩
 | some e =>
  have hg:=hR.g e.k
  rw[(ho e rfl).2] at hg
  show aj (G (k+3)) [c63] [(107,e.r),(173,.int e.k),(171,.ref d)] [.k true (.ce d (.dict es)),.raw r] F K
  refine aj.rn (ao B k) [oB false,oB true,oe e,oB true,oe e,oI 0,ov (V.int (E.v e))] (p:=false=false/\Yt/\(E.r e=E.r e/\aQ F e)/\decide (E.k e=E.k e)=true/\(E.r e=E.r e/\aQ F e)/\Yr d/\bK es e.k=some (V.int e.v)/\K (.ret (.bool (decide (E.v e=E.v e)))) [(107,E.r e),(173,.int e.k),(171,.ref d)] [zD d es,.raw r] F) ?_
  have he:=(ho e rfl).1
  exact⟨rfl,rfl,⟨rfl,he⟩,RB rfl,⟨rfl,he⟩,rfl,hg,hK () _ _ _ trivial (congrArg V.bool (RB rfl)) (Vw.refl _ _)⟩
end
theorem jD(sr:bw fs)(h:e∈fs):bR e.k fs=some e:=by
 obtain⟨A,B,rfl⟩:=List.append_of_mem h
 exact(bN sr).jU rfl
theorem uT(h:je x fs=some e):e∈fs:=by
 unfold je at h
 split at h
 ·cases h
 ·exact List.mem_of_find?_eq_some h
theorem qT:∀{fs:List E} {o:Option E},fs.foldl (jF x) o=some e->e∈fs\/o=some e
 | [],_,h=>.inr h
 | y::fs,o,h=>by
  rcases qT (fs:=fs) h with h|h
  ·exact .inl (.tail _ h)
  ·unfold jF at h
   cases hb:Jz x y with
   | true=>rw[hb] at h;exact .inl (Ru h▸.head _)
   | false=>rw[hb] at h;exact .inr h
theorem uU(h:iQ x fs=some e):e∈fs:=by
 unfold iQ at h
 split at h
 ·cases h
 ·exact(qT h).elim id λh=>aV h
structure Rw where
 r:Nat
 q:Nat
 p:Nat
 i:Nat
 h:Nat
 g:Bool
 x:Pl
 t:Nat
 c:Cv
def Rw.th(w:Rw):List Th:=[.k true (.ce w.r (.list [.ref w.p,.int w.h,.ref w.q,.bool w.g])),.k true (.ce w.q (.tup w.x.us))]++mH w.p w.i w.t w.c
noncomputable def Rw.mv(w:Rw)(q:Nat)(x:Pl)(c:Cv):Rw:=⟨w.r,q,w.p,w.i,w.h,w.g,x,w.t,c⟩
section
variable{G:Nat->bI}(B:bD G)(k:Nat){F:CL}{T d0 lo0 dt c0 cl pa D:Nat}{t0:Tr}{im io:Bool}{n:Int}{es:List (Int × V)}{ds:List V}{w:Rw}
include B
theorem Ip(hs:Sh T d0 lo0 t0)(hz:Fz F T d0 t0)(hT:T<=1000)(hd:d0<=1000)(sr:bw (flat t0))(hR:RD es (flat t0))(hl:(flat t0).length<64)(hw:cg d0 t0 w.x w.c)(hD:idxV ds w.h=some (.ref D)) :
  aL (G (k+9)) 64 [.ref w.r,.ref pa] (w.th++[.k true (.ob w.t 7 dt (aC c0 im cl T t0.a n io)),.k true (.ce pa (.list ds)),.k true (.ce D (.dict es))]) F (λy:Nat × Cv=>cg d0 t0 (pA true (je w.x (flat t0))) y.2) (λ_=>.bool true)
   λy=>(w.mv y.1 (pA true (je w.x (flat t0))) y.2).th++[.k true (.ob w.t 7 dt (aC c0 im cl T t0.a n io)),.k true (.ce pa (.list ds)),.k true (.ce D (.dict es))]:=by
 refine aL.of (B (k+8) 64 c64 rfl) λr' K hK=>?_
 obtain⟨r,q,p,i,h,g,x,t,c⟩:=w
 have nx:=FQ (p:=p) (i:=i) (t:=t) (dt:=dt) (c0:=c0) (cl:=cl) (im:=im) (io:=io) (n:=n) B k hs hz hT hd sr hw
 have hm:∀e,je x (flat t0)=some e->aQ F e/\bR e.k (flat t0)=some e:=λe he=>⟨Fz.kvs hs hz e (uT he),jD sr (uT he)⟩
 have ab:=Lh (F:=F) (d:=D) (q:=q) (x:=x) B (k+4) hR hl
 have sm:=zA (d:=D) B (k+4) hR hm
 show aj (G (k+8)) [c64] [(174,.ref r),(175,.ref pa)] [.k true (.ce r (.list [.ref p,.int h,.ref q,.bool g])),.k true (.ce q (.tup x.us)),.k true (.ob p 3 i (aH t c.cn c.j c.rc c.ic c.pa c.pk c.ky c.rd)),.stk c.pa c.xs,.k true (.ob t 7 dt (aC c0 im cl T t0.a n io)),.k true (.ce pa (.list ds)),.k true (.ce D (.dict es)),.raw r'] F K
 refine aj.rn (ao B (k+5)) [oI 0,ov (V.int (↑h:Int)),oI 5,ov (V.ref D),oI 0,ov (V.ref q)] (p:=Yr r/\idxV [.ref p,.int h,.ref q,.bool g] 1=some (V.int h)/\Yr pa/\idxV ds (↑h:Int)=some (V.ref D)/\Yr r/\idxV [.ref p,.int h,.ref q,.bool g] 2=some (V.ref q)/\au (G (k+8)) 61 [.ref D,.ref q] [zL r [.ref p,.int h,.ref q,.bool g],zT q x.us,zO p 3 i (cR t c),.stk c.pa c.xs,zO t 7 dt (aC c0 im cl T t0.a n io),zL pa ds,zD D es,.raw r'] F (bF (G (k+8)) 173 [c64_2] [(174,.ref r),(175,.ref pa),(171,.ref D)] K)) ?_
 generalize hO:je x (flat t0)=o at nx ab sm hK
 refine⟨rfl,rfl,rfl,hD,rfl,rfl,au.call [6,1] rfl ab λ_ _=>?_⟩
 show aj (G (k+8)) [c64_2] [(174,.ref r),(175,.ref pa),(171,.ref D),(173,kO o)] _ F K
 refine aj.rn (ao B (k+5)) [oI 2,ov (V.ref p),oI 3] (p:=Yr r/\idxV [.ref p,.int h,.ref q,.bool g] 0=some (V.ref p)/\Yr p/\au (G (k+8)) 32 [.ref p] [zD D es,zT q x.us,zL r [.ref p,.int h,.ref q,.bool g],zO p 3 i (cR t c),.stk c.pa c.xs,zO t 7 dt (aC c0 im cl T t0.a n io),zL pa ds,.raw r'] F (bF (G (k+8)) 107 [c64_3] [(174,.ref r),(175,.ref pa),(171,.ref D),(173,kO o)] K)) ?_
 refine⟨rfl,rfl,rfl,au.call [3,3,3] rfl nx λc hc=>?_⟩
 cases o with
 | none =>
  show aj (G (k+8)) [c64_3] [(174,.ref r),(175,.ref pa),(171,.ref D),(173,.none),(107,.none)] _ F K
  refine aj.rn (ao B (k+5)) [oB true,oI 6,on 0] (p:=Yt/\∀(q_1:Nat),Yr r/\(((0:Int)<=2/\2<(↑4:Int))/\Yr q_1/\True)/\au (G (k+8)) 63 [.none,.none,.ref D] [zT q_1 [.int 1,.int 0,.bool false],zO p 3 i (cR t c),.stk c.pa c.xs,zO t 7 dt (aC c0 im cl T t0.a n io),zD D es,zT q x.us,zL r (List.set [.ref p,.int h,.ref q,.bool g] (Int.toNat 2) (.ref q_1)),zL pa ds,.raw r'] F (dY [(174,.ref r),(175,.ref pa),(171,.ref D),(173,.none),(107,.none)] K)) ?_
  exact⟨rfl,λq'=>⟨rfl,⟨by decide,rfl,trivial⟩,au.call [4] rfl sm λ_ _=>hK (q',c) _ _ _ hc rfl (Vw.keep [6,1,1,1,1,2,0,1] rfl)⟩⟩
 | some e =>
  show aj (G (k+8)) [c64_3] [(174,.ref r),(175,.ref pa),(171,.ref D),(173,.int e.k),(107,e.r)] _ F K
  refine aj.rn (ao B (k+5)) [oB false,oI 6,on 0] (p:=false=false/\∀(q_1:Nat),Yr r/\(((0:Int)<=2/\2<(↑4:Int))/\Yr q_1/\True)/\au (G (k+8)) 63 [E.r e,.int e.k,.ref D] [zT q_1 [.int 0,.int e.k,.bool false],zO p 3 i (cR t c),.stk c.pa c.xs,zO t 7 dt (aC c0 im cl T t0.a n io),zD D es,zT q x.us,zL r (List.set [.ref p,.int h,.ref q,.bool g] (Int.toNat 2) (.ref q_1)),zL pa ds,.raw r'] F (dY [(174,.ref r),(175,.ref pa),(171,.ref D),(173,.int e.k),(107,E.r e)] K)) ?_
  exact⟨rfl,λq'=>⟨rfl,⟨by decide,rfl,trivial⟩,au.call [4] rfl sm λ_ _=>hK (q',c) _ _ _ hc rfl (Vw.keep [6,1,1,1,1,2,0,1] rfl)⟩⟩
theorem Ir(hs:Sh T d0 lo0 t0)(hz:Fz F T d0 t0)(hT:T<=1000)(hd:d0<=1000)(sr:bw (flat t0))(hR:RD es (flat t0))(hl:(flat t0).length<64)(hw:cg d0 t0 w.x w.c)(hD:idxV ds w.h=some (.ref D)) :
  aL (G (k+9)) 65 [.ref w.r,.ref pa] (w.th++[.k true (.ob w.t 7 dt (aC c0 im cl T t0.a n io)),.k true (.ce pa (.list ds)),.k true (.ce D (.dict es))]) F (λy:Nat × Cv=>cg d0 t0 (pA false (iQ w.x (flat t0))) y.2) (λ_=>.bool true)
   λy=>(w.mv y.1 (pA false (iQ w.x (flat t0))) y.2).th++[.k true (.ob w.t 7 dt (aC c0 im cl T t0.a n io)),.k true (.ce pa (.list ds)),.k true (.ce D (.dict es))]:=by
 refine aL.of (B (k+8) 65 c65 rfl) λr' K hK=>?_
 obtain⟨r,q,p,i,h,g,x,t,c⟩:=w
 have nx:=FT (p:=p) (i:=i) (t:=t) (dt:=dt) (c0:=c0) (cl:=cl) (im:=im) (io:=io) (n:=n) B k hs hz hT hd sr hw
 have hm:∀e,iQ x (flat t0)=some e->aQ F e/\bR e.k (flat t0)=some e:=λe he=>⟨Fz.kvs hs hz e (uU he),jD sr (uU he)⟩
 have ab:=Li (F:=F) (d:=D) (q:=q) (x:=x) B (k+4) hR hl
 have sm:=zA (d:=D) B (k+4) hR hm
 show aj (G (k+8)) [c65] [(174,.ref r),(175,.ref pa)] [.k true (.ce r (.list [.ref p,.int h,.ref q,.bool g])),.k true (.ce q (.tup x.us)),.k true (.ob p 3 i (aH t c.cn c.j c.rc c.ic c.pa c.pk c.ky c.rd)),.stk c.pa c.xs,.k true (.ob t 7 dt (aC c0 im cl T t0.a n io)),.k true (.ce pa (.list ds)),.k true (.ce D (.dict es)),.raw r'] F K
 refine aj.rn (ao B (k+5)) [oI 0,ov (V.int (↑h:Int)),oI 5,ov (V.ref D),oI 0,ov (V.ref q)] (p:=Yr r/\idxV [.ref p,.int h,.ref q,.bool g] 1=some (V.int h)/\Yr pa/\idxV ds (↑h:Int)=some (V.ref D)/\Yr r/\idxV [.ref p,.int h,.ref q,.bool g] 2=some (V.ref q)/\au (G (k+8)) 62 [.ref D,.ref q] [zL r [.ref p,.int h,.ref q,.bool g],zT q x.us,zO p 3 i (cR t c),.stk c.pa c.xs,zO t 7 dt (aC c0 im cl T t0.a n io),zL pa ds,zD D es,.raw r'] F (bF (G (k+8)) 173 [c65_2] [(174,.ref r),(175,.ref pa),(171,.ref D)] K)) ?_
 generalize hO:iQ x (flat t0)=o at nx ab sm hK
 refine⟨rfl,rfl,rfl,hD,rfl,rfl,au.call [6,1] rfl ab λ_ _=>?_⟩
 show aj (G (k+8)) [c65_2] [(174,.ref r),(175,.ref pa),(171,.ref D),(173,kO o)] _ F K
 refine aj.rn (ao B (k+5)) [oI 2,ov (V.ref p),oI 3] (p:=Yr r/\idxV [.ref p,.int h,.ref q,.bool g] 0=some (V.ref p)/\Yr p/\au (G (k+8)) 31 [.ref p] [zD D es,zT q x.us,zL r [.ref p,.int h,.ref q,.bool g],zO p 3 i (cR t c),.stk c.pa c.xs,zO t 7 dt (aC c0 im cl T t0.a n io),zL pa ds,.raw r'] F (bF (G (k+8)) 107 [c65_3] [(174,.ref r),(175,.ref pa),(171,.ref D),(173,kO o)] K)) ?_
 refine⟨rfl,rfl,rfl,au.call [3,3,3] rfl nx λc hc=>?_⟩
 cases o with
 | none =>
  show aj (G (k+8)) [c65_3] [(174,.ref r),(175,.ref pa),(171,.ref D),(173,.none),(107,.none)] _ F K
  refine aj.rn (ao B (k+5)) [oB true,oI 6,on 0] (p:=Yt/\∀(q_1:Nat),Yr r/\(((0:Int)<=2/\2<(↑4:Int))/\Yr q_1/\True)/\au (G (k+8)) 63 [.none,.none,.ref D] [zT q_1 [.int (-1),.int 0,.bool false],zO p 3 i (cR t c),.stk c.pa c.xs,zO t 7 dt (aC c0 im cl T t0.a n io),zD D es,zT q x.us,zL r (List.set [.ref p,.int h,.ref q,.bool g] (Int.toNat 2) (.ref q_1)),zL pa ds,.raw r'] F (dY [(174,.ref r),(175,.ref pa),(171,.ref D),(173,.none),(107,.none)] K)) ?_
  exact⟨rfl,λq'=>⟨rfl,⟨by decide,rfl,trivial⟩,au.call [4] rfl sm λ_ _=>hK (q',c) _ _ _ hc rfl (Vw.keep [6,1,1,1,1,2,0,1] rfl)⟩⟩
 | some e =>
  show aj (G (k+8)) [c65_3] [(174,.ref r),(175,.ref pa),(171,.ref D),(173,.int e.k),(107,e.r)] _ F K
  refine aj.rn (ao B (k+5)) [oB false,oI 6,on 0] (p:=false=false/\∀(q_1:Nat),Yr r/\(((0:Int)<=2/\2<(↑4:Int))/\Yr q_1/\True)/\au (G (k+8)) 63 [E.r e,.int e.k,.ref D] [zT q_1 [.int 0,.int e.k,.bool true],zO p 3 i (cR t c),.stk c.pa c.xs,zO t 7 dt (aC c0 im cl T t0.a n io),zD D es,zT q x.us,zL r (List.set [.ref p,.int h,.ref q,.bool g] (Int.toNat 2) (.ref q_1)),zL pa ds,.raw r'] F (dY [(174,.ref r),(175,.ref pa),(171,.ref D),(173,.int e.k),(107,E.r e)] K)) ?_
  exact⟨rfl,λq'=>⟨rfl,⟨by decide,rfl,trivial⟩,au.call [4] rfl sm λ_ _=>hK (q',c) _ _ _ hc rfl (Vw.keep [6,1,1,1,1,2,0,1] rfl)⟩⟩
theorem Iu(hs:Sh T d0 lo0 t0)(hz:Fz F T d0 t0)(hT:T<=1000)(hd:d0<=1000)(sr:bw (flat t0)) :
  aL (G (k+7)) 66 [.ref w.r,.int kind,.int rest] (w.th++[.k true (.ob w.t 7 dt (aC c0 im cl T t0.a n io))]) F (λy:Nat × Pl × Cv=>cg d0 t0 y.2.1 y.2.2) (λ_=>.bool true)
   λy=>(w.mv y.1 y.2.1 y.2.2).th++[.k true (.ob w.t 7 dt (aC c0 im cl T t0.a n io))]:=by
 refine aL.of (B (k+6) 66 c66 rfl) λr' K hK=>?_
 obtain⟨r,q,p,i,h,g,x,t,c⟩:=w
 show aj (G (k+6)) [c66] [(174,.ref r),(176,.int kind),(99,.int rest)] [.k true (.ce r (.list [.ref p,.int h,.ref q,.bool g])),.k true (.ce q (.tup x.us)),.k true (.ob p 3 i (aH t c.cn c.j c.rc c.ic c.pa c.pk c.ky c.rd)),.stk c.pa c.xs,.k true (.ob t 7 dt (aC c0 im cl T t0.a n io)),.raw r'] F K
 cases h4:decide (kind=4) with
 | true =>
  refine aj.rn (ao B (k+3)) [oI 0,ov (V.ref p),oB true,oI 2] (p:=Yr r/\idxV [.ref p,.int h,.ref q,.bool g] 0=some (V.ref p)/\(0:Int)<84/\decide (kind=4)=true/\Yr p/\au (G (k+6)) 34 [.ref p,.int (rest % 84 - 1),.bool true] [zL r [.ref p,.int h,.ref q,.bool g],zT q x.us,zO p 3 i (cR t c),.stk c.pa c.xs,zO t 7 dt (aC c0 im cl T t0.a n io),.raw r'] F (bx (G (k+6)) [c66a_1,c66_3] [(174,.ref r),(176,.int kind),(99,.int rest),(84,.ref p),(42,.int (rest % 84 - 1))] K)) ?_
  refine⟨rfl,rfl,by decide,h4,rfl,au.call [2,2,2] rfl (FW B k hs hz hT hd sr) λc hc=>?_⟩
  refine aj.rn (ao B (k+3)) [oI 4,on 0] (p:=∀(q_1:Nat),Yr r/\(((0:Int)<=2/\2<(↑4:Int))/\Yr q_1/\True)/\K (.ret (.bool true)) [(174,.ref r),(176,.int kind),(99,.int rest),(84,.ref p),(42,.int (rest % 84 - 1))] [zT q_1 [.int 0,.int (rest % 84 - 1),.bool true],zO p 3 i (cR t c),.stk c.pa c.xs,zO t 7 dt (aC c0 im cl T t0.a n io),zL r (List.set [.ref p,.int h,.ref q,.bool g] (Int.toNat 2) (.ref q_1)),zT q x.us,.raw r'] F) ?_
  exact λq'=>⟨rfl,⟨by decide,rfl,trivial⟩,hK (q',_,c) _ _ _ hc rfl (Vw.keep [4,0,0,0,0,1] rfl)⟩
 | false =>
  cases h5:decide (kind=5) with
  | true =>
   refine aj.rn (ao B (k+3)) [oI 0,ov (V.ref p),oB false,oB true,oI 2] (p:=Yr r/\idxV [.ref p,.int h,.ref q,.bool g] 0=some (V.ref p)/\(0:Int)<84/\decide (kind=4)=false/\decide (kind=5)=true/\Yr p/\au (G (k+6)) 34 [.ref p,.int (rest % 84 - 1),.bool false] [zL r [.ref p,.int h,.ref q,.bool g],zT q x.us,zO p 3 i (cR t c),.stk c.pa c.xs,zO t 7 dt (aC c0 im cl T t0.a n io),.raw r'] F (bx (G (k+6)) [c66c_1,[],c66_3] [(174,.ref r),(176,.int kind),(99,.int rest),(84,.ref p),(42,.int (rest % 84 - 1))] K)) ?_
   refine⟨rfl,rfl,by decide,h4,h5,rfl,au.call [2,2,2] rfl (FW B k hs hz hT hd sr) λc hc=>?_⟩
   refine aj.rn (ao B (k+3)) [oI 4,on 0] (p:=∀(q_1:Nat),Yr r/\(((0:Int)<=2/\2<(↑4:Int))/\Yr q_1/\True)/\K (.ret (.bool true)) [(174,.ref r),(176,.int kind),(99,.int rest),(84,.ref p),(42,.int (rest % 84 - 1))] [zT q_1 [.int 0,.int (rest % 84 - 1),.bool false],zO p 3 i (cR t c),.stk c.pa c.xs,zO t 7 dt (aC c0 im cl T t0.a n io),zL r (List.set [.ref p,.int h,.ref q,.bool g] (Int.toNat 2) (.ref q_1)),zT q x.us,.raw r'] F) ?_
   exact λq'=>⟨rfl,⟨by decide,rfl,trivial⟩,hK (q',_,c) _ _ _ hc rfl (Vw.keep [4,0,0,0,0,1] rfl)⟩
  | false =>
   cases h6:decide (rest % 2=0) with
   | true =>
    refine aj.rn (ao B (k+3)) [oI 0,ov (V.ref p),oB false,oB false,oB true,oI 2] (p:=Yr r/\idxV [.ref p,.int h,.ref q,.bool g] 0=some (V.ref p)/\(0:Int)<84/\decide (kind=4)=false/\decide (kind=5)=false/\(0:Int)<2/\decide (rest % 2=0)=true/\Yr p/\au (G (k+6)) 35 [.ref p] [zL r [.ref p,.int h,.ref q,.bool g],zT q x.us,zO p 3 i (cR t c),.stk c.pa c.xs,zO t 7 dt (aC c0 im cl T t0.a n io),.raw r'] F (bx (G (k+6)) [c66e_1,[],[],c66_3] [(174,.ref r),(176,.int kind),(99,.int rest),(84,.ref p),(42,.int (rest % 84 - 1))] K)) ?_
    refine⟨rfl,rfl,by decide,h4,h5,by decide,h6,rfl,au.call [2,2] rfl (FZ B (k+2)) λc hc=>?_⟩
    refine aj.rn (ao B (k+3)) [oI 3,on 0] (p:=∀(q_1:Nat),Yr r/\(((0:Int)<=2/\2<(↑4:Int))/\Yr q_1/\True)/\K (.ret (.bool true)) [(174,.ref r),(176,.int kind),(99,.int rest),(84,.ref p),(42,.int (rest % 84 - 1))] [zT q_1 [.int (-1),.int 0,.bool false],zO p 3 i (cR t c),.stk c.pa c.xs,zL r (List.set [.ref p,.int h,.ref q,.bool g] (Int.toNat 2) (.ref q_1)),zT q x.us,zO t 7 dt (aC c0 im cl T t0.a n io),.raw r'] F) ?_
    exact λq'=>⟨rfl,⟨by decide,rfl,trivial⟩,hK (q',_,c) _ _ _ (.inl ⟨_,hc⟩) rfl (Vw.keep [3,0,0,0,1,1] rfl)⟩
   | false =>
    refine aj.rn (ao B (k+3)) [oI 0,ov (V.ref p),oB false,oB false,oB false,oI 2] (p:=Yr r/\idxV [.ref p,.int h,.ref q,.bool g] 0=some (V.ref p)/\(0:Int)<84/\decide (kind=4)=false/\decide (kind=5)=false/\(0:Int)<2/\decide (rest % 2=0)=false/\Yr p/\au (G (k+6)) 36 [.ref p] [zL r [.ref p,.int h,.ref q,.bool g],zT q x.us,zO p 3 i (cR t c),.stk c.pa c.xs,zO t 7 dt (aC c0 im cl T t0.a n io),.raw r'] F (bx (G (k+6)) [c66f_1,[],[],c66_3] [(174,.ref r),(176,.int kind),(99,.int rest),(84,.ref p),(42,.int (rest % 84 - 1))] K)) ?_
    refine⟨rfl,rfl,by decide,h4,h5,by decide,h6,rfl,au.call [2,2] rfl (Lg B (k+2)) λc hc=>?_⟩
    refine aj.rn (ao B (k+3)) [oI 3,on 0] (p:=∀(q_1:Nat),Yr r/\(((0:Int)<=2/\2<(↑4:Int))/\Yr q_1/\True)/\K (.ret (.bool true)) [(174,.ref r),(176,.int kind),(99,.int rest),(84,.ref p),(42,.int (rest % 84 - 1))] [zT q_1 [.int 1,.int 0,.bool false],zO p 3 i (cR t c),.stk c.pa c.xs,zL r (List.set [.ref p,.int h,.ref q,.bool g] (Int.toNat 2) (.ref q_1)),zT q x.us,zO t 7 dt (aC c0 im cl T t0.a n io),.raw r'] F) ?_
    exact λq'=>⟨rfl,⟨by decide,rfl,trivial⟩,hK (q',_,c) _ _ _ (.inl ⟨_,hc⟩) rfl (Vw.keep [3,0,0,0,1,1] rfl)⟩
end
def Ad(up:Bool)(d0:Nat)(t0:Tr)(p i t:Nat)(M:Loc)(R:List Th)(g:List E)(m:Loc)(A:List Th):Prop:=(∃y,m=M++y/\(y=[]\/∃v,y=[(42,v)]))/\∃x c,cg d0 t0 x c/\(bif up then je x (flat t0) else iQ x (flat t0))=g.head?/\(∃a,a++g=bif up then flat t0 else (flat t0).reverse)/\A=mH p i t c++R
theorem zB(l:List α):l.getLast?=l.reverse.head?:=by rw[List.head?_reverse]
section
variable{G:Nat->bI}(B:bD G)(k:Nat){F:CL}{T d0 lo0 dt c0 cl D p i t:Nat}{t0:Tr}{im io:Bool}{n:Int}{es:List (Int × V)}{x:Pl}{c:Cv}
include B
theorem Lj(hs:Sh T d0 lo0 t0)(hz:Fz F T d0 t0)(hT:T<=1000)(hd:d0<=1000)(sr:bw (flat t0))(hR:RD es (flat t0))(hl:(flat t0).length<64) :
  aL (G (k+9)) 70 [.ref p,.ref D] (mH p i t c++[.k true (.ob t 7 dt (aC c0 im cl T t0.a n io)),.k true (.ce D (.dict es))]) F (λ_=>True) (λ_=>.bool true) λc:Cv=>mH p i t c++[.k true (.ob t 7 dt (aC c0 im cl T t0.a n io)),.k true (.ce D (.dict es))]:=by
 refine aL.of (B (k+8) 70 c70 rfl) λr K hK=>?_
 have nx:=λx c (h:cg d0 t0 x c)=>FQ (p:=p) (i:=i) (t:=t) (dt:=dt) (c0:=c0) (cl:=cl) (im:=im) (io:=io) (n:=n) B k hs hz hT hd sr h
 have pv:=λx c (h:cg d0 t0 x c)=>FT (p:=p) (i:=i) (t:=t) (dt:=dt) (c0:=c0) (cl:=cl) (im:=im) (io:=io) (n:=n) B k hs hz hT hd sr h
 have sm:=λe (he:e∈flat t0)=>zA (F:=F) (d:=D) (o:=some e) B (k+4) hR λe' h=>by
  cases Ru h
  exact⟨Fz.kvs hs hz e he,jD sr he⟩
 show aj (G (k+8)) [c70] [(84,.ref p),(171,.ref D)] [.k true (.ob p 3 i (aH t c.cn c.j c.rc c.ic c.pa c.pk c.ky c.rd)),.stk c.pa c.xs,.k true (.ob t 7 dt (aC c0 im cl T t0.a n io)),.k true (.ce D (.dict es)),.raw r] F K
 refine aj.rn (ao B (k+5)) [oI 0] (p:=Yr p/\au (G (k+8)) 35 [.ref p] [zO p 3 i (cR t c),.stk c.pa c.xs,zO t 7 dt (aC c0 im cl T t0.a n io),zD D es,.raw r] F (bx (G (k+8)) [c70_1] [(84,.ref p),(171,.ref D)] K)) ?_
 refine⟨rfl,au.call [0,0] rfl (FZ B (k+4)) λc hc=>?_⟩
 refine aj.DG (n:=3) (up:=true) (ao B (k+5)) rfl rfl hR hl (Ad true d0 t0 p i t [(84,.ref p),(171,.ref D)] [.k true (.ob t 7 dt (aC c0 im cl T t0.a n io)),.k true (.ce D (.dict es)),.raw r]) ⟨⟨[],rfl,.inl rfl⟩,_,c,.inl ⟨_,hc⟩,sV _,⟨[],rfl⟩,rfl⟩ (λlc e g m A hJ=>?_) λlc m A hJ=>?_
 ·obtain⟨⟨y,rfl,hy⟩,x,c,hc,hx,⟨a,ha⟩,rfl⟩:=hJ
  have hp:put ([(84,V.ref p),(171,V.ref D)]++y) 42 (.int e.k)=[(84,.ref p),(171,.ref D),(42,.int e.k)]:=by
   rcases hy with rfl|⟨y,rfl⟩<;>rfl
  rw[hp]
  have ha:a++e::g=flat t0:=ha
  have nx:=nx x c hc
  rw[show je x (flat t0)=some e from hx] at nx
  refine aj.rn (ao B (k+5)) [oI 1] (p:=Yr p/\au (G (k+5+3)) 32 [.ref p] [lc,zO p 3 i (cR t c),.stk c.pa c.xs,zO t 7 dt (aC c0 im cl T t0.a n io),zD D es,.raw r] F λv A F_1=>qm (G (k+5+3)) cN [(84,.ref p),(171,.ref D),(42,.int e.k)] [.var 42,.var 171] (St.mk A F_1 []) λvs st=>eY (G (k+5+3)) cN 63 (v::vs) [] [] st (KK.mk (λv st=>gq v st λt_1 st=>ask (!t_1) st λt_2 st=>sel t_2 (xs (G (k+5+3)) cN 99 [[.ret CE.ff],[]] [(84,.ref p),(171,.ref D),(42,.int e.k)] st (cB (qR F lc (Ad true d0 t0 p i t [(84,.ref p),(171,.ref D)] [zO t 7 dt (aC c0 im cl T t0.a n io),zD D es,.raw r]) g) (Rest (G (k+5+3)) [c70_2] K) K)) (xs (G (k+5+3)) cN 99 [[],[]] [(84,.ref p),(171,.ref D),(42,.int e.k)] st (cB (qR F lc (Ad true d0 t0 p i t [(84,.ref p),(171,.ref D)] [zO t 7 dt (aC c0 im cl T t0.a n io),zD D es,.raw r]) g) (Rest (G (k+5+3)) [c70_2] K) K))) (some (jt (G (k+5+3)) [[],[]] [[.ret CE.ff],[]] [(84,.ref p),(171,.ref D),(42,.int e.k)] (cB (qR F lc (Ad true d0 t0 p i t [(84,.ref p),(171,.ref D)] [zO t 7 dt (aC c0 im cl T t0.a n io),zD D es,.raw r]) g) (Rest (G (k+5+3)) [c70_2] K) K))))) ?_
  refine⟨rfl,au.call [1,1,1] rfl nx λc hc=>?_⟩
  show au _ 63 [vO (some e),kO (some e),.ref D] _ F _
  refine au.call [4] rfl (sm e (ha▸QZ _ (.head _))) λ_ _=>?_
  refine aj.rn (ao B (k+5)) [] (p:=qR F lc (Ad true d0 t0 p i t [(84,.ref p),(171,.ref D)] [zO t 7 dt (aC c0 im cl T t0.a n io),zD D es,.raw r]) g [(84,.ref p),(171,.ref D),(42,.int e.k)] [zD D es,zO p 3 i (cR t c),.stk c.pa c.xs,zO t 7 dt (aC c0 im cl T t0.a n io),lc,.raw r] F) ?_
  exact⟨rfl,_,Vw.keep [4,1,1,1,0,0] rfl,⟨_,rfl,.inr ⟨_,rfl⟩⟩,_,c,hc,by rw[show flat t0=(a++[e])++g by rw[dJ,ha]];exact(Ld (ha▸sr)).je,⟨a++[e],by rw[dJ];exact ha⟩,rfl⟩
 ·obtain⟨⟨y,rfl,hy⟩,x,c,hc,hx,_,rfl⟩:=hJ
  have nx1:=nx x c hc
  rw[show je x (flat t0)=none from hx] at nx1
  have hm:look ([(84,V.ref p),(171,V.ref D)]++y) 84=some (.ref p):=rfl
  refine aj.run (ao B (k+5)) [oI 1,oB false,oI 0,oB false] ?_
  refine xc (p:=Yr p/\au (G (k+5+3)) 32 [.ref p] [lc,zO p 3 i (cR t c),.stk c.pa c.xs,zO t 7 dt (aC c0 im cl T t0.a n io),zD D es,.raw r] F λv A F=>xe (G (k+5+3)) cN ((84,V.ref p)::(171,V.ref D)::y) CE.none (St.mk A F [oB false,oB true,oB false]) (KK.mk (λy_1 st=>lN 7 v y_1 st λt st=>ask t st λt st=>sel t (ask true st λt st=>sel t (xs (G (k+5+3)) cN 99 [[.ret CE.ff],c70_3] ((84,V.ref p)::(171,V.ref D)::y) st K) (xs (G (k+5+3)) cN 99 [[],c70_3] ((84,V.ref p)::(171,V.ref D)::y) st K)) (xb (G (k+5+3)) cN ((84,V.ref p)::(171,V.ref D)::y) (.cmp 7 (.meth (.var 84) 70 []) CE.none) st λt st=>ask t st λt st=>sel t (xs (G (k+5+3)) cN 99 [[.ret CE.ff],c70_3] ((84,V.ref p)::(171,V.ref D)::y) st K) (xs (G (k+5+3)) cN 99 [[],c70_3] ((84,V.ref p)::(171,V.ref D)::y) st K))) none)) ?_
  refine⟨rfl,au.call [1,1,1] rfl nx1 λc hc=>?_⟩
  refine xc (p:=false=false/\Yr p/\au (G (k+5+3)) 32 [.ref p] [zO p 3 i (cR t c),.stk c.pa c.xs,zO t 7 dt (aC c0 im cl T t0.a n io),lc,zD D es,.raw r] F λv A F=>xe (G (k+5+3)) cN ((84,V.ref p)::(171,V.ref D)::y) CE.none (St.mk A F [oB false]) (KK.mk (λy_1 st=>lN 7 v y_1 st λt st=>ask t st λt st=>sel t (xs (G (k+5+3)) cN 99 [[.ret CE.ff],c70_3] ((84,V.ref p)::(171,V.ref D)::y) st K) (xs (G (k+5+3)) cN 99 [[],c70_3] ((84,V.ref p)::(171,V.ref D)::y) st K)) none)) ?_
  refine⟨rfl,rfl,au.call [0,0,0] rfl (nx _ c hc) λc hc=>?_⟩
  refine xc (p:=false=false/\aj (G (k+5+3)) [c70_3] ((84,V.ref p)::(171,V.ref D)::y) [zO p 3 i (cR t c),.stk c.pa c.xs,zO t 7 dt (aC c0 im cl T t0.a n io),lc,zD D es,.raw r] F K) ?_
  refine⟨rfl,aj.vw (Vw.keep [0,0,0,1,1] rfl) ?_⟩
  show aj (G (k+8)) [.eU (.var 42) (.bi 3 [.var 171]) c70d::c70_4] ((84,V.ref p)::(171,V.ref D)::y) (mH p i t c++[.k true (.ob t 7 dt (aC c0 im cl T t0.a n io)),.k true (.ce D (.dict es)),.raw r]) F K
  refine aj.DG (n:=3) (up:=false) (ao B (k+5)) rfl rfl hR hl (Ad false d0 t0 p i t [(84,.ref p),(171,.ref D)] [.k true (.ob t 7 dt (aC c0 im cl T t0.a n io)),.k true (.ce D (.dict es)),.raw r]) ⟨⟨y,rfl,hy⟩,_,c,hc,(sW _).trans (zB _),⟨[],rfl⟩,rfl⟩ (λlc e g m A hJ=>?_) λlc m A hJ=>?_
  ·obtain⟨⟨y,rfl,hy⟩,x,c,hc,hx,⟨a,ha⟩,rfl⟩:=hJ
   have hp:put ([(84,V.ref p),(171,V.ref D)]++y) 42 (.int e.k)=[(84,.ref p),(171,.ref D),(42,.int e.k)]:=by
    rcases hy with rfl|⟨y,rfl⟩<;>rfl
   rw[hp]
   have ha:a++e::g=(flat t0).reverse:=ha
   have hb:flat t0=g.reverse++e::a.reverse:=by rw[<-List.reverse_reverse (flat t0),<-ha];simp
   have pv:=pv x c hc
   rw[show iQ x (flat t0)=some e from hx] at pv
   refine aj.rn (ao B (k+5)) [oI 1] (p:=Yr p/\au (G (k+5+3)) 31 [.ref p] [lc,zO p 3 i (cR t c),.stk c.pa c.xs,zO t 7 dt (aC c0 im cl T t0.a n io),zD D es,.raw r] F λv A F_1=>qm (G (k+5+3)) cN [(84,.ref p),(171,.ref D),(42,.int e.k)] [.var 42,.var 171] (St.mk A F_1 []) λvs st=>eY (G (k+5+3)) cN 63 (v::vs) [] [] st (KK.mk (λv st=>gq v st λt_1 st=>ask (!t_1) st λt_2 st=>sel t_2 (xs (G (k+5+3)) cN 99 [[.ret CE.ff],[]] [(84,.ref p),(171,.ref D),(42,.int e.k)] st (cB (qR F lc (Ad false d0 t0 p i t [(84,.ref p),(171,.ref D)] [zO t 7 dt (aC c0 im cl T t0.a n io),zD D es,.raw r]) g) (Rest (G (k+5+3)) [c70_4] K) K)) (xs (G (k+5+3)) cN 99 [[],[]] [(84,.ref p),(171,.ref D),(42,.int e.k)] st (cB (qR F lc (Ad false d0 t0 p i t [(84,.ref p),(171,.ref D)] [zO t 7 dt (aC c0 im cl T t0.a n io),zD D es,.raw r]) g) (Rest (G (k+5+3)) [c70_4] K) K))) (some (jt (G (k+5+3)) [[],[]] [[.ret CE.ff],[]] [(84,.ref p),(171,.ref D),(42,.int e.k)] (cB (qR F lc (Ad false d0 t0 p i t [(84,.ref p),(171,.ref D)] [zO t 7 dt (aC c0 im cl T t0.a n io),zD D es,.raw r]) g) (Rest (G (k+5+3)) [c70_4] K) K))))) ?_
   refine⟨rfl,au.call [1,1,1] rfl pv λc hc=>?_⟩
   show au _ 63 [vO (some e),kO (some e),.ref D] _ F _
   refine au.call [4] rfl (sm e (hb▸QZ _ (.head _))) λ_ _=>?_
   refine aj.rn (ao B (k+5)) [] (p:=qR F lc (Ad false d0 t0 p i t [(84,.ref p),(171,.ref D)] [zO t 7 dt (aC c0 im cl T t0.a n io),zD D es,.raw r]) g [(84,.ref p),(171,.ref D),(42,.int e.k)] [zD D es,zO p 3 i (cR t c),.stk c.pa c.xs,zO t 7 dt (aC c0 im cl T t0.a n io),lc,.raw r] F) ?_
   exact⟨rfl,_,Vw.keep [4,1,1,1,0,0] rfl,⟨_,rfl,.inr ⟨_,rfl⟩⟩,_,c,hc,by
    show iQ ⟨0,e.k,true⟩ (flat t0)=_
    rw[hb,(Lf (hb▸sr)).iQ,zB,List.reverse_reverse],⟨a++[e],by rw[dJ];exact ha⟩,rfl⟩
  ·obtain⟨⟨y,rfl,hy⟩,x,c,hc,hx,_,rfl⟩:=hJ
   have pv1:=pv x c hc
   rw[show iQ x (flat t0)=none from hx] at pv1
   refine aj.run (ao B (k+5)) [oI 1,oB true,oI 0] ?_
   refine xc (p:=Yr p/\au (G (k+5+3)) 31 [.ref p] [lc,zO p 3 i (cR t c),.stk c.pa c.xs,zO t 7 dt (aC c0 im cl T t0.a n io),zD D es,.raw r] F λv A F=>xe (G (k+5+3)) cN ((84,V.ref p)::(171,V.ref D)::y) CE.none (St.mk A F [oB true,oB true]) (KK.mk (λy_1 st=>lN 6 v y_1 st λt st=>gq (.bool t) st λt_1 st=>ask t_1 st λt_2 st=>sel t_2 (xe (G (k+5+3)) cN ((84,V.ref p)::(171,V.ref D)::y) (.cmp 6 (.meth (.var 84) 69 []) CE.none) st (KK.mk (λv st=>K (.ret v) ((84,V.ref p)::(171,V.ref D)::y) (St.A st) (St.F st)) (some (dY ((84,V.ref p)::(171,V.ref D)::y) K)))) (K (.ret (.bool t)) ((84,V.ref p)::(171,V.ref D)::y) (St.A st) (St.F st))) none)) ?_
   refine⟨rfl,au.call [1,1,1] rfl pv1 λc hc=>?_⟩
   refine xc (p:=Yt/\Yr p/\au (G (k+5+3)) 31 [.ref p] [zO p 3 i (cR t c),.stk c.pa c.xs,zO t 7 dt (aC c0 im cl T t0.a n io),lc,zD D es,.raw r] F λv A F=>xe (G (k+5+3)) cN ((84,V.ref p)::(171,V.ref D)::y) CE.none (St.mk A F []) (KK.mk (λy_1 st=>lN 6 v y_1 st λt st=>K (.ret (.bool t)) ((84,V.ref p)::(171,V.ref D)::y) (St.A st) (St.F st)) none)) ?_
   refine⟨rfl,rfl,au.call [0,0,0] rfl (pv _ c hc) λc hc=>?_⟩
   refine xc (p:=K (.ret (.bool true)) ((84,V.ref p)::(171,V.ref D)::y) [zO p 3 i (cR t c),.stk c.pa c.xs,zO t 7 dt (aC c0 im cl T t0.a n io),lc,zD D es,.raw r] F) ?_
   exact hK c _ _ _ trivial rfl (Vw.keep [0,0,0,1,1] rfl)
end
theorem mJ(p:l.Perm l')(s:l'.Pairwise (·<·)):cG l=l':=lq p (s.imp λh=>Int.le_of_lt h)
theorem qU:∀{es:List (Int × V)},bK (dput es k v) k'=if k=k' then some v else bK es k'
 | []=>by
  unfold dput bK
  by_cases h:k=k'
  ·rw[if_pos h,Rz,RB h];rfl
  ·rw[if_neg h,Rz,Rr h]
 | p::r=>by
  have ih:=qU (k:=k) (k':=k') (v:=v) (es:=r)
  unfold bK at ih
  unfold dput bK
  by_cases h:p.1=k
  ·rw[if_pos h,Rz,Rz]
   by_cases h2:k=k'
   ·rw[if_pos h2,RB h2];rfl
   ·rw[if_neg h2,Rr h2,Rr (h▸h2:¬p.1=k')]
  ·rw[if_neg h,Rz,Rz]
   by_cases h2:p.1=k'
   ·rw[RB h2,if_neg λe=>h (h2.trans e.symm)]
   ·rw[Rr h2];exact ih
theorem zE:bK (fC es k) k'=if k=k' then none else bK es k':=by
 unfold bK fC
 rw[List.find?_filter]
 by_cases h:k=k'
 ·subst h
  rw[if_pos rfl,List.find?_eq_none.mpr λp _ e=>?_]
  ·rfl
  ·have e:=Rj e
   cases hd:decide (p.1=k) with
   | true=>rw[hd] at e;cases e.1
   | false=>rw[hd] at e;cases e.2
 ·rw[if_neg h]
  congr 2
  funext p
  by_cases h2:p.1=k'
  ·rw[RB h2,Rr (show ¬p.1=k from λq=>h (q.symm.trans h2))];rfl
  ·rw[Rr h2];exact Rr λe=>nomatch e.2
theorem mK:∀{es:List (Int × V)},(dput es k v).map (·.1)=if (bK es k).isSome then es.map (·.1) else es.map (·.1)++[k]
 | []=>rfl
 | p::r=>by
  have ih:=mK (k:=k) (v:=v) (es:=r)
  unfold bK at ih
  unfold dput bK
  rw[Rz]
  by_cases h:p.1=k
  ·rw[if_pos h,RB h];exact congrArg (·::_) h.symm
  ·rw[if_neg h,Rr h,RK,ih]
   cases (List.find? (λp=>decide (p.1=k)) r)<;>rfl
theorem zF:(fC es k).map (·.1)=(es.map (·.1)).filter λx=>!decide (x=k):=by
 unfold fC
 rw[List.filter_map];rfl
theorem Ga(h:bw fs):(fs.map (·.k)).Pairwise (·<·):=List.pairwise_map.mpr h
theorem zG(sr:bw fs)(k:Int):(∃A B,fs=A++B/\cO k A B)\/∃A e B,fs=A++e::B/\e.k=k/\cO k A B:=by
 cases hh:hit k fs with
 | true =>
  obtain⟨A,e,B,rfl,_,h,_⟩:=iB hh
  exact .inr ⟨A,e,B,rfl,h,h▸bN sr⟩
 | false =>
  obtain⟨A,B,rfl,_,h⟩:=dD sr hh
  exact .inl ⟨A,B,rfl,h⟩
theorem pC:bR k (A++e::B)=if e.k=k then (bR k A).or (some e) else bR k (A++B):=by
 unfold bR
 rw[List.find?_append,List.find?_append,Rz]
 by_cases h:e.k=k
 ·rw[if_pos h,RB h]
 ·rw[if_neg h,Rr h]
theorem uV(h:bw (A++B))(w:cO e.k A B):bw (A++e::B):=by
 have g:=Ra.mp h
 refine Ra.mpr ⟨g.1,List.pairwise_cons.mpr ⟨w.hi,g.2.1⟩,λx hx y hy=>?_⟩
 rcases RJ.mp hy with rfl|hy
 ·exact w.lo x hx
 ·exact g.2.2 x hx y hy
structure NZ(es:List (Int × V))(fs:List E)(e:E)(es':List (Int × V))(fs':List E):Prop where
 r:RD es' fs'
 s:bw fs'
 l:(fs'.length:Int)=bif (bR e.k fs).isSome then (fs.length:Int) else (fs.length:Int)+1
 f:bR e.k fs'=some e
theorem RD.set(h:RD es fs)(sr:bw fs)(e:E):NZ es fs e (dput es e.k (.int e.v)) (iM e fs):=by
 have hg:=h.g e.k
 have hp:=(fY (es.map (·.1))).symm
 rw[h.s] at hp
 have G:∀{A B:List E},cO e.k A B->(∀k',e.k≠k'->bR k' fs=bR k' (A++B))->∀k',bK (dput es e.k (.int e.v)) k'=(bR k' (A++e::B)).map λe=>V.int e.v:=λw q k'=>by
  rw[qU]
  by_cases hk:e.k=k'
  ·subst hk;rw[if_pos rfl,w.jU rfl];rfl
  ·rw[if_neg hk,h.g,q k' hk,pC,if_neg hk]
 rcases zG sr e.k with ⟨A,B,rfl,w⟩|⟨A,e0,B,rfl,hk,w⟩
 ·rw[w.qD] at hg
  rw[w.Ku]
  have hs:=uV sr w
  refine⟨⟨mJ ?_ (Ga hs),G w λ_ _=>rfl⟩,hs,?_,w.jU rfl⟩
  ·rw[mK,hg,Rv]
   refine(hp.append_right [e.k]).trans ?_
   rw[Rv,Rg]
   exact List.Perm.append_left _ (List.perm_append_comm (l₂:=[e.k]))
  ·rw[w.qD,Rd,Rd,Rn];show((_:Nat):Int)=((_:Nat):Int)+1;lia
 ·rw[w.jU hk] at hg
  rw[w.Kv hk]
  have hs:=uV (sr.sublist ((List.sublist_cons_self _ _).append_left _)) w
  have ek:(A++e::B).map (·.k)=(A++e0::B).map (·.k):=by rw[Rv,Rv,RK,RK,hk]
  refine⟨⟨?_,G w λk' hk'=>by rw[pC,if_neg (hk▸hk')]⟩,hs,?_,w.jU rfl⟩
  ·rw[mK,hg,ek];exact h.s
  ·rw[w.jU hk,Rd,Rd];rfl
structure N5(es:List (Int × V))(fs:List E)(k:Int)(es':List (Int × V))(fs':List E):Prop where
 r:RD es' fs'
 s:bw fs'
 l:(fs'.length:Int)=(fs.length:Int) - 1
theorem RD.del(h:RD es fs)(sr:bw fs)(he:bR k fs=some e):N5 es fs k (fC es k) (jT k fs):=by
 rcases zG sr k with ⟨A,B,rfl,w⟩|⟨A,e0,B,rfl,hk,w⟩
 ·rw[w.qD] at he;cases he
 ·rw[w.CZ hk]
  have hs:bw (A++B):=sr.sublist ((List.sublist_cons_self _ _).append_left _)
  have hp:=(fY (es.map (·.1))).symm
  rw[h.s] at hp
  refine⟨⟨mJ ?_ (Ga hs),λk'=>?_⟩,hs,?_⟩
  ·rw[zF]
   refine(hp.filter _).trans (List.Perm.of_eq ?_)
   have e1:∀{l:List E},(∀x∈l,x.k≠k)->(l.map (·.k)).filter (λx=>!decide (x=k))=l.map (·.k):=λq=>List.filter_eq_self.mpr λx hx=>by
    obtain⟨y,hy,rfl⟩:=List.mem_map.mp hx
    rw[Rr (q y hy)];rfl
   rw[Rv,List.filter_append,RK,List.filter_cons,hk,RB rfl,Rv,e1 λx hx=>by have:=w.lo x hx;lia,e1 λx hx=>by have:=w.hi x hx;lia]
   rfl
  ·rw[zE]
   by_cases hk':k=k'
   ·subst hk';rw[if_pos rfl,w.qD];rfl
   ·rw[if_neg hk',h.g,pC,if_neg (hk▸hk')]
  ·rw[Rd,Rd,Rn];lia
theorem au.of(hB:HW Γ' Γ f b)(h:aj Γ' [b] (iU (cU f) us) A F λfl _ A F=>K fl.val A F):au Γ f us A F K:=λH Q X S q=>by
 refine hB us H Q X ?_
 have e:b=[b].flatten:=(Rx b).symm
 rw[e]
 exact h H _ _ S λfl m A F H' k S'=>q _ _ _ _ k S'
theorem aj.Iv(w:dF F A p A')(h:∀x,p x->aj Γ rs m (A' x) F K):aj Γ rs m A F K:=λH Q X S q=>by
 obtain⟨x,hx,S⟩:=w H S
 exact h x hx H Q X S q
theorem dF.vw(v:Vw F A B)(w:dF F B p A'):dF F A p A':=λH S=>w H (v H S)
theorem dF.imp(w:dF F A p A')(h:∀x,p x->p' x):dF F A p' A':=λH S=>by
 obtain⟨x,hx,S⟩:=w H S
 exact⟨x,h x hx,S⟩
def Pg(F:CL)(gs:List (List Th))(l:CL):Prop:=∃ls,Al F gs.flatten ls/\l.Perm ls.flatten
theorem Pg.mono(h:∀p∈F,p∈F')(k:Pg F gs l):Pg F' gs l:=by
 obtain⟨ls,h1,h2⟩:=k
 exact⟨ls,iD h h1,h2⟩
theorem mO(gl:List (List Th))(g:List Th)(gr:List (List Th))(h:Pg F (gl++g::gr) l):jw F [.raw l] (Pg F (gl++gr)) λl=>g++[.raw l]:=Fo λx hx=>by
 have hx:x=l:=hx
 obtain⟨ls,h1,h2⟩:=h
 rw[Rb,Ri] at h1
 obtain⟨l1,l2,rfl,q1,q2⟩:=h1.split
 obtain⟨l3,l4,rfl,q3,q4⟩:=q2.split
 refine⟨(l1++l4).flatten,⟨l1++l4,by rw[Rb];exact q1.app q4,RG _⟩,l3++[(l1++l4).flatten],q3.app (B:=[.raw _]) (ls':=[_]) ⟨rfl,trivial⟩,?_⟩
 rw[hx,Rb,aG,Rb]
 refine h2.trans ?_
 rw[Rb,Rb]
 exact QG _ _ _
theorem fW(g:List Th)(h:Pg F (gl++gr) l):jw F (g++[.raw l]) (Pg F (gl++g::gr)) λl=>[.raw l]:=λls hl=>by
 obtain⟨l1,l2,rfl,q1,q2⟩:=hl.split
 obtain⟨l3,h1,h2⟩:=h
 rw[Rb] at h1
 obtain⟨l4,l5,rfl,q3,q4⟩:=h1.split
 refine uo (P:=λl2=>∃b,Pg F (gl++g::gr) b/\∃ls',Al F [.raw b] ls'/\(l1++l2).flatten.Perm ls'.flatten) q2 λx hx=>?_
 have hx:x=l:=hx
 refine⟨(l4++(l1++l5)).flatten,⟨_,by rw[Rb,Ri];exact q3.app (q1.app q4),RG _⟩,[_],⟨rfl,trivial⟩,?_⟩
 rw[aG,Rb,aG,hx,Rb,Rb]
 rw[Rb] at h2
 exact(h2.append_left _).trans (QG _ _ _)
structure Hm where
 a:Nat
 i:Nat
 cl:Nat
 c:Nat
 T:Nat
 im:Bool
 io:Bool
 t:Tr
 d:Nat
 p:Nat
 D:Nat
 es:List (Int × V)
noncomputable def Hm.X(h:Hm):Th:=match h.im with
 | true=>.mt
 | false=>.tr h.T h.c h.t
def Hm.ob(h:Hm):Th:=.k true (.ob h.a 7 h.i (aC h.c h.im h.cl h.T h.t.a (flat h.t).length h.io))
def Hm.th(h:Hm):List Th:=[h.ob,.k true (.ce h.cl (.list [.ref h.p])),.k true (.ce h.D (.dict h.es)),h.X]
structure jf(F:CL)(n:Nat)(h:Hm):Prop where
 sh:Sh h.T h.d (rl h.d) h.t
 sr:bw (flat h.t)
 R:RD h.es (flat h.t)
 T:3<=h.T/\h.T<=1000
 d:h.d<=n
 l:(flat h.t).length<=n
 c:cI F h.c
 z:h.im=true->Fz F h.T h.d h.t
theorem oZ.mono(h:∀p∈F,p∈F')(k:oZ F T a es ks):oZ F' T a es ks:=by
 obtain⟨x,h1,h2⟩:=k
 exact⟨x,λp hp=>h p (h1 p hp),λe he=>(h2 e he).mono h⟩
theorem Fz.mono(h:∀p∈F,p∈F'):∀{d:Nat} {t:Tr},Fz F T d t->Fz F' T d t
 | 0,.nd _ _ _ _,k=>oZ.mono h k
 | _+1,.nd _ _ _ _,k=>⟨oZ.mono h k.1,λt ht=>Fz.mono h (k.2 t ht)⟩
theorem jf.mono(h:∀p∈F,p∈F')(hn:n<=n')(k:jf F n x):jf F' n' x:=⟨k.sh,k.sr,k.R,k.T,RM k.d hn,RM k.l hn,k.c.mono h,λe=>(k.z e).mono h⟩
theorem jf.X(k:jf F n h):h.X=.tr h.T h.c h.t\/h.X=.mt/\Fz F h.T h.d h.t:=by
 have z:=k.z
 unfold Hm.X
 revert z
 cases h.im with
 | true=>exact λz=>.inr ⟨rfl,z rfl⟩
 | false=>exact λ_=>.inl rfl
def Iw(hs:List Hm)(w:Rw):Prop:=∃h,hs[w.h]?=some h/\w.t=h.a/\cg h.d h.t w.x w.c
structure Rk where
 h:Nat
 g:Bool
 p:Nat
noncomputable def Rw.k(w:Rw):Rk:=⟨w.h,w.g,w.p⟩
structure Top(hs:List Hm)(ks:List Rk)(hl:List Hm)(h:Hm)(kl kr:List Rk):Prop where
 e:hs=hl++[h]
 l:hl.length<=1
 im:h.im=false
 k:ks=kl++⟨hl.length,true,h.p⟩::kr
 o:∀v∈kl++kr,v.h=hl.length->v.g=false
structure vX(F:CL)(n:Nat)(hs:List Hm)(rs:List Rw):Prop where
 h:∀h∈hs,jf F n h
 r:∀w∈rs,Iw hs w
 top:∃hl h kl kr,Top hs (rs.map Rw.k) hl h kl kr
 l:rs.length<=2 * hs.length
 z:∃g p kr,rs.map Rw.k=⟨0,g,p⟩::kr
structure Wc where
 hs:List Hm
 rs:List Rw
 lh:CL
 lr:CL
structure gW(F:CL)(n:Nat)(W:Wc):Prop where
 p:vX F n W.hs W.rs
 ph:Pg F (W.hs.map Hm.th) W.lh
 pr:Pg F (W.rs.map Rw.th) W.lr
noncomputable def rA(h:Hm):V:=.ref h.a
noncomputable def rD(h:Hm):V:=.ref h.D
noncomputable def rR(w:Rw):V:=.ref w.r
def wT(ta pa ra:Nat)(r:CL)(W:Wc):List Th:=[.k true (.ce ta (.list (W.hs.map rA))),.k true (.ce pa (.list (W.hs.map rD))),.k true (.ce ra (.list (W.rs.map rR))),.raw W.lh,.raw W.lr,.raw r]
structure qW(F:CL)(n:Nat)(hs:List Hm)(w:Rw)(h:Hm)(hl hr:List Hm):Prop where
 e:hs=hl++h::hr
 l:hl.length=w.h
 ok:jf F n h
 t:w.t=h.a
 c:cg h.d h.t w.x w.c
theorem sX{n:Nat}{hs:List Hm}{rl rr:List Rw}(W:vX F n hs (rl++w::rr)):∃h hl hr,qW F n hs w h hl hr:=by
 obtain⟨h,e,h1,h2⟩:=W.r w (by simp)
 obtain⟨hlt,rfl⟩:=QJ.mp e
 exact⟨_,_,_,by rw[<-QH,Q0],by rw[Rp];lia,W.h _ (List.getElem_mem _),h1,h2⟩
theorem mem_mid(h:v∈l++x::r):v=x\/v∈l++y::r:=by
 rcases Ry.mp h with h|h
 ·exact .inr (Q9 _ h)
 ·rcases RJ.mp h with h|h
  ·exact .inl h
  ·exact .inr (QZ _ (.tail _ h))
theorem qW.at(I:qW F n hs w h hl hr):hs[w.h]?=some h:=by rw[I.e];exact cC I.l
theorem Iz{n:Nat}{hs:List Hm}{rl rr:List Rw}{w:Rw}{h:Hm}{hl hr:List Hm}(W:vX F n hs (rl++w::rr))(I:qW F n hs w h hl hr){q:Nat}(hc:cg h.d h.t x c):vX F n hs (rl++w.mv q x c::rr):=by
 have ek:(rl++w.mv q x c::rr).map Rw.k=(rl++w::rr).map Rw.k:=by rw[Rv,Rv];rfl
 refine⟨W.h,λv hv=>?_,ek▸W.top,?_,ek▸W.z⟩
 ·rcases mem_mid (y:=w) hv with rfl|hv
  ·exact⟨h,I.at,I.t,hc⟩
  ·exact W.r v hv
 ·have:=W.l
  rw[Rd,Rn] at this |-
  exact this
section
variable{G:Nat->bI}(B:bD G)(k:Nat){F:CL}{n pa:Nat}{ds:List V}{w:Rw}{h:Hm}
include B
theorem IK(W:jf F n h)(hn:n<64)(ht:w.t=h.a)(hc:cg h.d h.t w.x w.c)(hD:idxV ds w.h=some (.ref h.D)) :
  aL (G (k+9)) 64 [.ref w.r,.ref pa] (w.th++[h.ob,.k true (.ce pa (.list ds)),.k true (.ce h.D (.dict h.es))]++[h.X]) F (λy:Nat × Cv=>cg h.d h.t (pA true (je w.x (flat h.t))) y.2) (λ_=>.bool true)
   λy=>(w.mv y.1 (pA true (je w.x (flat h.t))) y.2).th++[h.ob,.k true (.ce pa (.list ds)),.k true (.ce h.D (.dict h.es))]++[h.X]:=by
 unfold Hm.ob
 rw[<-ht]
 exact aL.ro rfl (λ_=>rfl) W.X λF' hz=>Ip B k W.sh hz W.T.2 (RM W.d (by lia)) W.sr W.R (Nat.lt_of_le_of_lt W.l hn) hc hD
theorem IV(W:jf F n h)(hn:n<64)(ht:w.t=h.a)(hc:cg h.d h.t w.x w.c)(hD:idxV ds w.h=some (.ref h.D)) :
  aL (G (k+9)) 65 [.ref w.r,.ref pa] (w.th++[h.ob,.k true (.ce pa (.list ds)),.k true (.ce h.D (.dict h.es))]++[h.X]) F (λy:Nat × Cv=>cg h.d h.t (pA false (iQ w.x (flat h.t))) y.2) (λ_=>.bool true)
   λy=>(w.mv y.1 (pA false (iQ w.x (flat h.t))) y.2).th++[h.ob,.k true (.ce pa (.list ds)),.k true (.ce h.D (.dict h.es))]++[h.X]:=by
 unfold Hm.ob
 rw[<-ht]
 exact aL.ro rfl (λ_=>rfl) W.X λF' hz=>Ir B k W.sh hz W.T.2 (RM W.d (by lia)) W.sr W.R (Nat.lt_of_le_of_lt W.l hn) hc hD
theorem N6(W:jf F n h)(hn:n<64)(ht:w.t=h.a) :
  aL (G (k+7)) 66 [.ref w.r,.int kind,.int rest] (w.th++[h.ob]++[h.X]) F (λy:Nat × Pl × Cv=>cg h.d h.t y.2.1 y.2.2) (λ_=>.bool true) λy=>(w.mv y.1 y.2.1 y.2.2).th++[h.ob]++[h.X]:=by
 unfold Hm.ob
 rw[<-ht]
 exact aL.ro rfl (λ_=>rfl) W.X λF' hz=>Iu B k W.sh hz W.T.2 (RM W.d (by lia)) W.sr
theorem N7(W:jf F n h)(hn:n<64)(ht:t=h.a) :
  aL (G (k+9)) 70 [.ref p,.ref h.D] (mH p i t c++[h.ob,.k true (.ce h.D (.dict h.es))]++[h.X]) F (λ_=>True) (λ_=>.bool true) λc:Cv=>mH p i t c++[h.ob,.k true (.ce h.D (.dict h.es))]++[h.X]:=by
 unfold Hm.ob
 rw[<-ht]
 exact aL.ro rfl (λ_=>rfl) W.X λF' hz=>Lj B k W.sh hz W.T.2 (RM W.d (by lia)) W.sr W.R (Nat.lt_of_le_of_lt W.l hn)
end
def oT(ta pa ra:Nat)(r:CL)(hs:List Hm)(xs:List V)(h:Hm)(lh lr:CL)(w:Rw):List Th:=w.th++[h.ob,.k true (.ce pa (.list (hs.map rD))),.k true (.ce h.D (.dict h.es))]++[h.X]++[.k true (.ce h.cl (.list [.ref h.p])),.k true (.ce ta (.list (hs.map rA))),.k true (.ce ra (.list xs)),.raw lh,.raw lr,.raw r]
section
variable{F:CL}{n n' ta pa ra:Nat}{r lh lr:CL}{hs hl hr:List Hm}{h:Hm}{rl rr:List Rw}{w:Rw}
theorem vX.mono(W:vX F n hs rl)(hn:n<=n'):vX F n' hs rl:=⟨λh hh=>(W.h h hh).mono (λ_ q=>q) hn,W.r,W.top,W.l,W.z⟩
theorem mQ(W:gW F n ⟨hs,rl++w::rr,lh,lr⟩)(I:qW F n hs w h hl hr)(k:∀lh lr,Pg F (hl.map Hm.th++hr.map Hm.th) lh->Pg F (rl.map Rw.th++rr.map Rw.th) lr->aj Γ st m (oT ta pa ra r hs ((rl++w::rr).map rR) h lh lr w) F K) :
  aj Γ st m (wT ta pa ra r ⟨hs,rl++w::rr,lh,lr⟩) F K:=by
 have p1:Pg F (hs.map Hm.th) lh:=W.ph
 have p2:Pg F ((rl++w::rr).map Rw.th) lr:=W.pr
 rw[I.e,Rv,RK] at p1
 rw[Rv,RK] at p2
 exact aj.bT [4] rfl (mO _ w.th _ p2) λlr' q2=>aj.bT [8] rfl (mO _ h.th _ p1) λlh' q1=>aj.vw (Vw.keep [5,5,5,5,0,6,1,1,0,2,2,0,0,0] rfl) (k lh' lr' q1 q2)
theorem row_close(W:vX F n hs (rl++w::rr))(I:qW F n hs w h hl hr)(h1:Pg F (hl.map Hm.th++hr.map Hm.th) lh)(h2:Pg F (rl.map Rw.th++rr.map Rw.th) lr)(hn:n<=n')(hc:cg h.d h.t x c) :
  dF F (oT ta pa ra r hs ((rl++w::rr).map rR) h lh lr (w.mv q x c)) (λW:Wc=>gW F n' W/\W.rs.map rR=(rl++w::rr).map rR) (wT ta pa ra r):=by
 refine dF.bT [0,0,0,0,8] rfl (fW (w.mv q x c).th h2) λlr' q2=>dF.bT [1,4,2,2,4] rfl (fW h.th h1) λlh' q1=>?_
 have e1:(rl++w::rr).map rR=(rl++w.mv q x c::rr).map rR:=by rw[Rv,Rv];rfl
 rw[e1]
 refine dF.fin ⟨hs,rl++w.mv q x c::rr,lh',lr'⟩ ⟨⟨(Iz W I hc).mono hn,?_,?_⟩,rfl⟩ (Vw.keep [3,2,2,0,0,0] rfl)
 ·show Pg F (hs.map Hm.th) lh'
  rw[I.e,Rv,RK];exact q1
 ·show Pg F ((rl++w.mv q x c::rr).map Rw.th) lr'
  rw[Rv,RK];exact q2
end
section
variable{G:Nat->bI}(B:bD G)(k:Nat){F:CL}{n n' ta pa ra:Nat}{r lh lr:CL}{hs hl hr:List Hm}{h:Hm}{rl rr:List Rw}{w:Rw}{K:KS}{number value kind arg rest:Int}
include B
theorem Ln(hn:n<64)(I:qW F n hs w h hl hr){xs:List V}
  (hK:∀q x c m A1,cg h.d h.t x c->A1=oT ta pa ra r hs xs h lh lr (w.mv q x c)->K (.ret (.bool true)) m A1 F) :
  aj (G (k+9)) (c69a::st) [(179,.ref ta),(175,.ref pa),(180,.ref ra),(183,.int number),(87,.int value),(176,.int kind),(184,.int arg),(99,.int rest),(174,.ref w.r)] (oT ta pa ra r hs xs h lh lr w) F K:=by
 have hD:idxV (hs.map rD) w.h=some (.ref h.D):=bU (by rw[Rm,I.at];rfl)
 have nx:=λq x c hc=>IK (pa:=pa) (w:=w.mv q x c) B k I.ok hn I.t hc hD
 refine aj.ji (ao B (k+6)) [] (And.intro (a:=(0:Int)<4) (by decide) ⟨0,1+rest % 4,.inl ⟨rfl,rfl⟩,⟨⟨by decide,by decide⟩,by lia,by lia⟩,λ_ m A F'=>F'=F/\(∃y,m=[(179,.ref ta),(175,.ref pa),(180,.ref ra),(183,.int number),(87,.int value),(176,.int kind),(184,.int arg),(99,.int rest),(174,.ref w.r)]++y/\(y=[]\/∃v,y=[(120,v)]))/\∃q x c,cg h.d h.t x c/\A=oT ta pa ra r hs xs h lh lr (w.mv q x c),⟨rfl,⟨[],rfl,.inl rfl⟩,w.q,w.x,w.c,I.c,rfl⟩,λi m A F' hI _=>?_⟩)
 obtain⟨rfl,⟨y,rfl,hy⟩,q,x,c,hc,rfl⟩:=hI
 split
 ·have hp:put ([(179,V.ref ta),(175,V.ref pa),(180,V.ref ra),(183,V.int number),(87,V.int value),(176,V.int kind),(184,V.int arg),(99,V.int rest),(174,V.ref w.r)]++y) 120 (.int i)=[(179,.ref ta),(175,.ref pa),(180,.ref ra),(183,.int number),(87,.int value),(176,.int kind),(184,.int arg),(99,.int rest),(174,.ref w.r),(120,.int i)]:=by
   rcases hy with rfl|⟨v,rfl⟩<;>rfl
  rw[hp]
  refine aj.rn (ao B (k+6)) [] (p:=au (G (k+6+3)) 64 [.ref w.r,.ref pa] [zL w.r [.ref w.p,.int w.h,.ref q,.bool w.g],zT q x.us,zO w.p 3 w.i (cR w.t c),.stk c.pa c.xs,zO h.a 7 h.i (aC h.c h.im h.cl h.T h.t.a (↑(List.length (flat h.t)):Int) h.io),zL pa (hs.map rD),zD h.D h.es,Hm.X h,zL h.cl [.ref h.p],zL ta (hs.map rA),zL ra xs,.raw lh,.raw lr,.raw r] F' (jt (G (k+6+3)) [[],[]] [[.ret CE.ff],[]] [(179,.ref ta),(175,.ref pa),(180,.ref ra),(183,.int number),(87,.int value),(176,.int kind),(184,.int arg),(99,.int rest),(174,.ref w.r),(120,.int i)] (cB (λm A F'_1=>F'_1=F'/\(∃(y:List (Nat × V)),m=[(179,V.ref ta),(175,V.ref pa),(180,V.ref ra),(183,V.int number),(87,V.int value),(176,V.int kind),(184,V.int arg),(99,V.int rest),(174,V.ref w.r)]++y/\(y=[]\/∃(v:V),y=[(120,v)]))/\∃(q:Nat),∃(x:Pl),∃(c:Cv),cg h.d h.t x c/\A=oT ta pa ra r hs xs h lh lr (Rw.mv w q x c)) (Rest (G (k+6+3)) (c69a_1::st) K) K))) ?_
  refine au.call [0,0,0,0,0,0,0,0] rfl (nx q x c hc) λy hy=>?_
  refine aj.rn (ao B (k+6)) [] (p:=F'=F'/\(∃(y:List (Nat × V)),[(179,V.ref ta),(175,V.ref pa),(180,V.ref ra),(183,V.int number),(87,V.int value),(176,V.int kind),(184,V.int arg),(99,V.int rest),(174,V.ref w.r),(120,V.int i)]=(179,V.ref ta)::(175,V.ref pa)::(180,V.ref ra)::(183,V.int number)::(87,V.int value)::(176,V.int kind)::(184,V.int arg)::(99,V.int rest)::(174,V.ref w.r)::y/\(y=[]\/∃(v:V),y=[(120,v)]))/\∃(q:Nat),∃(x_1:Pl),∃(c:Cv),cg h.d h.t x_1 c/\[zL w.r [.ref w.p,.int w.h,.ref y.1,.bool w.g],zT y.1 (Pl.us (pA true (je x (flat h.t)))),zO w.p 3 w.i (cR w.t y.2),Th.stk y.2.pa y.2.xs,zO h.a 7 h.i (aC h.c h.im h.cl h.T h.t.a (↑(List.length (flat h.t)):Int) h.io),zL pa (hs.map rD),zD h.D h.es,Hm.X h,zL h.cl [.ref h.p],zL ta (hs.map rA),zL ra xs,Th.raw lh,Th.raw lr,Th.raw r]=[zL w.r [.ref w.p,.int w.h,.ref q,.bool w.g],zT q x_1.us,zO w.p 3 w.i (cR w.t c),Th.stk c.pa c.xs,zO h.a 7 h.i (aC h.c h.im h.cl h.T h.t.a (↑(List.length (flat h.t)):Int) h.io),zL pa (hs.map rD),zD h.D h.es,Hm.X h,zL h.cl [.ref h.p],zL ta (hs.map rA),zL ra xs,Th.raw lh,Th.raw lr,Th.raw r]) ?_
  exact⟨rfl,⟨_,rfl,.inr ⟨_,rfl⟩⟩,y.1,_,y.2,hy,rfl⟩
 ·refine aj.rn (ao B (k+6)) [] (p:=K (.ret (.bool true)) ((179,V.ref ta)::(175,V.ref pa)::(180,V.ref ra)::(183,V.int number)::(87,V.int value)::(176,V.int kind)::(184,V.int arg)::(99,V.int rest)::(174,V.ref w.r)::y) [zL w.r [.ref w.p,.int w.h,.ref q,.bool w.g],zT q x.us,zO w.p 3 w.i (cR w.t c),.stk c.pa c.xs,zO h.a 7 h.i (aC h.c h.im h.cl h.T h.t.a (↑(List.length (flat h.t)):Int) h.io),zL pa (hs.map rD),zD h.D h.es,Hm.X h,zL h.cl [.ref h.p],zL ta (hs.map rA),zL ra xs,.raw lh,.raw lr,.raw r] F') ?_
  exact hK q x c _ _ hc rfl
theorem Lp(hn:n<64)(I:qW F n hs w h hl hr){xs:List V}
  (hK:∀q x c m A1,cg h.d h.t x c->A1=oT ta pa ra r hs xs h lh lr (w.mv q x c)->K (.ret (.bool true)) m A1 F) :
  aj (G (k+9)) (c69d::st) [(179,.ref ta),(175,.ref pa),(180,.ref ra),(183,.int number),(87,.int value),(176,.int kind),(184,.int arg),(99,.int rest),(174,.ref w.r)] (oT ta pa ra r hs xs h lh lr w) F K:=by
 have hD:idxV (hs.map rD) w.h=some (.ref h.D):=bU (by rw[Rm,I.at];rfl)
 have nx:=λq x c hc=>IV (pa:=pa) (w:=w.mv q x c) B k I.ok hn I.t hc hD
 refine aj.ji (ao B (k+6)) [] (And.intro (a:=(0:Int)<4) (by decide) ⟨0,1+rest % 4,.inl ⟨rfl,rfl⟩,⟨⟨by decide,by decide⟩,by lia,by lia⟩,λ_ m A F'=>F'=F/\(∃y,m=[(179,.ref ta),(175,.ref pa),(180,.ref ra),(183,.int number),(87,.int value),(176,.int kind),(184,.int arg),(99,.int rest),(174,.ref w.r)]++y/\(y=[]\/∃v,y=[(120,v)]))/\∃q x c,cg h.d h.t x c/\A=oT ta pa ra r hs xs h lh lr (w.mv q x c),⟨rfl,⟨[],rfl,.inl rfl⟩,w.q,w.x,w.c,I.c,rfl⟩,λi m A F' hI _=>?_⟩)
 obtain⟨rfl,⟨y,rfl,hy⟩,q,x,c,hc,rfl⟩:=hI
 split
 ·have hp:put ([(179,V.ref ta),(175,V.ref pa),(180,V.ref ra),(183,V.int number),(87,V.int value),(176,V.int kind),(184,V.int arg),(99,V.int rest),(174,V.ref w.r)]++y) 120 (.int i)=[(179,.ref ta),(175,.ref pa),(180,.ref ra),(183,.int number),(87,.int value),(176,.int kind),(184,.int arg),(99,.int rest),(174,.ref w.r),(120,.int i)]:=by
   rcases hy with rfl|⟨v,rfl⟩<;>rfl
  rw[hp]
  refine aj.rn (ao B (k+6)) [] (p:=au (G (k+6+3)) 65 [.ref w.r,.ref pa] [zL w.r [.ref w.p,.int w.h,.ref q,.bool w.g],zT q x.us,zO w.p 3 w.i (cR w.t c),.stk c.pa c.xs,zO h.a 7 h.i (aC h.c h.im h.cl h.T h.t.a (↑(List.length (flat h.t)):Int) h.io),zL pa (hs.map rD),zD h.D h.es,Hm.X h,zL h.cl [.ref h.p],zL ta (hs.map rA),zL ra xs,.raw lh,.raw lr,.raw r] F' (jt (G (k+6+3)) [[],[]] [[.ret CE.ff],[]] [(179,.ref ta),(175,.ref pa),(180,.ref ra),(183,.int number),(87,.int value),(176,.int kind),(184,.int arg),(99,.int rest),(174,.ref w.r),(120,.int i)] (cB (λm A F'_1=>F'_1=F'/\(∃(y:List (Nat × V)),m=[(179,V.ref ta),(175,V.ref pa),(180,V.ref ra),(183,V.int number),(87,V.int value),(176,V.int kind),(184,V.int arg),(99,V.int rest),(174,V.ref w.r)]++y/\(y=[]\/∃(v:V),y=[(120,v)]))/\∃(q:Nat),∃(x:Pl),∃(c:Cv),cg h.d h.t x c/\A=oT ta pa ra r hs xs h lh lr (Rw.mv w q x c)) (Rest (G (k+6+3)) (c69d_1::st) K) K))) ?_
  refine au.call [0,0,0,0,0,0,0,0] rfl (nx q x c hc) λy hy=>?_
  refine aj.rn (ao B (k+6)) [] (p:=F'=F'/\(∃(y:List (Nat × V)),[(179,V.ref ta),(175,V.ref pa),(180,V.ref ra),(183,V.int number),(87,V.int value),(176,V.int kind),(184,V.int arg),(99,V.int rest),(174,V.ref w.r),(120,V.int i)]=(179,V.ref ta)::(175,V.ref pa)::(180,V.ref ra)::(183,V.int number)::(87,V.int value)::(176,V.int kind)::(184,V.int arg)::(99,V.int rest)::(174,V.ref w.r)::y/\(y=[]\/∃(v:V),y=[(120,v)]))/\∃(q:Nat),∃(x_1:Pl),∃(c:Cv),cg h.d h.t x_1 c/\[zL w.r [.ref w.p,.int w.h,.ref y.1,.bool w.g],zT y.1 (Pl.us (pA false (iQ x (flat h.t)))),zO w.p 3 w.i (cR w.t y.2),Th.stk y.2.pa y.2.xs,zO h.a 7 h.i (aC h.c h.im h.cl h.T h.t.a (↑(List.length (flat h.t)):Int) h.io),zL pa (hs.map rD),zD h.D h.es,Hm.X h,zL h.cl [.ref h.p],zL ta (hs.map rA),zL ra xs,Th.raw lh,Th.raw lr,Th.raw r]=[zL w.r [.ref w.p,.int w.h,.ref q,.bool w.g],zT q x_1.us,zO w.p 3 w.i (cR w.t c),Th.stk c.pa c.xs,zO h.a 7 h.i (aC h.c h.im h.cl h.T h.t.a (↑(List.length (flat h.t)):Int) h.io),zL pa (hs.map rD),zD h.D h.es,Hm.X h,zL h.cl [.ref h.p],zL ta (hs.map rA),zL ra xs,Th.raw lh,Th.raw lr,Th.raw r]) ?_
  exact⟨rfl,⟨_,rfl,.inr ⟨_,rfl⟩⟩,y.1,_,y.2,hy,rfl⟩
 ·refine aj.rn (ao B (k+6)) [] (p:=K (.ret (.bool true)) ((179,V.ref ta)::(175,V.ref pa)::(180,V.ref ra)::(183,V.int number)::(87,V.int value)::(176,V.int kind)::(184,V.int arg)::(99,V.int rest)::(174,V.ref w.r)::y) [zL w.r [.ref w.p,.int w.h,.ref q,.bool w.g],zT q x.us,zO w.p 3 w.i (cR w.t c),.stk c.pa c.xs,zO h.a 7 h.i (aC h.c h.im h.cl h.T h.t.a (↑(List.length (flat h.t)):Int) h.io),zL pa (hs.map rD),zD h.D h.es,Hm.X h,zL h.cl [.ref h.p],zL ta (hs.map rA),zL ra xs,.raw lh,.raw lr,.raw r] F') ?_
  exact hK q x c _ _ hc rfl
theorem zH(W:gW F n ⟨hs,rl++w::rr,lh,lr⟩)(hn:n<64)(hk:kind<7\/11<=kind/\hs.length≠1)
  (hK:∀m A1,dF F A1 (gW F (n+1)) (wT ta pa ra r)->K (.ret (.bool true)) m A1 F) :
  aj (G (k+9)) [c69_4] [(179,.ref ta),(175,.ref pa),(180,.ref ra),(183,.int number),(87,.int value),(176,.int kind),(184,.int arg),(99,.int rest),(174,.ref w.r)] (wT ta pa ra r ⟨hs,rl++w::rr,lh,lr⟩) F K:=by
 obtain⟨h,hl,hr,I⟩:=sX W.p
 have hD:idxV (hs.map rD) w.h=some (.ref h.D):=bU (by rw[Rm,I.at];rfl)
 refine mQ W I λlh lr h1 h2=>?_
 have fin:∀q x c m A1,cg h.d h.t x c->Vw F A1 (oT ta pa ra r hs ((rl++w::rr).map rR) h lh lr (w.mv q x c))->K (.ret (.bool true)) m A1 F:=λq x c m A1 hc e=>hK m A1 (dF.vw e ((row_close W.p I h1 h2 (Nat.le_succ n) hc).imp λ_ h=>h.1))
 have nx:=λq x c hc=>IK (pa:=pa) (w:=w.mv q x c) B k I.ok hn I.t hc hD
 have pv:=λq x c hc=>IV (pa:=pa) (w:=w.mv q x c) B k I.ok hn I.t hc hD
 by_cases h2:kind<2
 ·refine aj.rn (ao B (k+6)) [oB true] (p:=decide (kind<2)=true/\aj (G (k+9)) [c69a,c69_5] [(179,.ref ta),(175,.ref pa),(180,.ref ra),(183,.int number),(87,.int value),(176,.int kind),(184,.int arg),(99,.int rest),(174,.ref w.r)] [zL w.r [.ref w.p,.int w.h,.ref w.q,.bool w.g],zT w.q w.x.us,zO w.p 3 w.i (cR w.t w.c),.stk w.c.pa w.c.xs,zO h.a 7 h.i (aC h.c h.im h.cl h.T h.t.a (↑(List.length (flat h.t)):Int) h.io),zL pa (hs.map rD),zD h.D h.es,Hm.X h,zL h.cl [.ref h.p],zL ta (hs.map rA),zL ra ((rl++w::rr).map rR),.raw lh,.raw lr,.raw r] F K) ?_
  exact⟨RB h2,Ln B k hn I λq x c m A1 hc e=>fin q x c m A1 hc (e▸Vw.refl _ _)⟩
 by_cases h4:kind<4
 ·refine aj.rn (ao B (k+6)) [oB false,oB true] (p:=decide (kind<2)=false/\decide (kind<4)=true/\aj (G (k+9)) [c69d,c69_6] [(179,.ref ta),(175,.ref pa),(180,.ref ra),(183,.int number),(87,.int value),(176,.int kind),(184,.int arg),(99,.int rest),(174,.ref w.r)] [zL w.r [.ref w.p,.int w.h,.ref w.q,.bool w.g],zT w.q w.x.us,zO w.p 3 w.i (cR w.t w.c),.stk w.c.pa w.c.xs,zO h.a 7 h.i (aC h.c h.im h.cl h.T h.t.a (↑(List.length (flat h.t)):Int) h.io),zL pa (hs.map rD),zD h.D h.es,Hm.X h,zL h.cl [.ref h.p],zL ta (hs.map rA),zL ra ((rl++w::rr).map rR),.raw lh,.raw lr,.raw r] F K) ?_
  exact⟨Rr h2,RB h4,Lp B k hn I λq x c m A1 hc e=>fin q x c m A1 hc (e▸Vw.refl _ _)⟩
 by_cases h7:kind<7
 ·refine aj.rn (ao B (k+6)) [oB false,oB false,oB true] (p:=decide (kind<2)=false/\decide (kind<4)=false/\decide (kind<7)=true/\au (G (k+9)) 66 [.ref w.r,.int kind,.int rest] [zL w.r [.ref w.p,.int w.h,.ref w.q,.bool w.g],zT w.q w.x.us,zO w.p 3 w.i (cR w.t w.c),.stk w.c.pa w.c.xs,zO h.a 7 h.i (aC h.c h.im h.cl h.T h.t.a (↑(List.length (flat h.t)):Int) h.io),zL pa (hs.map rD),zD h.D h.es,Hm.X h,zL h.cl [.ref h.p],zL ta (hs.map rA),zL ra ((rl++w::rr).map rR),.raw lh,.raw lr,.raw r] F (dY [(179,.ref ta),(175,.ref pa),(180,.ref ra),(183,.int number),(87,.int value),(176,.int kind),(184,.int arg),(99,.int rest),(174,.ref w.r)] K)) ?_
  refine⟨Rr h2,Rr h4,RB h7,?_⟩
  refine au.call [0,0,0,0,0,2] rfl (N6 B (k+2) I.ok hn I.t) λy hy=>?_
  exact fin y.1 y.2.1 y.2.2 _ _ hy (Vw.keep [0,0,0,0,0,1,1,0,0,0,0,0,0,0] rfl)
 obtain⟨h11,hne⟩:=hk.resolve_left h7
 have hl:decide ((((hs.map rA).length:Nat):Int)=1)=false:=Rr (by rw[Rt];lia)
 cases h0:decide (rest % 2=0) with
 | true =>
  refine aj.run (ao B (k+6)) [oB false,oB false,oB false,oB false,oI 9,oB false,oB true,oB true,oB true] ?_
  refine xc (p:=decide (kind<2)=false/\decide (kind<4)=false/\decide (kind<7)=false/\decide (kind<11)=false/\Yr ta/\decide ((↑((hs.map rA).length):Int)=1)=false/\(0:Int)<2/\decide (rest % 2=0)=true/\au (G (k+6+3)) 64 [.ref w.r,.ref pa] [zL w.r [.ref w.p,.int w.h,.ref w.q,.bool w.g],zT w.q w.x.us,zO w.p 3 w.i (cR w.t w.c),.stk w.c.pa w.c.xs,zO h.a 7 h.i (aC h.c h.im h.cl h.T h.t.a (↑(List.length (flat h.t)):Int) h.io),zL pa (hs.map rD),zD h.D h.es,Hm.X h,zL h.cl [.ref h.p],zL ta (hs.map rA),zL ra ((rl++w::rr).map rR),.raw lh,.raw lr,.raw r] F λv A F=>gq v (St.mk A F [oB true,oB true]) λt st=>ask t st λt st=>sel t (xe (G (k+6+3)) cN [(179,.ref ta),(175,.ref pa),(180,.ref ra),(183,.int number),(87,.int value),(176,.int kind),(184,.int arg),(99,.int rest),(174,.ref w.r)] (.and (.fn 65 [.var 174,.var 175]) (.fn 64 [.var 174,.var 175])) st (KK.mk (λv st=>K (.ret v) [(179,.ref ta),(175,.ref pa),(180,.ref ra),(183,.int number),(87,.int value),(176,.int kind),(184,.int arg),(99,.int rest),(174,.ref w.r)] (St.A st) (St.F st)) (some (dY [(179,.ref ta),(175,.ref pa),(180,.ref ra),(183,.int number),(87,.int value),(176,.int kind),(184,.int arg),(99,.int rest),(174,.ref w.r)] K)))) (K (.ret v) [(179,.ref ta),(175,.ref pa),(180,.ref ra),(183,.int number),(87,.int value),(176,.int kind),(184,.int arg),(99,.int rest),(174,.ref w.r)] (St.A st) (St.F st))) ?_
  refine⟨Rr h2,Rr h4,Rr h7,Rr (by lia),rfl,hl,by decide,h0,au.call [0,0,0,0,0,0,0,0] rfl (nx w.q w.x w.c I.c) λy hy=>?_⟩
  refine xc (p:=Yt/\au (G (k+6+3)) 65 [.ref w.r,.ref pa] [zL w.r [.ref w.p,.int w.h,.ref y.1,.bool w.g],zT y.1 (Pl.us (pA true (je w.x (flat h.t)))),zO w.p 3 w.i (cR w.t y.2),.stk y.2.pa y.2.xs,zO h.a 7 h.i (aC h.c h.im h.cl h.T h.t.a (↑(List.length (flat h.t)):Int) h.io),zL pa (hs.map rD),zD h.D h.es,Hm.X h,zL h.cl [.ref h.p],zL ta (hs.map rA),zL ra ((rl++w::rr).map rR),.raw lh,.raw lr,.raw r] F λv A F=>gq v (St.mk A F [oB true]) λt st=>ask t st λt st=>sel t (xe (G (k+6+3)) cN [(179,.ref ta),(175,.ref pa),(180,.ref ra),(183,.int number),(87,.int value),(176,.int kind),(184,.int arg),(99,.int rest),(174,.ref w.r)] (.fn 64 [.var 174,.var 175]) st (KK.mk (λv st=>K (.ret v) [(179,.ref ta),(175,.ref pa),(180,.ref ra),(183,.int number),(87,.int value),(176,.int kind),(184,.int arg),(99,.int rest),(174,.ref w.r)] (St.A st) (St.F st)) (some (dY [(179,.ref ta),(175,.ref pa),(180,.ref ra),(183,.int number),(87,.int value),(176,.int kind),(184,.int arg),(99,.int rest),(174,.ref w.r)] K)))) (K (.ret v) [(179,.ref ta),(175,.ref pa),(180,.ref ra),(183,.int number),(87,.int value),(176,.int kind),(184,.int arg),(99,.int rest),(174,.ref w.r)] (St.A st) (St.F st))) ?_
  refine⟨rfl,au.call [0,0,0,0,0,0,0,0] rfl (pv y.1 _ y.2 hy) λy hy=>?_⟩
  refine xc (p:=Yt/\au (G (k+6+3)) 64 [.ref w.r,.ref pa] [zL w.r [.ref w.p,.int w.h,.ref y.1,.bool w.g],zT y.1 (Pl.us (pA false (iQ (match je w.x (flat h.t) with|none=>uQ true|some e=>Pl.mk 0 e.k !true) (flat h.t)))),zO w.p 3 w.i (cR w.t y.2),.stk y.2.pa y.2.xs,zO h.a 7 h.i (aC h.c h.im h.cl h.T h.t.a (↑(List.length (flat h.t)):Int) h.io),zL pa (hs.map rD),zD h.D h.es,Hm.X h,zL h.cl [.ref h.p],zL ta (hs.map rA),zL ra ((rl++w::rr).map rR),.raw lh,.raw lr,.raw r] F (dY [(179,.ref ta),(175,.ref pa),(180,.ref ra),(183,.int number),(87,.int value),(176,.int kind),(184,.int arg),(99,.int rest),(174,.ref w.r)] K)) ?_
  refine⟨rfl,au.call [0,0,0,0,0,0,0,0] rfl (nx y.1 _ y.2 hy) λy hy=>?_⟩
  exact fin y.1 _ y.2 _ _ hy (Vw.refl _ _)
 | false =>
  refine aj.run (ao B (k+6)) [oB false,oB false,oB false,oB false,oI 9,oB false,oB false,oB true,oB true] ?_
  refine xc (p:=decide (kind<2)=false/\decide (kind<4)=false/\decide (kind<7)=false/\decide (kind<11)=false/\Yr ta/\decide ((↑((hs.map rA).length):Int)=1)=false/\(0:Int)<2/\decide (rest % 2=0)=false/\au (G (k+6+3)) 65 [.ref w.r,.ref pa] [zL w.r [.ref w.p,.int w.h,.ref w.q,.bool w.g],zT w.q w.x.us,zO w.p 3 w.i (cR w.t w.c),.stk w.c.pa w.c.xs,zO h.a 7 h.i (aC h.c h.im h.cl h.T h.t.a (↑(List.length (flat h.t)):Int) h.io),zL pa (hs.map rD),zD h.D h.es,Hm.X h,zL h.cl [.ref h.p],zL ta (hs.map rA),zL ra ((rl++w::rr).map rR),.raw lh,.raw lr,.raw r] F λv A F=>gq v (St.mk A F [oB true,oB true]) λt st=>ask t st λt st=>sel t (xe (G (k+6+3)) cN [(179,.ref ta),(175,.ref pa),(180,.ref ra),(183,.int number),(87,.int value),(176,.int kind),(184,.int arg),(99,.int rest),(174,.ref w.r)] (.and (.fn 64 [.var 174,.var 175]) (.fn 65 [.var 174,.var 175])) st (KK.mk (λv st=>K (.ret v) [(179,.ref ta),(175,.ref pa),(180,.ref ra),(183,.int number),(87,.int value),(176,.int kind),(184,.int arg),(99,.int rest),(174,.ref w.r)] (St.A st) (St.F st)) (some (dY [(179,.ref ta),(175,.ref pa),(180,.ref ra),(183,.int number),(87,.int value),(176,.int kind),(184,.int arg),(99,.int rest),(174,.ref w.r)] K)))) (K (.ret v) [(179,.ref ta),(175,.ref pa),(180,.ref ra),(183,.int number),(87,.int value),(176,.int kind),(184,.int arg),(99,.int rest),(174,.ref w.r)] (St.A st) (St.F st))) ?_
  refine⟨Rr h2,Rr h4,Rr h7,Rr (by lia),rfl,hl,by decide,h0,au.call [0,0,0,0,0,0,0,0] rfl (pv w.q w.x w.c I.c) λy hy=>?_⟩
  refine xc (p:=Yt/\au (G (k+6+3)) 64 [.ref w.r,.ref pa] [zL w.r [.ref w.p,.int w.h,.ref y.1,.bool w.g],zT y.1 (Pl.us (pA false (iQ w.x (flat h.t)))),zO w.p 3 w.i (cR w.t y.2),.stk y.2.pa y.2.xs,zO h.a 7 h.i (aC h.c h.im h.cl h.T h.t.a (↑(List.length (flat h.t)):Int) h.io),zL pa (hs.map rD),zD h.D h.es,Hm.X h,zL h.cl [.ref h.p],zL ta (hs.map rA),zL ra ((rl++w::rr).map rR),.raw lh,.raw lr,.raw r] F λv A F=>gq v (St.mk A F [oB true]) λt st=>ask t st λt st=>sel t (xe (G (k+6+3)) cN [(179,.ref ta),(175,.ref pa),(180,.ref ra),(183,.int number),(87,.int value),(176,.int kind),(184,.int arg),(99,.int rest),(174,.ref w.r)] (.fn 65 [.var 174,.var 175]) st (KK.mk (λv st=>K (.ret v) [(179,.ref ta),(175,.ref pa),(180,.ref ra),(183,.int number),(87,.int value),(176,.int kind),(184,.int arg),(99,.int rest),(174,.ref w.r)] (St.A st) (St.F st)) (some (dY [(179,.ref ta),(175,.ref pa),(180,.ref ra),(183,.int number),(87,.int value),(176,.int kind),(184,.int arg),(99,.int rest),(174,.ref w.r)] K)))) (K (.ret v) [(179,.ref ta),(175,.ref pa),(180,.ref ra),(183,.int number),(87,.int value),(176,.int kind),(184,.int arg),(99,.int rest),(174,.ref w.r)] (St.A st) (St.F st))) ?_
  refine⟨rfl,au.call [0,0,0,0,0,0,0,0] rfl (nx y.1 _ y.2 hy) λy hy=>?_⟩
  refine xc (p:=Yt/\au (G (k+6+3)) 65 [.ref w.r,.ref pa] [zL w.r [.ref w.p,.int w.h,.ref y.1,.bool w.g],zT y.1 (Pl.us (pA true (je (match iQ w.x (flat h.t) with|none=>uQ false|some e=>Pl.mk 0 e.k !false) (flat h.t)))),zO w.p 3 w.i (cR w.t y.2),.stk y.2.pa y.2.xs,zO h.a 7 h.i (aC h.c h.im h.cl h.T h.t.a (↑(List.length (flat h.t)):Int) h.io),zL pa (hs.map rD),zD h.D h.es,Hm.X h,zL h.cl [.ref h.p],zL ta (hs.map rA),zL ra ((rl++w::rr).map rR),.raw lh,.raw lr,.raw r] F (dY [(179,.ref ta),(175,.ref pa),(180,.ref ra),(183,.int number),(87,.int value),(176,.int kind),(184,.int arg),(99,.int rest),(174,.ref w.r)] K)) ?_
  refine⟨rfl,au.call [0,0,0,0,0,0,0,0] rfl (pv y.1 _ y.2 hy) λy hy=>?_⟩
  exact fin y.1 _ y.2 _ _ hy (Vw.refl _ _)
end
def pH(a home:Nat)(g:Bool)(r q:Nat)(x:Mx):Rw:=⟨r,q,x.p,x.d,home,g,uQ false,a,⟨.none,0,false,true,x.pa,false,.none,false,[]⟩⟩
structure Qo where
 l:Nat
 r:Nat
 q:Nat
 x:Mx
 r':Nat
 q':Nat
 x':Mx
section
variable{G:Nat->bI}(B:bD G)(k:Nat){F:CL}{a i c cl T b home:Nat}{im io:Bool}{n:Int}
include B
theorem Gb:aL (G (k+6)) 67 [.ref a,.int home] [.k true (.ob a 7 i (aC c im cl T b n io)),.k true (.ce cl (.list []))] F (λ_=>True) (λy:Qo=>.ref y.l) λy =>
  [.k true (.ce y.l (.list [.ref y.r,.ref y.r']))]++(pH a home true y.r y.q y.x).th++(pH a home false y.r' y.q' y.x').th++[.k true (.ob a 7 i (aC c im cl T b n io)),.k true (.ce cl (.list [.ref y.x.p]))]:=by
 refine aL.of (B (k+5) 67 c67 rfl) λr K hK=>?_
 show aj (G (k+5)) [c67] [(110,.ref a),(177,.int home)] [.k true (.ob a 7 i (aC c im cl T b n io)),.k true (.ce cl (.list [])),.raw r] F K
 refine aj.rn (ao B (k+2)) [oI 0] (p:=Yr a/\au (G (k+5)) 48 [.ref a] [zO a 7 i (aC c im cl T b n io),zL cl [],.raw r] F (bF (G (k+5)) 113 [c67_1] [(110,.ref a),(177,.int home)] K)) ?_
 refine⟨rfl,au.call [0] rfl (FJ B k) λx _=>?_⟩
 refine aj.rn (ao B (k+2)) [oI 2] (p:=Yr a/\au (G (k+5)) 49 [.ref a,.ref x.p] [zO x.p 3 x.d (aH a V.none 0 false true x.pa false V.none false),.stk x.pa [],zO a 7 i (aC c im cl T b n io),zL cl [],.raw r] F (bx (G (k+5)) [c67_2] [(110,.ref a),(177,.int home),(113,.ref x.p)] K)) ?_
 refine⟨rfl,au.call [2,2,0] rfl (K4 B (k+1)) λ_ _=>?_⟩
 refine aj.rn (ao B (k+2)) [oI 0] (p:=Yr a/\au (G (k+5)) 48 [.ref a] [zO a 7 i (aC c im cl T b n io),zL cl [.ref x.p],zO x.p 3 x.d (aH a V.none 0 false true x.pa false V.none false),.stk x.pa [],.raw r] F (bF (G (k+5)) 178 [c67_3] [(110,.ref a),(177,.int home),(113,.ref x.p)] K)) ?_
 refine⟨rfl,au.call [0] rfl (FJ B k) λx' _=>?_⟩
 refine aj.rn (ao B (k+2)) [] (p:=∀(q q_1 q_2 q_3 q_4:Nat),K (.ret (.ref q_4)) [(110,.ref a),(177,.int home),(113,.ref x.p),(178,.ref x'.p)] [zL q_4 [.ref q_1,.ref q_3],zL q_3 [.ref x'.p,.int home,.ref q_2,.bool false],zT q_2 [.int (-1),.int 0,.bool false],zL q_1 [.ref x.p,.int home,.ref q,.bool true],zT q [.int (-1),.int 0,.bool false],zO x'.p 3 x'.d (aH a V.none 0 false true x'.pa false V.none false),.stk x'.pa [],zO a 7 i (aC c im cl T b n io),zL cl [.ref x.p],zO x.p 3 x.d (aH a V.none 0 false true x.pa false V.none false),.stk x.pa [],.raw r] F) ?_
 exact λq q1 q2 q3 q4=>hK ⟨q4,q1,q,x,q3,q2,x'⟩ _ _ _ trivial rfl (Vw.keep [0,2,2,6,6,0,0,0,0,0,0,0] rfl)
end
def Rw.q8(hm:Nat)(w:Rw):Rw:=w.mv w.q w.x (bif decide (w.h=hm)&&!w.g then w.c.park else w.c)
def Rw.pk(hm:Nat)(w:Rw):Rw:=w.mv w.q w.x (bif decide (w.h=hm) then w.c.park else w.c)
section
variable{G:Nat->bI}(B:bD G)(k:Nat){F:CL}{n ta pa ra row ha hD hm:Nat}{r lh lr:CL}{rs:List Rw}{K:KS}{value kind rest:Int}{ca cb:Cell}
noncomputable def mC(ta pa ra row:Nat)(kind rest value:Int)(hm ha hD:Nat):Loc:=[(179,.ref ta),(175,.ref pa),(180,.ref ra),(174,.ref row),(176,.int kind),(99,.int rest),(87,.int value),(177,.int hm),(110,.ref ha),(171,.ref hD)]
def JB(F:CL)(rs:List Rw)(M:Loc)(hm:Nat)(X:CL->List Th)(i:Nat)(m:Loc)(A:List Th)(F':CL):Prop:=F'=F/\∃dn rt,rs=dn++rt/\dn.length=i/\(dn=[]/\m=M\/dn≠[]/\∃y,m=M++[(172,y)])/\dF F A (Pg F ((dn.map (Rw.q8 hm)++rt).map Rw.th)) X
include B
theorem DN(hr:Pg F (rs.map Rw.th) lr)(hne:rs≠[])
  (hK:∀y lr,Pg F ((rs.map (Rw.q8 hm)).map Rw.th) lr->aj (G (k+9)) [c68_4] (mC ta pa ra row kind rest value hm ha hD++[(172,y)]) [.k true (.ce ta ca),.k true (.ce pa cb),.k true (.ce ra (.list (rs.map rR))),.raw lh,.raw lr,.raw r] F K) :
  aj (G (k+9)) [c68_3] (mC ta pa ra row kind rest value hm ha hD) [.k true (.ce ta ca),.k true (.ce pa cb),.k true (.ce ra (.list (rs.map rR))),.raw lh,.raw lr,.raw r] F K:=by
 refine aj.eU (gR.run (ao B (k+6)) [] ⟨ra,rs.map rR,rfl,JB F rs (mC ta pa ra row kind rest value hm ha hD) hm λlr=>[.k true (.ce ta ca),.k true (.ce pa cb),.k true (.ce ra (.list (rs.map rR))),.raw lh,.raw lr,.raw r],⟨rfl,[],rs,rfl,rfl,.inl ⟨rfl,rfl⟩,dF.fin lr hr (Vw.refl _ _)⟩,λi m A F' hI=>?_⟩)
 obtain⟨rfl,dn,rt,e,rfl,hm',hv⟩:=hI
 refine⟨λH S=>?_,?_⟩
 ·obtain⟨lr,_,S⟩:=hv H S
  exact(S.kd (n:=2) rfl).1 _ (.head _)
 ·cases rt with
  | nil =>
   rw[Rx] at e
   subst e
   rw[Q7 (by rw[Rt];exact RN _)]
   show aj (G (k+9)) [c68_4] m A F' K
   obtain⟨y,rfl⟩:=hm'.elim (λq=>absurd q.1 hne) (·.2)
   refine aj.Iv hv λlr hr=>?_
   rw[Rx] at hr
   exact hK y lr hr
  | cons w rt =>
   rw[show(rs.map rR)[dn.length]?=some (rR w) by rw[e,Rv];exact cC (Rt _)]
   show aj (G (k+9)) [c68a] (put m 172 (rR w)) A F' _
   have hp:put m 172 (rR w)=[(179,.ref ta),(175,.ref pa),(180,.ref ra),(174,.ref row),(176,.int kind),(99,.int rest),(87,.int value),(177,.int hm),(110,.ref ha),(171,.ref hD),(172,.ref w.r)]:=by
    rcases hm' with ⟨_,rfl⟩|⟨_,y,rfl⟩<;>rfl
   rw[hp]
   refine aj.Iv hv λlr hr=>?_
   rw[Rv,RK] at hr
   refine aj.bT [4] rfl (mO _ w.th _ hr) λlr hr=>?_
   have fin:∀A,Vw F' A ((w.q8 hm).th++[.raw lr]++[.k true (.ce ta ca),.k true (.ce pa cb),.k true (.ce ra (.list (rs.map rR))),.raw lh,.raw r])->JB F' rs (mC ta pa ra row kind rest value hm ha hD) hm (λlr=>[.k true (.ce ta ca),.k true (.ce pa cb),.k true (.ce ra (.list (rs.map rR))),.raw lh,.raw lr,.raw r]) (dn.length+1)
     [(179,.ref ta),(175,.ref pa),(180,.ref ra),(174,.ref row),(176,.int kind),(99,.int rest),(87,.int value),(177,.int hm),(110,.ref ha),(171,.ref hD),(172,.ref w.r)] A F':=λA v=>by
    refine⟨rfl,dn++[w],rt,by rw[dJ];exact e,by rw[Rd];rfl,.inr ⟨by simp,_,rfl⟩,dF.vw v (dF.bT [0,0,0,0,0] rfl (fW (w.q8 hm).th hr) λlr hr=>dF.fin lr ?_ (Vw.keep [1,1,1,1,0,0] rfl))⟩
    rw[Rv,Rv,Rv,Rg]
    exact hr
   clear hr hv hm' hp
   unfold Rw.q8 at fin
   cases hh:decide (w.h=hm) with
   | false =>
    rw[hh] at fin
    have hh:decide ((w.h:Int)=(hm:Int))=false:=Rr λq=>of_decide_eq_false hh (Int.ofNat.inj q)
    refine aj.rn (ao B (k+6)) [oI 0,ov (V.int (↑(Rw.h w):Int)),oB false,oB false] (p:=Yr w.r/\idxV [.ref w.p,.int w.h,.ref w.q,.bool w.g] 1=some (V.int w.h)/\decide ((↑w.h:Int)=(↑hm:Int))=false/\false=false/\JB F' rs (mC ta pa ra row kind rest value hm ha hD) hm (λlr=>[zC ta ca,zC pa cb,zL ra (rs.map rR),Th.raw lh,Th.raw lr,Th.raw r]) (List.length dn+1) [(179,.ref ta),(175,.ref pa),(180,.ref ra),(174,.ref row),(176,.int kind),(99,.int rest),(87,.int value),(177,.int hm),(110,.ref ha),(171,.ref hD),(172,.ref w.r)] [zL w.r [.ref w.p,.int w.h,.ref w.q,.bool w.g],zT w.q w.x.us,zO w.p 3 w.i (cR w.t w.c),.stk w.c.pa w.c.xs,.raw lr,zC ta ca,zC pa cb,zL ra (rs.map rR),.raw lh,.raw r] F') ?_
    exact⟨rfl,rfl,hh,rfl,fin _ (Vw.refl _ _)⟩
   | true =>
    have hq:decide ((w.h:Int)=(hm:Int))=true:=RB (by rw[Rj hh])
    rw[hh] at fin
    cases hg:w.g with
    | true =>
     rw[hg] at fin
     refine aj.rn (ao B (k+6)) [oI 0,ov (V.int (↑(Rw.h w):Int)),oB true,oI 0,ov (V.bool (Rw.g w)),oB false] (p:=Yr w.r/\idxV [.ref w.p,.int w.h,.ref w.q,.bool w.g] 1=some (V.int w.h)/\decide ((↑w.h:Int)=(↑hm:Int))=true/\Yr w.r/\idxV [.ref w.p,.int w.h,.ref w.q,.bool w.g] 3=some (V.bool w.g)/\(!Rw.g w)=false/\JB F' rs (mC ta pa ra row kind rest value hm ha hD) hm (λlr=>[zC ta ca,zC pa cb,zL ra (rs.map rR),Th.raw lh,Th.raw lr,Th.raw r]) (List.length dn+1) [(179,.ref ta),(175,.ref pa),(180,.ref ra),(174,.ref row),(176,.int kind),(99,.int rest),(87,.int value),(177,.int hm),(110,.ref ha),(171,.ref hD),(172,.ref w.r)] [zL w.r [.ref w.p,.int w.h,.ref w.q,.bool w.g],zT w.q w.x.us,zO w.p 3 w.i (cR w.t w.c),.stk w.c.pa w.c.xs,.raw lr,zC ta ca,zC pa cb,zL ra (rs.map rR),.raw lh,.raw r] F') ?_
     exact⟨rfl,rfl,hq,rfl,rfl,by rw[hg];rfl,fin _ (Vw.refl _ _)⟩
    | false =>
     rw[hg] at fin
     refine aj.rn (ao B (k+6)) [oI 0,ov (V.int (↑(Rw.h w):Int)),oB true,oI 0,ov (V.bool (Rw.g w)),oB true,oI 0,ov (V.ref (Rw.p w)),oI 2] (p:=Yr w.r/\idxV [.ref w.p,.int w.h,.ref w.q,.bool w.g] 1=some (V.int w.h)/\decide ((↑w.h:Int)=(↑hm:Int))=true/\Yr w.r/\idxV [.ref w.p,.int w.h,.ref w.q,.bool w.g] 3=some (V.bool w.g)/\(!Rw.g w)=true/\Yr w.r/\idxV [.ref w.p,.int w.h,.ref w.q,.bool w.g] 0=some (V.ref w.p)/\Yr w.p/\au (G (k+9)) 29 [.ref w.p] [zL w.r [.ref w.p,.int w.h,.ref w.q,.bool w.g],zT w.q w.x.us,zO w.p 3 w.i (cR w.t w.c),.stk w.c.pa w.c.xs,.raw lr,zC ta ca,zC pa cb,zL ra (rs.map rR),.raw lh,.raw r] F' (bx (G (k+9)) [[],[]] [(179,.ref ta),(175,.ref pa),(180,.ref ra),(174,.ref row),(176,.int kind),(99,.int rest),(87,.int value),(177,.int hm),(110,.ref ha),(171,.ref hD),(172,.ref w.r)] (cB (JB F' rs (mC ta pa ra row kind rest value hm ha hD) hm (λlr=>[zC ta ca,zC pa cb,zL ra (rs.map rR),Th.raw lh,Th.raw lr,Th.raw r]) (List.length dn+1)) (Rest (G (k+9)) [c68_4] K) K))) ?_
     refine⟨rfl,rfl,hq,rfl,rfl,by rw[hg];rfl,rfl,rfl,rfl,au.call [2] rfl (Fx B (k+5)) λ_ _=>?_⟩
     refine aj.rn (ao B (k+6)) [] (p:=JB F' rs (mC ta pa ra row kind rest value hm ha hD) hm (λlr=>[zC ta ca,zC pa cb,zL ra (rs.map rR),Th.raw lh,Th.raw lr,Th.raw r]) (List.length dn+1) [(179,.ref ta),(175,.ref pa),(180,.ref ra),(174,.ref row),(176,.int kind),(99,.int rest),(87,.int value),(177,.int hm),(110,.ref ha),(171,.ref hD),(172,.ref w.r)] [zO w.p 3 w.i (aH w.t w.c.cn w.c.j w.c.rc w.c.ic w.c.pa true w.c.ky w.c.rd),zL w.r [.ref w.p,.int w.h,.ref w.q,.bool w.g],zT w.q w.x.us,.stk w.c.pa w.c.xs,.raw lr,zC ta ca,zC pa cb,zL ra (rs.map rR),.raw lh,.raw r] F') ?_
     exact fin _ (Vw.keep [1,1,0,0,0,0,0,0,0,0] rfl)
theorem IW(hR:RD es fs)(sr:bw fs)(hl:fs.length<64)
  (hS:∀key,au (G (k+9)) 58 [.ref ha,.int key,.int value] [.k true (.ce hD (.dict es)),.k true (.ob ha 7 i bt),.raw z] F (bx (G (k+9)) [c68n_1,c68_7] (mC ta pa ra row kind rest value hm ha hD++[(172,y),(188,.int s),(42,.int key),(137,.bool b)]) K))
  (hL:∀key e,bR key fs=some e->au (G (k+9)) 43 [.ref ha,.int key] [.k true (.ce hD (.dict (fC es key))),.k true (.ob ha 7 i bt),.raw z] F (bF (G (k+9)) 182 [c68_9] (mC ta pa ra row kind rest value hm ha hD++[(172,y),(188,.int s),(42,.int key),(137,.bool b),(181,.int e.v)]) K)) :
  aj (G (k+9)) [c68_5] (mC ta pa ra row kind rest value hm ha hD++[(172,y),(188,.int s),(42,.int x),(137,.bool b)]) [.k true (.ce hD (.dict es)),.k true (.ob ha 7 i bt),.raw z] F K:=by
 show aj (G (k+9)) [c68_5] [(179,.ref ta),(175,.ref pa),(180,.ref ra),(174,.ref row),(176,.int kind),(99,.int rest),(87,.int value),(177,.int hm),(110,.ref ha),(171,.ref hD),(172,y),(188,.int s),(42,.int x),(137,.bool b)] _ F K
 cases h7:decide (kind=7) with
 | true =>
  refine aj.rn (ao B (k+6)) [oB true,oB true,oB true,oB true,oI 1] (p:=decide (kind=7)=true/\Yt/\(0:Int)<41/\(Int.natAbs 2<=1000000/\Int.natAbs (rest % 41)<=1000000)/\decide (kind=7)=true/\Yt/\Yr ha/\au (G (k+9)) 58 [.ref ha,.int (2 * (rest % 41)),.int value] [zD hD es,zO ha 7 i bt,.raw z] F (bx (G (k+9)) [c68n_1,c68_7] [(179,.ref ta),(175,.ref pa),(180,.ref ra),(174,.ref row),(176,.int kind),(99,.int rest),(87,.int value),(177,.int hm),(110,.ref ha),(171,.ref hD),(172,y),(188,.int s),(42,.int (2 * (rest % 41))),(137,.bool b)] K)) ?_
  exact⟨h7,rfl,by decide,⟨by decide,by lia⟩,h7,rfl,rfl,hS _⟩
 | false =>
 cases h0:decide (((es.length:Nat):Int)=0) with
 | true =>
  cases h10:decide (kind=10) with
  | true =>
   refine aj.rn (ao B (k+6)) [oB false,oI 0,oB true,oB false,oB true,oB true,oI 1] (p:=decide (kind=7)=false/\Yr hD/\decide ((↑es.length:Int)=0)=true/\(0:Int)<41/\(Int.natAbs 2<=1000000/\Int.natAbs (rest % 41)<=1000000)/\decide (kind=7)=false/\decide (kind=10)=true/\Yt/\Yr ha/\au (G (k+9)) 58 [.ref ha,.int (2 * (rest % 41)),.int value] [zD hD es,zO ha 7 i bt,.raw z] F (bx (G (k+9)) [c68n_1,c68_7] [(179,.ref ta),(175,.ref pa),(180,.ref ra),(174,.ref row),(176,.int kind),(99,.int rest),(87,.int value),(177,.int hm),(110,.ref ha),(171,.ref hD),(172,y),(188,.int s),(42,.int (2 * (rest % 41))),(137,.bool b)] K)) ?_
   exact⟨h7,rfl,h0,by decide,⟨by decide,by lia⟩,h7,h10,rfl,rfl,hS _⟩
  | false =>
   refine aj.rn (ao B (k+6)) [oB false,oI 0,oB true,oB false,oB false,oI 0,oB true,oI 1] (p:=decide (kind=7)=false/\Yr hD/\decide ((↑es.length:Int)=0)=true/\(0:Int)<41/\(Int.natAbs 2<=1000000/\Int.natAbs (rest % 41)<=1000000)/\decide (kind=7)=false/\decide (kind=10)=false/\Yr hD/\decide ((↑es.length:Int)=0)=true/\Yr ha/\au (G (k+9)) 58 [.ref ha,.int (2 * (rest % 41)),.int value] [zD hD es,zO ha 7 i bt,.raw z] F (bx (G (k+9)) [c68n_1,c68_7] [(179,.ref ta),(175,.ref pa),(180,.ref ra),(174,.ref row),(176,.int kind),(99,.int rest),(87,.int value),(177,.int hm),(110,.ref ha),(171,.ref hD),(172,y),(188,.int s),(42,.int (2 * (rest % 41))),(137,.bool b)] K)) ?_
   exact⟨h7,rfl,h0,by decide,⟨by decide,by lia⟩,h7,h10,rfl,h0,rfl,hS _⟩
 | false =>
 cases h10:decide (kind=10) with
 | true =>
  cases h1:decide (s = -1) with
  | true =>
   refine aj.rn (ao B (k+6)) [oB false,oI 0,oB false,oB true,oB true,oB false,oB true,oB true,oI 1] (p:=decide (kind=7)=false/\Yr hD/\decide ((↑es.length:Int)=0)=false/\decide (kind=10)=true/\decide (s = -1)=true/\decide (kind=7)=false/\decide (kind=10)=true/\Yt/\Yr ha/\au (G (k+9)) 58 [.ref ha,.int (-3),.int value] [zD hD es,zO ha 7 i bt,.raw z] F (bx (G (k+9)) [c68n_1,c68_7] [(179,.ref ta),(175,.ref pa),(180,.ref ra),(174,.ref row),(176,.int kind),(99,.int rest),(87,.int value),(177,.int hm),(110,.ref ha),(171,.ref hD),(172,y),(188,.int s),(42,.int (-3)),(137,.bool b)] K)) ?_
   exact⟨h7,rfl,h0,h10,h1,h7,h10,rfl,rfl,hS _⟩
  | false =>
  cases h2:decide (s=1) with
  | true =>
   refine aj.rn (ao B (k+6)) [oB false,oI 0,oB false,oB true,oB false,oB true,oB false,oB true,oB true,oI 1] (p:=decide (kind=7)=false/\Yr hD/\decide ((↑es.length:Int)=0)=false/\decide (kind=10)=true/\decide (s = -1)=false/\decide (s=1)=true/\decide (kind=7)=false/\decide (kind=10)=true/\Yt/\Yr ha/\au (G (k+9)) 58 [.ref ha,.int 99,.int value] [zD hD es,zO ha 7 i bt,.raw z] F (bx (G (k+9)) [c68n_1,c68_7] [(179,.ref ta),(175,.ref pa),(180,.ref ra),(174,.ref row),(176,.int kind),(99,.int rest),(87,.int value),(177,.int hm),(110,.ref ha),(171,.ref hD),(172,y),(188,.int s),(42,.int 99),(137,.bool b)] K)) ?_
   exact⟨h7,rfl,h0,h10,h1,h2,h7,h10,rfl,rfl,hS _⟩
  | false =>
  cases h3:decide (rest % 2=0) with
  | true =>
   refine aj.rn (ao B (k+6)) [oB false,oI 0,oB false,oB true,oB false,oB false,oB true,oB false,oB true,oB true,oI 1] (p:=decide (kind=7)=false/\Yr hD/\decide ((↑es.length:Int)=0)=false/\decide (kind=10)=true/\decide (s = -1)=false/\decide (s=1)=false/\(0:Int)<2/\decide (rest % 2=0)=true/\decide (kind=7)=false/\decide (kind=10)=true/\Yt/\Yr ha/\au (G (k+9)) 58 [.ref ha,.int (x+1),.int value] [zD hD es,zO ha 7 i bt,.raw z] F (bx (G (k+9)) [c68n_1,c68_7] [(179,.ref ta),(175,.ref pa),(180,.ref ra),(174,.ref row),(176,.int kind),(99,.int rest),(87,.int value),(177,.int hm),(110,.ref ha),(171,.ref hD),(172,y),(188,.int s),(42,.int (x+1)),(137,.bool b)] K)) ?_
   exact⟨h7,rfl,h0,h10,h1,h2,by decide,h3,h7,h10,rfl,rfl,hS _⟩
  | false =>
   refine aj.rn (ao B (k+6)) [oB false,oI 0,oB false,oB true,oB false,oB false,oB false,oB false,oB true,oB true,oI 1] (p:=decide (kind=7)=false/\Yr hD/\decide ((↑es.length:Int)=0)=false/\decide (kind=10)=true/\decide (s = -1)=false/\decide (s=1)=false/\(0:Int)<2/\decide (rest % 2=0)=false/\decide (kind=7)=false/\decide (kind=10)=true/\Yt/\Yr ha/\au (G (k+9)) 58 [.ref ha,.int (x - 1),.int value] [zD hD es,zO ha 7 i bt,.raw z] F (bx (G (k+9)) [c68n_1,c68_7] [(179,.ref ta),(175,.ref pa),(180,.ref ra),(174,.ref row),(176,.int kind),(99,.int rest),(87,.int value),(177,.int hm),(110,.ref ha),(171,.ref hD),(172,y),(188,.int s),(42,.int (x - 1)),(137,.bool b)] K)) ?_
   exact⟨h7,rfl,h0,h10,h1,h2,by decide,h3,h7,h10,rfl,rfl,hS _⟩
 | false =>
  have hp:(0:Int)<(es.length:Nat):=by have:=of_decide_eq_false h0;lia
  obtain⟨e,he,hf⟩:∃e:E,idxV ((cG (es.map (·.1))).map V.int) (rest % ((es.length:Nat):Int))=some (.int e.k)/\e∈fs:=by
   have h1:=Int.emod_nonneg rest (show((es.length:Nat):Int)≠0 by lia)
   have h2:=Int.emod_lt_of_pos rest hp
   have h3:(rest % ((es.length:Nat):Int)).toNat<fs.length:=by rw[<-hR.len];lia
   refine⟨fs[(rest % ((es.length:Nat):Int)).toNat],?_,List.getElem_mem _⟩
   unfold idxV
   rw[if_pos h1,hR.s,Rm,Rm,QK h3];rfl
  have ge:∀{key e},bR key fs=some e->bK es key=some (.int e.v):=λh=>by rw[hR.g,h];rfl
  have hf:=jD sr hf
  cases h8:decide (kind=8) with
  | true =>
   refine aj.rn (ao B (k+6)) [oB false,oI 0,oB false,oB false,oB true,oB true,oI 0,oI 1,oI 0,ov (V.int (E.k e)),oB false,oB false,oI 1,oB false,oI 1,oI 1,ov (V.int (E.v e)),oI 2] (p:=decide (kind=7)=false/\Yr hD/\decide ((↑es.length:Int)=0)=false/\decide (kind=10)=false/\decide (kind=8)=true/\Yt/\Yr hD/\List.length es<64/\∀(q:Nat),Yr hD/\0<(↑es.length:Int)/\Yr q/\idxV ((cG (List.map (λx=>Prod.fst x) es)).map V.int) (rest % (↑es.length:Int))=some (V.int e.k)/\decide (kind=7)=false/\decide (kind=10)=false/\Yr hD/\decide ((↑es.length:Int)=0)=false/\Yr hD/\Yr hD/\bK es e.k=some (V.int e.v)/\Yr ha/\au (G (k+9)) 43 [.ref ha,.int e.k] [zL q ((cG (List.map (λx=>Prod.fst x) es)).map V.int),zD hD (fC es e.k),zO ha 7 i bt,.raw z] F (bF (G (k+9)) 182 [c68_9] [(179,.ref ta),(175,.ref pa),(180,.ref ra),(174,.ref row),(176,.int kind),(99,.int rest),(87,.int value),(177,.int hm),(110,.ref ha),(171,.ref hD),(172,y),(188,.int s),(42,.int e.k),(137,.bool b),(181,.int e.v)] K)) ?_
   exact⟨h7,rfl,h0,h10,h8,rfl,rfl,hR.len▸hl,λq=>⟨rfl,hp,rfl,he,h7,h10,rfl,h0,rfl,rfl,ge hf,rfl,au.vw (Vw.keep [1,1,1] rfl) (hL _ e hf)⟩⟩
  | false =>
  cases hs:decide (s=0) with
  | false =>
   refine aj.rn (ao B (k+6)) [oB false,oI 0,oB false,oB false,oB false,oB true,oB true,oI 0,oI 1,oI 0,ov (V.int (E.k e)),oB false,oB false,oI 1,oB false,oI 1,oI 1,ov (V.int (E.v e)),oI 2] (p:=decide (kind=7)=false/\Yr hD/\decide ((↑es.length:Int)=0)=false/\decide (kind=10)=false/\decide (kind=8)=false/\(!decide (s=0))=true/\Yt/\Yr hD/\List.length es<64/\∀(q:Nat),Yr hD/\0<(↑es.length:Int)/\Yr q/\idxV ((cG (List.map (λx=>Prod.fst x) es)).map V.int) (rest % (↑es.length:Int))=some (V.int e.k)/\decide (kind=7)=false/\decide (kind=10)=false/\Yr hD/\decide ((↑es.length:Int)=0)=false/\Yr hD/\Yr hD/\bK es e.k=some (V.int e.v)/\Yr ha/\au (G (k+9)) 43 [.ref ha,.int e.k] [zL q ((cG (List.map (λx=>Prod.fst x) es)).map V.int),zD hD (fC es e.k),zO ha 7 i bt,.raw z] F (bF (G (k+9)) 182 [c68_9] [(179,.ref ta),(175,.ref pa),(180,.ref ra),(174,.ref row),(176,.int kind),(99,.int rest),(87,.int value),(177,.int hm),(110,.ref ha),(171,.ref hD),(172,y),(188,.int s),(42,.int e.k),(137,.bool b),(181,.int e.v)] K)) ?_
   exact⟨h7,rfl,h0,h10,h8,by rw[hs];rfl,rfl,rfl,hR.len▸hl,λq=>⟨rfl,hp,rfl,he,h7,h10,rfl,h0,rfl,rfl,ge hf,rfl,au.vw (Vw.keep [1,1,1] rfl) (hL _ e hf)⟩⟩
  | true =>
  cases hx:bR x fs with
  | none =>
   have hn:(bK es x).isNone=true:=by rw[hR.g,hx];rfl
   refine aj.rn (ao B (k+6)) [oB false,oI 0,oB false,oB false,oB false,oB false,oI 0,oB true,oI 0,oI 1,oI 0,ov (V.int (E.k e)),oB false,oB false,oI 1,oB false,oI 1,oI 1,ov (V.int (E.v e)),oI 2] (p:=decide (kind=7)=false/\Yr hD/\decide ((↑es.length:Int)=0)=false/\decide (kind=10)=false/\decide (kind=8)=false/\(!decide (s=0))=false/\Yr hD/\Option.isNone (bK es x)=true/\Yr hD/\List.length es<64/\∀(q:Nat),Yr hD/\0<(↑es.length:Int)/\Yr q/\idxV ((cG (List.map (λx=>Prod.fst x) es)).map V.int) (rest % (↑es.length:Int))=some (V.int e.k)/\decide (kind=7)=false/\decide (kind=10)=false/\Yr hD/\decide ((↑es.length:Int)=0)=false/\Yr hD/\Yr hD/\bK es e.k=some (V.int e.v)/\Yr ha/\au (G (k+9)) 43 [.ref ha,.int e.k] [zL q ((cG (List.map (λx=>Prod.fst x) es)).map V.int),zD hD (fC es e.k),zO ha 7 i bt,.raw z] F (bF (G (k+9)) 182 [c68_9] [(179,.ref ta),(175,.ref pa),(180,.ref ra),(174,.ref row),(176,.int kind),(99,.int rest),(87,.int value),(177,.int hm),(110,.ref ha),(171,.ref hD),(172,y),(188,.int s),(42,.int e.k),(137,.bool b),(181,.int e.v)] K)) ?_
   exact⟨h7,rfl,h0,h10,h8,by rw[hs];rfl,rfl,hn,rfl,hR.len▸hl,λq=>⟨rfl,hp,rfl,he,h7,h10,rfl,h0,rfl,rfl,ge hf,rfl,au.vw (Vw.keep [1,1,1] rfl) (hL _ e hf)⟩⟩
  | some e0 =>
   have hn:(bK es x).isNone=false:=by rw[hR.g,hx];rfl
   refine aj.rn (ao B (k+6)) [oB false,oI 0,oB false,oB false,oB false,oB false,oI 0,oB false,oB false,oB false,oI 0,oB false,oI 0,oI 0,ov (V.int (E.v e0)),oI 1] (p:=decide (kind=7)=false/\Yr hD/\decide ((↑es.length:Int)=0)=false/\decide (kind=10)=false/\decide (kind=8)=false/\(!decide (s=0))=false/\Yr hD/\Option.isNone (bK es x)=false/\decide (kind=7)=false/\decide (kind=10)=false/\Yr hD/\decide ((↑es.length:Int)=0)=false/\Yr hD/\Yr hD/\bK es x=some (V.int e0.v)/\Yr ha/\au (G (k+9)) 43 [.ref ha,.int x] [zD hD (fC es x),zO ha 7 i bt,.raw z] F (bF (G (k+9)) 182 [c68_9] [(179,.ref ta),(175,.ref pa),(180,.ref ra),(174,.ref row),(176,.int kind),(99,.int rest),(87,.int value),(177,.int hm),(110,.ref ha),(171,.ref hD),(172,y),(188,.int s),(42,.int x),(137,.bool b),(181,.int e0.v)] K)) ?_
   exact⟨h7,rfl,h0,h10,h8,by rw[hs];rfl,rfl,hn,h7,h10,rfl,h0,rfl,rfl,ge hx,rfl,hL _ e0 hx⟩
end
theorem I3(h1:ql F t)(h2:ql F u):Ent F [.raw (cl t++cl u)] [.k true t,.k true u]:=rY λl h=>by
 have h:l=_:=h
 exact⟨[cl t,cl u],⟨⟨rfl,h1⟩,⟨rfl,h2⟩,trivial⟩,by rw[h,Ri,aG]⟩
theorem pD:Ent F [.k true t,.k true u] [.raw (cl t++cl u)]:=CQ λx y h1 h2=>⟨[x++y],⟨by rw[show x=_ from h1.1,show y=_ from h2.1];rfl,trivial⟩,by rw[aG]⟩
theorem au.fact(h:∀H,Sat A F H->φ)(k:φ->au Γ f us A F K):au Γ f us A F K:=λH Q X S q=>k (h H S) H Q X S q
theorem aL.ent(e:Ent F A A0)(h:aL Γ f us A0 F p v A')(e':∀b,Ent F (A' b) (A1 b)):aL Γ f us A F p v A1:=λr H Q X S g=>by
 have vw:∀{A B:List Th},Ent F A B->Vw F (A++[.raw r]) (B++[.raw r]):=λe H S=>by
  obtain⟨ls,q1,q2⟩:=S
  obtain⟨ls',q3,q4⟩:=(Ent.app e (Ent.refl F [.raw r])) ls q1
  exact⟨ls',q3,q2.perm (q4.append_right F)⟩
 exact h r H Q X (vw e H S) λb H' hb S'=>g b H' hb (vw (e' b) H' S')
structure N8(F F':CL)(T d:Nat)(t:Tr)(t':Tr)(d':Nat)(es':List (Int × V)):Prop where
 F:∀p∈F,p∈F'
 sh:Sh T d' (rl d') t'
 d:d'<=d+1
 sr:bw (flat t')
 R:RD es' (flat t')
 l:(flat t').length<=(flat t).length+1
section
variable{G:Nat->bI}(B:bD G)(k:Nat){F:CL}{a i cl T c d b D p pi pt ppa:Nat}{io rc ic pk rd:Bool}{cn ky:V}{j n:Int}
include B
theorem zJ:aL (β:=Unit) (G (k+5)) 39 [.ref a] [.k true (.ob a 7 i (aC c false cl T b n io)),.raw (Mine.cl (.ce cl (.list [.ref p]))++Mine.cl (.ob p 3 pi (aH pt cn j rc ic ppa pk ky rd)))] F (λ_=>True) (λ_=>.none) λ_=>[.k true (.ob a 7 i (aC c false cl T b n io)),.raw (Mine.cl (.ce cl (.list [.ref p]))++Mine.cl (.ob p 3 pi (aH pt cn j rc ic ppa true ky rd)))] :=
 aL.ent (Ent.app (A:=[.k true _]) (Ent.refl _ _) (I3 trivial trivial)) (Ii B k) λ_=>Ent.app (A:=[.k true _]) (Ent.refl _ _) pD
end
section
variable{G:Nat->bI}(B:bD G)(k:Nat){F:CL}{ta pa ra row hm a i cl T c d D p pi pt ppa:Nat}{value kind rest key s:Int}{u:V}{io bf rc ic pk rd:Bool}{cn ky:V}{j:Int}{t:Tr}{es:List (Int × V)}{y z:CL}{K:KS}
include B
theorem I4(hc:cI F c)(hT:3<=T/\T<=1000)(hd:d<=59)(hs:Sh T d (rl d) t)(sr:bw (flat t))(hR:RD es (flat t))(hl:(flat t).length<=999)
  (hz:Pk F [.k true (.ce cl (.list [.ref p])),.tr T c t,.k true (.ob p 3 pi (aH pt cn j rc ic ppa pk ky rd)),.raw y] z)
  (hK:∀F' t' d' es' m A1,N8 F F' T d t t' d' es'->Vw F' A1 [.k true (.ob a 7 i (aC c false cl T t'.a (flat t').length io)),.k true (.ce cl (.list [.ref p])),.k true (.ce D (.dict es')),.tr T c t',.k true (.ob p 3 pi (aH pt cn j rc ic ppa true ky rd)),.raw y]->K (.ret (.bool true)) m A1 F') :
  au (G (k+73)) 58 [.ref a,.int key,.int value] [.k true (.ce D (.dict es)),.k true (.ob a 7 i (aC c false cl T t.a (flat t).length io)),.raw z] F (bx (G (k+73)) [c68n_1,c68_7] (mC ta pa ra row kind rest value hm a D++[(172,u),(188,.int s),(42,.int key),(137,.bool bf)]) K):=by
 obtain⟨b,o,el,ks⟩:=t
 refine au.pk [2] rfl hz.un (au.pk [0,1] rfl pD (au.nJ [4,1,0] rfl (Fy (b:=b) B (k+2) hc hT hd hs rfl sr λF=>zJ B (k+66)) λx hx=>?_))
 obtain⟨x,e,de⟩:=x
 obtain⟨t',d',l⟩:=x
 obtain⟨h1,h2,h3,h4⟩:=hx
 dsimp only at h1 h2 h3 h4
 subst h4
 have st:=hR.set sr ⟨e,key,value⟩
 rw[<-h3] at st
 have ge:=KY (a:=a) (i:=i) (cl:=cl) (c:=c) (n:=(flat t').length) (io:=io) (im:=false) (F:=Mine.cl (.ob e 6 de [(6,.int key),(7,.int value)])++F) B (k+1) (by lia:d'<=60) h1 st.s st.f
 have ln:(((flat t').length:Nat):Int)=(((dput es key (.int value)).length:Nat):Int):=by rw[st.r.len]
 have hl':(flat t').length<=(flat (.nd b o el ks)).length+1:=by
  have q:(((flat t').length:Nat):Int)=bif (bR key (flat (.nd b o el ks))).isSome then ((flat (.nd b o el ks)).length:Int) else ((flat (.nd b o el ks)).length:Int)+1:=st.l
  cases hq:(bR key (flat (.nd b o el ks))).isSome with
  | true=>rw[hq] at q;have q:=Int.ofNat.inj q;lia
  | false=>rw[hq] at q;have q:(((flat t').length:Nat):Int)=((flat (.nd b o el ks)).length:Int)+1:=q;lia
 show aj _ _ _ [.k true (.ob a 7 i (aC c false cl T t'.a (bif (bR key (flat (.nd b o el ks))).isSome then ((flat (.nd b o el ks)).length:Int) else ((flat (.nd b o el ks)).length:Int)+1) io)),.tr T c t',.raw _,.raw y,.k true (.ce D (.dict es))] _ K
 rw[show(bif (bR key (flat (.nd b o el ks))).isSome then ((flat (.nd b o el ks)).length:Int) else ((flat (.nd b o el ks)).length:Int)+1)=(((flat t').length:Nat):Int) from st.l.symm]
 refine aj.pk [2] rfl (I3 trivial trivial) ?_
 show aj (G (k+73)) [c68n_1,c68_7] [(179,.ref ta),(175,.ref pa),(180,.ref ra),(174,.ref row),(176,.int kind),(99,.int rest),(87,.int value),(177,.int hm),(110,.ref a),(171,.ref D),(172,u),(188,.int s),(42,.int key),(137,.bool bf)] _ _ K
 refine aj.run (ao B (k+70)) [oI 5,oI 2,oB true,oI 0,oI 5] ?_
 refine xc (p:=Yr D/\List.length es<=1000/\Yr a/\au (G (k+70+3)) 57 [.ref a,.int key] [zL cl [.ref p],zO p 3 pi (aH pt cn j rc ic ppa true ky rd),zO a 7 i (aC c false cl T t'.a (↑(List.length (flat t')):Int) io),.tr T c t',.raw y,zD D (dput es key (.int value))] (Mine.cl (.ob e 6 de [(6,.int key),(7,.int value)])++F) λv A F=>xe (G (k+70+3)) cN [(179,.ref ta),(175,.ref pa),(180,.ref ra),(174,.ref row),(176,.int kind),(99,.int rest),(87,.int value),(177,.int hm),(110,.ref a),(171,.ref D),(172,u),(188,.int s),(42,.int key),(137,.bool bf)] (.var 87) (St.mk A F [oB true,oB true,oI 5]) (KK.mk (λy st=>lN 0 v y st λt st=>gq (.bool t) st λt_1 st=>ask t_1 st λt_2 st=>sel t_2 (xe (G (k+70+3)) cN [(179,.ref ta),(175,.ref pa),(180,.ref ra),(174,.ref row),(176,.int kind),(99,.int rest),(87,.int value),(177,.int hm),(110,.ref a),(171,.ref D),(172,u),(188,.int s),(42,.int key),(137,.bool bf)] (.cmp 0 (.bi 0 [.var 110]) (.bi 0 [.var 171])) st (KK.mk (λv st=>K (.ret v) [(179,.ref ta),(175,.ref pa),(180,.ref ra),(174,.ref row),(176,.int kind),(99,.int rest),(87,.int value),(177,.int hm),(110,.ref a),(171,.ref D),(172,u),(188,.int s),(42,.int key),(137,.bool bf)] (St.A st) (St.F st)) (some (dY [(179,.ref ta),(175,.ref pa),(180,.ref ra),(174,.ref row),(176,.int kind),(99,.int rest),(87,.int value),(177,.int hm),(110,.ref a),(171,.ref D),(172,u),(188,.int s),(42,.int key),(137,.bool bf)] K)))) (K (.ret (.bool t)) [(179,.ref ta),(175,.ref pa),(180,.ref ra),(174,.ref row),(176,.int kind),(99,.int rest),(87,.int value),(177,.int hm),(110,.ref a),(171,.ref D),(172,u),(188,.int s),(42,.int key),(137,.bool bf)] (St.A st) (St.F st))) none)) ?_
 refine⟨rfl,by rw[hR.len];lia,rfl,au.call [2,2] rfl ge λ_ _=>?_⟩
 refine xc (p:=decide (value=value)=true/\Yr a/\au (G (k+70+3)) 45 [.ref a] [zO a 7 i (aC c false cl T t'.a (↑(List.length (flat t')):Int) io),.tr T c t',zL cl [.ref p],zO p 3 pi (aH pt cn j rc ic ppa true ky rd),.raw y,zD D (dput es key (.int value))] (Mine.cl (.ob e 6 de [(6,.int key),(7,.int value)])++F) λv A F=>int' v λn=>(0<=n/\n<1000000)/\xe (G (k+70+3)) cN [(179,.ref ta),(175,.ref pa),(180,.ref ra),(174,.ref row),(176,.int kind),(99,.int rest),(87,.int value),(177,.int hm),(110,.ref a),(171,.ref D),(172,u),(188,.int s),(42,.int key),(137,.bool bf)] (.bi 0 [.var 171]) (St.mk A F [oI 5]) (KK.mk (λy st=>lN 0 (.int n) y st λt st=>K (.ret (.bool t)) [(179,.ref ta),(175,.ref pa),(180,.ref ra),(174,.ref row),(176,.int kind),(99,.int rest),(87,.int value),(177,.int hm),(110,.ref a),(171,.ref D),(172,u),(188,.int s),(42,.int key),(137,.bool bf)] (St.A st) (St.F st)) none)) ?_
 refine⟨RB rfl,rfl,au.call [0] rfl (zp B (k+69)) λ_ _=>?_⟩
 refine xc (p:=(0<=(↑(List.length (flat t')):Int)/\(↑(List.length (flat t')):Int)<1000000)/\Yr D/\K (.ret (.bool (decide ((↑(List.length (flat t')):Int)=(↑(List.length (dput es key (.int value))):Int))))) [(179,.ref ta),(175,.ref pa),(180,.ref ra),(174,.ref row),(176,.int kind),(99,.int rest),(87,.int value),(177,.int hm),(110,.ref a),(171,.ref D),(172,u),(188,.int s),(42,.int key),(137,.bool bf)] [zO a 7 i (aC c false cl T t'.a (↑(List.length (flat t')):Int) io),.tr T c t',zL cl [.ref p],zO p 3 pi (aH pt cn j rc ic ppa true ky rd),.raw y,zD D (dput es key (.int value))] (Mine.cl (.ob e 6 de [(6,.int key),(7,.int value)])++F)) ?_
 refine⟨⟨by lia,by lia⟩,rfl,?_⟩
 rw[RB ln]
 exact hK _ t' d' _ _ _ ⟨eO,h1,h2,st.s,st.r,hl'⟩ (Vw.keep [0,1,3,0,0,0] rfl)
theorem I5(hc:cI F c)(hT:3<=T/\T<=1000)(hd:d<=59)(hs:Sh T d (rl d) t)(sr:bw (flat t))(hR:RD es (flat t))(hl:(flat t).length<=999){e:E}(he:bR key (flat t)=some e)
  (hz:Pk F [.k true (.ce cl (.list [.ref p])),.tr T c t,.k true (.ob p 3 pi (aH pt cn j rc ic ppa pk ky rd)),.raw y] z)
  (hK:∀F' t' d' es' m A1,N8 F F' T d t t' d' es'->Vw F' A1 [.k true (.ob a 7 i (aC c false cl T t'.a (flat t').length io)),.k true (.ce cl (.list [.ref p])),.k true (.ce D (.dict es')),.tr T c t',.k true (.ob p 3 pi (aH pt cn j rc ic ppa true ky rd)),.raw y]->K (.ret (.bool true)) m A1 F') :
  au (G (k+73)) 43 [.ref a,.int key] [.k true (.ce D (.dict (fC es key))),.k true (.ob a 7 i (aC c false cl T t.a (flat t).length io)),.raw z] F (bF (G (k+73)) 182 [c68_9] (mC ta pa ra row kind rest value hm a D++[(172,u),(188,.int s),(42,.int key),(137,.bool bf),(181,.int e.v)]) K):=by
 obtain⟨b,o,el,ks⟩:=t
 refine au.pk [2] rfl hz.un (au.fact (zm (n:=1) rfl) λkv=>?_)
 have kv:=kv e (uI he)
 refine au.pk [0,1] rfl pD (au.call [4,1,0] rfl (KQ (b:=b) (p0:=λl=>l=_) B (k+2) hc hT he (Nat.le_succ_of_le hd) hs rfl sr λr H Q X S q=>zJ B (k+66) r H Q X S λ_ H' _ S'=>q _ H' rfl S') λx hx=>?_)
 obtain⟨t',d',l⟩:=x
 obtain⟨h1,h2,h3,h4⟩:=hx
 dsimp only at h1 h2 h3 h4
 subst h4
 have st:=hR.del sr he
 rw[<-h3] at st
 have ln:(((flat t').length:Nat):Int)=(((fC es key).length:Nat):Int):=by rw[st.r.len]
 have hl':(flat t').length<=(flat (.nd b o el ks)).length+1:=by have:=st.l;lia
 show aj _ _ _ [.k true (.ob a 7 i (aC c false cl T t'.a (((flat (.nd b o el ks)).length:Int) - 1) io)),.tr T c t',.raw _,.raw y,.k true (.ce D (.dict (fC es key)))] _ K
 rw[<-st.l]
 refine aj.pk [2] rfl (I3 trivial trivial) ?_
 show aj (G (k+73)) [c68_9] [(179,.ref ta),(175,.ref pa),(180,.ref ra),(174,.ref row),(176,.int kind),(99,.int rest),(87,.int value),(177,.int hm),(110,.ref a),(171,.ref D),(172,u),(188,.int s),(42,.int key),(137,.bool bf),(181,.int e.v),(182,e.r)] _ _ K
 refine aj.run (ao B (k+70)) [oB true,oe e,oB true,oI 2,oI 5] ?_
 refine xc (p:=Yt/\(E.r e=E.r e/\aQ F e)/\decide (E.v e=E.v e)=true/\Yr a/\au (G (k+70+3)) 45 [.ref a] [zL cl [.ref p],zO p 3 pi (aH pt cn j rc ic ppa true ky rd),zO a 7 i (aC c false cl T t'.a (↑(List.length (flat t')):Int) io),.tr T c t',.raw y,zD D (fC es key)] F λv A F=>int' v λn=>(0<=n/\n<1000000)/\xe (G (k+70+3)) cN [(179,.ref ta),(175,.ref pa),(180,.ref ra),(174,.ref row),(176,.int kind),(99,.int rest),(87,.int value),(177,.int hm),(110,.ref a),(171,.ref D),(172,u),(188,.int s),(42,.int key),(137,.bool bf),(181,.int e.v),(182,E.r e)] (.bi 0 [.var 171]) (St.mk A F [oI 5]) (KK.mk (λy st=>lN 0 (.int n) y st λt st=>K (.ret (.bool t)) [(179,.ref ta),(175,.ref pa),(180,.ref ra),(174,.ref row),(176,.int kind),(99,.int rest),(87,.int value),(177,.int hm),(110,.ref a),(171,.ref D),(172,u),(188,.int s),(42,.int key),(137,.bool bf),(181,.int e.v),(182,E.r e)] (St.A st) (St.F st)) none)) ?_
 refine⟨rfl,⟨rfl,kv⟩,RB rfl,rfl,au.call [2] rfl (zp B (k+69)) λ_ _=>?_⟩
 refine xc (p:=(0<=(↑(List.length (flat t')):Int)/\(↑(List.length (flat t')):Int)<1000000)/\Yr D/\K (.ret (.bool (decide ((↑(List.length (flat t')):Int)=(↑(List.length (fC es key)):Int))))) [(179,.ref ta),(175,.ref pa),(180,.ref ra),(174,.ref row),(176,.int kind),(99,.int rest),(87,.int value),(177,.int hm),(110,.ref a),(171,.ref D),(172,u),(188,.int s),(42,.int key),(137,.bool bf),(181,.int e.v),(182,E.r e)] [zO a 7 i (aC c false cl T t'.a (↑(List.length (flat t')):Int) io),zL cl [.ref p],zO p 3 pi (aH pt cn j rc ic ppa true ky rd),.tr T c t',.raw y,zD D (fC es key)] F) ?_
 refine⟨⟨by lia,by lia⟩,rfl,?_⟩
 rw[RB ln]
 exact hK _ t' d' _ _ _ ⟨λ_ q=>q,h1,h2,st.s,st.r,hl'⟩ (Vw.keep [0,0,3,1,0,0] rfl)
end
theorem Lq{w:Rw}(h:w.h=hm->w.g=false):w.q8 hm=w.pk hm:=by
 unfold Rw.q8 Rw.pk
 cases hh:decide (w.h=hm) with
 | false=>rfl
 | true=>rw[h (Rj hh)];rfl
theorem Lr{rs:List Rw}:(rs.map (Rw.pk hm)).map Rw.k=rs.map Rw.k:=by rw[List.map_map];rfl
theorem Oa{rs:List Rw}:(rs.map (Rw.pk hm)).map rR=rs.map rR:=by rw[List.map_map];rfl
theorem I6{hl:List Hm}{h h':Hm}{rs:List Rw}(W:vX F n (hl++[h]) rs)(Tp:Top (hl++[h]) (rs.map Rw.k) hl h kl kr)(hF:∀p∈F,p∈F')(ok:jf F' (n+1) h')(ea:h'.a=h.a)(im:h'.im=false)(ep:h'.p=h.p):vX F' (n+1) (hl++[h']) (rs.map (Rw.pk hl.length)):=by
 refine⟨λx hx=>?_,λw hw=>?_,⟨hl,h',kl,kr,⟨rfl,Tp.l,im,by rw[Lr,ep];exact Tp.k,Tp.o⟩⟩,by have:=W.l;rw[Rd] at this |-;rw[Rt];exact this,by rw[Lr];exact W.z⟩
 ·rcases Ry.mp hx with hx|hx
  ·exact(W.h x (Q9 _ hx)).mono hF (Nat.le_succ n)
  ·rw[Rf.mp hx];exact ok
 ·obtain⟨v,hv,rfl⟩:=List.mem_map.mp hw
  obtain⟨x,e1,e2,e3⟩:=W.r v hv
  unfold Rw.pk
  cases hh:decide (v.h=hl.length) with
  | true =>
   have hh:=Rj hh
   rw[cC hh.symm] at e1
   cases Ru e1
   exact⟨h',cC hh.symm,e2.trans ea.symm,e3.park⟩
  | false =>
   have hh:=of_decide_eq_false hh
   refine⟨x,?_,e2,e3⟩
   have hlt:v.h<hl.length:=by
    obtain⟨q,_⟩:=QJ.mp e1
    rw[Rd,Q5] at q;lia
   rw[List.getElem?_append_left hlt] at e1
   show(hl++[h'])[v.h]?=some x
   rw[List.getElem?_append_left hlt];exact e1
theorem Pk.mono(h:∀p∈F,p∈F')(k:Pk F A l):Pk F' A l:=by
 obtain⟨ls,h1,h2⟩:=k
 exact⟨ls,iD h h1,h2⟩
theorem DP{rs:List Rw}{hl:List Hm}{h:Hm}(Tp:Top hs (rs.map Rw.k) hl h kl kr):∃rl w rr,rs=rl++w::rr/\w.g=true/\w.p=h.p/\rs.map (Rw.q8 hl.length)=rl.map (Rw.pk hl.length)++w::rr.map (Rw.pk hl.length)/\rs.map (Rw.pk hl.length)=rl.map (Rw.pk hl.length)++w.mv w.q w.x w.c.park::rr.map (Rw.pk hl.length):=by
 obtain⟨rl,r2,rfl,e1,e2⟩:=List.map_eq_append_iff.mp Tp.k
 obtain⟨w,rr,rfl,e3,e4⟩:=List.map_eq_cons_iff.mp e2
 have hh:w.h=hl.length:=congrArg Rk.h e3
 have hg:w.g=true:=congrArg Rk.g e3
 have o:=Tp.o
 rw[<-e1,<-e4] at o
 have q1:∀v∈rl,v.q8 hl.length=v.pk hl.length:=λv hv=>Lq (o v.k (Q9 _ (List.mem_map.mpr ⟨v,hv,rfl⟩)))
 have q2:∀v∈rr,v.q8 hl.length=v.pk hl.length:=λv hv=>Lq (o v.k (QZ _ (List.mem_map.mpr ⟨v,hv,rfl⟩)))
 refine⟨rl,w,rr,rfl,hg,congrArg Rk.p e3,?_,?_⟩
 ·rw[Rv,RK,List.map_congr_left q1,List.map_congr_left q2]
  congr 2
  unfold Rw.q8
  rw[hg,Bool.not_true,Bool.and_false];rfl
 ·rw[Rv,RK]
  congr 2
  unfold Rw.pk
  rw[hh,RB rfl];rfl
section
variable{G:Nat->bI}(B:bD G)(k:Nat){F:CL}{n ta pa ra:Nat}{r lh lr:CL}{hs:List Hm}{rl rr:List Rw}{w:Rw}{K:KV}{value kind rest:Int}
include B
theorem Ls(W:gW F n ⟨hs,rl++w::rr,lh,lr⟩)(hn:n<=58)(hK:∀A1 F',dF F' A1 (gW F' (n+1)) (wT ta pa ra r)->K (.bool true) A1 F') :
  au (G (k+74)) 68 [.ref ta,.ref pa,.ref ra,.ref w.r,.int kind,.int rest,.int value] (wT ta pa ra r ⟨hs,rl++w::rr,lh,lr⟩) F K:=by
 refine au.of (B (k+73) 68 c68 rfl) ?_
 obtain⟨P,ph,pr⟩:=W
 dsimp only at P ph pr
 obtain⟨hl,h,kl,kr,Tp⟩:=P.top
 have e:=Tp.e
 subst e
 obtain⟨a,i,cl,c,T,im,io,t,d,p,D,es⟩:=h
 have e:im=false:=Tp.im
 subst e
 have ok:=P.h _ (QZ _ (.head _))
 have el:((((hl++[Hm.mk a i cl c T false io t d p D es]).map rA).length:Nat):Int) - 1=((hl.length:Nat):Int):=by rw[Rt,Rd,Q5];lia
 have hA:idxV ((hl++[Hm.mk a i cl c T false io t d p D es]).map rA) (((((hl++[Hm.mk a i cl c T false io t d p D es]).map rA).length:Nat):Int) - 1)=some (.ref a):=by rw[el];exact bU (by rw[Rv];exact cC (Rt _))
 have hD:idxV ((hl++[Hm.mk a i cl c T false io t d p D es]).map rD) (((((hl++[Hm.mk a i cl c T false io t d p D es]).map rA).length:Nat):Int) - 1)=some (.ref D):=by rw[el];exact bU (by rw[Rv];exact cC (Rt _))
 show aj (G (k+73)) [c68] [(179,.ref ta),(175,.ref pa),(180,.ref ra),(174,.ref w.r),(176,.int kind),(99,.int rest),(87,.int value)] (wT ta pa ra r ⟨_,_,lh,lr⟩) F _
 refine aj.rn (ao B (k+70)) [oI 0,oI 0,ov (V.ref a),oI 1,ov (V.ref D)] (p:=Yr ta/\Yr ta/\idxV ((hl++[Hm.mk a i cl c T false io t d p D es]).map rA) ((↑(((hl++[Hm.mk a i cl c T false io t d p D es]).map rA).length):Int) - 1)=some (V.ref a)/\Yr pa/\idxV ((hl++[Hm.mk a i cl c T false io t d p D es]).map rD) ((↑(((hl++[Hm.mk a i cl c T false io t d p D es]).map rA).length):Int) - 1)=some (V.ref D)/\aj (G (k+73)) [c68_3] [(179,.ref ta),(175,.ref pa),(180,.ref ra),(174,.ref w.r),(176,.int kind),(99,.int rest),(87,.int value),(177,.int ((↑(((hl++[Hm.mk a i cl c T false io t d p D es]).map rA).length):Int) - 1)),(110,.ref a),(171,.ref D)] [zL ta ((hl++[Hm.mk a i cl c T false io t d p D es]).map rA),zL pa ((hl++[Hm.mk a i cl c T false io t d p D es]).map rD),zL ra ((rl++w::rr).map rR),.raw lh,.raw lr,.raw r] F λfl x A F=>K (Fl.val fl) A F) ?_
 refine⟨rfl,rfl,hA,rfl,hD,?_⟩
 rw[el]
 refine DN B (k+64) (hm:=hl.length) (ha:=a) (hD:=D) (row:=w.r) (kind:=kind) (rest:=rest) (value:=value) pr (by simp) λy lr pr=>?_
 have pw:=pr
 rw[Rv,Rv,RK,RK] at pw
 obtain⟨wr,wq,wp,wi,wh,wg,⟨s,x,b⟩,wt,wc⟩:=w
 refine aj.bT [4] rfl (mO _ _ _ pw) λlr pw=>?_
 show aj (G (k+73)) [c68_4] [(179,.ref ta),(175,.ref pa),(180,.ref ra),(174,.ref wr),(176,.int kind),(99,.int rest),(87,.int value),(177,.int hl.length),(110,.ref a),(171,.ref D),(172,y)] (.k true (.ce wr (.list [.ref wp,.int wh,.ref wq,.bool wg]))::.k true (.ce wq (.tup [.int s,.int x,.bool b]))::_) F _
 refine aj.run (ao B (k+70)) [oI 0,ov (.ref wq),oI 1,bM] ?_
 refine xc (p:=Yr wr/\idxV [.ref wp,.int wh,.ref wq,.bool wg] 2=some (V.ref wq)/\Yr wq/\aj (G (k+70+3)) [c68_5] [(179,.ref ta),(175,.ref pa),(180,.ref ra),(174,.ref wr),(176,.int kind),(99,.int rest),(87,.int value),(177,.int hl.length),(110,.ref a),(171,.ref D),(172,y),(188,.int s),(42,.int x),(137,.bool b)] [zL wr [.ref wp,.int wh,.ref wq,.bool wg],zT wq [.int s,.int x,.bool b],zO wp 3 wi (cR wt (Rw.c (Rw.q8 hl.length (Rw.mk wr wq wp wi wh wg (Pl.mk s x b) wt wc)))),.stk (Cv.pa (Rw.c (Rw.q8 hl.length (Rw.mk wr wq wp wi wh wg (Pl.mk s x b) wt wc)))) (Cv.xs (Rw.c (Rw.q8 hl.length (Rw.mk wr wq wp wi wh wg (Pl.mk s x b) wt wc)))),.raw lr,zL ta ((hl++[Hm.mk a i cl c T false io t d p D es]).map rA),zL pa ((hl++[Hm.mk a i cl c T false io t d p D es]).map rD),zL ra ((rl++Rw.mk wr wq wp wi wh wg (Pl.mk s x b) wt wc::rr).map rR),.raw lh,.raw r] F λfl x A F=>K (Fl.val fl) A F) ?_
 refine⟨rfl,rfl,rfl,?_⟩
 refine aj.bT [0,0,0,0,0] rfl (fW ((Rw.mk wr wq wp wi wh wg ⟨s,x,b⟩ wt wc).q8 hl.length).th pw) λlr pw=>?_
 have pw:Pg F (((rl++Rw.mk wr wq wp wi wh wg ⟨s,x,b⟩ wt wc::rr).map (Rw.q8 hl.length)).map Rw.th) lr:=by rw[Rv,Rv,RK,RK];exact pw
 obtain⟨rl0,w0,rr0,e0,hg,hp,e1,e2⟩:=DP Tp
 have hp:w0.p=p:=hp
 subst hp
 rw[e1,Rv,RK] at pw
 rw[Rv] at ph
 refine aj.bT [0] rfl (mO _ w0.th _ pw) λlr pw=>aj.bT [8] rfl (mO _ (Hm.mk a i cl c T false io t d w0.p D es).th [] ph) λlh ph=>?_
 refine aj.bT [4,4,4,5,5,5,5,5,5] rfl (pack _) λyl hy=>aj.bT [2,3,3,0] rfl (pack _) λz hz=>aj.vw (Vw.keep [2,1,0] rfl) ?_
 have fin:∀F' t' d' es' (m:Loc) A1,N8 F F' T d t t' d' es'->Vw F' A1 [.k true (.ob a 7 i (aC c false cl T t'.a (flat t').length io)),.k true (.ce cl (.list [.ref w0.p])),.k true (.ce D (.dict es')),.tr T c t',.k true (.ob w0.p 3 w0.i (aH w0.t w0.c.cn w0.c.j w0.c.rc w0.c.ic w0.c.pa true w0.c.ky w0.c.rd)),.raw yl]->K (.bool true) A1 F':=λF' t' d' es' m A1 q v=>by
  have eA:(hl++[Hm.mk a i cl c T false io t' d' w0.p D es']).map rA=(hl++[Hm.mk a i cl c T false io t d w0.p D es]).map rA:=by rw[Rv,Rv];rfl
  have eD:(hl++[Hm.mk a i cl c T false io t' d' w0.p D es']).map rD=(hl++[Hm.mk a i cl c T false io t d w0.p D es]).map rD:=by rw[Rv,Rv];rfl
  refine hK A1 F' (dF.vw v (dF.vw (Vw.pk [5] rfl (hy.mono q.F).un) (dF.bT [1,1,11,1,1] rfl (fW (w0.mv w0.q w0.x w0.c.park).th (pw.mono q.F)) λlr' q2=>dF.bT [6,6,6,6,1] rfl (fW (Hm.mk a i cl c T false io t' d' w0.p D es').th (ph.mono q.F)) λlh' q1=>?_)))
  refine dF.fin ⟨hl++[Hm.mk a i cl c T false io t' d' w0.p D es'],_,lh',lr'⟩ ⟨I6 P Tp q.F ⟨q.sh,q.sr,q.R,ok.T,RM q.d (Nat.succ_le_succ ok.d),RM q.l (Nat.succ_le_succ ok.l),ok.c.mono q.F,nofun⟩ rfl rfl rfl,?_,?_⟩ ?_
  ·show Pg F' ((hl++[Hm.mk a i cl c T false io t' d' w0.p D es']).map Hm.th) lh'
   rw[Rv];exact q1
  ·show Pg F' (((rl++Rw.mk wr wq wp wi wh wg ⟨s,x,b⟩ wt wc::rr).map (Rw.pk hl.length)).map Rw.th) lr'
   rw[e2,Rv,RK];exact q2
  ·unfold wT
   dsimp only
   rw[eA,eD,Oa]
   exact Vw.keep [2,2,2,0,0,0] rfl
 exact IW B (k+64) ok.R ok.sr (Nat.lt_of_le_of_lt ok.l (by lia)) (λkey=>I4 B k ok.c ok.T (RM ok.d (by lia)) ok.sh ok.sr ok.R (RM ok.l (by lia)) hz fin) λkey e he=>I5 B k ok.c ok.T (RM ok.d (by lia)) ok.sh ok.sr ok.R (RM ok.l (by lia)) he hz fin
end
mutual
noncomputable def jY:Tr->Tr
 | .nd a _ es ks=>.nd a false es (jg ks)
noncomputable def jg:List Tr->List Tr
 | []=>[]
 | k::ks=>jY k::jg ks
end
theorem mR(a:Nat)(o:Bool)(es:List E)(ks:List Tr):jY (.nd a o es ks)=.nd a false es (jg ks):=by rw[jY]
theorem gY:∀ks:List Tr,jg ks=ks.map jY
 | []=>by rw[jg];rfl
 | k::ks=>by rw[jg,gY ks];rfl
theorem Gd(t:Tr):(jY t).a=t.a:=by
 obtain⟨a,o,es,ks⟩:=t
 rw[mR];rfl
theorem I7(ks:List Tr):(jg ks).map Tr.a=ks.map Tr.a:=by
 rw[gY,List.map_map]
 exact List.map_congr_left λt _=>Gd t
theorem sY:∀{es:List E} {ks:List Tr},(∀k∈ks,flat (jY k)=flat k)->fl es (jg ks)=fl es ks
 | es,[],_=>by rw[jg]
 | [],k::ks,h=>by rw[jg,gw,gw,h k (.head _),sY λx hx=>h x (.tail _ hx)]
 | e::es,k::ks,h=>by rw[jg,bV,bV,h k (.head _),sY λx hx=>h x (.tail _ hx)]
theorem gZ(t:Tr):flat (jY t)=flat t:=by
 induction t using Tr.ind with
 | h a o es ks ih=>rw[mR,aq,aq,sY ih]
theorem zK:∀{d lo:Nat} {t:Tr},Sh T d lo t->Sh T d lo (jY t)
 | 0,lo,.nd a o es ks,h=>by
  obtain⟨rfl,h⟩:=h
  rw[mR,jg]
  exact⟨rfl,h⟩
 | d+1,lo,.nd a o es ks,h=>by
  rw[mR]
  refine⟨by rw[gY,Rt];exact h.1,h.2.1,λk hk=>?_⟩
  rw[gY] at hk
  obtain⟨x,hx,rfl⟩:=List.mem_map.mp hk
  exact zK (h.2.2 x hx)
theorem zM(hF:∀p∈F,p∈F')(hc:∀d,(c1,Cell.inst 1 d)∉F):∀{l:CL},tree F T c t l->(∀p∈l,p∈F')->tree F' T c1 (jY t) []:=by
 induction t using Tr.ind with
 | h a o es ks ih =>
  intro l h g
  rw[eZ] at h
  obtain⟨d,le,lc,c',l1,l2,rfl,h2,h3,h4⟩:=h
  rw[mR,eZ]
  have e1:(jg ks).isEmpty=ks.isEmpty:=by rw[gY];exact uq _ _
  refine⟨d,le,lc,c',[],[],rfl,⟨⟨rfl,?_⟩,λe he=>(h2.2 e he).mono hF⟩,⟨nofun,λ_ q=>?_,h3.cr.mono hF⟩,?_⟩
  ·rw[e1,I7]
   cases o with
   | true=>exact λp hp=>g p (Q9 _ ((show l1=_ from h2.1)▸hp))
   | false=>exact λp hp=>hF p (h2.1.2 p hp)
  ·obtain⟨dc,q2⟩:=h3.cr
   exact hc dc (q▸q2 _ (.head _))
  ·have g2:∀p∈l2,p∈F':=λp hp=>g p (QZ _ hp)
   clear g h2 h3 e1
   induction ks generalizing l2 with
   | nil=>rw[jg,dN]
   | cons k ks ih2 =>
    rw[aY] at h4
    obtain⟨l3,l4,rfl,h5,h6⟩:=h4
    rw[jg,aY]
    exact⟨[],[],rfl,ih k (.head _) h5 λp hp=>g2 p (Q9 _ hp),ih2 (λx hx=>ih x (.tail _ hx)) l4 h6 λp hp=>g2 p (QZ _ hp)⟩
structure Qp(F:CL)(T d:Nat)(t:Tr):Prop where
 z:Fz F T d t
 u:∀c,(∀d,(c,Cell.inst 1 d)∉F)->tree F T c (jY t) []
section
variable{Γ:bI}{A R:List Th}{F:CL}{m:Loc}{rs:lM}{K:KS}
theorem aj.Ob(is:List Nat)(hp:pick is A=some ([.tr T c t],R))(h:∀l,Qp (l++F) T d t->aj Γ rs m R (l++F) K):aj Γ rs m A F K:=λH Q Y S k=>by
 obtain⟨l1,l2,g1,g2,g3⟩:=fU hp S
 refine uo (P:=λl1=>Holds H (l1.flatten++(l2.flatten++F))->_) g1 (λx hx g3=>?_) g3
 rw[aG] at g3
 exact h x ⟨uJ eO hx λp hp=>Q9 _ hp,λc1 hc=>zM eO (λd q=>hc d (QZ _ q)) hx λp hp=>Q9 _ hp⟩ H Q Y ⟨l2,iD eO g2,g3.perm (QG _ _ _)⟩ k
theorem DQ(S:Sat A (cl (.ob c 1 dc [])++F) H):∀d,(c,Cell.inst 1 d)∉F:=λd q=>by
 obtain⟨ls,_,h2,_⟩:=S
 have h3:=(List.nodup_append.mp (Rv▸h2)).2.1
 exact(List.nodup_cons.mp h3).1 (List.mem_map.mpr ⟨_,List.mem_cons_of_mem _ q,rfl⟩)
end
theorem Lw:Ent F [] [.mt]:=λls h=>by
 cases ls with
 | cons=>exact h.elim
 | nil=>exact⟨[[]],⟨rfl,trivial⟩,RG _⟩
theorem Lx(h:tree F T c t []):Ent F [] [.tr T c t]:=λls g=>by
 cases ls with
 | cons=>exact g.elim
 | nil=>exact⟨[[]],⟨h,trivial⟩,RG _⟩
theorem zP:Pg F [] []:=⟨[],trivial,RG _⟩
theorem Ly{h h' h1:Hm}{rs:List Rw}{w1 w2:Rw}(W:vX F n [h] rs)(ok':jf F' (n+1) h')(ok1:jf F' (n+1) h1)(e1:h'.a=h.a)(e2:h'.d=h.d)(e3:h'.t=h.t)(im:h1.im=false)(k1:w1.k=⟨1,true,h1.p⟩)(k2:w2.k=⟨1,false,p2⟩)(r1:Iw [h',h1] w1)(r2:Iw [h',h1] w2):vX F' (n+1) [h',h1] (rs++[w1,w2]):=by
 have hr:∀v∈rs,v.h=0:=λv hv=>by
  obtain⟨x,q,_⟩:=W.r v hv
  obtain⟨q,_⟩:=QJ.mp q
  exact Nat.lt_one_iff.mp q
 have ek:(rs++[w1,w2]).map Rw.k=rs.map Rw.k++[⟨1,true,h1.p⟩,⟨1,false,p2⟩]:=by rw[Rv,<-k1,<-k2];rfl
 refine⟨λx hx=>?_,λv hv=>?_,⟨[h'],h1,rs.map Rw.k,[⟨1,false,p2⟩],⟨rfl,RN _,im,ek,λv hv hv1=>?_⟩⟩,?_,?_⟩
 ·rcases RJ.mp hx with rfl|hx
  ·exact ok'
  ·rw[Rf.mp hx];exact ok1
 ·rcases Ry.mp hv with hv|hv
  ·obtain⟨x,q1,q2,q3⟩:=W.r v hv
   rw[hr v hv] at q1
   have q1:x=h:=(Ru q1).symm
   subst q1
   exact⟨h',by rw[hr v hv];rfl,q2.trans e1.symm,by rw[e2,e3];exact q3⟩
  ·rcases RJ.mp hv with rfl|hv
   ·exact r1
   ·rw[Rf.mp hv];exact r2
 ·rcases Ry.mp hv with hv|hv
  ·obtain⟨w,hw,rfl⟩:=List.mem_map.mp hv
   have:=hr w hw
   have hv1:w.h=1:=hv1
   lia
  ·rw[Rf.mp hv]
 ·have:=W.l
  rw[Rd]
  show rs.length+2<=4
  have this:rs.length<=2:=this
  lia
 ·obtain⟨g,p,kr,q⟩:=W.z
  exact⟨g,p,_,by rw[ek,q];rfl⟩
section
variable{G:Nat->bI}(B:bD G)(h56:B56 G)(k:Nat){F:CL}{n ta pa ra:Nat}{r lh lr:CL}{hs:List Hm}{h:Hm}{rs:List Rw}{w:Rw}{K:KS}{number value kind arg rest:Int}
noncomputable def mD(ta pa ra:Nat)(number value kind arg rest:Int)(row:Nat):Loc:=[(179,.ref ta),(175,.ref pa),(180,.ref ra),(183,.int number),(87,.int value),(176,.int kind),(184,.int arg),(99,.int rest),(174,.ref row)]
include B h56
theorem Lz(W:gW F n ⟨[h],rs,lh,lr⟩)(hn:n<=58)(h11:11<=kind){row:Nat}(hK:∀m A1 F',dF F' A1 (gW F' (n+1)) (wT ta pa ra r)->K (.ret (.bool true)) m A1 F') :
  aj (G (k+74)) [c69_4] (mD ta pa ra number value kind arg rest row) (wT ta pa ra r ⟨[h],rs,lh,lr⟩) F K:=by
 obtain⟨P,ph,pr⟩:=W
 dsimp only at P ph pr
 obtain⟨hl,h0,kl,kr,Tp⟩:=P.top
 obtain⟨rfl,rfl⟩:hl=[]/\h0=h:=by
  cases hl with
  | nil=>exact⟨rfl,(List.cons.inj Tp.e).1.symm⟩
  | cons x r=>cases r<;>cases (List.cons.inj Tp.e).2
 obtain⟨a,i,cl,c,T,im,io,t,d,p,D,es⟩:=h0
 have e:im=false:=Tp.im
 subst e
 have ok:=P.h _ (.head _)
 refine aj.bT [3] rfl (mO [] (Hm.mk a i cl c T false io t d p D es).th [] ph) λlh ph=>?_
 show aj (G (k+74)) [c69_4] [(179,.ref ta),(175,.ref pa),(180,.ref ra),(183,.int number),(87,.int value),(176,.int kind),(184,.int arg),(99,.int rest),(174,.ref row)] [.k true (.ob a 7 i (aC c false cl T t.a (flat t).length io)),.k true (.ce cl (.list [.ref p])),.k true (.ce D (.dict es)),.tr T c t,.raw lh,.k true (.ce ta (.list [.ref a])),.k true (.ce pa (.list [.ref D])),.k true (.ce ra (.list (rs.map rR))),.raw lr,.raw r] F K
 refine aj.rn (ao B (k+71)) [oB false,oB false,oB false,oB false,oI 5,oB true,oI 5,ov (V.ref a),oI 0] (p:=decide (kind<2)=false/\decide (kind<4)=false/\decide (kind<7)=false/\decide (kind<11)=false/\Yr ta/\decide ((↑1:Int)=1)=true/\Yr ta/\idxV [.ref a] 0=some (V.ref a)/\Yr a/\au (G (k+74)) 38 [.ref a] [zO a 7 i (aC c false cl T t.a (↑(List.length (flat t)):Int) io),zL cl [.ref p],zD D es,.tr T c t,.raw lh,zL ta [.ref a],zL pa [.ref D],zL ra (rs.map rR),.raw lr,.raw r] F (bx (G (k+74)) [c69i_1,c69_9] [(179,.ref ta),(175,.ref pa),(180,.ref ra),(183,.int number),(87,.int value),(176,.int kind),(184,.int arg),(99,.int rest),(174,.ref row)] K)) ?_
 refine⟨Rr (by lia),Rr (by lia),Rr (by lia),Rr (by lia),rfl,rfl,rfl,rfl,rfl,au.call [0] rfl (K3 B (k+70)) λ_ _=>?_⟩
 refine aj.Ob (d:=d) [3] rfl λl fz=>?_
 show aj (G (k+74)) [c69i_1,c69_9] [(179,.ref ta),(175,.ref pa),(180,.ref ra),(183,.int number),(87,.int value),(176,.int kind),(184,.int arg),(99,.int rest),(174,.ref row)] [.k true (.ob a 7 i (aC c true cl T t.a (flat t).length io)),.k true (.ce cl (.list [.ref p])),.k true (.ce D (.dict es)),.raw lh,.k true (.ce ta (.list [.ref a])),.k true (.ce pa (.list [.ref D])),.k true (.ce ra (.list (rs.map rR))),.raw lr,.raw r] _ K
 refine aj.rn (ao B (k+71)) [oI 4,ov (V.ref a)] (p:=Yr ta/\idxV [.ref a] 0=some (V.ref a)/\(0:Int)<2/\∀(a_1 d:Nat),au (G (k+74)) 56 [.ref a_1,.int 127,.ref a,.bool (decide (arg % 2=1))] [zO a_1 7 d [],zO a 7 i (aC c true cl T t.a (↑(List.length (flat t)):Int) io),zL cl [.ref p],zD D es,.raw lh,zL ta [.ref a],zL pa [.ref D],zL ra (rs.map rR),.raw lr,.raw r] (l++F) λu A F=>gD u (bF (G (k+74)) 190 [c69i_2,c69_9] [(179,.ref ta),(175,.ref pa),(180,.ref ra),(183,.int number),(87,.int value),(176,.int kind),(184,.int arg),(99,.int rest),(174,.ref row)] K (.ref a_1) A F)) ?_
 refine⟨rfl,rfl,by decide,λa1 i1=>au.nJ [0,0] rfl (K6 B (k+69) h56) λx _=>?_⟩
 generalize decide (arg % 2=1)=jo
 show aj (G (k+74)) [c69i_2,c69_9] [(179,.ref ta),(175,.ref pa),(180,.ref ra),(183,.int number),(87,.int value),(176,.int kind),(184,.int arg),(99,.int rest),(174,.ref row),(190,.ref a1)] [.k true (.ob a1 7 i1 (aC x.c false x.cl T t.a (flat t).length jo)),.k true (.ce x.cl (.list [])),.k true (.ob a 7 i (aC c true cl T t.a (flat t).length io)),.k true (.ce cl (.list [.ref p])),.k true (.ce D (.dict es)),.raw lh,.k true (.ce ta (.list [.ref a])),.k true (.ce pa (.list [.ref D])),.k true (.ce ra (.list (rs.map rR))),.raw lr,.raw r] _ K
 rw[show aC x.c false x.cl T t.a (flat t).length jo=aC x.c false x.cl T (jY t).a (flat (jY t)).length jo by rw[Gd,gZ]]
 refine aj.fact (λH S=>DQ S) λhc=>?_
 have htr:=jW (eO (X:=Mine.cl (.ob x.c 1 x.dc []))) _ (fz.u x.c hc)
 refine aj.run (ao B (k+71)) [oI 6,oI 6,on 0,oI 7,oI 7,ov (.ref D),oI 4,oI 8,on 0,bM] ?_
 refine xc (p:=Yr ta/\Yr ta/\1<=1000000/\(Yr a1/\True)/\Yr pa/\Yr pa/\idxV [.ref D] 0=some (V.ref D)/\Yr D/\List.length es<64/\∀(q:Nat),Yr pa/\1<=1000000/\(Yr q/\True)/\aj (G (k+71+3)) [c69i_4,c69_9] [(179,.ref ta),(175,.ref pa),(180,.ref ra),(183,.int number),(87,.int value),(176,.int kind),(184,.int arg),(99,.int rest),(174,.ref row),(190,.ref a1)] [zD q es,zO a1 7 i1 (aC x.c false x.cl T (Tr.a (jY t)) (↑(List.length (flat (jY t))):Int) jo),zL x.cl [],zO a 7 i (aC c true cl T t.a (↑(List.length (flat t)):Int) io),zL cl [.ref p],zD D es,.raw lh,zL ta [.ref a,.ref a1],zL pa [.ref D,.ref q],zL ra (rs.map rR),.raw lr,.raw r] (Mine.cl (.ob x.c 1 x.dc [])++(l++F)) K) ?_
 refine⟨rfl,rfl,by decide,⟨rfl,trivial⟩,rfl,rfl,rfl,rfl,Nat.lt_of_le_of_lt (ok.R.len▸ok.l) (by lia),λq=>⟨rfl,by decide,⟨rfl,trivial⟩,?_⟩⟩
 refine aj.run (ao B (k+71)) [oI 9,oI 18,oI 0,oI 9,oI 17,ov (.ref q),oI 11] ?_
 refine xc (p:=Yr ra/\au (G (k+71+3)) 67 [.ref a1,.int 1] [zD q es,zO a1 7 i1 (aC x.c false x.cl T (Tr.a (jY t)) (↑(List.length (flat (jY t))):Int) jo),zL x.cl [],zO a 7 i (aC c true cl T t.a (↑(List.length (flat t)):Int) io),zL cl [.ref p],zD D es,.raw lh,zL ta [.ref a,.ref a1],zL pa [.ref D,.ref q],zL ra (rs.map rR),.raw lr,.raw r] (Mine.cl (.ob x.c 1 x.dc [])++(l++F)) λv A F=>qm (G (k+71+3)) cN [(179,.ref ta),(175,.ref pa),(180,.ref ra),(183,.int number),(87,.int value),(176,.int kind),(184,.int arg),(99,.int rest),(174,.ref row),(190,.ref a1)] [] (St.mk A F [oI 18,oB true,oI 9,oI 17,ov (.ref q),oI 11]) λvs st=>rsX (.ref ra) st λr st=>tV r λx L p w xs=>gd w (Mu L p xs 152 (v::vs) st λx st=>Mine.xs (G (k+71+3)) cN 99 [c69i_5,c69_9] [(179,.ref ta),(175,.ref pa),(180,.ref ra),(183,.int number),(87,.int value),(176,.int kind),(184,.int arg),(99,.int rest),(174,.ref row),(190,.ref a1)] st K)) ?_
 refine⟨rfl,au.call [1,1] rfl (Gb B (k+68)) λy _=>?_⟩
 refine xc (p:=Yr ra/\(rs.map rR).length<=1000000/\Yr y.l/\(rs.map rR).length+2<=1000000/\Yr a1/\au (G (k+71+3)) 45 [.ref a1] [zL y.l [.ref y.r,.ref y.r'],zL y.r [.ref y.x.p,.int 1,.ref y.q,.bool true],zT y.q (Pl.us (Rw.x (pH a1 1 true y.r y.q y.x))),zO y.x.p 3 y.x.d (aH a1 V.none 0 false true y.x.pa false V.none false),.stk y.x.pa [],zL y.r' [.ref y.x'.p,.int 1,.ref y.q',.bool false],zT y.q' (Pl.us (Rw.x (pH a1 1 false y.r' y.q' y.x'))),zO y.x'.p 3 y.x'.d (aH a1 V.none 0 false true y.x'.pa false V.none false),.stk y.x'.pa [],zO a1 7 i1 (aC x.c false x.cl T (Tr.a (jY t)) (↑(List.length (flat (jY t))):Int) jo),zL x.cl [.ref y.x.p],zD q es,zO a 7 i (aC c true cl T t.a (↑(List.length (flat t)):Int) io),zL cl [.ref p],zD D es,.raw lh,zL ta [.ref a,.ref a1],zL pa [.ref D,.ref q],zL ra (List.map rR rs++[V.ref y.r,V.ref y.r']),.raw lr,.raw r] (Mine.cl (.ob x.c 1 x.dc [])++(l++F)) λv A F=>int' v λn=>(0<=n/\n<1000000)/\xe (G (k+71+3)) cN [(179,.ref ta),(175,.ref pa),(180,.ref ra),(183,.int number),(87,.int value),(176,.int kind),(184,.int arg),(99,.int rest),(174,.ref row),(190,.ref a1)] (.bi 0 [.sub (.var 175) (.int 1)]) (St.mk A F [oI 17,ov (.ref q),oI 11]) (KK.mk (λy st=>lN 0 (.int n) y st λt st=>K (.ret (.bool t)) [(179,.ref ta),(175,.ref pa),(180,.ref ra),(183,.int number),(87,.int value),(176,.int kind),(184,.int arg),(99,.int rest),(174,.ref row),(190,.ref a1)] (St.A st) (St.F st)) none)) ?_
 have hl:rs.length<=2:=P.l
 refine⟨rfl,by rw[Rt];lia,rfl,by rw[Rt];lia,rfl,au.call [9] rfl (zp B (k+70)) λ_ _=>?_⟩
 refine xc (p:=(0<=(↑(List.length (flat (jY t))):Int)/\(↑(List.length (flat (jY t))):Int)<1000000)/\Yr pa/\idxV [.ref D,.ref q] 1=some (V.ref q)/\Yr q/\K (.ret (.bool (decide ((↑(List.length (flat (jY t))):Int)=(↑es.length:Int))))) [(179,.ref ta),(175,.ref pa),(180,.ref ra),(183,.int number),(87,.int value),(176,.int kind),(184,.int arg),(99,.int rest),(174,.ref row),(190,.ref a1)] [zO a1 7 i1 (aC x.c false x.cl T (Tr.a (jY t)) (↑(List.length (flat (jY t))):Int) jo),zL y.l [.ref y.r,.ref y.r'],zL y.r [.ref y.x.p,.int 1,.ref y.q,.bool true],zT y.q (Pl.us (Rw.x (pH a1 1 true y.r y.q y.x))),zO y.x.p 3 y.x.d (aH a1 V.none 0 false true y.x.pa false V.none false),.stk y.x.pa [],zL y.r' [.ref y.x'.p,.int 1,.ref y.q',.bool false],zT y.q' (Pl.us (Rw.x (pH a1 1 false y.r' y.q' y.x'))),zO y.x'.p 3 y.x'.d (aH a1 V.none 0 false true y.x'.pa false V.none false),.stk y.x'.pa [],zL x.cl [.ref y.x.p],zD q es,zO a 7 i (aC c true cl T t.a (↑(List.length (flat t)):Int) io),zL cl [.ref p],zD D es,.raw lh,zL ta [.ref a,.ref a1],zL pa [.ref D,.ref q],zL ra (List.map rR rs++[V.ref y.r,V.ref y.r']),.raw lr,.raw r] (Mine.cl (.ob x.c 1 x.dc [])++(l++F))) ?_
 have el:(flat (jY t)).length=(flat t).length:=by rw[gZ]
 have ed:es.length=(flat t).length:=ok.R.len
 have ol:(flat t).length<=n:=ok.l
 refine⟨⟨by lia,by lia⟩,rfl,rfl,rfl,?_⟩
 rw[RB (show(((flat (jY t)).length:Nat):Int)=((es.length:Nat):Int) by rw[el,ed])]
 have hF:∀p∈F,p∈Mine.cl (.ob x.c 1 x.dc [])++(l++F):=λp hp=>QZ _ (QZ _ hp)
 have pr:=pr.mono hF
 have ph:=ph.mono hF
 rw[<-Rx (rs.map Rw.th)] at pr
 refine hK _ _ _ (dF.bT [2,2,2,2,15] rfl (fW (pH a1 1 true y.r y.q y.x).th pr) λlr1 p1=>?_)
 have p1:Pg (Mine.cl (.ob x.c 1 x.dc [])++(l++F)) ((rs.map Rw.th++[(pH a1 1 true y.r y.q y.x).th])++[]) lr1:=by rw[Rx];exact p1
 refine dF.bT [3,3,3,3,0] rfl (fW (pH a1 1 false y.r' y.q' y.x').th p1) λlr2 p2=>dF.vw (Vw.pk [] rfl Lw) (dF.bT [6,6,6,0,5] rfl (fW (Hm.mk a i cl c T true io t d p D es).th ph) λlh1 q1=>dF.vw (Vw.pk [] rfl (Lx htr)) ?_)
 have q1:Pg (Mine.cl (.ob x.c 1 x.dc [])++(l++F)) ([(Hm.mk a i cl c T true io t d p D es).th]++[]) lh1:=q1
 refine dF.bT [3,4,4,0,0] rfl (fW (Hm.mk a1 i1 x.cl x.c T false jo (jY t) d y.x.p q es).th q1) λlh2 q2=>?_
 refine dF.fin ⟨[Hm.mk a i cl c T true io t d p D es,Hm.mk a1 i1 x.cl x.c T false jo (jY t) d y.x.p q es],rs++[pH a1 1 true y.r y.q y.x,pH a1 1 false y.r' y.q' y.x'],lh2,lr2⟩ ⟨?_,q2,?_⟩ ?_
 ·refine Ly (p2:=y.x'.p) P ⟨ok.sh,ok.sr,ok.R,ok.T,Nat.le_succ_of_le ok.d,Nat.le_succ_of_le ok.l,ok.c.mono hF,λ_=>fz.z.mono eO⟩ ⟨zK ok.sh,?_,?_,ok.T,Nat.le_succ_of_le ok.d,?_,⟨x.dc,λp hp=>Q9 _ hp⟩,nofun⟩ rfl rfl rfl rfl rfl rfl ⟨_,rfl,rfl,.inl ⟨false,rfl,_,_,_,_,rfl⟩⟩ ⟨_,rfl,rfl,.inl ⟨false,rfl,_,_,_,_,rfl⟩⟩
  ·rw[gZ];exact ok.sr
  ·rw[gZ];exact ok.R
  ·rw[gZ];exact Nat.le_succ_of_le ok.l
 ·show Pg _ ((rs++[pH a1 1 true y.r y.q y.x,pH a1 1 false y.r' y.q' y.x']).map Rw.th) lr2
  rw[Rv]
  rw[Rg] at p2
  exact p2
 ·unfold wT
  dsimp only
  rw[Rv]
  exact Vw.keep [3,3,3,0,0,1] rfl
end
section
variable{G:Nat->bI}(B:bD G)(h56:B56 G)(k:Nat){F:CL}{n ta pa ra:Nat}{r lh lr:CL}{hs:List Hm}{rs:List Rw}{K:KV}{number value:Int}
include B h56
theorem LC(W:gW F n ⟨hs,rs,lh,lr⟩)(hn:n<=58)(hK:∀A1 F',dF F' A1 (gW F' (n+1)) (wT ta pa ra r)->K (.bool true) A1 F') :
  au (G (k+75)) 69 [.ref ta,.ref pa,.ref ra,.int number,.int value] (wT ta pa ra r ⟨hs,rs,lh,lr⟩) F K:=by
 refine au.of (B (k+74) 69 c69 rfl) ?_
 obtain⟨w,rl,rr,rfl,hp,hw⟩:∃w rl rr,rs=rl++w::rr/\(0:Int)<((rs.map rR).length:Nat)/\idxV (rs.map rR) (number / 12 % (((rs.map rR).length:Nat):Int))=some (.ref w.r):=by
  have hp:(0:Int)<((rs.map rR).length:Nat):=by
   obtain⟨g,p,kr,q⟩:=W.p.z
   have q:=congrArg List.length q
   rw[Rt] at q |-
   have q:rs.length=kr.length+1:=q
   lia
  have h1:=Int.emod_nonneg (number / 12) (show(((rs.map rR).length:Nat):Int)≠0 by lia)
  have h2:=Int.emod_lt_of_pos (number / 12) hp
  have h3:(number / 12 % (((rs.map rR).length:Nat):Int)).toNat<rs.length:=by rw[Rt] at h1 h2 |-;lia
  refine⟨rs[(number / 12 % (((rs.map rR).length:Nat):Int)).toNat],rs.take _,rs.drop _,by rw[<-QH,Q0],hp,?_⟩
  unfold idxV
  rw[if_pos h1,Rm,QK h3];rfl
 show aj (G (k+74)) [c69] [(179,.ref ta),(175,.ref pa),(180,.ref ra),(183,.int number),(87,.int value)] (wT ta pa ra r ⟨hs,_,lh,lr⟩) F _
 refine aj.run (ao B (k+71)) [oI 2,oI 2,ov (.ref w.r),bM] ?_
 refine xc (p:=(0:Int)<12/\((0:Int)<12/\(12:Int)<1000000000)/\((0:Int)<4/\(4:Int)<1000000000)/\Yr ra/\0<(↑(((rl++w::rr).map rR).length):Int)/\Yr ra/\idxV ((rl++w::rr).map rR) (number / 12 % (↑(((rl++w::rr).map rR).length):Int))=some (V.ref w.r)/\aj (G (k+71+3)) [c69_4] [(179,.ref ta),(175,.ref pa),(180,.ref ra),(183,.int number),(87,.int value),(176,.int (number % 12)),(184,.int (number / 12)),(99,.int (number / 12 / 4)),(174,.ref w.r)] [zL ta (hs.map rA),zL pa (hs.map rD),zL ra ((rl++w::rr).map rR),.raw lh,.raw lr,.raw r] F λfl x A F=>K (Fl.val fl) A F) ?_
 refine⟨by decide,by decide,by decide,rfl,hp,rfl,hw,?_⟩
 have hk:0<=number % 12/\number % 12<12:=by lia
 generalize number % 12=kind at hk
 by_cases h7:kind<7
 ·exact zH B (k+65) W (by lia) (.inl h7) λm A1 h=>hK A1 F h
 by_cases h11:kind<11
 ·refine aj.rn (ao B (k+71)) [oB false,oB false,oB false,oB true] (p:=decide (kind<2)=false/\decide (kind<4)=false/\decide (kind<7)=false/\decide (kind<11)=true/\au (G (k+71+3)) 68 [.ref ta,.ref pa,.ref ra,.ref w.r,.int kind,.int (number / 12 / 4),.int value] [zL ta (hs.map rA),zL pa (hs.map rD),zL ra ((rl++w::rr).map rR),.raw lh,.raw lr,.raw r] F (dY [(179,.ref ta),(175,.ref pa),(180,.ref ra),(183,.int number),(87,.int value),(176,.int kind),(184,.int (number / 12)),(99,.int (number / 12 / 4)),(174,.ref w.r)] λfl x A F=>K (Fl.val fl) A F)) ?_
  exact⟨Rr (by lia),Rr (by lia),Rr (by lia),RB h11,Ls B k W hn hK⟩
 by_cases h1:hs.length=1
 ·obtain⟨h,rfl⟩:∃h,hs=[h]:=by
   cases hs with
   | nil=>cases h1
   | cons h t=>cases t with
    | nil=>exact⟨h,rfl⟩
    | cons=>cases h1
  exact Lz B h56 k W hn (by lia) λm A1 F' h=>hK A1 F' h
 ·exact zH B (k+65) W (by lia) (.inr ⟨by lia,h1⟩) λm A1 h=>hK A1 F h
end
theorem DR:Ent F [.raw [(a,c)]] [.k true (.ce a c)]:=rY λl h=>by
 have h:l=_:=h
 exact⟨[[(a,c)]],⟨⟨rfl,trivial⟩,trivial⟩,by rw[h,aG]⟩
theorem jE:Ent F [.k true (.ce a c)] [.raw [(a,c)]]:=rY λl h=>by
 have h:l=_:=h.1
 exact⟨[[(a,c)]],⟨rfl,trivial⟩,by rw[h,aG];exact RG _⟩
section
variable{G:Nat->bI}(B:bD G)(k:Nat){F:CL}{sc:Nat}{ns:List Int}
include B
theorem qX(hi:0<=i):aL (G (k+4)) 60 [.ref sc,.int i] [.k true (.ce sc (.ro ns))] F (λ_=>True) (λz:Int=>.int z) λ_=>[.k true (.ce sc (.ro ns))]:=by
 refine aL.of (B (k+3) 60 c60 rfl) λr K hK=>?_
 show aj (G (k+3)) [c60] [(95,.ref sc),(96,.int i)] [.k true (.ce sc (.ro ns)),.raw r] F K
 cases hl:decide (i<((ns.length:Nat):Int)) with
 | true =>
  have hl':=Rj hl
  have hz:(ns[i.toNat]?).map V.int=some (.int ns[i.toNat]):=by rw[QK];rfl
  refine aj.rn (ao B k) [oI 0,oB true,oI 0,ov (V.int ns[Int.toNat i])] (p:=Yr sc/\decide (i<(↑ns.length:Int))=true/\Yr sc/\(0<=i/\Option.map V.int ns[Int.toNat i]?=some (V.int ns[Int.toNat i]))/\(0:Int)<12108/\K (.ret (.int (ns[Int.toNat i] % 12108))) [(95,.ref sc),(96,.int i)] [zC sc (.ro ns),.raw r] F) ?_
  exact⟨rfl,hl,rfl,⟨hi,hz⟩,by decide,hK _ _ _ _ trivial rfl (Vw.refl _ _)⟩
 | false =>
  have h1:0<=i % 30/\i % 30<30:=by lia
  obtain⟨z,hz⟩:∃z,(([0,0,0,47,820,98,144,9,12,49,10,51,11,248,96,78,171,33,73,1481,86,1207,82,47,180,4000,158,536,45,133]:List Int)[(i % 30).toNat]?)=some z:=⟨_,QK (show(i % 30).toNat<30 by lia)⟩
  refine aj.rn (ao B k) [oI 0,oB false,ov (V.int z)] (p:=Yr sc/\decide (i<(↑ns.length:Int))=false/\(0:Int)<30/\(0<=i % 30/\Option.map V.int [0,0,0,47,820,98,144,9,12,49,10,51,11,248,96,78,171,33,73,1481,86,1207,82,47,180,4000,158,536,45,133][Int.toNat (i % 30)]?=some (V.int z))/\K (.ret (.int z)) [(95,.ref sc),(96,.int i)] [zC sc (.ro ns),.raw r] F) ?_
  exact⟨rfl,hl,by decide,⟨h1.1,by rw[hz];rfl⟩,hK _ _ _ _ trivial rfl (Vw.refl _ _)⟩
end
structure MJ(F:CL)(T c:Nat)(t:Tr)(d:Nat)(es:List (Int × V))(i:Int):Prop where
 c:cI F c
 sh:Sh T d (rl d) t
 sr:bw (flat t)
 R:RD es (flat t)
 d:(d:Int)<=i
 l:((flat t).length:Int)<=i
structure MK where
 t:Tr
 d:Nat
 es:List (Int × V)
section
variable{G:Nat->bI}(B:bD G)(k:Nat){F:CL}{sc a i cl c T D:Nat}{io:Bool}{r:CL}{K:KS}{f fill od st sd:Int}
noncomputable def mL(sc T a D:Nat)(f fill od st sd:Int):Loc:=[(95,.ref sc),(113,.int f),(1,.int T),(110,.ref a),(171,.ref D),(185,.int fill),(186,.int od),(115,.int st),(187,.int sd)]
def tL(a i cl c T D:Nat)(io:Bool)(r:CL)(x:MK):List Th:=[.k true (.ob a 7 i (aC c false cl T x.t.a (flat x.t).length io)),.raw [(cl,.list [])],.tr T c x.t,.k true (.ce D (.dict x.es)),.raw r]
def I8(a i cl c T D:Nat)(io:Bool)(r:CL)(M:Loc)(j:Int)(m:Loc)(A:List Th)(F:CL):Prop:=∃x:MK,MJ F T c x.t x.d x.es j/\Vw F A (tL a i cl c T D io r x)/\Le M m
include B
theorem DW:aL (β:=Unit) (G (k+5)) 39 [.ref a] [.k true (.ob a 7 i (aC c false cl T b n io)),.raw [(cl,.list [])]] F (λ_=>True) (λ_=>.none) λ_=>[.k true (.ob a 7 i (aC c false cl T b n io)),.raw [(cl,.list [])]] :=
 aL.ent (Ent.app (A:=[.k true _]) (Ent.refl _ _) DR) (Dt B k) λ_=>Ent.app (A:=[.k true _]) (Ent.refl _ _) jE
theorem I9(hT:3<=T/\T<=1000){j key:Int}(hj:j<24){x:MK}(P:MJ F T c x.t x.d x.es j){K:KV}
  (hK:∀F' t d A,MJ F' T c t d (dput x.es key (.int j)) (j+1)->A=[.k true (.ob a 7 i (aC c false cl T t.a (flat t).length io)),.tr T c t,.raw [(cl,.list [])],.k true (.ce D (.dict x.es)),.raw r]->K .none A F') :
  au (G (k+73)) 58 [.ref a,.int key,.int j] (tL a i cl c T D io r x) F K:=by
 obtain⟨⟨b,o,el,ks⟩,d,es⟩:=x
 dsimp only at P hK
 have hd:=P.d
 have hl:=P.l
 refine au.nJ [0,1,0] rfl (Fy (b:=b) B (k+2) P.c hT (by lia) P.sh rfl P.sr λF=>DW B (k+66)) λx hx=>?_
 obtain⟨⟨t',d',l⟩,e,de⟩:=x
 obtain⟨h1,h2,h3,h4⟩:=hx
 dsimp only at h1 h2 h3 h4
 subst h4
 have st:=P.R.set P.sr ⟨e,key,j⟩
 rw[<-h3] at st
 have q:(((flat t').length:Nat):Int)=bif (bR key (flat (.nd b o el ks))).isSome then ((flat (.nd b o el ks)).length:Int) else ((flat (.nd b o el ks)).length:Int)+1:=st.l
 refine hK _ t' d' _ ⟨P.c.mono eO,h1,st.s,st.r,by lia,?_⟩ (by rw[q];rfl)
 cases hq:(bR key (flat (.nd b o el ks))).isSome with
 | true=>rw[hq] at q;have q:(((flat t').length:Nat):Int)=((flat (.nd b o el ks)).length:Int):=q;lia
 | false=>rw[hq] at q;have q:(((flat t').length:Nat):Int)=((flat (.nd b o el ks)).length:Int)+1:=q;lia
theorem DX(hT:3<=T/\T<=1000)(hs:0<=sd/\sd<=41)(hj:0<=j/\j<24)(h:I8 a i cl c T D io r (mL sc T a D f fill od st sd) j m A F) :
  aj (G (k+73)) [c71d] (put m 120 (.int j)) A F (cB (I8 a i cl c T D io r (mL sc T a D f fill od st sd) (j+1)) (Rest (G (k+73)) rs K) K):=by
 obtain⟨x,P,hv,hm⟩:=h
 refine aj.vw hv (aj.up (hm.put rfl) ?_)
 have hl:x.es.length<=1000:=by have:=P.R.len;have:=P.l;lia
 show aj (G (k+73)) [c71d] [(95,.ref sc),(113,.int f),(1,.int T),(110,.ref a),(171,.ref D),(185,.int fill),(186,.int od),(115,.int st),(187,.int sd),(120,.int j)] [.k true (.ob a 7 i (aC c false cl T x.t.a (flat x.t).length io)),.raw [(cl,.list [])],.tr T c x.t,.k true (.ce D (.dict x.es)),.raw r] F _
 refine aj.rn (ao B (k+70)) [oI 0] (p:=(Int.natAbs j<=1000000/\Int.natAbs sd<=1000000)/\(0:Int)<41/\(Int.natAbs 2<=1000000/\Int.natAbs ((st+j * sd) % 41)<=1000000)/\Yr a/\au (G (k+73)) 58 [.ref a,.int (2 * ((st+j * sd) % 41)),.int j] [zO a 7 i (aC c false cl T x.t.a (↑(List.length (flat x.t)):Int) io),.raw [(cl,.list [])],.tr T c x.t,zD D x.es,.raw r] F (bx (G (k+73)) [c71d_2] [(95,.ref sc),(113,.int f),(1,.int T),(110,.ref a),(171,.ref D),(185,.int fill),(186,.int od),(115,.int st),(187,.int sd),(120,.int j),(42,.int (2 * ((st+j * sd) % 41)))] (cB (I8 a i cl c T D io r (mL sc T a D f fill od st sd) (j+1)) (Rest (G (k+73)) rs K) K))) ?_
 refine⟨⟨by lia,by lia⟩,by decide,⟨by decide,by lia⟩,rfl,I9 B k hT hj.2 P λF' t d A P e=>?_⟩
 subst e
 show aj _ _ _ _ _ _
 refine aj.rn (ao B (k+70)) [oI 3] (p:=Yr D/\List.length x.es<=1000/\I8 a i cl c T D io r (mL sc T a D f fill od st sd) (j+1) [(95,.ref sc),(113,.int f),(1,.int T),(110,.ref a),(171,.ref D),(185,.int fill),(186,.int od),(115,.int st),(187,.int sd),(120,.int j),(42,.int (2 * ((st+j * sd) % 41)))] [zO a 7 i (aC c false cl T t.a (↑(List.length (flat t)):Int) io),.tr T c t,.raw [(cl,.list [])],zD D (dput x.es (2 * ((st+j * sd) % 41)) (.int j)),.raw r] F') ?_
 exact⟨rfl,hl,⟨t,d,_⟩,P,Vw.keep [0,1,0,0,0] rfl,Le.app⟩
theorem DY(hT:3<=T/\T<=1000)(hs:0<=sd/\sd<=41)(hf:-1000000<=fill/\fill<=24)(h:I8 a i cl c T D io r (mL sc T a D f fill od st sd) 0 m A F)
  (hK:∀j m A F,j<=24->I8 a i cl c T D io r (mL sc T a D f fill od st sd) j m A F->aj (G (k+73)) [c71_12] m A F K):aj (G (k+73)) [c71_11] m A F K:=by
 refine aj.ji (ao B (k+70)) [] ?_
 show opt (look m 185) _
 obtain⟨x,P,hv,hm⟩:=h
 rw[hm 185 (.int fill) rfl]
 refine⟨0,fill,.inl ⟨rfl,rfl⟩,⟨⟨by decide,by decide⟩,by lia,by lia⟩,λj m A F=>j<=24/\I8 a i cl c T D io r (mL sc T a D f fill od st sd) j m A F,⟨by decide,x,P,hv,hm⟩,λj m A F h hj=>?_⟩
 split
 ·exact(DX B k hT hs (by lia) h.2).mono λfl m A F q=>by
   cases fl with
   | next=>exact⟨by lia,q⟩
   | cont=>exact⟨by lia,q⟩
   | _=>exact q
 ·exact hK j m A F h.1 h.2
end
theorem LK:Ent F [] [.raw []]:=λls h=>by
 cases ls with
 | cons=>exact h.elim
 | nil=>exact⟨[[]],⟨rfl,trivial⟩,RG _⟩
section
variable{G:Nat->bI}(B:bD G)(h56:B56 G)(k:Nat){F:CL}{sc ta pa ra n:Nat}{ns:List Int}{K:KS}
noncomputable def mW(sc ta pa ra:Nat):Loc:=[(95,.ref sc),(179,.ref ta),(175,.ref pa),(180,.ref ra)]
include B
theorem Ja(w:gW F n W)(hn:n<64)(hm:Le (mW sc ta pa ra) m)(hK:∀m A F,K (.ret (.bool true)) m A F):aj (G (k+75)) [c71_17] m (wT ta pa ra [(sc,.ro ns)] W) F K:=by
 obtain⟨hs,rs,lh,lr⟩:=W
 obtain⟨g,p,kr,e⟩:=w.p.z
 obtain⟨w0,rr,rfl,e1,e2⟩:=List.map_eq_cons_iff.mp e
 have h0:w0.h=0:=congrArg Rk.h e1
 have w:gW F n ⟨hs,[]++w0::rr,lh,lr⟩:=w
 obtain⟨h,hl,hr,I⟩:=sX w.p
 have hD:idxV (hs.map rD) 0=some (.ref h.D):=bU (i:=0) (by rw[Rm,<-h0,I.at];rfl)
 refine aj.up hm (mQ w I λlh lr _ _=>?_)
 show aj (G (k+75)) [c71_17] [(95,.ref sc),(179,.ref ta),(175,.ref pa),(180,.ref ra)] _ F K
 refine aj.rn (ao B (k+72)) [oI 10,ov (V.ref (Rw.r w0)),oI 0,ov (V.ref (Rw.p w0)),oI 5,ov (V.ref (Hm.D h))] (p:=Yr ra/\idxV (List.map rR (w0::rr)) 0=some (V.ref w0.r)/\Yr w0.r/\idxV [.ref w0.p,.int w0.h,.ref w0.q,.bool w0.g] 0=some (V.ref w0.p)/\Yr pa/\idxV (hs.map rD) 0=some (V.ref h.D)/\au (G (k+75)) 70 [.ref w0.p,.ref h.D] [zL w0.r [.ref w0.p,.int w0.h,.ref w0.q,.bool w0.g],zT w0.q w0.x.us,zO w0.p 3 w0.i (cR w0.t w0.c),.stk w0.c.pa w0.c.xs,zO h.a 7 h.i (aC h.c h.im h.cl h.T h.t.a (↑(List.length (flat h.t)):Int) h.io),zL pa (hs.map rD),zD h.D h.es,Hm.X h,zL h.cl [.ref h.p],zL ta (hs.map rA),zL ra (List.map rR (w0::rr)),.raw lh,.raw lr,.raw [(sc,.ro ns)]] F (dY [(95,.ref sc),(179,.ref ta),(175,.ref pa),(180,.ref ra)] K)) ?_
 refine⟨rfl,rfl,rfl,rfl,rfl,hD,au.call [2,2,2,3,3] rfl (N7 B (k+66) I.ok hn I.t) λ_ _=>hK _ _ _⟩
def vY(F:CL)(n sc ta pa ra:Nat)(ns:List Int)(xs:List V)(m:Loc)(A:List Th)(F':CL):Prop:=F'=F/\Le (mW sc ta pa ra) m/\dF F A (λW:Wc=>gW F n W/\W.rs.map rR=xs) (wT ta pa ra [(sc,.ro ns)])
theorem Ea{W:Wc}(w:gW F n W)(hn:n<64){m:Loc}(hm:Le (mW sc ta pa ra) m)(hK:∀m A F,K (.ret (.bool true)) m A F):aj (G (k+75)) [c71_16] m (wT ta pa ra [(sc,.ro ns)] W) F K:=by
 refine aj.eU (gR.run (ao B (k+72)) [] ?_)
 show opt (look m 180) _
 rw[hm 180 (.ref ra) rfl]
 refine⟨ra,W.rs.map rR,rfl,λ_=>vY F n sc ta pa ra ns (W.rs.map rR),⟨rfl,hm,dF.fin W ⟨w,rfl⟩ (Vw.refl _ _)⟩,λi m A F' hI=>?_⟩
 obtain⟨rfl,hm,hv⟩:=hI
 refine⟨λH S=>?_,?_⟩
 ·obtain⟨W',h,S⟩:=hv H S
  exact((S.kd (n:=2) rfl).1 _ (.head _)).trans (by rw[h.2])
 ·cases hx:(W.rs.map rR)[i]? with
  | none=>exact aj.Iv hv λW' h=>Ja B k h.1 hn hm hK
  | some x =>
   refine aj.Iv hv λW' h=>aj.up (hm.put rfl) ?_
   obtain⟨hs,rs,lh,lr⟩:=W'
   obtain⟨h,er⟩:=h
   have er:rs.map rR=W.rs.map rR:=er
   rw[<-er] at hx
   obtain⟨rl,rr0,rfl,q1⟩:∃rl rr,rs=rl++rr/\rl.length=i:=⟨rs.take i,rs.drop i,(Q0 i rs).symm,by
    obtain⟨q,_⟩:=QJ.mp hx
    rw[Rt] at q
    rw[Rp];lia⟩
   cases rr0 with
   | nil =>
    rw[Rx,Q7 (by rw[Rt];lia)] at hx;cases hx
   | cons v rr =>
    rw[Rv,RK,cC (by rw[Rt];exact q1)] at hx
    cases Ru hx
    obtain⟨hh,hl,hr,I⟩:=sX h.p
    have hD:idxV (hs.map rD) v.h=some (.ref hh.D):=bU (by rw[Rm,I.at];rfl)
    have nx:=λq x c hc=>IK (pa:=pa) (w:=v.mv q x c) B (k+66) I.ok hn I.t hc hD
    have pv:=λq x c hc=>IV (pa:=pa) (w:=v.mv q x c) B (k+66) I.ok hn I.t hc hD
    refine mQ h I λlh lr h1 h2=>?_
    show aj (G (k+75)) [c71g] [(95,.ref sc),(179,.ref ta),(175,.ref pa),(180,.ref ra),(174,.ref v.r)] _ _ _
    refine aj.run (ao B (k+72)) [oB false,oB false,oB false] ?_
    refine xc (p:=au (G (k+72+3)) 64 [.ref v.r,.ref pa] [zL v.r [.ref v.p,.int v.h,.ref v.q,.bool v.g],zT v.q v.x.us,zO v.p 3 v.i (cR v.t v.c),.stk v.c.pa v.c.xs,zO hh.a 7 hh.i (aC hh.c hh.im hh.cl hh.T hh.t.a (↑(List.length (flat hh.t)):Int) hh.io),zL pa (hs.map rD),zD hh.D hh.es,Hm.X hh,zL hh.cl [.ref hh.p],zL ta (hs.map rA),zL ra ((rl++v::rr).map rR),.raw lh,.raw lr,.raw [(sc,.ro ns)]] F' λv_1 A F=>gq v_1 (St.mk A F [oB false,oB false,oB false]) λt st=>ask (!t) st λt st=>sel t (ask true st λt st=>sel t (xs (G (k+72+3)) cN 99 [[.ret CE.ff],[]] [(95,.ref sc),(179,.ref ta),(175,.ref pa),(180,.ref ra),(174,.ref v.r)] st (cB (vY F' n sc ta pa ra ns (W.rs.map rR)) (Rest (G (k+75)) [c71_17] K) K)) (xs (G (k+72+3)) cN 99 [[],[]] [(95,.ref sc),(179,.ref ta),(175,.ref pa),(180,.ref ra),(174,.ref v.r)] st (cB (vY F' n sc ta pa ra ns (W.rs.map rR)) (Rest (G (k+75)) [c71_17] K) K))) (xb (G (k+72+3)) cN [(95,.ref sc),(179,.ref ta),(175,.ref pa),(180,.ref ra),(174,.ref v.r)] (.or (.not (.fn 65 [.var 174,.var 175])) (.not (.fn 65 [.var 174,.var 175]))) st λt st=>ask t st λt st=>sel t (xs (G (k+72+3)) cN 99 [[.ret CE.ff],[]] [(95,.ref sc),(179,.ref ta),(175,.ref pa),(180,.ref ra),(174,.ref v.r)] st (cB (vY F' n sc ta pa ra ns (W.rs.map rR)) (Rest (G (k+75)) [c71_17] K) K)) (xs (G (k+72+3)) cN 99 [[],[]] [(95,.ref sc),(179,.ref ta),(175,.ref pa),(180,.ref ra),(174,.ref v.r)] st (cB (vY F' n sc ta pa ra ns (W.rs.map rR)) (Rest (G (k+75)) [c71_17] K) K)))) ?_
    refine au.call [0,0,0,0,0,0,0,0] rfl (nx v.q v.x v.c I.c) λy hy=>?_
    refine xc (p:=false=false/\au (G (k+72+3)) 65 [.ref v.r,.ref pa] [zL v.r [.ref v.p,.int v.h,.ref y.1,.bool v.g],zT y.1 (Pl.us (pA true (je v.x (flat hh.t)))),zO v.p 3 v.i (cR v.t y.2),.stk y.2.pa y.2.xs,zO hh.a 7 hh.i (aC hh.c hh.im hh.cl hh.T hh.t.a (↑(List.length (flat hh.t)):Int) hh.io),zL pa (hs.map rD),zD hh.D hh.es,Hm.X hh,zL hh.cl [.ref hh.p],zL ta (hs.map rA),zL ra ((rl++v::rr).map rR),.raw lh,.raw lr,.raw [(sc,.ro ns)]] F' λv_1 A F=>gq v_1 (St.mk A F [oB false,oB false]) λt st=>ask (!t) st λt st=>sel t (ask true st λt st=>sel t (xs (G (k+72+3)) cN 99 [[.ret CE.ff],[]] [(95,.ref sc),(179,.ref ta),(175,.ref pa),(180,.ref ra),(174,.ref v.r)] st (cB (vY F' n sc ta pa ra ns (W.rs.map rR)) (Rest (G (k+75)) [c71_17] K) K)) (xs (G (k+72+3)) cN 99 [[],[]] [(95,.ref sc),(179,.ref ta),(175,.ref pa),(180,.ref ra),(174,.ref v.r)] st (cB (vY F' n sc ta pa ra ns (W.rs.map rR)) (Rest (G (k+75)) [c71_17] K) K))) (xb (G (k+72+3)) cN [(95,.ref sc),(179,.ref ta),(175,.ref pa),(180,.ref ra),(174,.ref v.r)] (.not (.fn 65 [.var 174,.var 175])) st λt st=>ask t st λt st=>sel t (xs (G (k+72+3)) cN 99 [[.ret CE.ff],[]] [(95,.ref sc),(179,.ref ta),(175,.ref pa),(180,.ref ra),(174,.ref v.r)] st (cB (vY F' n sc ta pa ra ns (W.rs.map rR)) (Rest (G (k+75)) [c71_17] K) K)) (xs (G (k+72+3)) cN 99 [[],[]] [(95,.ref sc),(179,.ref ta),(175,.ref pa),(180,.ref ra),(174,.ref v.r)] st (cB (vY F' n sc ta pa ra ns (W.rs.map rR)) (Rest (G (k+75)) [c71_17] K) K)))) ?_
    refine⟨rfl,au.call [0,0,0,0,0,0,0,0] rfl (pv y.1 _ y.2 hy) λy hy=>?_⟩
    refine xc (p:=false=false/\au (G (k+72+3)) 65 [.ref v.r,.ref pa] [zL v.r [.ref v.p,.int v.h,.ref y.1,.bool v.g],zT y.1 (Pl.us (pA false (iQ (match je v.x (flat hh.t) with|none=>uQ true|some e=>Pl.mk 0 e.k !true) (flat hh.t)))),zO v.p 3 v.i (cR v.t y.2),.stk y.2.pa y.2.xs,zO hh.a 7 hh.i (aC hh.c hh.im hh.cl hh.T hh.t.a (↑(List.length (flat hh.t)):Int) hh.io),zL pa (hs.map rD),zD hh.D hh.es,Hm.X hh,zL hh.cl [.ref hh.p],zL ta (hs.map rA),zL ra ((rl++v::rr).map rR),.raw lh,.raw lr,.raw [(sc,.ro ns)]] F' λv_1 A F=>gq v_1 (St.mk A F [oB false]) λt st=>ask (!t) st λt st=>sel t (xs (G (k+72+3)) cN 99 [[.ret CE.ff],[]] [(95,.ref sc),(179,.ref ta),(175,.ref pa),(180,.ref ra),(174,.ref v.r)] st (cB (vY F' n sc ta pa ra ns (W.rs.map rR)) (Rest (G (k+75)) [c71_17] K) K)) (xs (G (k+72+3)) cN 99 [[],[]] [(95,.ref sc),(179,.ref ta),(175,.ref pa),(180,.ref ra),(174,.ref v.r)] st (cB (vY F' n sc ta pa ra ns (W.rs.map rR)) (Rest (G (k+75)) [c71_17] K) K))) ?_
    refine⟨rfl,au.call [0,0,0,0,0,0,0,0] rfl (pv y.1 _ y.2 hy) λy hy=>?_⟩
    refine xc (p:=false=false/\vY F' n sc ta pa ra ns (W.rs.map rR) [(95,.ref sc),(179,.ref ta),(175,.ref pa),(180,.ref ra),(174,.ref v.r)] [zL v.r [.ref v.p,.int v.h,.ref y.1,.bool v.g],zT y.1 (Pl.us (pA false (iQ (match iQ (match je v.x (flat hh.t) with|none=>uQ true|some e=>Pl.mk 0 e.k !true) (flat hh.t) with|none=>uQ false|some e=>Pl.mk 0 e.k !false) (flat hh.t)))),zO v.p 3 v.i (cR v.t y.2),.stk y.2.pa y.2.xs,zO hh.a 7 hh.i (aC hh.c hh.im hh.cl hh.T hh.t.a (↑(List.length (flat hh.t)):Int) hh.io),zL pa (hs.map rD),zD hh.D hh.es,Hm.X hh,zL hh.cl [.ref hh.p],zL ta (hs.map rA),zL ra ((rl++v::rr).map rR),.raw lh,.raw lr,.raw [(sc,.ro ns)]] F') ?_
    exact⟨rfl,rfl,Le.app,(row_close h.p I h1 h2 (RN n) (q:=y.1) hy).imp λW g=>⟨g.1,g.2.trans er⟩⟩
def JC(sc ta pa ra:Nat)(ns:List Int)(j:Int)(m:Loc)(A:List Th)(F:CL):Prop:=(4<=j/\j<=30)/\Le (mW sc ta pa ra) m/\dF F A (gW F (20+j.toNat)) (wT ta pa ra [(sc,.ro ns)])
include h56
theorem zQ{W:Wc}(w:gW F 24 W){m:Loc}(hm:Le (mW sc ta pa ra) m)(hK:∀m A F,K (.ret (.bool true)) m A F):aj (G (k+75)) [c71_15] m (wT ta pa ra [(sc,.ro ns)] W) F K:=by
 refine aj.pk [5] rfl DR (aj.ji (ao B (k+72)) [oI 0] ?_)
 show opt (look m 95) _
 rw[hm 95 (.ref sc) rfl]
 refine⟨rfl,4,min (max ((ns.length:Nat):Int) 16) 30,.inr rfl,⟨⟨by decide,by decide⟩,by lia,by lia⟩,JC sc ta pa ra ns,⟨by decide,hm,dF.fin W w (Vw.go [0] rfl jE (Vw.keep [1,1,1,1,1,0] rfl))⟩,λj m A F h hj=>?_⟩
 obtain⟨hj4,hm,hv⟩:=h
 split
 ·refine aj.Iv hv λW h=>aj.up (hm.put rfl) ?_
  show aj (G (k+75)) [c71e] [(95,.ref sc),(179,.ref ta),(175,.ref pa),(180,.ref ra),(96,.int j)] _ _ _
  refine aj.run (ao B (k+72)) [] ?_
  refine xc (p:=au (G (k+72+3)) 60 [.ref sc,.int j] [zL ta (W.hs.map rA),zL pa (W.hs.map rD),zL ra (W.rs.map rR),.raw W.lh,.raw W.lr,.raw [(sc,.ro ns)]] F λv A F=>qm (G (k+72+3)) cN [(95,.ref sc),(179,.ref ta),(175,.ref pa),(180,.ref ra),(96,.int j)] [.bin 0 (.int 100) (.var 96)] (St.mk A F []) λvs st=>eY (G (k+72+3)) cN 69 (V.ref ta::V.ref pa::V.ref ra::v::vs) [] [] st (KK.mk (λv st=>gq v st λt st=>ask (!t) st λt st=>sel t (xs (G (k+72+3)) cN 99 [[.ret CE.ff],[]] [(95,.ref sc),(179,.ref ta),(175,.ref pa),(180,.ref ra),(96,.int j)] st (cB (JC sc ta pa ra ns (j+1)) (Rest (G (k+72+3)) [c71_16] K) K)) (xs (G (k+72+3)) cN 99 [[],[]] [(95,.ref sc),(179,.ref ta),(175,.ref pa),(180,.ref ra),(96,.int j)] st (cB (JC sc ta pa ra ns (j+1)) (Rest (G (k+72+3)) [c71_16] K) K))) (some (jt (G (k+72+3)) [[],[]] [[.ret CE.ff],[]] [(95,.ref sc),(179,.ref ta),(175,.ref pa),(180,.ref ra),(96,.int j)] (cB (JC sc ta pa ra ns (j+1)) (Rest (G (k+72+3)) [c71_16] K) K))))) ?_
  refine au.pk [5] rfl DR (au.call [0] rfl (qX B (k+71) (by lia)) λz _=>?_)
  refine xc (p:=au (G (k+72+3)) 69 [.ref ta,.ref pa,.ref ra,.int z,.int (100+j)] [zC sc (.ro ns),zL ta (W.hs.map rA),zL pa (W.hs.map rD),zL ra (W.rs.map rR),.raw W.lh,.raw W.lr] F (jt (G (k+72+3)) [[],[]] [[.ret CE.ff],[]] [(95,.ref sc),(179,.ref ta),(175,.ref pa),(180,.ref ra),(96,.int j)] (cB (JC sc ta pa ra ns (j+1)) (Rest (G (k+72+3)) [c71_16] K) K))) ?_
  refine au.pk [0] rfl jE (au.vw (Vw.keep [1,1,1,1,1,0] rfl) (LC B h56 k h (by lia) λA1 F1 hv=>?_))
  show aj _ _ _ _ _ _
  refine aj.rn (ao B (k+72)) [] (p:=JC sc ta pa ra ns (j+1) [(95,.ref sc),(179,.ref ta),(175,.ref pa),(180,.ref ra),(96,.int j)] A1 F1) ?_
  exact⟨by lia,Le.app,by rw[show(j+1).toNat=j.toNat+1 by lia];exact hv⟩
 ·exact aj.Iv hv λW h=>Ea B k h (by lia) hm hK
theorem Eb{a i cl c T D:Nat}{j:Int}(hj:j<=24){x:MK}(P:MJ F T c x.t x.d x.es j)(hT:3<=T/\T<=1000)(hm:Le [(95,.ref sc),(110,.ref a),(171,.ref D)] m)(hK:∀m A F,K (.ret (.bool true)) m A F) :
  aj (G (k+75)) [c71_12] m (tL a i cl c T D io [(sc,.ro ns)] x) F K:=by
 refine aj.up hm (aj.pk [1] rfl DR ?_)
 show aj (G (k+75)) [c71_12] [(95,.ref sc),(110,.ref a),(171,.ref D)] [.k true (.ce cl (.list [])),.k true (.ob a 7 i (aC c false cl T x.t.a (flat x.t).length io)),.tr T c x.t,.k true (.ce D (.dict x.es)),.raw [(sc,.ro ns)]] F K
 refine aj.rn (ao B (k+72)) [] (p:=∀(q q_1:Nat),au (G (k+75)) 67 [.ref a,.int 0] [zL q_1 [.ref D],zL q [.ref a],zL cl [],zO a 7 i (aC c false cl T x.t.a (↑(List.length (flat x.t)):Int) io),.tr T c x.t,zD D x.es,.raw [(sc,.ro ns)]] F (bF (G (k+75)) 180 [c71_15] [(95,.ref sc),(110,.ref a),(171,.ref D),(179,.ref q),(175,.ref q_1)] K)) ?_
 refine λq q1=>au.call [3,2] rfl (Gb B (k+69)) λy _=>?_
 have P1:=P.d
 have P2:=P.l
 have ok:jf F 24 ⟨a,i,cl,c,T,false,io,x.t,x.d,y.x.p,D,x.es⟩:=⟨P.sh,P.sr,P.R,hT,by dsimp only;lia,by dsimp only;lia,P.c,nofun⟩
 show aj (G (k+75)) [c71_15] [(95,.ref sc),(110,.ref a),(171,.ref D),(179,.ref q),(175,.ref q1),(180,.ref y.l)] _ F K
 refine aj.Iv (p:=gW F 24) (A':=wT q q1 y.l [(sc,.ro ns)]) (dF.vw (Vw.pk [] rfl LK) (dF.bT [2,2,2,2,0] rfl (fW (gl:=[]) (gr:=[]) (pH a 0 true y.r y.q y.x).th zP) λlr1 p1=>dF.bT [2,2,2,2,0] rfl (fW (gl:=[(pH a 0 true y.r y.q y.x).th]) (gr:=[]) (pH a 0 false y.r' y.q' y.x').th p1) λlr2 p2 =>
  dF.vw (Vw.pk [] rfl LK) (dF.bT [3,3,6,5,0] rfl (fW (gl:=[]) (gr:=[]) (Hm.mk a i cl c T false io x.t x.d y.x.p D x.es).th zP) λlh1 q1'=>dF.fin ⟨[Hm.mk a i cl c T false io x.t x.d y.x.p D x.es],[pH a 0 true y.r y.q y.x,pH a 0 false y.r' y.q' y.x'],lh1,lr2⟩ ⟨⟨λh hh=>by rw[Rf.mp hh];exact ok,λw hw=>?_,⟨[],_,[],[⟨0,false,y.x'.p⟩],⟨rfl,Nat.zero_le _,rfl,rfl,λv hv _=>by rw[Rf.mp hv]⟩⟩,RN 2,⟨_,_,_,rfl⟩⟩,q1',p2⟩ (Vw.keep [4,3,2,0,0,0] rfl)))) λW w=>zQ B h56 k w (Le.cons rfl (Le.cons rfl (Le.cons rfl (Le.cons rfl Le.nil)))) hK
 rcases RJ.mp hw with rfl|hw
 ·exact⟨_,rfl,rfl,.inl ⟨false,rfl,_,_,_,_,rfl⟩⟩
 ·rw[Rf.mp hw];exact⟨_,rfl,rfl,.inl ⟨false,rfl,_,_,_,_,rfl⟩⟩
end
theorem aj.zR(h:gR Γ e m A F λv A1 F1=>aj Γ (r::rs) (put m x v) A1 F1 K):aj Γ ((.asg (.var x) e::r)::rs) m A F K:=λH Q X S q=>by
 refine⟨m,Le.refl _,?_⟩
 show DE Γ m e H (λv H=>gH Γ (r++rs.flatten) (put m x v) H Q X) λx H=>X x m H
 exact h H _ _ S λv A1 F1 H1 k S1=>k H1 Q X S1 q
section
variable{G:Nat->bI}(B:bD G)(h56:B56 G)(k:Nat){F:CL}{sc:Nat}{ns:List Int}{K:KS}
include B h56
theorem zU{a i cl c T D:Nat}{f fill od st sd:Int}(hT:3<=T/\T<=1000)(hs:0<=sd/\sd<=41)(hf:-1000000<=fill/\fill<=24){b:Nat}(hc:cI F c)(hm:Le (mL sc T a D f fill od st sd) m)(hK:∀m A F,K (.ret (.bool true)) m A F) :
  aj (G (k+75)) [c71_11] m [.k true (.ce D (.dict [])),.k true (.ob a 7 i (aC c false cl T b 0 io)),.k true (.ce cl (.list [])),.tr T c (.nd b true [] []),.k true (.ce sc (.ro ns))] F K:=by
 have e0:flat (.nd b true [] [])=[]:=by rw[aq,aN]
 refine DY B (k+2) (a:=a) (i:=i) (cl:=cl) (c:=c) (io:=io) (r:=[(sc,.ro ns)]) hT hs hf ⟨⟨.nd b true [] [],0,[]⟩,⟨hc,⟨rfl,RN _,Nat.zero_le _⟩,by rw[e0];exact List.Pairwise.nil,by rw[e0];exact⟨mJ (RG _) List.Pairwise.nil,λ_=>rfl⟩,Int.le_refl _,by rw[e0];exact Int.le_refl _⟩,?_,hm⟩ λj m A F hj h=>?_
 ·unfold tL
  dsimp only
  rw[e0]
  exact Vw.go [2] rfl jE (Vw.go [4] rfl jE (Vw.keep [3,1,2,1,0] rfl))
 ·obtain⟨x,P,hv,hm⟩:=h
  exact aj.vw hv (Eb B h56 k hj P hT (Le.cons (hm _ _ rfl) (Le.cons (hm _ _ rfl) (Le.cons (hm _ _ rfl) Le.nil))) hK)
theorem Ge{T:Nat}(hT:3<=T/\T<=1000){z:Int}(hK:∀m A F,K (.ret (.bool true)) m A F):aj (G (k+75)) [c71_3] [(95,.ref sc),(113,.int z),(1,.int T)] [.k true (.ce sc (.ro ns))] F K:=by
 refine aj.rn (ao B (k+72)) [] (p:=(0:Int)<2/\∀(a d:Nat),au (G (k+75)) 56 [.ref a,.int T,.none,.bool (decide (z % 2=1))] [zO a 7 d [],zC sc (.ro ns)] F λu A F=>gD u (bF (G (k+75)) 110 [c71_4] [(95,.ref sc),(113,.int z),(1,.int T)] K (.ref a) A F)) ?_
 refine⟨by decide,λa i=>au.nJ [0] rfl (K5 B (k+70) h56 hT.1) λx _=>?_⟩
 generalize decide (z % 2=1)=io
 have hc:cI (cl (.ob x.c 1 x.dc [])++F) x.c:=⟨x.dc,λp hp=>Q9 _ hp⟩
 show aj (G (k+75)) [c71_4] [(95,.ref sc),(113,.int z),(1,.int T),(110,.ref a)] _ _ K
 refine aj.zR (gR.run (ao B (k+72)) [] λD=>?_)
 refine aj.zR (gR.run (ao B (k+72)) [] ?_)
 refine xc (p:=au (G (k+72+3)) 60 [.ref sc,.int 1] [zD D [],zO a 7 i (aC x.c false x.cl T x.b 0 io),zL x.cl [],.tr T x.c (Tr.nd x.b true [] []),zC sc (.ro ns)] (cl (.ob x.c 1 x.dc [])++F) λv A F=>xe (G (k+72+3)) cN [(95,.ref sc),(113,.int z),(1,.int T),(110,.ref a),(171,.ref D)] (.int 25) (St.mk A F []) (KK.mk (λy st=>xH 4 v y st λy st=>xH 1 (.int 24) y st λv st=>aj (G (k+75)) [c71_6] (put (put [(95,.ref sc),(113,.int z),(1,.int T),(110,.ref a)] 171 (.ref D)) 185 v) (St.A st) (St.F st) K) none)) ?_
 refine au.call [4] rfl (qX B (k+71) (by decide)) λz1 _=>?_
 refine xc (p:=(0:Int)<25/\aj (G (k+75)) [c71_6] [(95,.ref sc),(113,.int z),(1,.int T),(110,.ref a),(171,.ref D),(185,.int (24 - z1 % 25))] [zC sc (.ro ns),zD D [],zO a 7 i (aC x.c false x.cl T x.b 0 io),zL x.cl [],.tr T x.c (Tr.nd x.b true [] [])] (cl (.ob x.c 1 x.dc [])++F) K) ?_
 refine⟨by decide,?_⟩
 refine aj.zR (gR.run (ao B (k+72)) [] ?_)
 refine xc (p:=au (G (k+72+3)) 60 [.ref sc,.int 2] [zC sc (.ro ns),zD D [],zO a 7 i (aC x.c false x.cl T x.b 0 io),zL x.cl [],.tr T x.c (Tr.nd x.b true [] [])] (cl (.ob x.c 1 x.dc [])++F) λv A F=>xe (G (k+72+3)) cN [(95,.ref sc),(113,.int z),(1,.int T),(110,.ref a),(171,.ref D),(185,.int (24 - z1 % 25))] (.int 3) (St.mk A F []) (KK.mk (λy st=>xH 4 v y st λv st=>aj (G (k+75)) [c71_7] (put [(95,.ref sc),(113,.int z),(1,.int T),(110,.ref a),(171,.ref D),(185,.int (24 - z1 % 25))] 186 v) (St.A st) (St.F st) K) none)) ?_
 refine au.call [0] rfl (qX B (k+71) (by decide)) λz2 _=>?_
 refine xc (p:=(0:Int)<3/\aj (G (k+75)) [c71_7] [(95,.ref sc),(113,.int z),(1,.int T),(110,.ref a),(171,.ref D),(185,.int (24 - z1 % 25)),(186,.int (z2 % 3))] [zC sc (.ro ns),zD D [],zO a 7 i (aC x.c false x.cl T x.b 0 io),zL x.cl [],.tr T x.c (Tr.nd x.b true [] [])] (cl (.ob x.c 1 x.dc [])++F) K) ?_
 refine⟨by decide,?_⟩
 have hf:-1000000<=24 - z1 % 25/\24 - z1 % 25<=24:=by lia
 generalize 24 - z1 % 25=fill at hf
 generalize z2 % 3=od
 cases h1:decide (od=1) with
 | true =>
  have h2:decide (od=2)=false:=Rr (by have:=Rj h1;lia)
  refine aj.rn (ao B (k+72)) [oB true,oB false] (p:=decide (od=1)=true/\decide (od=2)=false/\aj (G (k+75)) [c71_11] [(95,.ref sc),(113,.int z),(1,.int T),(110,.ref a),(171,.ref D),(185,.int fill),(186,.int od),(115,.int 40),(187,.int 40)] [zC sc (.ro ns),zD D [],zO a 7 i (aC x.c false x.cl T x.b 0 io),zL x.cl [],.tr T x.c (Tr.nd x.b true [] [])] (cl (.ob x.c 1 x.dc [])++F) K) ?_
  exact⟨h1,h2,aj.vw (Vw.keep [1,1,1,1,0] rfl) (zU B h56 k (st:=40) (sd:=40) hT (by decide) hf hc (Le.refl _) hK)⟩
 | false =>
 cases h2:decide (od=2) with
 | true =>
  refine aj.rn (ao B (k+72)) [oB false,oB true] (p:=decide (od=1)=false/\decide (od=2)=true/\au (G (k+75)) 60 [.ref sc,.int 3] [zC sc (.ro ns),zD D [],zO a 7 i (aC x.c false x.cl T x.b 0 io),zL x.cl [],.tr T x.c (Tr.nd x.b true [] [])] (cl (.ob x.c 1 x.dc [])++F) (bF (G (k+75)) 192 [c71c_1,c71_11] [(95,.ref sc),(113,.int z),(1,.int T),(110,.ref a),(171,.ref D),(185,.int fill),(186,.int od),(115,.int 0),(187,.int 1)] K)) ?_
  refine⟨h1,h2,au.call [0] rfl (qX B (k+71) (by decide)) λz3 _=>?_⟩
  refine aj.rn (ao B (k+72)) [] (p:=((0:Int)<40/\(40:Int)<1000000000)/\(0:Int)<41/\(0:Int)<40/\aj (G (k+75)) [c71_11] [(95,.ref sc),(113,.int z),(1,.int T),(110,.ref a),(171,.ref D),(185,.int fill),(186,.int od),(115,.int (z3 / 40 % 41)),(187,.int (1+z3 % 40)),(192,.int z3)] [zC sc (.ro ns),zD D [],zO a 7 i (aC x.c false x.cl T x.b 0 io),zL x.cl [],.tr T x.c (Tr.nd x.b true [] [])] (cl (.ob x.c 1 x.dc [])++F) K) ?_
  exact⟨by decide,by decide,by decide,aj.vw (Vw.keep [1,1,1,1,0] rfl) (zU B h56 k hT (by lia) hf hc Le.app hK)⟩
 | false =>
  refine aj.rn (ao B (k+72)) [oB false,oB false] (p:=decide (od=1)=false/\decide (od=2)=false/\aj (G (k+75)) [c71_11] [(95,.ref sc),(113,.int z),(1,.int T),(110,.ref a),(171,.ref D),(185,.int fill),(186,.int od),(115,.int 0),(187,.int 1)] [zC sc (.ro ns),zD D [],zO a 7 i (aC x.c false x.cl T x.b 0 io),zL x.cl [],.tr T x.c (Tr.nd x.b true [] [])] (cl (.ob x.c 1 x.dc [])++F) K) ?_
  exact⟨h1,h2,aj.vw (Vw.keep [1,1,1,1,0] rfl) (zU B h56 k (st:=0) (sd:=1) hT (by decide) hf hc (Le.refl _) hK)⟩
theorem LQ{K:KV}(hK:∀A F,K (.bool true) A F):au (G (k+76)) 71 [.ref sc] [.k true (.ce sc (.ro ns))] F K:=by
 refine au.of (B (k+75) 71 c71 rfl) ?_
 show aj (G (k+75)) [c71] [(95,.ref sc)] [.k true (.ce sc (.ro ns))] F _
 refine aj.zR (gR.run (ao B (k+72)) [] ?_)
 refine xc (p:=au (G (k+72+3)) 60 [.ref sc,.int 0] [zC sc (.ro ns)] F λv A F=>aj (G (k+75)) [c71_1] (put [(95,.ref sc)] 113 v) A F λfl x A F=>K (Fl.val fl) A F) ?_
 refine au.call [0] rfl (qX B (k+71) (by decide)) λz _=>?_
 refine xc (p:=aj (G (k+75)) [c71_1] [(95,.ref sc),(113,.int z)] [zC sc (.ro ns)] F λfl x A F=>K (Fl.val fl) A F) ?_
 cases h:decide (z % 5=4) with
 | true =>
  refine aj.run (ao B (k+72)) [oB true,bM] ?_
  refine xc (p:=(0:Int)<5/\decide (z % 5=4)=true/\aj (G (k+72+3)) [[.asg (.var 1) (.int 4)],c71_3] [(95,.ref sc),(113,.int z),(1,.int 3)] [zC sc (.ro ns)] F λfl x A F=>K (Fl.val fl) A F) ?_
  exact⟨by decide,h,aj.zR (gR.run (ao B (k+72)) [] (Ge B h56 k (T:=4) (by decide) λm A F=>hK A F))⟩
 | false =>
  refine aj.run (ao B (k+72)) [oB false,bM] ?_
  refine xc (p:=(0:Int)<5/\decide (z % 5=4)=false/\aj (G (k+72+3)) [c71_3] [(95,.ref sc),(113,.int z),(1,.int 3)] [zC sc (.ro ns)] F λfl x A F=>K (Fl.val fl) A F) ?_
  exact⟨by decide,h,Ge B h56 k (T:=3) (by decide) λm A F=>hK A F⟩
end
section
open PySem PySem.W PySem.Calls PyProof.Rows
noncomputable def Px:List Nat:=[21,35,49,56,84,91,98,105,112,119,126,133,140,147,154,161,168,175,182,189,196,203,210,217,224,231,252,259,266,273,280,287,294,301,309,316,323,358,365,372,380,387,394,401,408,415,422,429,436,443,450,471,478,485,492,499,521,528,535,542,555,562,569,576,583,590,597,604,611,618,625,632]
noncomputable def Qq:List Nat:=[38,66,234,326,340,453,502,545]
def fnAt(i:Nat):Addr:=(Px[i]?).getD 0
def dG(i:Nat):Addr:=(Qq[i]?).getD 0
def qY:CX:=CX.mk ([(24,.fn 2),(25,.fn 3),(33,.fn 60),(161,.fn 61),(162,.fn 62),(163,.fn 63),(164,.fn 64),(165,.fn 65),(166,.fn 66),(167,.fn 67),(168,.fn 68),(169,.fn 69),(170,.fn 70),(39,.fn 71),(26,.cls 1),(27,.cls 2),(28,.cls 3),(31,.cls 6),(32,.cls 7)]++builtins)
 [(93,[0,0,0,47,820,98,144,9,12,49,10,51,11,248,96,78,171,33,73,1481,86,1207,82,47,180,4000,158,536,45,133])] 37
variable(p:Params)
theorem c_1:j4 (KF p) (dG 1)=true:=by kernel_rfl
theorem c_2:j4 (KF p) (dG 2)=true:=by kernel_rfl
theorem Qs:j4 (KF p) (dG 3)=true:=by kernel_rfl
theorem Qt:j4 (KF p) (dG 6)=true:=by kernel_rfl
theorem Qu:j4 (KF p) (dG 7)=true:=by kernel_rfl
theorem m_1:dK (KF p) fnAt (dG 1) ((iR[1]?).getD [])=true:=by kernel_rfl
theorem m_2:dK (KF p) fnAt (dG 2) ((iR[2]?).getD [])=true:=by kernel_rfl
theorem Qv:dK (KF p) fnAt (dG 3) ((iR[3]?).getD [])=true:=by kernel_rfl
theorem Qw:dK (KF p) fnAt (dG 6) ((iR[6]?).getD [])=true:=by kernel_rfl
theorem Qx:dK (KF p) fnAt (dG 7) ((iR[7]?).getD [])=true:=by kernel_rfl
theorem Qy:findIn (KF p) (.ref (dG 2)) "__len__" = some none:=by kernel_rfl
theorem Qz:findIn (KF p) (.ref (dG 2)) "__bool__" = some none:=by kernel_rfl
theorem QC:findIn (KF p) (.ref (dG 1)) "__init__" = some (some (.builtin "object.__init__")):=by kernel_rfl
theorem Nz:nsIn (KF p) mainGlobals "range" = some none:=by kernel_rfl
end
section
open PySem PySem.W PySem.Calls PyProof.Rows
def LR(K:Frag)(fn cls:Nat->Addr)(n:Nat):GK->Bool
 | .fn f=>match nP[n]? with|some y=>(nsIn K mainGlobals y==some (some (.ref (fn f))))&&keepIn K (.ref (fn f))&&fnIn K (fn f)|none=>false
 | .cls c=>match nP[n]? with|some y=>(nsIn K mainGlobals y==some (some (.ref (cls c))))&&keepIn K (.ref (cls c))|none=>false
 | .bi b=>match nP[n]? with|some y=>(match pJ b with|some (z,_)=>z==y|none=>false)&&(nsIn K mainGlobals y==some none)|none=>false
def Ec(K:Frag)(fn cls:Nat->Addr):GT->Bool
 | []=>true
 | q::r=>LR K fn cls q.1 q.2&&Ec K fn cls r
theorem kY{K:Frag}{fn cls:Nat->Addr}:∀{l:GT},Ec K fn cls l=true->∀{n:Nat} {g:GK},look l n=some g->LR K fn cls n g=true
 | [],_,_,_,e=>by cases e
 | q::r,h,n,g,e=>by
  unfold Ec at h
  rw[Ro] at h
  unfold look at e
  cases z:Nat.beq q.1 n with
  | true=>rw[z] at e;cases e;rw[aJ z] at h;exact h.1
  | false=>rw[z] at e;exact kY h.2 e
noncomputable def pF:List Value->List Int->Bool
 | [],[]=>true
 | .int i _::r,n::ns=>decide (i=n)&&pF r ns
 | _,_=>false
theorem nM:∀{vs:List Value} {ns:List Int},pF vs ns=true->IntsAre vs ns
 | [],[],_=>.nil
 | .int i t::r,n::ns,h=>by
  have h:(decide (i=n)&&pF r ns)=true:=h
  rw[Ro,decide_eq_true_eq] at h
  rw[h.1]
  exact .cons n t (nM h.2)
def zV(K:Frag)(n:Nat)(g:List Int):Bool:=match nP[n]? with
 | some y=>match nsIn K mainGlobals y with
  | some (some (.ref a))=>match K.lookup a with
   | some ⟨.type T,_,.seq its _,_⟩=>T == "tuple" && pF its.toList g&&Nat.ble g.length 1000000
   | _=>false
  | _=>false
 | none=>false
set_option tactic.hygienic true in
theorem zW{K:Frag}{g:List Int}(h:zV K n g=true):∃y a l dd sl j,nP[n]?=some y/\nsIn K mainGlobals y=some (some (.ref a))/\K.lookup a=some ⟨.type "tuple",dd,.seq l.toArray j,sl⟩/\IntsAre l g/\g.length<=1000000:=by
 unfold zV at h
 split at h
 ·rename_i y hy
  split at h
  ·rename_i a ha
   split at h
   ·rename_i T dd its j sl hl
    simp only [Ro,RV] at h
    obtain⟨⟨rfl,h2⟩,h3⟩:=h
    exact⟨y,a,its.toList,dd,sl,j,hy,ha,by rw[hl],nM h2,Q6 h3⟩
   ·cases h
  ·cases h
 ·cases h
variable(p:Params)
theorem sZ:Ec (KF p) fnAt dG qY.gs=true:=by kernel_rfl
theorem Ed:zV (KF p) 93 [0,0,0,47,820,98,144,9,12,49,10,51,11,248,96,78,171,33,73,1481,86,1207,82,47,180,4000,158,536,45,133]=true:=by kernel_rfl
end
section
open PySem PySem.W PySem.Calls PyProof.Rows
noncomputable def Ef{α:Type}(K:Frag):Nat->Sem α->Option α
 | 0,_=>none
 | n+1,m=>match m with
  | .pure a=>some a
  | .load a _ k=>(K.lookup a).bind λo=>Ef K n (k o)
  | _=>none
theorem uW{α:Type}{K:Frag}{M:Model}{A:Around}{E:Value->Shared->Prop}{s:Shared}{Q:α->Shared->Prop}(X:K.In s.heap):∀{n:Nat} {m:Sem α} {a:α},Ef K n m=some a->Q a s->wpAny M A m Q E s
 | 0,m,a,h,q=>by cases h
 | n+1,m,a,h,q=>by
  cases m with
  | pure b=>cases h;exact RT q
  | load b p k =>
   obtain⟨o,ho,h⟩:=bind_some (show(K.lookup b).bind _=some a from h)
   exact RQ (m:=loadPart b p) (wpAny_loadPart (X _ _ ho) (uW X h q))
  | _=>cases h
noncomputable def vars(v:Nat->Value):Nat->Nat->List Value
 | 0,_=>[]
 | n+1,i=>v i::vars v n (i+1)
theorem uX(v:Nat->Value):∀(vs:List Value) (i:Nat),(∀j,j<vs.length->v (i+j)=vs.getD j .none)->vars v vs.length i=vs
 | [],_,_=>rfl
 | x::vs,i,h=>by
  have e:v i=x:=h 0 (Nat.succ_pos _)
  show v i::vars v vs.length (i+1)=_
  rw[e,uX v vs (i+1) λj hj=>by rw[Nat.add_right_comm];exact h (j+1) (Nat.succ_lt_succ hj)]
theorem uY(vs:List Value):vars (λi=>vs.getD i .none) vs.length 0=vs:=uX _ vs 0 λj _=>by rw[Nat.zero_add]
noncomputable def Jb(tk:Tok):V->Value
 | .none=>.none
 | .bool b=>.bool b
 | .int i=>.int i tk
 | .ref a=>.ref a
theorem Eh(tk:Tok)(u:V):bY (Jb tk u) u:=by cases u<;>first|rfl|trivial
def j9(tk:Tok):List (Nat × Option V)->List Value->List (Nat × Value)->Option (List (Str × Value))
 | [],[],_=>some []
 | [],_::_,_=>none
 | q::r,v::vs,kw=>(j9 tk r vs kw).map λb=>(iV q.1,v)::b
 | q::r,[],kw=>match look kw q.1 with
  | some v=>(j9 tk r [] kw).map λb=>(iV q.1,v)::b
  | none=>q.2.bind λu=>(j9 tk r [] kw).map λb=>(iV q.1,Jb tk u)::b
theorem qZ{x:Nat}:∀{kn:List Nat} {ws:List Value} {kv:List V},aK ws kv->(look (kn.zip ws) x=none/\look (kn.zip kv) x=none)\/∃w u,look (kn.zip ws) x=some w/\look (kn.zip kv) x=some u/\bY w u
 | [],_,_,_=>.inl ⟨rfl,rfl⟩
 | _::_,_,_,.nil=>.inl ⟨rfl,rfl⟩
 | k::kn,_,_,.cons (v:=v) (x:=u) h hr=>by
  show(look ((k,v)::kn.zip _) x=none/\look ((k,u)::kn.zip _) x=none)\/_
  cases q:Nat.beq k x with
  | true=>exact .inr ⟨v,u,by show(match Nat.beq k x with|true=>some v|false=>_)=_;rw[q],by show(match Nat.beq k x with|true=>some u|false=>_)=_;rw[q],h⟩
  | false =>
   have e1:∀{α:Type} (z:α) (l:List (Nat × α)),look ((k,z)::l) x=look l x:=λz l=>by show(match Nat.beq k x with|true=>some z|false=>look l x)=_;rw[q]
   rewrite [e1,e1]
   show _\/∃w u',look ((k,v)::kn.zip _) x=some w/\look ((k,u)::kn.zip _) x=some u'/\_
   rewrite [e1,e1]
   exact qZ hr
theorem kZ(tk:Tok){kn:List Nat}{ws:List Value}{kv:List V}(hw:aK ws kv):∀{ps:List (Nat × Option V)} {vs:List Value} {pos us:List V},aK vs pos->(ps.all λq=>idOf (iV q.1)==some q.1)=true->gG ps pos (kn.zip kv)=some us->∃bs,j9 tk ps vs (kn.zip ws)=some bs/\fZ bs ps us
 | [],_,_,us,.nil,_,h=>by cases h;exact⟨[],rfl,.nil⟩
 | [],_,_,_,.cons _ _,_,h=>by cases h
 | (x,d)::r,_,_,us,.cons hv hr,hp,h=>by
  rw[List.all_cons,Ro,RV] at hp
  obtain⟨b,hb,rfl⟩:=map_some h
  obtain⟨bs,h1,h2⟩:=kZ tk hw hr hp.2 hb
  exact⟨(iV x,_)::bs,by show(j9 tk r _ _).map _=_;rw[h1];rfl,.cons hp.1 hv h2⟩
 | (x,d)::r,_,_,us,.nil,hp,h=>by
  rw[List.all_cons,Ro,RV] at hp
  have h:(match look (kn.zip kv) x with|some v=>(gG r [] (kn.zip kv)).map (v::·)|none=>match (generalizing:=false) d with|some v=>(gG r [] (kn.zip kv)).map (v::·)|none=>none)=some us:=h
  rcases qZ (x:=x) hw with ⟨e1,e2⟩|⟨w,u,e1,e2,hu⟩
  ·rw[e2] at h
   cases d with
   | none=>cases h
   | some z =>
    obtain⟨b,hb,rfl⟩:=map_some h
    obtain⟨bs,h1,h2⟩:=kZ tk hw .nil hp.2 hb
    exact⟨(iV x,Jb tk z)::bs,by show(match look (kn.zip ws) x with|some _=>_|none=>_)=_;rw[e1];show(j9 tk r [] _).map _=_;rw[h1];rfl,.cons hp.1 (Eh tk z) h2⟩
  ·rw[e2] at h
   obtain⟨b,hb,rfl⟩:=map_some h
   obtain⟨bs,h1,h2⟩:=kZ tk hw .nil hp.2 hb
   exact⟨(iV x,w)::bs,by show(match look (kn.zip ws) x with|some _=>_|none=>_)=_;rw[e1];show(j9 tk r [] _).map _=_;rw[h1];rfl,.cons hp.1 hu h2⟩
theorem gA.map{ys:List Str}{kn:List Nat}(h:gA ys kn):ys=kn.map iV:=by
 induction h with
 | nil=>rfl
 | cons h _ ih =>
  rw[RK,<-ih]
  rw[tD h]
noncomputable def fdOf(K:Frag)(a:Addr):Option FuncData:=(K.lookup a).bind λo=>match o.data with
 | .func fd=>some fd
 | _=>none
theorem Ei{K:Frag}{a:Addr}{fo:Obj}{fd:FuncData}(h:K.lookup a=some fo)(hd:fo.data=.func fd):fdOf K a=some fd:=by
 unfold fdOf
 rw[h]
 show(match fo.data with | .func fd=>some fd|_=>none)=_
 rw[hd]
noncomputable def zX:List (Nat × Nat × List Nat):=[(37,1,[1,138]),(56,1,[1,12]),(56,1,[1]),(56,1,[138,12]),(56,1,[138]),(40,2,[]),(40,3,[]),(34,2,[]),(34,3,[])]
def calls:List (Nat × Nat × List Nat):=zX++(List.range 72).map λf=>(f,if Nat.beq f 37 || Nat.beq f 56 then 0 else (cU f).length,[])
theorem iH{c:Nat × Nat × List Nat}(h:zX.contains c=true):c∈calls:=Q9 _ (List.contains_iff_mem.mp h)
set_option tactic.hygienic true in
theorem zY{f np:Nat}{kn:List Nat}(hf:f<72)(h:mY f np kn=true):(f,np,kn)∈calls:=by
 unfold mY at h
 split at h
 ·rw[Ro,RV] at h
  obtain⟨a,rfl⟩:=h
  exact iH (by rw[aJ a];rfl)
 ·simp only [Ro,Bool.or_eq_true,RV] at h
  obtain⟨a,h⟩:=h
  rcases h with ((rfl|rfl)|rfl)|rfl<;>exact iH (by rw[aJ a];rfl)
 ·simp only [Ro,Bool.or_eq_true,List.isEmpty_iff] at h
  obtain⟨a,rfl⟩:=h
  rcases a with a|a<;>exact iH (by rw[aJ a];rfl)
 ·simp only [Ro,Bool.or_eq_true,List.isEmpty_iff] at h
  obtain⟨a,rfl⟩:=h
  rcases a with a|a<;>exact iH (by rw[aJ a];rfl)
 ·rename_i h1 h2 h3 h4
  rw[Ro,List.isEmpty_iff] at h
  obtain⟨a,rfl⟩:=h
  refine QZ _ (List.mem_map.mpr ⟨f,List.mem_range.mpr hf,?_⟩)
  rw[aJ a,aW (λe=>h1 e),aW (λe=>h2 e)]
  rfl
theorem Jc:(Gg.all λps=>ps.all λq=>idOf (iV q.1)==some q.1)=true:=by decide +kernel
theorem Jd(f:Nat):((cU f).all λq=>idOf (iV q.1)==some q.1)=true:=by
 unfold cU
 cases h:Gg[f]? with
 | none=>rfl
 | some ps=>exact List.all_eq_true.mp Jc ps (List.mem_of_getElem? h)
variable(p:Params)
def eV(f:Nat):FuncData:=(fdOf (KF p) (fnAt f)).getD default
def Ma:Tok:=match Ef (KF p) 60 (bindArgs (eV p 56) ⟨[.none],[(iV 138,.none)]⟩) with
 | some (_::(_,.int _ t)::_)=>t
 | _=>0
def Je(v w:Nat->Value)(c:Nat × Nat × List Nat):Option (List (Str × Value)):=Ef (KF p) 60 (bindArgs (eV p c.1) ⟨vars v c.2.1 0,(c.2.2.map iV).zip (vars w c.2.2.length 0)⟩)
def Mf(v w:Nat->Value)(c:Nat × Nat × List Nat):Option (List (Str × Value)):=if (Nat.beq c.1 37 || Nat.beq c.1 56)&&c.2.2.isEmpty then Je p v w c else j9 (Ma p) (cU c.1) (vars v c.2.1 0) (c.2.2.zip (vars w c.2.2.length 0))
theorem vV(v w:Nat->Value):calls.map (Je p v w)=calls.map (Mf p v w):=by kernel_rfl
theorem Oc:fdOf (KF p) 0=none:=by kernel_rfl
theorem Mg{f:Nat}(h:¬f<72):fnAt f=0:=by
 unfold fnAt
 rw[Q7 (by show Px.length<=f;exact Nat.le_of_not_lt h)];rfl
set_option tactic.hygienic true in
theorem s7{f:Nat}{pos kv us:List V}{kn:List Nat}(h:mZ f pos kn kv=some us):mY f pos.length kn=true/\kn.length=kv.length/\gG (cU f) pos (kn.zip kv)=some us:=by
 unfold mZ at h
 split at h
 ·rename_i q
  rw[Ro] at q
  exact⟨q.1,aJ q.2,h⟩
 ·cases h
set_option tactic.hygienic true in
theorem Jf{f np:Nat}{kn:List Nat}(h:mY f np kn=true):((Nat.beq f 37 || Nat.beq f 56)&&kn.isEmpty)=false:=by
 unfold mY at h
 split at h
 ·rw[Ro,RV] at h
  obtain⟨a,rfl⟩:=h
  rfl
 ·simp only [Ro,Bool.or_eq_true,RV] at h
  obtain⟨a,h⟩:=h
  rcases h with ((rfl|rfl)|rfl)|rfl<;>rfl
 ·rfl
 ·rfl
 ·rename_i h1 h2 h3 h4
  rw[aW (λe=>h1 e),aW (λe=>h2 e)]
  rfl
theorem Ej:∀f fo fd,(KF p).lookup (fnAt f)=some fo->fo.data=.func fd->∀pos vs kn ys kv ws us,aK vs pos->gA ys kn->aK ws kv->mZ f pos kn kv=some us ->
  ∃binds,(∀s':Shared,(KF p).In s'.heap->BindsTo s' fd ⟨vs,ys.zip ws⟩ binds)/\fZ binds (cU f) us:=by
 intro f fo fd h1 h2 pos vs kn ys kv ws us hv hy hw h
 have e:=Ei h1 h2
 by_cases hf:f<72
 ·obtain⟨g1,g2,g3⟩:=s7 h
  obtain⟨bs,b1,b2⟩:=kZ (Ma p) (kn:=kn) hw hv (Jd f) g3
  have k:=List.map_inj_left.mp (vV p (λi=>vs.getD i .none) (λi=>ws.getD i .none)) _ (zY hf g1)
  unfold Je Mf at k
  dsimp only at k
  rw[Jf g1,if_neg Bool.false_ne_true,g2,<-hv.length,<-hw.length,uY,uY,b1,<-hy.map] at k
  refine⟨bs,λs' X M A E Q q=>?_,b2⟩
  unfold eV at k
  rw[e] at k
  exact uW X k q
 ·rw[Mg hf,Oc] at e
  cases e
end
section
open PySem PySem.W PySem.Calls PyProof.Rows
theorem nO(h:eX c=true):c=1\/c=2\/c=3\/c=6\/c=7:=by
 unfold eX at h
 simp only [Bool.or_eq_true] at h
 rcases h with (((h|h)|h)|h)|h<;>(have:=aJ h;lia)
set_option tactic.hygienic true in
theorem Jg(Z:Setup)(p:Params)(hK:Z.K=KF p)(hc:Z.cls=dG)(hf:Z.fn=fnAt)(hx:Z.cx=qY)(hbig:sysModules<Z.h0.objs.size):Ml Z where
 cls:=λc h=>by
  rw[hK,hc]
  rcases nO h with rfl|rfl|rfl|rfl|rfl
  ·exact c_1 p
  ·exact c_2 p
  ·exact Qs p
  ·exact Qt p
  ·exact Qu p
 meth:=λc h=>by
  rw[hK,hc,hf]
  rcases nO h with rfl|rfl|rfl|rfl|rfl
  ·exact m_1 p
  ·exact m_2 p
  ·exact Qv p
  ·exact Qw p
  ·exact Qx p
 bind:=by rw[hK,hf];exact Ej p
 len:=by rw[hK,hc];exact Qy p
 bool:=by rw[hK,hc];exact Qz p
 fns:=λn f h=>by
  rw[hx] at h
  have g:=kY (sZ p) h
  rw[hK,hf]
  unfold LR at g
  dsimp only at g
  split at g
  ·rename_i y hy
   simp only [Ro,RV] at g
   exact⟨y,hy,g.1.1,g.1.2,g.2⟩
  ·cases g
 clss:=λn c h=>by
  rw[hx] at h
  have g:=kY (sZ p) h
  rw[hK,hc]
  unfold LR at g
  dsimp only at g
  split at g
  ·rename_i y hy
   simp only [Ro,RV] at g
   exact⟨y,hy,g.1,g.2⟩
  ·cases g
 bis:=λn b h=>by
  rw[hx] at h
  have g:=kY (sZ p) h
  rw[hK]
  unfold LR at g
  dsimp only at g
  split at g
  ·rename_i y hy
   rw[Ro] at g
   obtain⟨g1,g2⟩:=g
   split at g1
   ·rename_i z v hz
    obtain rfl:=RV.mp g1
    exact⟨z,v,hy,hz,RV.mp g2⟩
   ·cases g1
  ·cases g
 range:=by rw[hK];exact Nz p
 big:=hbig
 wu:=by rw[hK,hc];exact QC p
 tabs:=λn g h=>by
  rw[hx] at h
  have h:(match Nat.beq 93 n with|true=>some _|false=>none)=some g:=h
  split at h
  ·rename_i q
   cases h
   rw[hK,<-aJ q]
   exact zW (Ed p)
  ·cases h
end
section
open PySem PySem.W PySem.Calls PyProof.Rows
noncomputable def bodyOf(fd:FuncData):List Stmt:=match fd.body with
 | .stmts b=>b
 | _=>[]
def Py(K:Frag)(f:Nat)(fd:FuncData):Prop:=Ac K f fd/\(match fd.body with | .stmts _=>true|_=>false)=true
def decP(K:Frag)(f:Nat)(fd:FuncData):Decidable (Py K f fd):=by unfold Py Ac;infer_instance
noncomputable def zZ:List Nat:=[2,3,4,5,6,7,8,9,10,11,12,13,14,15,16,17,18,20,21,24,25,26,27,28,29,30,31,32,33,34,35,36,37,38,39,40,41,42,43,45,48,49,51,52,53,56,57,58,59,60,61,62,63,64,65,66,67,68,69,70,71]
def z6(K:Frag):Bool:=zZ.all λf=>match fdOf K (fnAt f) with
 | some fd=>@decide _ (decP K f fd)
 | none=>false
def Pz(K:Frag)(f:Nat):Option (List CS):=(fdOf K (fnAt f)).bind λfd=>JQ qY fd.scope (bodyOf fd)
variable(p:Params)
theorem uZ:z6 (KF p)=true:=by kernel_rfl
theorem z7:((plainsOf vw (looseW vw looseL)).find? λc=>c.name==("_Node" : Str)).map (·.cmpNames)=some (["__eq__", "__ne__"]:List Str):=by decide +kernel
theorem Jh:tab.map (λq=>Pz (KF p) q.1)=tab.map (λq=>some q.2):=by kernel_rfl
end
section
open PySem PySem.W PySem.Calls PyProof.Rows
theorem q7{K:Frag}(h:fdOf K a=some fd):∃fo,K.lookup a=some fo/\fo.data=.func fd:=by
 obtain⟨o,ho,h⟩:=bind_some h
 obtain⟨c,d,dt,sl⟩:=o
 cases dt<;>first|(cases h;done)|(cases h;exact⟨_,ho,rfl⟩)
theorem z8{K:Frag}(h:z6 K=true){f:Nat}(hf:f∈zZ){fd:FuncData}(e:fdOf K (fnAt f)=some fd):Ac K f fd/\fd.body=.stmts (bodyOf fd):=by
 have h1:=List.all_eq_true.mp h f hf
 rw[e] at h1
 obtain⟨h2,h3⟩:=@Rj _ (decP K f fd) h1
 refine⟨h2,?_⟩
 unfold bodyOf
 cases hb:fd.body with
 | stmts b=>rfl
 | expr e=>rw[hb] at h3;cases h3
set_option tactic.hygienic true in
theorem u5:∀{l:List (Nat × α)} {n:Nat} {x:α},look l n=some x->(n,x)∈l
 | [],_,_,h=>by cases h
 | q::r,n,x,h=>by
  have h:(match Nat.beq q.1 n with|true=>some q.2|false=>look r n)=some x:=h
  split at h
  ·rename_i e
   cases h
   rw[<-aJ e]
   exact .head _
  ·exact .tail _ (u5 h)
theorem z9:(tab.all λq=>zZ.contains q.1)=true:=by decide +kernel
theorem Ek{Z:Setup}{p:Params}(hK:Z.K=KF p)(hfn:Z.fn=fnAt)(hx:Z.cx=qY):bD (Call Z):=λk f c hl us H Q X q=>by
 have hm:=u5 hl
 have hc:Pz Z.K f=some c:=by rw[hK];exact List.map_inj_left.mp (Jh p) (f,c) hm
 obtain⟨fd,e,hc⟩:=bind_some hc
 obtain⟨fo,ho,hd⟩:=q7 e
 obtain⟨h1,h2⟩:=z8 (by rw[hK];exact uZ p) (List.contains_iff_mem.mp (List.all_eq_true.mp z9 (f,c) hm)) e
 rw[<-hx] at hc
 exact Call.of h1 (by rw[hfn];exact ho) hd h2 hc q
end
section
open PySem PySem.W PySem.Calls PyProof.Rows
def Gf:EV->Expr × List Keyword × Pos
 | .call f _ ks p=>(f,ks,p)
 | w=>(w.e,[],default)
def Mh:EV->Expr × Pos
 | .attr v _ p=>(v,p)
 | w=>(w.e,default)
noncomputable def Od:EV->Pos
 | .nm _ p=>p
 | _=>default
noncomputable def exprD:SV->Expr × Pos
 | .exp e p=>(e,p)
 | _=>(.Tuple [] 0 default,default)
def Aa(l:List (Str × Addr)):Option Addr:=(one l).bind λq=>if q.1==Str.ofString "__class__" then some q.2 else none
theorem s8(h:Aa l=some c):l=[(Str.ofString "__class__",c)]:=by
 obtain⟨q,hq,h⟩:=bind_some h
 obtain rfl:=gP hq
 rcases aO h with ⟨e,h⟩|⟨_,h⟩<;>cases h
 rw[<-RV.mp e]
noncomputable def refOf:Value->Option Addr
 | .ref a=>some a
 | _=>none
theorem tu(h:refOf v=some a):v=.ref a:=by
 cases v<;>first|(cases h;done)|(cases h;rfl)
noncomputable def Ji:Data->Array Value
 | .fields vs=>vs
 | _=>#[]
noncomputable def Oe:Option Value->Tok
 | some (.str _ t)=>t
 | _=>0
variable(p:Params)
theorem u6:fdOf (KF p) (fnAt 56)=some (eV p 56):=by kernel_rfl
def x56:Expr × Pos:=exprD (MN ((bodyOf (eV p 56)).headD (.Pass default)))
def JD:Expr × List Keyword × Pos:=Gf (mX (x56 p).1)
def Og:Expr × Pos:=Mh (mX (JD p).1)
def PB:Expr × List Keyword × Pos:=Gf (mX (Og p).1)
theorem Jj:bodyOf (eV p 56)=.Expr (.Call (.Attribute (.Call (.Name "super" (Od (mX (PB p).1))) [] [] (PB p).2.2) "__init__" (Og p).2) [] (JD p).2.1 (JD p).2.2) (x56 p).2::(bodyOf (eV p 56)).tail:=by kernel_rfl
theorem Jk:JK (cE qY 40 (eV p 56).scope) (JD p).2.1=some ([1,138],[.var 1,.var 138]):=by kernel_rfl
theorem Jl:dO (Og p).2 (JD p).2.2=true:=by kernel_rfl
theorem Jm:Nat.blt (JD p).2.1.length 20=true:=by kernel_rfl
theorem Jo:JQ qY (eV p 56).scope (bodyOf (eV p 56)).tail=some [.asg (.attr (.var 0) 12) (.var 12)]:=by kernel_rfl
def El:Addr:=(refOf (eV p 56).code).getD 0
def Em:Addr:=(Aa (eV p 56).closure).getD 0
theorem En:refOf (eV p 56).code=some (El p):=by kernel_rfl
theorem Eo:Aa (eV p 56).closure=some (Em p):=by kernel_rfl
def o8:Obj:=((KF p).lookup (El p)).getD default
def o9:Obj:=((KF p).lookup (Em p)).getD default
theorem Oh:(KF p).lookup (El p)=some ⟨(o8 p).cls,(o8 p).dict,.fields (Ji (o8 p).data),(o8 p).slots⟩:=by kernel_rfl
theorem Mi:(Ji (o8 p).data)[2]?=some (.str rr.prog.main.file (Oe ((Ji (o8 p).data)[2]?))):=by kernel_rfl
theorem Oi:(KF p).lookup (Em p)=some ⟨(o9 p).cls,(o9 p).dict,.cell (some (.ref (dG 7))),(o9 p).slots⟩:=by kernel_rfl
theorem Oj:((eV p 56).params.posonlyargs++(eV p 56).params.args).head?.map (·.arg)=some (Str.ofString "self"):=by kernel_rfl
theorem Ol:(clsIn (KF p) (dG 7)).isSome=true:=by kernel_rfl
theorem Jp:(eV p 56).scope.names.lookup (Str.ofString "super")=some .globalImplicit/\(eV p 56).scope.names.lookup (Str.ofString "__class__")=some .free/\(eV p 56).scope.names.lookup (Str.ofString "self")=some .local:=⟨by kernel_rfl,by kernel_rfl,by kernel_rfl⟩
theorem Om:mroIn (KF p) (dG 7) (.ref (dG 7))=some true:=by kernel_rfl
theorem Oo:nsIn (KF p) mainGlobals "super" = some none:=by kernel_rfl
theorem Oq:(rr.prog.main.scope.names.lookup (Str.ofString "super")).isSome=false:=by kernel_rfl
theorem Ot:nsIn (KF p) cStatics "thirdparty.any" = some none:=by kernel_rfl
theorem Ou:ks_superIn (KF p) (dG 7) (dG 7) "__init__" = some (some (.ref (fnAt 37))):=by kernel_rfl
theorem Ov:typeIn (KF p) (.ref (fnAt 37))=some (.type "function"):=by kernel_rfl
theorem Ow:fnIn (KF p) (fnAt 37)=true:=by kernel_rfl
end
section
open PySem PySem.W PySem.Calls PyProof.Rows
theorem Ab(hK:Z.K=KF p)(hfn:Z.fn=fnAt)(hc:Z.cls=dG)(hp:Z.prog=rr.prog)(hk:(eV p 56).scope.kind=.function):wZ Z (eV p 56) (El p) (Em p) where
 arg:=QW.mp (Oj p)
 code:=⟨_,_,_,_,_,_,by rw[hK];exact Oh p,Mi p,by rw[hp];exact beq_self_eq_true _⟩
 cell:=⟨_,_,_,by rw[hK,hc];exact Oi p⟩
 cls:=by rw[hK,hc];exact Option.isSome_iff_exists.mp (Ol p)
 sub:=by rw[hK,hc];exact Om p
 sup:=by rw[hK];exact Oo p
 ks:=(Jp p).1
 kc:=(Jp p).2.1
 ka:=(Jp p).2.2
 kind:=hk
 top:=by rw[hp];exact Oq
 O2:=by rw[hK];exact Ot p
 init:=by rw[hK,hc,hfn];exact Ou p
 J1:=by rw[hK,hfn];exact Ov p
 Hi:=by rw[hK,hfn];exact Ow p
theorem Jq(hK:Z.K=KF p)(hfn:Z.fn=fnAt)(hc:Z.cls=dG)(hx:Z.cx=qY)(hp:Z.prog=rr.prog):B56 (Call Z):=by
 obtain⟨⟨oc,od,dt,osl⟩,ho,hd⟩:=q7 (u6 p)
 dsimp only at hd
 subst hd
 obtain⟨h1,h2⟩:=z8 (uZ p) (by decide) (u6 p)
 rw[Jj] at h2
 intro k a d fs t ov io H Q X q1 q2 h
 refine Call.BL (fd:=eV p 56) (by rw[hK];exact h1) (by rw[hK,hfn];exact ho) h2 (Ab hK hfn hc hp h1.2.2.2.2.2.1) (s8 (Eo p)) (tu (En p)) rfl (Jl p) (by rw[hx];exact Jk p) (Q6 (Jm p)) (by rw[hx];exact Jo p) (us:=[.ref a,t,ov,io]) (a:=a) (d:=d) (fs:=fs) rfl q1 q2 ?_
 exact⟨rfl,h⟩
end
section
open PySem PySem.W PySem.Calls PyProof.Rows
theorem Jr(p:Params):nsIn (KF p) mainGlobals "_Node" = some (some (.ref (dG 2))):=by kernel_rfl
theorem Mj(p:Params):nsIn (KF p) mainGlobals "law" = some (some (.ref (fnAt 71))):=by kernel_rfl
theorem Js(p:Params):fnIn (KF p) (fnAt 71)=true:=by kernel_rfl
theorem Jt(TE:TopE vw (looseW vw looseL) mg h)(X:(KF p).In h)(G:h.Ns mainGlobals mg):CmpCls h (dG 2):=by
 have h1:=z7
 cases hc:(plainsOf vw (looseW vw looseL)).find? λc=>c.name==("_Node" : Str) with
 | none=>rw[hc] at h1;cases h1
 | some c =>
  rw[hc] at h1
  obtain⟨C,N,mN,hC,P⟩:=TE c (List.mem_of_find?_eq_some hc)
  have hn:c.name = "_Node" := RV.mp (List.find?_some (p:=λc:ClsRec=>c.name==("_Node" : Str)) hc)
  have e:=PySem.W.mg_of X G (Jr p)
  rw[hn] at hC
  rw[hC] at e
  cases e
  exact P.cmpCls (Ru h1)
end
section
open PySem PySem.W PySem.Calls PyProof.Rows
noncomputable def H0(a:Addr)(ns:List Int):AH:=λx=>if x=a then some (.ro ns) else none
theorem Ox(a:Addr)(ns:List Int):Sat [.k true (.ce a (.ro ns))] [] (H0 a ns):=by
 refine⟨[[(a,.ro ns)]],⟨⟨rfl,trivial⟩,trivial⟩,?_,λp hp=>?_⟩
 ·show[a].Nodup
  simp
 ·have hp:p∈[(a,Cell.ro ns)]:=hp
  rw[Rf] at hp
  subst hp
  exact if_pos rfl
set_option tactic.hygienic true in
theorem law_code(T:PyProof.Rows.Top vw (looseW vw looseL) mean mg mb s.heap)(TE:TopE vw (looseW vw looseL) mg s.heap)(KX:(KF w.params).In s.heap)(hg:s.gens=#[])(hL:s.heap.IsList a vs.toArray)(hI:IntsAre vs ns)(hl:ns.length<=2000000)
   (q:∀s':Shared,(∀b o,s.heap.get? b=some o->s'.heap.get? b=some o)->s'.os=s.os->s'.gens=#[]->P (.ok (.ret (.bool true))) s') :
  codeAny (model rr.prog w) callerA (.call (.ref (fnAt 71)) ⟨[.ref a],[]⟩) P s:=by
 obtain⟨fo,fd,e1,e2⟩:=jN (Js w.params)
 have hbig:sysModules<s.heap.objs.size:=Nat.lt_of_le_of_lt (by decide +kernel:sysModules<=fnAt 71) (RL (KX _ _ e1))
 let Z:Setup:=⟨rr.prog,w,KF w.params,vw,looseW vw looseL,mg,mb,s.os,s.heap,dG,fnAt,qY⟩
 have S:Ml Z:=Jg Z w.params rfl rfl rfl rfl hbig
 have R:Rel Z s.heap (H0 a ns) s:=by
  have hc:∀x c,H0 a ns x=some c->x=a/\c=.ro ns:=λx c h=>by
   unfold H0 at h
   split at h
   ·rename_i e;cases h;exact⟨e,rfl⟩
   ·cases h
  refine⟨⟨S,KX,topRead_of T,Jt TE KX T.g⟩,λ_ _ e=>e,RN _,λ_ _ e=>e,λx c h=>?_,λx c h ho=>?_,λx ms h=>?_,hg,rfl⟩
  ·obtain⟨rfl,rfl⟩:=hc x c h
   exact⟨hl,vs,hL,hI⟩
  ·obtain⟨rfl,rfl⟩:=hc x c h
   cases ho
  ·obtain⟨rfl,h2⟩:=hc x _ h
   cases h2
   exact⟨hl,vs,hL,hI⟩
 obtain⟨binds,hb,hB⟩:=S.bind 71 fo fd e1 e2 [.ref a] [.ref a] [] [] [] [] [.ref a] (aK.one (show bY (.ref a) (.ref a) from rfl)) .nil .nil rfl
 have C:Call Z 76 71 [.ref a] (H0 a ns) (λu _=>u=.bool true) (λ_ _=>False):=LQ (G:=Call Z) (Ek rfl rfl rfl) (Jq rfl rfl rfl rfl rfl) 0 (K:=λv _ _=>v=.bool true) (λ_ _=>rfl) _ _ _ (Ox a ns) λv A' F' H' e _=>e
 have ok:Ok callerA 76:=⟨rfl,by decide +kernel,by decide +kernel⟩
 refine codeAny_mono (C callerA s.heap s ⟨[.ref a],[]⟩ fo fd binds ok R e1 e2 hb hB) λres s' hback=>?_
 unfold Back at hback
 split at hback
 ·obtain⟨u,H',hv,R',rfl⟩:=hback
  obtain rfl:=hv.bool
  exact q s' R'.keep R'.os R'.gens
 ·cases hback
end
end Mine
section
open PySem PySem.W PySem.Calls PyProof.Rows Mine
theorem Mine.Ju {d:DefRec} {kwd:List (Str × Expr)} (hdn:d.name=("law" : Str)):WalkO vw looseL (XL vw []) (Hook.says (kHook KF frag hK)) rr d kwd (λf vs=>PySem.call f vs):=by
  intro w s₀ s₁ mg mb G Y fa o pm cd doc dV kV ho hd hcd hD hmg hg args vals as hpre hlay hrd hwl hlo
  have KX:=kIn_of Y
  have X:=(Ground.X G).1
  have V:=(Ground.X G).2
  refine Ground.open G ?_
  intro T B D TE TW
  clear hd hcd hD
  have e:=PySem.W.mg_of KX T.g (Mj w.params)
  rw[hdn] at hmg
  rw[hmg] at e
  cases e
  wrow_args hpre hlay hrd hwl hlo
  refine enter_call ?_
  rename IntsAre _ _=>hI
  rename Heap.IsList _ _ _=>hL
  rename ¬_=>hcond
  refine law_code T TE KX hg hL hI (by lia) λs' h1 h2 h3=>?_
  refine GoodW.toG ⟨.inl ⟨.bool true,.bool true,[],rfl,λcls=>rfl,.bool true,?_,?_⟩,h1,h2,h3⟩
  ·wrow_post
  ·intro _
   exact⟨List.nodup_nil,λa ha=>by cases ha⟩
theorem Mine.QD:OpenLaw.wellSaid PySem.Challenge.rw_ji0015_02=true:=by kernel_rfl
theorem PySem.Challenge.cw_ji0015_02_holds : PySem.Challenge.rw_ji0015_02.Holds := by
 w_on
 refine holds_law QD λsaid=>?_
 refine holds_open (q:=vw) (loose:=looseL) (Xt:=λs=>xlAt vw [] s&&recOk rr.records s) (XP:=XL vw []) (Yf:=Hook.obs (kHook KF frag hK)) (Ya:=Hook.val (kHook KF frag hK)) (YP:=Hook.says (kHook KF frag hK)) (N:=8000) left (Hook.of (kHook KF frag hK)) (Hook.keeps (kHook KF frag hK)) (λs e=>xl_of s (Bool.and_eq_true_iff.mp e).1) XL.keeps (by rfl) (by rfl) (by rfl) (λs e=>recFacts_of (Bool.and_eq_true_iff.mp e).2) (by rfl) (by first|assumption|decide +kernel) (by decide +kernel) ⟨rfl,rfl,rfl,rfl,rfl,by decide +kernel⟩ ?hw (Ju (by decide +kernel))
 case hw=>w_witness2
end
