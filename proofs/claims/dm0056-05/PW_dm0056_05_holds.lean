import PyProof.Rows.All
import Wide.All
import OpenK.AllK
import Wide.FinOn
import Open.Tops
import Wide.BytesRules
import PyProof.DictItems
import KE.KDictList
import PyProof.Draws
import PyProof.EnumMake
import KE.KLam
import PyProof.Rows.MinMaxN
import PyProof.Rows.SumAny
import PyProof.RulesDelMore
import PyProof.GenRules
import PyProof.GenObj
import PyProof.EvalArms
import PyProof.ListNew
import OpenK.KWalk
import PySem.Challenge.RW_dm0056_05
set_option Elab.async false
set_option linter.all false
set_option tactic.hygienic false
set_option maxRecDepth 100000
set_option compiler.extract_closed false
set_option genCtorIdx false
namespace Mine.Internal
namespace Aq
open Lean
def T(s:String)(l:List Syntax):Syntax:=.node .none (.str `Lean.Parser.Tactic s) l.toArray
def M(s:String)(l:List Syntax):Syntax:=.node .none (.str `Lean.Parser.Term s) l.toArray
def R(s:String)(l:List Syntax):Syntax:=.node .none (.str `Lean.Parser.Tactic.rcasesPat s) l.toArray
def L(l:List Syntax):Syntax:=.node .none `null l.toArray
def a(s:String):Syntax:=.atom .none s
def id(s:String):Syntax:=mkIdent (.str .anonymous s)
def is(s:String)(x:Syntax):Bool:=x.getKind==.str `Lean.Parser.Term s
def mp(f:Syntax->Syntax)(l:List Syntax):List Syntax:=l.foldr (λx r=>f x::r) []
def fm(f:Nat->List Syntax)(n:Nat):List Syntax:=(List.range n).foldr (λi r=>f i++r) []
def sp(s:String)(l:List Syntax):Syntax:=L (l.foldr (λx r=>if r.isEmpty then [x] else x::a s::r) [])
def ar(x:Syntax):List Syntax:=x.getSepArgs.toList
def qs(l:List Syntax):Syntax:=T "tacticSeq" [T "tacticSeq1Indented" [sp ";" l]]
def qp(l:List Syntax):Syntax:=T "paren" [a "(",qs l,a ")"]
def qz(l:List Syntax):Syntax:=T "first" [a "first",L (mp (λx=>.node .none `group (.mk [a "|",qs [x]])) (l++[T "fail" [a "fail",L []]]))]
def qh:Syntax:=M "syntheticHole" [a "?",a "_"]
def ap(f:Syntax)(l:List Syntax):Syntax:=M "app" [f,L l]
def re(x:Syntax):Syntax:=T "refine" [a "refine",x]
def qr(s:String)(l:List Syntax):Syntax:=re (ap (mkIdent (.str `Ar s)) l)
def us:String:="e2_0 e2_1 i2_1 e3_0 e3_1 i3_1 e3_2 i3_2 e4_0 e4_1 i4_1 e4_2 i4_2 e4_3 i4_3 e5_0 e5_1 i5_1 e5_2 i5_2 e5_3 i5_3 e5_4 e6_1 e6_2 i6_2 e6_3 i6_3 e6_4 i6_4 e6_5 i6_5 e7_0 i7_1 e7_2 i7_2 e7_3 i7_3 e7_4 i7_4 e8_2 i8_2 e8_3 i8_3 e8_4 i8_4 e9_0 e9_2 e9_3 i9_3 e9_4 i9_4 e9_5 i9_5 e9_7 i9_7 e9_8"
def ql(c:String)(n j:Nat)(l:List Syntax):List Syntax:=
 let x:=c++toString n++"_"++toString (n-j)
 if (us.splitOn " ").contains x then [qr x l] else []
def it(l:List Syntax):Syntax:=T "intro" [a "intro",L l]
def ty(x:Syntax):Syntax:=T "tacticTry_" [a "try",qs [x]]
def cl(x:Syntax):Syntax:=ty (T "clear" [a "clear",L [x]])
def sw(x:Syntax):Syntax:=T "show" [a "show",x]
def ho:Syntax:=M "hole" [a "_"]
def pt(j m:Nat):Syntax:=Nat.repeat (λt=>ap (id "Exists") [M "fun" [a "fun",M "basicFun" [L [ho],L [],a "=>",t]]]) j (Nat.repeat (λt=>ap (id "And") [ho,t]) (m-1) ho)
def mm(o:Option Syntax):MacroM Syntax:=o.elim Macro.throwUnsupported pure
def f1(x:Syntax):Option Syntax:=if x[3].getNumArgs>0||x[1][0].getNumArgs>0 then none else some (qp (mp (λr=>qz [qr (if r[0].getNumArgs==0 then "rwm" else "rwn") [ap r[1] [M "ellipsis" [a ".."]],qh],T "rewriteSeq" [a "rewrite",x[1],T "rwRuleSeq" [a "[",L [r],a "]"],x[3]]]) (ar x[2][1])++[ty (T "withReducible" [a "with_reducible",qs [T "tacticRfl" [a "rfl"]]])]))
def ob(r z:Syntax):Syntax:=T "obtain" [a "obtain",L [r],L [],L [a ":=",L [z]]]
def ot(r:Syntax):Syntax:=
 let y:=r[0][0][0]
 if r[1].getNumArgs==0&&r[0][0].getNumArgs==1&&y.getKind== `Lean.Parser.Tactic.rcasesPat.one&&y[0].getId != `rfl then it [y[0]] else qp [it [id "ζ"],ob r[0] (id "ζ")]
def f2(x:Syntax):Option Syntax:=
 let p:=x[1][0][0]
 let q:=ar p[0][1]
 let n:=q.length
 let t:=x[3][1][0]
 if p.getNumArgs != 1||x[2].getNumArgs != 0||n<2 then none else
 let k:=min n 9
 some (qp (qz (fm (λj=>ql "e" k (j+1) [t,qh]) k)::(if t.isIdent then [cl t] else [])++mp ot (if n<10 then q else q.take 8)++(if n<10 then [] else [qp [it [id "ζ"],ob (x[1][0].setArg 0 (p.setArg 0 (p[0].setArg 1 (sp "," (q.drop 8))))) (id "ζ")]])))
def f3(x:Syntax):Option Syntax:=
 let l:=ar x[1][1]
 let n:=l.length
 if !(is "anonymousCtor" x[1]||x[1].getKind== `«term#[_,]»)||n<2 then none else
 some (qp [sw (ap (id "Exists") [ho]),qz (fm (λi=>
  let k:=9-i
  let b:=l.take (k-1)
  if k==n||2<k&&k<n&&!b.any λs=>(s.find? (is "syntheticHole")).isSome then fm (λj=>mp (λs=>qp (sw (pt (k-j-1) (j+1))::s::(if k==n then [] else [x.setArg 1 (x[1].setArg 1 (sp "," (l.drop (k-1))))]))) (ql "i" k (j+1) (if k==n then l else b++[qh]))) (k-1) else []) 8)])
def f4(x:Syntax):Option Syntax:=
 let y:=x[1][0][1]
 let z:=id "ζ"
 let w:=id "ξ"
 let c (z:Syntax):Syntax:=x.setArg 1 (x[1].setArg 0 (x[1][0].setArg 1 z))
 let g (f:String) (v l:List Syntax):Syntax:=qp (qr f [y,qh]::cl y::it v::l)
 if !y.isIdent||x[1].getNumArgs != 1||x[1][0][0].getNumArgs+x[2].getNumArgs+x[3].getNumArgs != 0 then none else
 some (qz [g "x8" [z] [T "subst" [a "subst",L [z]]],qr "x0" [y],qr "x1" [y],g "x2" [z] [c z],g "x3" [z,w] [c z,c w],qr "x4" [y],qr "x5" [y]])
def dt(s:String):Syntax:=M "dotIdent" [a ".",id s]
def pa:Nat->Syntax->Syntax:=Nat.rec (λs=>s) λ_ f s=>T "rcasesPatMed" [L [if s.getKind== `«term#[_,]» then R "tuple" [a "⟨",sp "," (mp (λr=>T "rcasesPatLo" [f r,L []]) (ar s[1])),a "⟩"] else if is "hole" s then R "ignore" [s] else R "one" [s]]]
end Aq
open Lean in
local macro_rules (kind:=Lean.Parser.Tactic.show)
 |x=>Aq.mm (some (Aq.qz [Aq.T "exact" [Aq.a "exact",x[1]],Aq.re (Aq.M "typeAscription" [Aq.M "hygienicLParen" [Aq.a "(",.node .none `hygieneInfo (.mk [mkIdent .anonymous])],Aq.qh,Aq.a ":",Aq.L [x[1]],Aq.a ")"])]))
open Lean in
local macro_rules (kind:=Lean.Parser.Tactic.rwSeq)
 |x=>Aq.mm (Aq.f1 x)
open Lean in
local macro_rules (kind:=Lean.Parser.Tactic.obtain)
 |x=>Aq.mm (Aq.f2 x)
open Lean in
local macro_rules (kind:=Lean.Parser.Tactic.refine)
 |x=>Aq.mm (Aq.f3 x)
open Lean in
local macro_rules (kind:=Lean.Parser.Tactic.cases)
 |x=>Aq.mm (Aq.f4 x)
open Lean in
local macro_rules (kind:=Lean.Parser.Tactic.apply)
 |x=>Aq.mm (some (Aq.re x[1]))
open Lean in
local macro_rules (kind:=«term%[_|_]»)
 |x=>Aq.mm (if x[3].isNatLit? == some 0 then some ((Aq.ar x[1]).foldr (λe r=>Aq.ap (Aq.dt "cons") [e,r]) (Aq.dt "nil")) else none)
open Lean in
local macro_rules (kind:=Lean.Parser.Tactic.tacticHave__)
 |x=>
  let d:=x[2][0]
  let b:=d[0].getKind== `«term#[_,]»
  Aq.mm (if b||d[0][0].getId== `rfl then some (Aq.T "obtain" [Aq.a "obtain",Aq.L [Aq.pa 9 (if b then d[0] else d[0][0])],Aq.L d[2][0].getArgs.toList,Aq.L [Aq.a ":=",Aq.L [d[4]]]]) else none)
open Lean in
local macro_rules (kind:=Vector.«term#v[_,]»)
 |x=>Aq.mm (some (Aq.ap (mkIdent `List.toArray) [.node .none `«term[_]» (.mk [Aq.a "[",x[1],Aq.a "]"])]))
open Lean in
def Ar.st(x:Syntax):Syntax:=
 let y:=x.rewriteBottomUp λs=>match s with
 |.node _ k a=>.node .none k a
 |.atom _ v=>.atom .none v
 |.ident _ r v p=>.ident .none r v p
 |s=>s
 let d:=y[1]
 let f:=d.getKind== `Lean.Parser.Command.definition
 let a:=d.getKind== `Lean.Parser.Command.abbrev
 let m k l:=((y.setArg 0 ((y[0].setArg 2 mkNullNode).setArg 4 (mkNullNode (.mk [mkNode `Lean.Parser.Command.noncomputable (.mk [mkAtom "noncomputable"])])))).setArg 1 (mkNode k (.mk ([d[0],d[1],d[2],d[3]]++l))))
 if y[0][1].getNumArgs+y[0][4].getNumArgs != 0 then y
 else if f&&d[2][1].getNumArgs != 0&&!(d[2][0].getNumArgs==0&&[`N,`E,`P].contains d[2][1][0][1].getId) then y.setArg 1 (mkNode `Lean.Parser.Command.theorem (.mk [d[0],d[1],mkNode `Lean.Parser.Command.declSig (.mk [d[2][0],d[2][1][0]]),d[3]]))
 else if f||a&&y[0][2].getNumArgs != 0 then m `Lean.Parser.Command.abbrev []
 else if a then m `Lean.Parser.Command.definition [mkNullNode] else y
open Lean in
local macro_rules (kind:=Lean.Parser.Command.declaration)
 |x=>if x.getPos?.isNone||x[1][1][0].getId.getRoot==`PySem then Macro.throwUnsupported else return Ar.st x
open Lean in
local macro_rules (kind:=«term#[_,]»)
 |x=>return mkNode `Lean.Parser.Term.anonymousCtor #[mkAtom "⟨",x[1],mkAtom "⟩"]
def QqV:=PySem.Value->PySem.Shared->Prop
set_option bootstrap.genMatcherCode false
namespace Mine.Z
abbrev ae:=@Nat.sub_add_cancel
abbrev af:=@PySem.wpAny_bind
abbrev ah:=@PySem.wpAny_pure
abbrev ak:=@Option.some.inj
abbrev aq:=@of_decide_eq_true
abbrev au:=@List.mem_singleton
abbrev av:=@List.length_map
abbrev aw:=@PySem.Heap.get?_push_of_some
abbrev ax:=@List.length_append
abbrev ay:=@if_neg
abbrev az:=@Nat.le_refl
abbrev ba:=@Nat.lt_or_gt_of_ne
abbrev bc:=@Nat.le_of_ble_eq_true
abbrev bg:=@PySem.wpAny_mono
abbrev bh:=@Nat.zero_le
abbrev bp:=@Option.isSome_iff_exists
abbrev bw:=@List.getElem?_eq_some_iff
abbrev bx:=@if_pos
abbrev bz:=@congrArg
abbrev cf:=@PySem.Heap.get?_push_size
abbrev cg:=@PySem.wpAny_holding
abbrev cj:=@List.mem_map
abbrev cm:=@List.map_append
abbrev cq:=@List.append_nil
abbrev cu:=@List.getElem?_map
abbrev cy:=@List.size_toArray
abbrev cz:=@List.mem_cons
abbrev dg:=@Bool.and_eq_true
abbrev dh:=@PySem.builtinLookup_eq_fast
abbrev di:=@List.getElem?_eq_getElem
abbrev dj:=@List.mem_append
abbrev dp:=@decide_eq_true
abbrev dq:=@List.mem_of_getElem?
abbrev dt:=@Bool.false_eq_true
abbrev du:=@Classical.not_and_iff_not_or_not
abbrev ec:=@PySem.wpAny_of_eq
abbrev eh:=@Option.bind_eq_some_iff
abbrev ew:=@PySem.typeLookup_type
abbrev fe:=@List.take_succ_eq_append_getElem
abbrev fg:=@Bool.not_eq_true'
abbrev fh:=@List.append_assoc
abbrev fj:=@PySem.Heap.lt_size
abbrev fm:=@Nat.le_trans
abbrev fu:=@List.getElem?_append_right
abbrev fw:=@PySem.wpAny_standAt
abbrev fy:=@Option.some.injEq
abbrev gb:=@PySem.Heap.size_push
abbrev gc:=@List.mem_append_right
abbrev gf:=@Nat.lt_of_lt_of_le
abbrev gh:=@Array.getElem?_eq_getElem
abbrev gj:=@PySem.wpAny_call_entry
abbrev gk:=@PySem.Heap.get?_update_self
abbrev gm:=@Nat.ne_of_lt
abbrev gp:=@Nat.lt_irrefl
abbrev gq:=@List.mem_append_left
abbrev gr:=@PySem.Heap.SameBut.update
abbrev gu:=@List.length_take
abbrev gv:=@PySem.Heap.get?_update_other
abbrev ic:=@congrFun
abbrev iq:=@decide_eq_false
abbrev iv:=@List.mem_iff_getElem
abbrev ix:=@List.length_filter_le
abbrev iy:=@Nat.le_of_lt
abbrev iz:=@Array.length_toList
abbrev ja:=@List.length_drop
abbrev jh:=@Option.map_eq_some_iff
abbrev jj:=@List.getElem_mem
abbrev jm:=@PySem.isSubtype_type
abbrev jn:=@Int.le_trans
abbrev jq:=@PySem.wpAny_newObj_type
abbrev jt:=@PySem.wpAny_callSpecial?_slot
abbrev jx:=@PySem.Obj.data_mapFields
abbrev jy:=@List.drop_eq_getElem_cons
abbrev kc:=@List.length_range
abbrev ke:=@Int.toNat_natCast
abbrev kh:=@if_false
abbrev kj:=@List.length_cons
abbrev kl:=@List.all_eq_true
abbrev ku:=@Array.getElem?_eq_some_iff
abbrev lh:=@Nat.eq_zero_or_pos
abbrev lj:=@List.take_length
abbrev ll:=@List.filter_cons
abbrev lp:=@List.cons_ne_nil
abbrev lr:=@List.map_cons
abbrev mf:=@Nat.add_le_add_right
abbrev mj:=@PySem.wpAny_execs_cons
abbrev mn:=@List.exists_cons_of_length_eq_add_one
abbrev mx:=@PySem.wpAny_seqItems
abbrev nc:=@Nat.zero_add
abbrev nh:=@PySem.wpAny_call
abbrev nj:=@Nat.lt_succ_self
abbrev nk:=@List.isEmpty_iff
abbrev nz:=@Nat.sub_le
abbrev oa:=@Nat.lt_or_eq_of_le
abbrev oe:=@List.forIn_nil
abbrev oh:=@List.getElem?_eq_none
abbrev oj:=@List.eq_nil_or_concat
abbrev oo:=@List.concat_eq_append
abbrev pa:=@List.getElem?_eq_none_iff
abbrev pb:=@beq_false_of_ne
abbrev pd:=@List.forIn_cons
abbrev ph:=@PySem.F.slot_tuple_iterator_next
abbrev pj:=@Nat.lt_or_ge
abbrev pk:=@Nat.le_succ_of_le
abbrev pn:=@List.map_map
abbrev pq:=@Bool.eq_false_iff
abbrev qg:=@PySem.wpAny_updateSeq
abbrev qu:=@PySem.wpAny_loadPart_at
abbrev qx:=@decide_eq_decide
abbrev qy:=@PySem.Sem.bind_eq_wrap'
abbrev rf:=@Nat.le_add_right
abbrev rg:=@List.lookup_eq_none_iff
abbrev rh:=@List.lookup_cons
abbrev rj:=@PySem.Heap.get?_none_of_le
abbrev rz:=@Nat.not_lt
abbrev sd:=@List.drop_eq_nil_of_le
abbrev sf:=@Bool.false_ne_true
abbrev sq:=@PySem.wpAny_setField
abbrev sr:=@Bool.or_eq_true
abbrev te:=@Prod.mk.injEq
abbrev tw:=@PySem.wpAny_rule
abbrev ud:=@PySem.wpAny_specialOf
abbrev ue:=@PySem.codeAny_of_tree
abbrev uf:=@PySem.codeAny_builtin
abbrev ug:=@PyProof.Rows.callWith_type
abbrev uh:=@Prod.mk.inj
abbrev ui:=@PySem.Heap.Ns.of_isNs
abbrev uj:=@beq_self_eq_true
abbrev uk:=@PySem.Obj.isFreed_of_fields
abbrev um:=@Nat.succ.inj
abbrev uo:=@Int.zero_add
abbrev ur:=@PySem.wpAny_truthy_bool
abbrev uu:=@Option.isNone_iff_eq_none
abbrev uv:=@List.pairwise_iff_getElem
abbrev uw:=@List.getElem?_append_left
abbrev vm:=@beq_eq_false_iff_ne
abbrev we:=@PySem.wpAny_load
abbrev wg:=@Bool.not_true
abbrev wh:=@PySem.Around.under_plainId
abbrev wi:=@Ne.symm
abbrev wj:=@Nat.not_lt_zero
abbrev wk:=@List.mem_filter
abbrev wo:=@PySem.wpAny_askSetting
abbrev wq:=@beq_iff_eq
abbrev wt:=@Option.isSome_none
abbrev wu:=@List.pairwise_cons
abbrev xf:=@Int.natCast_nonneg
abbrev xg:=@Int.lt_or_gt_of_ne
abbrev xj:=@Nat.le_succ
abbrev xk:=@Nat.add_sub_cancel_left
abbrev ym:=@if_true
abbrev yn:=@bne_self_eq_false
abbrev yo:=@PySem.Sem.wrap_wrap
abbrev yq:=@Nat.lt_trans
abbrev zd:=@Nat.sub_eq_zero_of_le
abbrev ze:=@Nat.eq_of_beq_eq_true
abbrev zf:=@List.take_append_drop
abbrev zg:=@List.length_singleton
abbrev zu:=@Nat.succ_ne_zero
abbrev zv:=@Nat.le_of_not_lt
abbrev zw:=@List.not_mem_nil
abbrev zx:=@List.cons_append
abbrev dT:=@PySem.wpAny_typeOf
abbrev dU:=@PySem.wpAny_setState_of
abbrev dW:=@List.drop_eq_nil_iff
abbrev dX:=@PySem.Calls.spliced_nil
abbrev eO:=@List.nil_append
abbrev eZ:=@List.filterMap_cons
abbrev fB:=@PySem.entryFor_of_tree
abbrev fC:=@Int.le_total
abbrev fD:=@Int.le_of_eq
abbrev fE:=@PySem.wpAny_attempt
abbrev fF:=@PySem.seg_execs_nil
abbrev gF:=@le_of_le_of_eq
abbrev gG:=@PySem.codeAny_call_builtin
abbrev gH:=@Option.none_or
abbrev gJ:=@List.mem_range
abbrev gK:=@List.length_eraseIdx_of_lt
abbrev gM:=@List.filter_append
abbrev gN:=@List.drop_zero
abbrev gO:=@Array.perm_iff_toList_perm
abbrev iX:=@PySem.wpAny_setEntries_of
abbrev iY:=@Nat.le_of_lt_succ
abbrev iZ:=@List.reverse_cons
abbrev j3:=@List.getElem_take
abbrev j4:=@Array.toList_push
abbrev jN:=@PySem.F.slot_list_append
abbrev jO:=@List.any_cons
abbrev jP:=@Bool.or_false
abbrev lC:=@PySem.wpAny_loadPart
abbrev lD:=@PySem.seg_execs_cons
abbrev lE:=@decide_eq_false_iff_not
abbrev lF:=@PySem.F.plainAttrs_dict
abbrev lG:=@List.length_eq_zero_iff
abbrev lH:=@List.flatten_nil
abbrev lI:=@PySem.Code.quiet_builtin
abbrev mO:=@List.pairwise_lt_range
abbrev nD:=@PySem.wpAny_pyIter_slot
abbrev nE:=@PySem.wpAny_pyIter_list
abbrev nF:=@PySem.wpAny_field
abbrev nG:=@PySem.wpAny_Return_some
abbrev nH:=@PySem.getMethod_builtin
abbrev nI:=@PySem.Obj.cls_mapFields
abbrev nJ:=@List.nodup_cons
abbrev nS:=@PySem.signature?_of
abbrev nT:=@PySem.plainId_quiet
abbrev rJ:=@PySem.wpAny_isInstance
abbrev rK:=@Bool.and_eq_true_iff
abbrev tW:=@List.ne_and_not_mem_of_not_mem_cons
abbrev vX:=@PySem.F.args_tuple_iterator_next_1
abbrev vY:=@PySem.F.entry_tuple_iterator_next
abbrev KV:=@PySem.slot_list_getitem
end Mine.Z
open Mine.Z
section
namespace Ar
set_option genSizeOf false
set_option genInjectivity false
inductive N where
 |v (i:Nat)
 |n (k:Nat)
 |a (x y:N)
 |m (k:Nat) (x:N)
 |r (x:N) (k:Nat)
inductive E where
 |v (i:Nat)
 |n (k:Int)
 |a (x y:E)
 |s (x y:E)
 |m (k:Int) (x:E)
 |r (x:E) (k:Int)
 |g (x:E)
 |t (x:N)
set_option genCtorIdx true in
inductive R where
 |lt|le|eq|ge|gt|ne
inductive P where
 |i (r:R) (x y:E)
 |n (r:R) (x y:N)
 |ff
structure Q where
 r:R
 x:E
 y:E
public abbrev hd (d:α):List α->α
 | []=>d
 |x::_=>x
public abbrev tl:List α->List α
 | []=>[]
 |_::l=>l
public abbrev nth (d:α):Nat->List α->α
 |0=>hd d
 |i+1=>λl=>nth d i (tl l)
public abbrev N.d (k:List Nat):N->Nat
 |.v i=>nth 0 i k
 |.n c=>c
 |.a x y=>x.d k+y.d k
 |.m c x=>c*x.d k
 |.r x c=>x.d k*c
public abbrev E.d (c:List Int)(k:List Nat):E->Int
 |.v i=>nth 0 i c
 |.n j=>j
 |.a x y=>x.d c k+y.d c k
 |.s x y=>x.d c k-y.d c k
 |.m i x=>i*x.d c k
 |.r x i=>x.d c k*i
 |.g x=>- x.d c k
 |.t x=>(x.d k:Int)
public abbrev R.i (a b:Int):R->Prop
 |.lt=>a<b
 |.le=>a<=b
 |.eq=>a=b
 |.ge=>¬a<b
 |.gt=>¬a<=b
 |.ne=>¬a=b
public abbrev R.n (a b:Nat):R->Prop
 |.lt=>a<b
 |.le=>a<=b
 |.eq=>a=b
 |.ge=>¬a<b
 |.gt=>¬a<=b
 |.ne=>¬a=b
public abbrev P.h (c:List Int)(k:List Nat):P->Prop
 |.i r x y=>r.i (x.d c k) (y.d c k)
 |.n r x y=>r.n (x.d k) (y.d k)
 |.ff=>False
def R.n_i {a b:Nat}:(r:R)->r.n a b->r.i (a:Int) (b:Int)
 |.lt=>Int.ofNat_lt.mpr
 |.le=>Int.ofNat_le.mpr
 |.eq=>λh=>bz _ h
 |.ge=>λh e=>h (Int.ofNat_lt.mp e)
 |.gt=>λh e=>h (Int.ofNat_le.mp e)
 |.ne=>λh e=>h (Int.ofNat.inj e)
def R.i_n {a b:Nat}:(r:R)->r.i (a:Int) (b:Int)->r.n a b
 |.lt=>Int.ofNat_lt.mp
 |.le=>Int.ofNat_le.mp
 |.eq=>λh=>Int.ofNat.inj h
 |.ge=>λh e=>h (Int.ofNat_lt.mpr e)
 |.gt=>λh e=>h (Int.ofNat_le.mpr e)
 |.ne=>λh e=>h (bz _ e)
def ad {a b c d:Int}(h:a=c)(e:b=d):a+b=c+d:=h▸e▸rfl
def sb {a b c d:Int}(h:a=c)(e:b=d):a-b=c-d:=h▸e▸rfl
def aac (a b c d:Int):a+b+(c+d)=a+c+(b+d):=by omega
def W3 {a b:Int}(h:a<0)(e:b<=0):a+b<0:=Int.add_neg_of_neg_of_nonpos h e
def ltd {a b:Int}(h:a<b):0<=b-a+-1:=by omega
abbrev S:List Int->(Nat->Int)->Int
 | []=>λ_=>0
 |y::l=>λf=>f 0*y+S l λj=>f (j+1)
abbrev dl (i j:Nat):Int:=bif Nat.beq i j then 1 else 0
def KN:(l:List Int)->(f g:Nat->Int)->S l (λj=>f j+g j)=S l f+S l g
 | [],_,_=>rfl
 |y::l,f,g=>(ad (Int.add_mul (f 0) (g 0) y) (KN l (λj=>f (j+1)) λj=>g (j+1))).trans (aac _ _ _ _)
def KL (i:Int):(l:List Int)->(f:Nat->Int)->S l (λj=>i*f j)=i*S l f
 | [],_=>(Int.mul_zero i).symm
 |y::l,f=>(ad (Int.mul_assoc i (f 0) y) (KL i l λj=>f (j+1))).trans (Int.mul_add ..).symm
def mK:(l:List Int)->S l (λ_=>0)=0
 | []=>rfl
 |y::l=>(ad (Int.zero_mul y) (mK l)).trans (uo 0)
def D0:(i:Nat)->(l:List Int)->S l (dl i)=nth 0 i l
 |0,[]=>rfl
 |0,y::l=>(ad (Int.one_mul y) (mK l)).trans (Int.add_zero y)
 |i+1,[]=>D0 i []
 |i+1,y::l=>(ad (Int.zero_mul y) (D0 i l)).trans (uo _)
abbrev up:List Nat->List Int
 | []=>[]
 |x::l=>(x:Int)::up l
def zP:(i:Nat)->(l:List Nat)->nth 0 i (up l)=(nth 0 i l:Nat)
 |0,[]=>rfl
 |0,_::_=>rfl
 |i+1,[]=>zP i []
 |i+1,_::l=>zP i l
structure L where
 k:Int
 c:Nat->Int
 n:Nat->Int
abbrev L.d (c k:List Int)(l:L):Int:=l.k+(S c l.c+S k l.n)
abbrev L.add (l m:L):L:=#[l.k+m.k,λj=>l.c j+m.c j,λj=>l.n j+m.n j]
abbrev L.scl (i:Int)(l:L):L:=#[i*l.k,λj=>i*l.c j,λj=>i*l.n j]
abbrev L.num (i:Int):L:=#[i,λ_=>0,λ_=>0]
def L.y9 {c k:List Int}(l m:L):(l.add m).d c k=l.d c k+m.d c k:=
 (bz (l.k+m.k+·) ((ad (KN ..) (KN ..)).trans (aac _ _ _ _))).trans (aac _ _ _ _)
def L.qG {c k:List Int}(i:Int)(l:L):(l.scl i).d c k=i*l.d c k:=
 (bz (i*l.k+·) ((ad (KL ..) (KL ..)).trans (Int.mul_add ..).symm)).trans (Int.mul_add ..).symm
def L.y8 {c k:List Int}(i:Int):(L.num i).d c k=i:=
 (bz (i+·) ((ad (mK c) (mK k)).trans (uo 0))).trans (Int.add_zero i)
abbrev N.l:N->L
 |.v i=>#[0,λ_=>0,dl i]
 |.n c=>.num c
 |.a x y=>x.l.add y.l
 |.m c x=>x.l.scl c
 |.r x c=>x.l.scl c
abbrev E.l:E->L
 |.v i=>#[0,dl i,λ_=>0]
 |.n j=>.num j
 |.a x y=>x.l.add y.l
 |.s x y=>x.l.add (y.l.scl (-1))
 |.m i x=>x.l.scl i
 |.r x i=>x.l.scl i
 |.g x=>x.l.scl (-1)
 |.t x=>x.l
def N.l_d {c:List Int}{k:List Nat}:(x:N)->x.l.d c (up k)=(x.d k:Nat)
 |.v i=>(uo _).trans ((ad (mK c) ((D0 i (up k)).trans (zP i k))).trans (uo _))
 |.n i=>L.y8 (i:Int)
 |.a x y=>(L.y9 x.l y.l).trans ((ad (N.l_d x) (N.l_d y)))
 |.m i x=>(L.qG i x.l).trans ((bz ((i:Int)*·) (N.l_d x)))
 |.r x i=>(L.qG i x.l).trans ((bz ((i:Int)*·) (N.l_d x)).trans (Int.mul_comm ..))
def sN {c k:List Int}(x y:L):(x.add (y.scl (-1))).d c k=x.d c k-y.d c k:=
 (L.y9 ..).trans (bz (x.d c k+·) ((L.qG ..).trans (Int.neg_one_mul _)))
def E.l_d {c:List Int}{k:List Nat}:(x:E)->x.l.d c (up k)=x.d c k
 |.v i=>(uo _).trans ((ad (D0 i c) (mK (up k))).trans (Int.add_zero _))
 |.n i=>L.y8 i
 |.a x y=>(L.y9 x.l y.l).trans ((ad (E.l_d x) (E.l_d y)))
 |.s x y=>(sN x.l y.l).trans ((sb (E.l_d x) (E.l_d y)))
 |.m i x=>(L.qG i x.l).trans ((bz (i*·) (E.l_d x)))
 |.r x i=>(L.qG i x.l).trans ((bz (i*·) (E.l_d x)).trans (Int.mul_comm ..))
 |.g x=>(L.qG (-1) x.l).trans ((Int.neg_one_mul _).trans (bz (- ·) (E.l_d x)))
 |.t x=>N.l_d x
abbrev R.l (x y:L):R->L
 |.lt=>(y.add (x.scl (-1))).add (.num (-1))
 |.le=>y.add (x.scl (-1))
 |.eq=>y.add (x.scl (-1))
 |.ge=>x.add (y.scl (-1))
 |.gt=>(x.add (y.scl (-1))).add (.num (-1))
 |.ne=>.num 0
def less {c k:List Int}{x y:L}(h:x.d c k<y.d c k):0<=((y.add (x.scl (-1))).add (.num (-1))).d c k:=
 gF (ltd h) ((L.y9 ..).trans (ad (sN y x) (L.y8 (-1)))).symm
def R.l_d {c k:List Int}{x y:L}:(r:R)->r.i (x.d c k) (y.d c k)->0<=(r.l x y).d c k
 |.lt=>λh=>less h
 |.le=>λh=>gF (Int.sub_nonneg_of_le h) (sN y x).symm
 |.eq=>λh=>gF (Int.sub_nonneg_of_le (fD h)) (sN y x).symm
 |.ge=>λh=>gF (Int.sub_nonneg_of_le (Int.not_lt.mp h)) (sN x y).symm
 |.gt=>λh=>less (Int.not_le.mp h)
 |.ne=>λ_=>fD (L.y8 0).symm
def R.WG {a b Y Z:Int}(r:R)(e1:a=Y)(e2:b=Z)(h:r.i Y Z):r.i a b:=by subst e1 e2;show h
abbrev Q.h (c:List Int)(k:List Nat)(q:Q):Prop:=q.r.i (q.x.d c k) (q.y.d c k)
abbrev Q.l (q:Q):L:=q.r.l q.x.l q.y.l
def Q.l_d {c:List Int}{k:List Nat}{q:Q}(h:q.h c k):0<=q.l.d c (up k):=
 R.l_d q.r (R.WG q.r (E.l_d q.x) (E.l_d q.y) h)
abbrev R.e:R->Bool
 |.eq=>true
 |_=>false
def R.e_d {a b:Int}:(r:R)->r.e=true->r.i a b->r=.eq/\a=b
 |.eq=>λ_ h=>#[rfl,h]
 |.lt=>λe=>Bool.noConfusion e
 |.le=>λe=>Bool.noConfusion e
 |.ge=>λe=>Bool.noConfusion e
 |.gt=>λe=>Bool.noConfusion e
 |.ne=>λe=>Bool.noConfusion e
def Q.e_d {c:List Int}{k:List Nat}{q:Q}(e:q.r.e=true)(h:q.h c k):q.l.d c (up k)=0:=by
 have#[r,x,y]:=q;have#[rfl,h]:=R.e_d r e h;show(sN y.l x.l).trans ((sb (E.l_d y) (E.l_d x)).trans (Int.sub_eq_zero_of_eq h.symm))
abbrev P.q:P->Q
 |.i r x y=>#[r,x,y]
 |.n r x y=>#[r,.t x,.t y]
 |.ff=>#[.ne,.n 0,.n 0]
def P.to {c:List Int}{k:List Nat}:{p:P}->p.h c k->p.q.h c k
 |.i _ _ _=>id
 |.n r _ _=>R.n_i r
 |.ff=>False.elim
def P.of {c:List Int}{k:List Nat}:(p:P)->p.q.h c k->p.h c k
 |.i _ _ _=>id
 |.n r _ _=>R.i_n r
 |.ff=>λh=>h rfl
abbrev sum:List Q->List Int->L
 | []=>λ_=>.num 0
 |q::qs=>λms=>(q.l.scl (ms.headD 0)).add (sum qs ms.tail)
abbrev good:List Q->List Int->Bool
 | []=>λ_=>true
 |q::qs=>λms=>(q.r.e||decide (0<=ms.headD 0))&&good qs ms.tail
abbrev All (c:List Int)(k:List Nat):List Q->Prop
 | []=>True
 |q::qs=>q.h c k/\All c k qs
def band {a b:Bool}:(a&&b)=true->a=true/\b=true:=(dg a b).mp
def P0 {c:List Int}{k:List Nat}:(qs:List Q)->(Z:List Int)->good qs Z=true->All c k qs->0<=(sum qs Z).d c (up k)
 | []=>λ_ _ _=>fD (L.y8 0).symm
 |q::qs=>λZ Y h=>gF
   (Int.add_nonneg (((sr ..).mp (band Y).1).elim
    (λe=>fD ((bz (Z.headD 0*·) (Q.e_d e h.1)).trans (Int.mul_zero _)).symm)
    (λe=>Int.mul_nonneg (aq e) (Q.l_d h.1))) (P0 qs Z.tail (band Y).2 h.2))
   ((L.y9 ..).trans (ad (L.qG ..) rfl)).symm
abbrev zero:List Int->(Nat->Int)->Bool
 | []=>λ_=>true
 |_::l=>λf=>decide (f 0=0)&&zero l λj=>f (j+1)
abbrev QX:List Nat->(Nat->Int)->Bool
 | []=>λ_=>true
 |_::l=>λf=>decide (f 0<=0)&&QX l λj=>f (j+1)
def FI:(l:List Int)->(f:Nat->Int)->zero l f=true->S l f=0
 | []=>λ_ _=>rfl
 |y::l=>λf h=>(ad ((bz (·*y) (aq (band h).1)).trans (Int.zero_mul y)) (FI l _ (band h).2)).trans (uo 0)
def I6:(l:List Nat)->(f:Nat->Int)->QX l f=true->S (up l) f<=0
 | []=>λ_ _=>Int.le_refl _
 |y::l=>λf h=>Int.add_le_add (Int.mul_nonpos_of_nonpos_of_nonneg (aq (band h).1) (xf y)) (I6 l _ (band h).2)
abbrev ok (c:List Int)(k:List Nat)(qs:List Q)(ms:List Int):Bool:=
 good qs ms&&(decide ((sum qs ms).k<0)&&(zero c (sum qs ms).c&&QX k (sum qs ms).n))
def VY {c:List Int}{k:List Nat}{qs:List Q}{Z:List Int}(h:ok c k qs Z=true)(W:All c k qs):False:=
 have X:=band (band h).2;have Y:=band X.2
 Int.not_lt.mpr (P0 qs Z (band h).1 W) (W3 (aq X.1) (jn (fD ((ad (FI c _ Y.1) rfl).trans (uo _))) (I6 k _ Y.2)))
abbrev R.R8:R->List R
 |.lt=>[.ge]
 |.le=>[.gt]
 |.eq=>[.lt,.gt]
 |.ge=>[.lt]
 |.gt=>[.le]
 |.ne=>[.eq]
def R.neg {a b:Int}:(r:R)->(∀s,s∈r.R8->¬s.i a b)->r.i a b
 |.lt=>λh=>Decidable.not_not.mp (h .ge (.head _))
 |.le=>λh=>Decidable.not_not.mp (h .gt (.head _))
 |.eq=>λh=>Int.le_antisymm (Decidable.not_not.mp (h .gt (.tail _ (.head _)))) (Int.not_lt.mp (h .lt (.head _)))
 |.ge=>λh=>h .lt (.head _)
 |.gt=>λh=>h .le (.head _)
 |.ne=>λh=>h .eq (.head _)
abbrev oks (c:List Int)(k:List Nat)(x y:E)(qs:List Q):List R->List (List Int)->Bool
 | []=>λ_=>true
 |r::rs=>λms=>ok c k (#[r,x,y]::qs) (ms.headD [])&&oks c k x y qs rs ms.tail
def PB {c:List Int}{k:List Nat}{x y:E}{qs:List Q}(X:All c k qs):(Y:List R)->(Z:List (List Int))->oks c k x y qs Y Z=true->∀s,s∈Y->¬s.i (x.d c k) (y.d c k)
 |_,_,h,_,.head _=>λW=>VY (band h).1 #[W,X]
 |_,Z,h,s,.tail _ m=>PB X _ Z.tail (band h).2 s m
abbrev chk (c:List Int)(k:List Nat)(g:P)(ps:List P)(ms:List (List Int)):Bool:=
 oks c k g.q.x g.q.y (ps.map P.q) g.q.r.R8 ms
def main {c:List Int}{k:List Nat}{g:P}(Z:List P){Y:List (List Int)}(h:chk c k g Z Y=true)(X:All c k (Z.map P.q)):g.h c k:=
 P.of g (R.neg g.q.r (PB X g.q.r.R8 Y h))
def M:=List (List Int)
def a0 (c:List Int)(k:List Nat)(g:P)(Z:M)(Y:chk c k g [] Z=true:=by show Ar.y):g.h c k:=main [] Y trivial
def a1 (c:List Int)(k:List Nat)(g:P)(Y:M)(Z:P)(W:Z.h c k)(X:chk c k g [Z] Y=true:=by show Ar.y):g.h c k:=main [Z] X #[P.to W,trivial]
def a2 (c:List Int)(k:List Nat)(g:P)(X:M)(Y Z:P)(T:Y.h c k)(U:Z.h c k)(W:chk c k g [Y,Z] X=true:=by show Ar.y):g.h c k:=main [Y,Z] W #[P.to T,P.to U,trivial]
def a3 (c:List Int)(k:List Nat)(g:P)(W:M)(X Y Z:P)(K:X.h c k)(O:Y.h c k)(T:Z.h c k)(U:chk c k g [X,Y,Z] W=true:=by show Ar.y):g.h c k:=main [X,Y,Z] U #[P.to K,P.to O,P.to T,trivial]
def a4 (c:List Int)(k:List Nat)(g:P)(U:M)(W X Y Z:P)(I:W.h c k)(J:X.h c k)(K:Y.h c k)(O:Z.h c k)(T:chk c k g [W,X,Y,Z] U=true:=by show Ar.y):g.h c k:=main [W,X,Y,Z] T #[P.to I,P.to J,P.to K,P.to O,trivial]
def a5 (c:List Int)(k:List Nat)(g:P)(T:M)(U W X Y Z:P)(G:U.h c k)(H:W.h c k)(I:X.h c k)(J:Y.h c k)(K:Z.h c k)(O:chk c k g [U,W,X,Y,Z] T=true:=by show Ar.y):g.h c k:=main [U,W,X,Y,Z] O #[P.to G,P.to H,P.to I,P.to J,P.to K,trivial]
def a6 (c:List Int)(k:List Nat)(g:P)(O:M)(T U W X Y Z:P)(C:T.h c k)(D:U.h c k)(G:W.h c k)(H:X.h c k)(I:Y.h c k)(J:Z.h c k)(K:chk c k g [T,U,W,X,Y,Z] O=true:=by show Ar.y):g.h c k:=main [T,U,W,X,Y,Z] K #[P.to C,P.to D,P.to G,P.to H,P.to I,P.to J,trivial]
def a7 (c:List Int)(k:List Nat)(g:P)(K:M)(O T U W X Y Z:P)(A:O.h c k)(B:T.h c k)(C:U.h c k)(D:W.h c k)(G:X.h c k)(H:Y.h c k)(I:Z.h c k)(J:chk c k g [O,T,U,W,X,Y,Z] K=true:=by show Ar.y):g.h c k:=main [O,T,U,W,X,Y,Z] J #[P.to A,P.to B,P.to C,P.to D,P.to G,P.to H,P.to I,trivial]
def a8 (c:List Int)(k:List Nat)(g:P)(J:M)(K O T U W X Y Z:P)(x:K.h c k)(z:O.h c k)(A:T.h c k)(B:U.h c k)(C:W.h c k)(D:X.h c k)(G:Y.h c k)(H:Z.h c k)(I:chk c k g [K,O,T,U,W,X,Y,Z] J=true:=by show Ar.y):g.h c k:=main [K,O,T,U,W,X,Y,Z] I #[P.to x,P.to z,P.to A,P.to B,P.to C,P.to D,P.to G,P.to H,trivial]
def y:true=true:=rfl
def N.A:N:=.v 0
def E.A:E:=.v 0
def N.B:N:=.v 1
def E.B:E:=.v 1
def N.C:N:=.v 2
def E.C:E:=.v 2
def N.D:N:=.v 3
def E.D:E:=.v 3
def N.F:N:=.v 4
def N.G:N:=.v 5
def N.H:N:=.v 6
def N.I:N:=.v 7
def N.J:N:=.v 8
def N.K:N:=.v 9
def N.O:N:=.n 0
def E.O:E:=.n 0
def N.U:N:=.n 1
def E.U:E:=.n 1
def N.W:N:=.n 2
public abbrev P.l (x y:N):P:=.n .lt x y
public abbrev P.il (x y:E):P:=.i .lt x y
public abbrev P.k (x y:N):P:=.n .le x y
public abbrev P.ik (x y:E):P:=.i .le x y
public abbrev P.e (x y:N):P:=.n .eq x y
public abbrev P.ie (x y:E):P:=.i .eq x y
public abbrev P.g (x y:N):P:=.n .ge x y
public abbrev P.ig (x y:E):P:=.i .ge x y
public abbrev P.j (x y:N):P:=.n .gt x y
public abbrev P.ij (x y:E):P:=.i .gt x y
public abbrev P.u (x y:N):P:=.n .ne x y
public abbrev P.iu (x y:E):P:=.i .ne x y
public abbrev E.ng (k:Int):E:=.n (-k)
def G5 (x y:Nat):x<=x-y+y:=Nat.sub_le_iff_le_add.mp (az _)
def imp {a b:Prop}(h:a->b):¬a\/b:=(Classical.em a).elim (λx=>.inr (h x)) .inl
def iG (x k:Nat)(h:0<k):x%k<k/\k*(x/k)+x%k=x:=#[Nat.mod_lt x h,Nat.div_add_mod x k]
def kx (x y:Nat):min x y<=x/\min x y<=y/\(x<=min x y\/y<=min x y):=#[Nat.min_le_left x y,Nat.min_le_right x y,(Nat.le_total x y).imp (λh=>Nat.le_min.mpr #[az x,h]) λh=>Nat.le_min.mpr #[h,az y]]
def J2 (x y:Int):min x y<=x/\min x y<=y/\(x<=min x y\/y<=min x y):=#[Int.min_le_left x y,Int.min_le_right x y,(fC x y).imp (λh=>Int.le_min.mpr #[Int.le_refl x,h]) λh=>Int.le_min.mpr #[h,Int.le_refl y]]
def eB (x y:Nat):x<=max x y/\y<=max x y/\(max x y<=x\/max x y<=y):=#[Nat.le_max_left x y,Nat.le_max_right x y,(Nat.le_total y x).imp (λh=>Nat.max_le.mpr #[az x,h]) λh=>Nat.max_le.mpr #[h,az y]]
def ton (x:Int):(0<=x/\(x.toNat:Int)=x)\/(x<=0/\x.toNat=0):=
 (fC 0 x).elim (λh=>.inl #[h,Int.toNat_of_nonneg h]) λh=>.inr #[h,Int.toNat_of_nonpos h]
def nab (x:Int):(0<=x/\(x.natAbs:Int)=x)\/(x<=0/\(x.natAbs:Int)=-x):=
 (fC 0 x).elim (λh=>.inl #[h,Int.natAbs_of_nonneg h]) λh=>.inr #[h,Int.ofNat_natAbs_of_nonpos h]
def sub {p:Prop}(x y:Nat)(Y:y<=x->x-y+y=x->p)(Z:x<=y->x-y=0->p):p:=
 (Nat.le_total y x).elim (λh=>Y h (ae h)) λh=>Z h (zd h)
@[elab_as_elim] theorem rwm {Z:Sort u}{a b:Z}{p:Z->Prop}(h:a=b)(q:p b):p a:=Eq.rec (motive:=λx _=>p x) q h.symm
@[elab_as_elim] theorem rwn {Z:Sort u}{a b:Z}{p:Z->Prop}(h:b=a)(q:p b):p a:=Eq.rec (motive:=λx _=>p x) q h
def x0 {Z:Type u}{x:Z}{p:Prop}(h:none=some x):p:=Option.noConfusion rfl (heq_of_eq h)
def x1 {Z:Type u}{x:Z}{p:Prop}(h:some x=none):p:=x0 h.symm
def x2 {Z:Type u}{x y:Z}{p:Prop}(h:some x=some y)(k:x=y->p):p:=k (ak h)
def x3 {Y:Type u}{Z:Type v}{a b:Y}{c d:Z}{p:Prop}(h:(a,c)=(b,d))(k:a=b->c=d->p):p:=k (bz Prod.fst h) (bz Prod.snd h)
def x4 {p:Prop}(h:false=true):p:=Bool.noConfusion h
def x5 {p:Prop}(h:true=false):p:=Bool.noConfusion h
def x8 {Z:Type u}{a b:Z}{p:Prop}(h:a=b)(k:a=b->p):p:=k h
section
variable {r:Prop}
def e2_0 {p q:Prop}(h:p/\q)(k:p->q->r):r:=k h.1 h.2
def e2_1 {p:A->Prop}(h:∃a,p a)(k:∀a,p a->r):r:=h.elim λa g=>k a g
def i2_1 {p:A->Prop}(a:A)(h:p a):∃a,p a:=#[a,h]
def e3_0 {p q s:Prop}(h:p/\q/\s)(k:p->q->s->r):r:=k h.1 h.2.1 h.2.2
def e3_1 {p q:A->Prop}(h:∃a,p a/\q a)(k:∀a,p a->q a->r):r:=h.elim λa g=>k a g.1 g.2
def i3_1 {p q:A->Prop}(a:A)(h:p a)(i:q a):∃a,p a/\q a:=#[a,h,i]
def e3_2 {p:A->B->Prop}(h:∃a b,p a b)(k:∀a b,p a b->r):r:=h.elim λa g=>g.elim λb g=>k a b g
def i3_2 {p:A->B->Prop}(a:A)(b:B)(h:p a b):∃a b,p a b:=#[a,b,h]
def e4_0 {p q s t:Prop}(h:p/\q/\s/\t)(k:p->q->s->t->r):r:=k h.1 h.2.1 h.2.2.1 h.2.2.2
def e4_1 {p q s:A->Prop}(h:∃a,p a/\q a/\s a)(k:∀a,p a->q a->s a->r):r:=h.elim λa g=>k a g.1 g.2.1 g.2.2
def i4_1 {p q s:A->Prop}(a:A)(h:p a)(i:q a)(j:s a):∃a,p a/\q a/\s a:=#[a,h,i,j]
def e4_2 {p q:A->B->Prop}(h:∃a b,p a b/\q a b)(k:∀a b,p a b->q a b->r):r:=h.elim λa g=>g.elim λb g=>k a b g.1 g.2
def i4_2 {p q:A->B->Prop}(a:A)(b:B)(h:p a b)(i:q a b):∃a b,p a b/\q a b:=#[a,b,h,i]
def e4_3 {p:A->B->C->Prop}(h:∃a b c,p a b c)(k:∀a b c,p a b c->r):r:=h.elim λa g=>g.elim λb g=>g.elim λc g=>k a b c g
def i4_3 {p:A->B->C->Prop}(a:A)(b:B)(c:C)(h:p a b c):∃a b c,p a b c:=#[a,b,c,h]
def e5_0 {p q s t u:Prop}(h:p/\q/\s/\t/\u)(k:p->q->s->t->u->r):r:=k h.1 h.2.1 h.2.2.1 h.2.2.2.1 h.2.2.2.2
def e5_1 {p q s t:A->Prop}(h:∃a,p a/\q a/\s a/\t a)(k:∀a,p a->q a->s a->t a->r):r:=h.elim λa g=>k a g.1 g.2.1 g.2.2.1 g.2.2.2
def i5_1 {p q s t:A->Prop}(a:A)(h:p a)(i:q a)(j:s a)(l:t a):∃a,p a/\q a/\s a/\t a:=#[a,h,i,j,l]
def e5_2 {p q s:A->B->Prop}(h:∃a b,p a b/\q a b/\s a b)(k:∀a b,p a b->q a b->s a b->r):r:=h.elim λa g=>g.elim λb g=>k a b g.1 g.2.1 g.2.2
def i5_2 {p q s:A->B->Prop}(a:A)(b:B)(h:p a b)(i:q a b)(j:s a b):∃a b,p a b/\q a b/\s a b:=#[a,b,h,i,j]
def e5_3 {p q:A->B->C->Prop}(h:∃a b c,p a b c/\q a b c)(k:∀a b c,p a b c->q a b c->r):r:=h.elim λa g=>g.elim λb g=>g.elim λc g=>k a b c g.1 g.2
def i5_3 {p q:A->B->C->Prop}(a:A)(b:B)(c:C)(h:p a b c)(i:q a b c):∃a b c,p a b c/\q a b c:=#[a,b,c,h,i]
def e5_4 {p:A->B->C->D->Prop}(h:∃a b c d,p a b c d)(k:∀a b c d,p a b c d->r):r:=h.elim λa g=>g.elim λb g=>g.elim λc g=>g.elim λd g=>k a b c d g
def e6_1 {p q s t u:A->Prop}(h:∃a,p a/\q a/\s a/\t a/\u a)(k:∀a,p a->q a->s a->t a->u a->r):r:=h.elim λa g=>k a g.1 g.2.1 g.2.2.1 g.2.2.2.1 g.2.2.2.2
def e6_2 {p q s t:A->B->Prop}(h:∃a b,p a b/\q a b/\s a b/\t a b)(k:∀a b,p a b->q a b->s a b->t a b->r):r:=h.elim λa g=>g.elim λb g=>k a b g.1 g.2.1 g.2.2.1 g.2.2.2
def i6_2 {p q s t:A->B->Prop}(a:A)(b:B)(h:p a b)(i:q a b)(j:s a b)(l:t a b):∃a b,p a b/\q a b/\s a b/\t a b:=#[a,b,h,i,j,l]
def e6_3 {p q s:A->B->C->Prop}(h:∃a b c,p a b c/\q a b c/\s a b c)(k:∀a b c,p a b c->q a b c->s a b c->r):r:=h.elim λa g=>g.elim λb g=>g.elim λc g=>k a b c g.1 g.2.1 g.2.2
def i6_3 {p q s:A->B->C->Prop}(a:A)(b:B)(c:C)(h:p a b c)(i:q a b c)(j:s a b c):∃a b c,p a b c/\q a b c/\s a b c:=#[a,b,c,h,i,j]
def e6_4 {p q:A->B->C->D->Prop}(h:∃a b c d,p a b c d/\q a b c d)(k:∀a b c d,p a b c d->q a b c d->r):r:=h.elim λa g=>g.elim λb g=>g.elim λc g=>g.elim λd g=>k a b c d g.1 g.2
def i6_4 {p q:A->B->C->D->Prop}(a:A)(b:B)(c:C)(d:D)(h:p a b c d)(i:q a b c d):∃a b c d,p a b c d/\q a b c d:=#[a,b,c,d,h,i]
def e6_5 {p:A->B->C->D->F->Prop}(h:∃a b c d f,p a b c d f)(k:∀a b c d f,p a b c d f->r):r:=h.elim λa g=>g.elim λb g=>g.elim λc g=>g.elim λd g=>g.elim λf g=>k a b c d f g
def i6_5 {p:A->B->C->D->F->Prop}(a:A)(b:B)(c:C)(d:D)(f:F)(h:p a b c d f):∃a b c d f,p a b c d f:=#[a,b,c,d,f,h]
def e7_0 {p q s t u v w:Prop}(h:p/\q/\s/\t/\u/\v/\w)(k:p->q->s->t->u->v->w->r):r:=k h.1 h.2.1 h.2.2.1 h.2.2.2.1 h.2.2.2.2.1 h.2.2.2.2.2.1 h.2.2.2.2.2.2
def i7_1 {p q s t u v:A->Prop}(a:A)(h:p a)(i:q a)(j:s a)(l:t a)(m:u a)(n:v a):∃a,p a/\q a/\s a/\t a/\u a/\v a:=#[a,h,i,j,l,m,n]
def e7_2 {p q s t u:A->B->Prop}(h:∃a b,p a b/\q a b/\s a b/\t a b/\u a b)(k:∀a b,p a b->q a b->s a b->t a b->u a b->r):r:=h.elim λa g=>g.elim λb g=>k a b g.1 g.2.1 g.2.2.1 g.2.2.2.1 g.2.2.2.2
def i7_2 {p q s t u:A->B->Prop}(a:A)(b:B)(h:p a b)(i:q a b)(j:s a b)(l:t a b)(m:u a b):∃a b,p a b/\q a b/\s a b/\t a b/\u a b:=#[a,b,h,i,j,l,m]
def e7_3 {p q s t:A->B->C->Prop}(h:∃a b c,p a b c/\q a b c/\s a b c/\t a b c)(k:∀a b c,p a b c->q a b c->s a b c->t a b c->r):r:=h.elim λa g=>g.elim λb g=>g.elim λc g=>k a b c g.1 g.2.1 g.2.2.1 g.2.2.2
def i7_3 {p q s t:A->B->C->Prop}(a:A)(b:B)(c:C)(h:p a b c)(i:q a b c)(j:s a b c)(l:t a b c):∃a b c,p a b c/\q a b c/\s a b c/\t a b c:=#[a,b,c,h,i,j,l]
def e7_4 {p q s:A->B->C->D->Prop}(h:∃a b c d,p a b c d/\q a b c d/\s a b c d)(k:∀a b c d,p a b c d->q a b c d->s a b c d->r):r:=h.elim λa g=>g.elim λb g=>g.elim λc g=>g.elim λd g=>k a b c d g.1 g.2.1 g.2.2
def i7_4 {p q s:A->B->C->D->Prop}(a:A)(b:B)(c:C)(d:D)(h:p a b c d)(i:q a b c d)(j:s a b c d):∃a b c d,p a b c d/\q a b c d/\s a b c d:=#[a,b,c,d,h,i,j]
def e8_2 {p q s t u v:A->B->Prop}(h:∃a b,p a b/\q a b/\s a b/\t a b/\u a b/\v a b)(k:∀a b,p a b->q a b->s a b->t a b->u a b->v a b->r):r:=h.elim λa g=>g.elim λb g=>k a b g.1 g.2.1 g.2.2.1 g.2.2.2.1 g.2.2.2.2.1 g.2.2.2.2.2
def i8_2 {p q s t u v:A->B->Prop}(a:A)(b:B)(h:p a b)(i:q a b)(j:s a b)(l:t a b)(m:u a b)(n:v a b):∃a b,p a b/\q a b/\s a b/\t a b/\u a b/\v a b:=#[a,b,h,i,j,l,m,n]
def e8_3 {p q s t u:A->B->C->Prop}(h:∃a b c,p a b c/\q a b c/\s a b c/\t a b c/\u a b c)(k:∀a b c,p a b c->q a b c->s a b c->t a b c->u a b c->r):r:=h.elim λa g=>g.elim λb g=>g.elim λc g=>k a b c g.1 g.2.1 g.2.2.1 g.2.2.2.1 g.2.2.2.2
def i8_3 {p q s t u:A->B->C->Prop}(a:A)(b:B)(c:C)(h:p a b c)(i:q a b c)(j:s a b c)(l:t a b c)(m:u a b c):∃a b c,p a b c/\q a b c/\s a b c/\t a b c/\u a b c:=#[a,b,c,h,i,j,l,m]
def e8_4 {p q s t:A->B->C->D->Prop}(h:∃a b c d,p a b c d/\q a b c d/\s a b c d/\t a b c d)(k:∀a b c d,p a b c d->q a b c d->s a b c d->t a b c d->r):r:=h.elim λa g=>g.elim λb g=>g.elim λc g=>g.elim λd g=>k a b c d g.1 g.2.1 g.2.2.1 g.2.2.2
def i8_4 {p q s t:A->B->C->D->Prop}(a:A)(b:B)(c:C)(d:D)(h:p a b c d)(i:q a b c d)(j:s a b c d)(l:t a b c d):∃a b c d,p a b c d/\q a b c d/\s a b c d/\t a b c d:=#[a,b,c,d,h,i,j,l]
def e9_0 {p q s t u v w k J:Prop}(h:p/\q/\s/\t/\u/\v/\w/\k/\J)(k:p->q->s->t->u->v->w->k->J->r):r:=k h.1 h.2.1 h.2.2.1 h.2.2.2.1 h.2.2.2.2.1 h.2.2.2.2.2.1 h.2.2.2.2.2.2.1 h.2.2.2.2.2.2.2.1 h.2.2.2.2.2.2.2.2
def e9_2 {p q s t u v w:A->B->Prop}(h:∃a b,p a b/\q a b/\s a b/\t a b/\u a b/\v a b/\w a b)(k:∀a b,p a b->q a b->s a b->t a b->u a b->v a b->w a b->r):r:=h.elim λa g=>g.elim λb g=>k a b g.1 g.2.1 g.2.2.1 g.2.2.2.1 g.2.2.2.2.1 g.2.2.2.2.2.1 g.2.2.2.2.2.2
def e9_3 {p q s t u v:A->B->C->Prop}(h:∃a b c,p a b c/\q a b c/\s a b c/\t a b c/\u a b c/\v a b c)(k:∀a b c,p a b c->q a b c->s a b c->t a b c->u a b c->v a b c->r):r:=h.elim λa g=>g.elim λb g=>g.elim λc g=>k a b c g.1 g.2.1 g.2.2.1 g.2.2.2.1 g.2.2.2.2.1 g.2.2.2.2.2
def i9_3 {p q s t u v:A->B->C->Prop}(a:A)(b:B)(c:C)(h:p a b c)(i:q a b c)(j:s a b c)(l:t a b c)(m:u a b c)(n:v a b c):∃a b c,p a b c/\q a b c/\s a b c/\t a b c/\u a b c/\v a b c:=#[a,b,c,h,i,j,l,m,n]
def e9_4 {p q s t u:A->B->C->D->Prop}(h:∃a b c d,p a b c d/\q a b c d/\s a b c d/\t a b c d/\u a b c d)(k:∀a b c d,p a b c d->q a b c d->s a b c d->t a b c d->u a b c d->r):r:=h.elim λa g=>g.elim λb g=>g.elim λc g=>g.elim λd g=>k a b c d g.1 g.2.1 g.2.2.1 g.2.2.2.1 g.2.2.2.2
def i9_4 {p q s t u:A->B->C->D->Prop}(a:A)(b:B)(c:C)(d:D)(h:p a b c d)(i:q a b c d)(j:s a b c d)(l:t a b c d)(m:u a b c d):∃a b c d,p a b c d/\q a b c d/\s a b c d/\t a b c d/\u a b c d:=#[a,b,c,d,h,i,j,l,m]
def e9_5 {p q s t:A->B->C->D->F->Prop}(h:∃a b c d f,p a b c d f/\q a b c d f/\s a b c d f/\t a b c d f)(k:∀a b c d f,p a b c d f->q a b c d f->s a b c d f->t a b c d f->r):r:=h.elim λa g=>g.elim λb g=>g.elim λc g=>g.elim λd g=>g.elim λf g=>k a b c d f g.1 g.2.1 g.2.2.1 g.2.2.2
def i9_5 {p q s t:A->B->C->D->F->Prop}(a:A)(b:B)(c:C)(d:D)(f:F)(h:p a b c d f)(i:q a b c d f)(j:s a b c d f)(l:t a b c d f):∃a b c d f,p a b c d f/\q a b c d f/\s a b c d f/\t a b c d f:=#[a,b,c,d,f,h,i,j,l]
def e9_7 {p q:A->B->C->D->F->G->H->Prop}(h:∃a b c d f y z,p a b c d f y z/\q a b c d f y z)(k:∀a b c d f y z,p a b c d f y z->q a b c d f y z->r):r:=h.elim λa g=>g.elim λb g=>g.elim λc g=>g.elim λd g=>g.elim λf g=>g.elim λy g=>g.elim λz g=>k a b c d f y z g.1 g.2
def i9_7 {p q:A->B->C->D->F->G->H->Prop}(a:A)(b:B)(c:C)(d:D)(f:F)(y:G)(z:H)(h:p a b c d f y z)(i:q a b c d f y z):∃a b c d f y z,p a b c d f y z/\q a b c d f y z:=#[a,b,c,d,f,y,z,h,i]
def e9_8 {p:A->B->C->D->F->G->H->I->Prop}(h:∃a b c d f y z o,p a b c d f y z o)(k:∀a b c d f y z o,p a b c d f y z o->r):r:=h.elim λa g=>g.elim λb g=>g.elim λc g=>g.elim λd g=>g.elim λf g=>g.elim λy g=>g.elim λz g=>g.elim λo g=>k a b c d f y z o g
end
public abbrev M.f:M:=[[1]]
public abbrev M.a:M:=[[1,1]]
public abbrev M.o:M:=[[0,1]]
public abbrev M.D:M:=[[2,1]]
public abbrev M.C:M:=[[1,-1]]
public abbrev M.b:M:=[[1,1,1]]
public abbrev M.d:M:=[[0,1,1]]
public abbrev M.n:M:=[[1],[1]]
public abbrev M.c:M:=[[1,1,-1]]
public abbrev M.t:M:=[[1,-1,1]]
public abbrev M.e:M:=[[1,1,1,1]]
public abbrev M.h:M:=[[0,1,1,1]]
public abbrev M.q:M:=[[1,1,-1,1]]
public abbrev M.v:M:=[[1,1,1,-1]]
public abbrev M.s:M:=[[1,1,1,1,1]]
public abbrev M.w:M:=[[1,0],[1,1]]
public abbrev M.x:M:=[[0,1],[0,1]]
public abbrev M.i:M:=[[1,1],[1,-1]]
public abbrev M.k:M:=[[1,-1],[1,1]]
public abbrev M.u:M:=[[1,1,1,-1,1]]
public abbrev M.g:M:=[[1,0,1],[1,1,0]]
public abbrev M.j:M:=[[0,1,1],[0,1,1]]
public abbrev M.y:M:=[[1,0,0],[1,1,1]]
public abbrev M.z:M:=[[1,1,0],[1,0,1]]
public abbrev M.l:M:=[[1,-1,1],[1,1,-1]]
public abbrev M.G:M:=[[1,-1,-1],[1,1,1]]
def E.L:E:=.t .A
def E.M:E:=.t .B
def N.aC:N:=.n 300
def E.R:E:=.t .C
public abbrev M.m:M:=[[1,1,0,1],[1,0,1,0]]
public abbrev M.E:M:=[[1,1,1,0],[1,0,0,1]]
public abbrev M.F:M:=[[0,1,1,1],[0,1,1,1]]
public abbrev M.r:M:=[[1,1,0,-1],[1,0,1,0]]
def N.aB:N:=.n 400000
def N.X:N:=.n 1000000
public abbrev M.p:M:=[[1,-1,1,-1],[1,1,-1,1]]
def E.P:E:=.n (2^63)
def E.Q:E:=.n (2^64)
public abbrev M.A:M:=[[1,0,1,1,0],[1,1,0,0,1]]
public abbrev M.B:M:=[[1,1,1,0,0],[1,0,0,1,1]]
def N.aH:N:=.m 2 .B
def P.A:P:=.k .A .B
def N.L:N:=.a .A .U
def P.B:P:=.l .A .B
def N.M:N:=.a .B .U
def N.P:N:=.a .A .B
def P.C:P:=.e .A .B
def P.D:P:=.k .U .A
def P.F:P:=.l .O .A
def N.Q:N:=.a .B .C
def N.R:N:=.a .C .U
def P.G:P:=.k .C .B
def N.S:N:=.a .C .D
def P.I:P:=.l .A .C
def P.J:P:=.k .A .C
def N.T:N:=.a .A .C
def N.V:N:=.a .D .U
def P.M:P:=.e .A .O
def N.Y:N:=.a .A .D
def P.N:P:=.l .C .D
def P.O:P:=.l .C .B
def P.V:P:=.k .B .A
def N.a0:N:=.a .D .F
def N.a1:N:=.a .F .U
def N.a2:N:=.a .O .U
def P.W:P:=.l .B .A
def P.Y:P:=.l .B .D
def P.Z:P:=.l .O .B
def P.a0:P:=.e .C .O
def P.a8:P:=.k .C .A
def P.aA:P:=.k .A .D
def P.aB:P:=.k .C .D
def P.aC:P:=.l .D .C
def P.aD:P:=.l .U .A
def N.a3:N:=.a .C .A
def N.a4:N:=.a .B .F
def N.a6:N:=.a .G .H
def N.a7:N:=.a .C .B
def P.aJ:P:=.e .B .O
def P.aS:P:=.e .D .O
def P.aT:P:=.e .F .O
def P.aU:P:=.l .O .C
def N.a9:N:=.a .O .A
def P.aV:P:=.e .C .D
def P.aZ:P:=.l .B .C
def P.b0:P:=.l .A .O
def N.aD:N:=.a .D .C
def N.aF:N:=.a .B .D
def P.bF:P:=.k .O .A
def P.bK:P:=.e .B .A
def N.aI:N:=.a .A .F
def N.aJ:N:=.a .G .U
def P.bL:P:=.k .D .C
def P.bR:P:=.g .C .D
def N.aK:N:=.a .D .B
def N.aM:N:=.a .A .A
def P.c0:P:=.k .D .A
def P.c1:P:=.e .B .D
def P.c9:P:=.k .D .F
def P.cA:P:=.e .C .A
def P.cB:P:=.k .B .C
def N.aN:N:=.a .F .G
def P.cI:P:=.e .D .B
def P.cJ:P:=.k .D .B
def P.cL:P:=.k .F .C
def P.cM:P:=.u .A .B
def P.cP:P:=.e .G .O
def P.cS:P:=.l .C .O
def P.cV:P:=.l .D .F
def N.aR:N:=.a .A .O
def N.aS:N:=.a .A .W
def P.cW:P:=.k .B .D
def P.cX:P:=.g .A .B
def N.aT:N:=.a .B .G
def N.aU:N:=.a .O .B
def P.cZ:P:=.l .C .A
def P.d0:P:=.e .H .O
def P.d1:P:=.e .D .C
def P.aH:P:=.ie .A .B
def P.aN:P:=.il .A .B
def P.aR:P:=.ik .O .A
def P.bN:P:=.ig .A .B
def P.c6:P:=.ie .C .D
def P.c7:P:=.il .B .A
def P.d2:P:=.il .O .A
def P.d4:P:=.ik .A .O
def P.d6:P:=.ie .B .A
def P.a3:P:=.k .A (.n 63)
def P.aL:P:=.k .B (.n 63)
def P.aM:P:=.l .B (.n 64)
def P.bG:P:=.l .A (.n 64)
def P.aP:P:=.l .A (.n 200)
def P.aQ:P:=.l .B (.n 500)
def P.b4:P:=.l .B (.n 900)
def P.cU:P:=.l .A (.n 500)
def P.a4:P:=.l .A (.n 1000)
def P.cK:P:=.ie .L .A
def P.aI:P:=.l .A .X
def P.bQ:P:=.k .A .X
def P.a6:P:=.l .A (.n (2^60))
def P.b8:P:=.k .A (.n 16777216)
def P.bA:P:=.l .A (.n (2^40))
def P.cQ:P:=.il .A .P
def N.aQ:N:=.a (.m 2 .C) .U
def N.aV:N:=.a .aH .U
def P.H:P:=.k .L .B
def P.K:P:=.k .P .C
def P.L:P:=.l .P .C
def N.Z:N:=.a .L .B
def P.Q:P:=.e (.a .D .A) .C
def P.R:P:=.l .aM .B
def P.S:P:=.e .P .C
def P.U:P:=.k .A .M
def P.X:P:=.e .L .C
def P.a1:P:=.l .L .B
def P.a2:P:=.e .L .B
def P.a5:P:=.e .A .Q
def P.a7:P:=.l .A .M
def P.a9:P:=.e .A .M
def P.aG:P:=.k .A .Q
def N.a5:N:=.a .L .U
def N.a8:N:=.a .A .M
def N.aA:N:=.a .A .R
def P.aX:P:=.k .U .P
def P.aY:P:=.k .A .P
def N.aG:N:=.a .B .R
def P.b5:P:=.e .S .F
def P.b6:P:=.e (.a .B .A) .C
def P.b7:P:=.e (.a .G .A) .C
def P.b9:P:=.l (.a .B .B) .C
def P.bC:P:=.e .T .D
def P.bD:P:=.e .Q .D
def P.bH:P:=.k .C .M
def P.bI:P:=.e .M .A
def P.bU:P:=.e (.a .C .F) .G
def N.aL:N:=.a .A .Q
def P.bZ:P:=.e .M .C
def P.c5:P:=.e .a4 .G
def P.c8:P:=.k .S .B
def P.cC:P:=.e .Y .C
def P.cD:P:=.e .Y .F
def P.cF:P:=.k .A (.a .B .O)
def P.cG:P:=.e (.a .D .G) .F
def P.cH:P:=.e (.a .F .H) .G
def N.aP:N:=.a .P .C
def P.cN:P:=.k .T .B
def P.cR:P:=.e .a3 .B
def P.cT:P:=.e .R .D
def P.cY:P:=.e .M .D
def P.dB:P:=.e (.a .G .A) .D
def P.dC:P:=.e (.a .H .A) .D
def E.S:E:=.s .L .M
def P.c3:P:=.ie .L (.g .A)
def P.bP:P:=.ik (.g .P) .A
def P.b3:P:=.e .B (.a .A (.n 3))
def P.d7:P:=.e (.a .aH .F) .G
def P.T:P:=.k .a8 .C
def P.aK:P:=.k .L .M
def P.aW:P:=.e (.a .A .V) .F
def P.b1:P:=.k .Z .C
def P.b2:P:=.k .a2 .L
def P.bS:P:=.l (.a .P .U) .C
def P.bT:P:=.k .A (.a .M .C)
def P.bV:P:=.l .a5 .B
def P.bX:P:=.k .P .S
def P.bY:P:=.l .Z .C
def P.d3:P:=.e .aA .D
def P.dA:P:=.k .A (.a .M .O)
def P.d9:P:=.e (.a (.m 2 .A) .D) .a7
def P.bM:P:=.e (.a .C .a2) .M
def P.d5:P:=.k .a5 .M
def P.d8:P:=.k (.a (.a .A .G) .H) .a0
def P.bJ:P:=.ie (.s (.t .L) .U) .L
def P.bW:P:=.e (.a .C (.a .V .U)) .a1
def P.aF:P:=.l (.a (.a .A (.m 3 .M)) (.n 20)) .C
def P.bB:P:=.l (.a (.a .A (.m 3 (.a .B .W))) (.n 20)) .C
def P.c2:P:=.l (.a (.a .A (.m 3 .R)) (.n 20)) .B
def P.c4:P:=.l (.a (.a .A (.m 30 .M)) .aC) .C
end Ar
namespace Mine.Z
abbrev fc:=λ{k0 k1 k2 k3}=>@Ar.a2 [] [k0,k1,k2,k3]
abbrev bt:=λ{k0 k1}=>@Ar.a1 [] [k0,k1]
abbrev WI:=λ{k0 k1 k2 k3 k4 k5 k6 k7 k8 k9 k10 k11 k12 k13 k14}=>@Ar.a8 [] [k0,k1,k2,k3,k4,k5,k6,k7,k8,k9,k10,k11,k12,k13,k14]
abbrev ek:=λ{k0 k1 k2}=>@Ar.a1 [] [k0,k1,k2]
abbrev fk:=λ{k0 k1 k2}=>@Ar.a2 [] [k0,k1,k2]
abbrev V9:=λ{k0 k1 k2 k3 k4 k5 k6}=>@Ar.a7 [] [k0,k1,k2,k3,k4,k5,k6]
abbrev jf:=λ{k0}=>@Ar.a0 [] [k0]
abbrev V8:=λ{k0 k1 k2 k3 k4 k5 k6 k7}=>@Ar.a8 [] [k0,k1,k2,k3,k4,k5,k6,k7]
abbrev ef:=λ{k0}=>@Ar.a1 [] [k0]
abbrev qd:=λ{c0}=>@Ar.a1 [c0] []
abbrev mq:=λ{k0 k1 k2 k3}=>@Ar.a3 [] [k0,k1,k2,k3]
abbrev fU:=λ{k0 k1 k2 k3 k4 k5}=>@Ar.a4 [] [k0,k1,k2,k3,k4,k5]
abbrev mi:=λ{k0 k1 k2}=>@Ar.a3 [] [k0,k1,k2]
abbrev qQ:=λ{c0}=>@Ar.a0 [c0] []
abbrev gz:=λ{k0 k1}=>@Ar.a2 [] [k0,k1]
abbrev dQ:=λ{c0 k0}=>@Ar.a2 [c0] [k0]
abbrev my:=λ{k0 k1 k2 k3 k4}=>@Ar.a3 [] [k0,k1,k2,k3,k4]
abbrev vi:=λ{k0 k1}=>@Ar.a0 [] [k0,k1]
abbrev kW:=λ{k0 k1 k2 k3 k4}=>@Ar.a2 [] [k0,k1,k2,k3,k4]
abbrev yQ:=λ{k0 k1 k2 k3}=>@Ar.a1 [] [k0,k1,k2,k3]
abbrev VB:=λ{c0 k0 k1}=>@Ar.a4 [c0] [k0,k1]
abbrev PZ:=λ{c0 k0 k1 k2 k3}=>@Ar.a4 [c0] [k0,k1,k2,k3]
abbrev Q0:=λ{c0 k0 k1 k2}=>@Ar.a4 [c0] [k0,k1,k2]
abbrev SI:=λ{k0 k1 k2 k3 k4 k5}=>@Ar.a6 [] [k0,k1,k2,k3,k4,k5]
abbrev K9:=λ{k0 k1 k2 k3 k4}=>@Ar.a4 [] [k0,k1,k2,k3,k4]
abbrev kY:=@Ar.a0 [] []
abbrev eM:=λ{k0 k1 k2 k3}=>@Ar.a4 [] [k0,k1,k2,k3]
abbrev sG:=λ{k0 k1 k2 k3 k4 k5}=>@Ar.a3 [] [k0,k1,k2,k3,k4,k5]
abbrev qP:=λ{k0 k1 k2 k3 k4 k5}=>@Ar.a5 [] [k0,k1,k2,k3,k4,k5]
abbrev yN:=λ{k0 k1 k2 k3 k4 k5 k6}=>@Ar.a5 [] [k0,k1,k2,k3,k4,k5,k6]
abbrev OD:=λ{k0 k1 k2 k3 k4}=>@Ar.a5 [] [k0,k1,k2,k3,k4]
abbrev KA:=λ{k0}=>@Ar.a2 [] [k0]
abbrev WQ:=λ{k0 k1 k2 k3 k4 k5 k6}=>@Ar.a2 [] [k0,k1,k2,k3,k4,k5,k6]
abbrev yR:=λ{c0 k0}=>@Ar.a1 [c0] [k0]
abbrev ru:=λ{c0 c1}=>@Ar.a1 [c0,c1] []
abbrev yO:=λ{c0 k0 k1}=>@Ar.a2 [c0] [k0,k1]
abbrev Q1:=λ{c0 k0 k1}=>@Ar.a3 [c0] [k0,k1]
abbrev VC:=λ{c0 k0 k1 k2}=>@Ar.a3 [c0] [k0,k1,k2]
abbrev WL:=λ{k0 k1 k2 k3 k4 k5 k6 k7 k8 k9}=>@Ar.a6 [] [k0,k1,k2,k3,k4,k5,k6,k7,k8,k9]
abbrev WJ:=λ{k0 k1 k2 k3 k4 k5 k6 k7 k8 k9 k10}=>@Ar.a7 [] [k0,k1,k2,k3,k4,k5,k6,k7,k8,k9,k10]
abbrev K7:=λ{k0 k1 k2 k3 k4 k5 k6}=>@Ar.a4 [] [k0,k1,k2,k3,k4,k5,k6]
abbrev VD:=λ{k0 k1}=>@Ar.a3 [] [k0,k1]
abbrev WR:=λ{k0 k1 k2 k3 k4}=>@Ar.a1 [] [k0,k1,k2,k3,k4]
abbrev VF:=λ{c0 c1 c2}=>@Ar.a0 [c0,c1,c2] []
abbrev VE:=λ{k0 k1 k2}=>@Ar.a0 [] [k0,k1,k2]
abbrev SJ:=@Ar.a1 [] []
abbrev kX:=λ{c0 c1 c2 c3}=>@Ar.a2 [c0,c1,c2,c3] []
abbrev yP:=λ{c0 c1}=>@Ar.a2 [c0,c1] []
abbrev tN:=λ{c0 c1 c2}=>@Ar.a2 [c0,c1,c2] []
abbrev WN:=λ{k0 k1 k2 k3 k4 k5 k6 k7 k8}=>@Ar.a5 [] [k0,k1,k2,k3,k4,k5,k6,k7,k8]
abbrev WO:=λ{k0 k1 k2 k3 k4 k5 k6}=>@Ar.a3 [] [k0,k1,k2,k3,k4,k5,k6]
abbrev VA:=λ{k0 k1 k2 k3 k4 k5 k6}=>@Ar.a6 [] [k0,k1,k2,k3,k4,k5,k6]
abbrev WK:=λ{k0 k1 k2 k3 k4 k5 k6 k7}=>@Ar.a7 [] [k0,k1,k2,k3,k4,k5,k6,k7]
end Mine.Z
end
section
set_option tactic.hygienic true
set_option backward.match.sparseCases false
namespace MP
set_option genSizeOf false
set_option genInjectivity false
open PySem
structure EV where
 ks:List Expr
 s:Str
 k:Nat
 op:BoolOp
 g:List Comprehension×Scope
 b:Option Expr×Option Expr
 c:Const
abbrev vk (ks:List Expr):EV:=#[ks,"",0,.And,([],default),(none,none),.none]
abbrev v0:EV:=vk []
abbrev vw (x:Expr):EV:=Expr.casesOn (motive_1:=λ_=>EV) x
 (λop xs _=>#[xs,"",0,op,([],default),(none,none),.none])
 (λ_ _ _=>v0)
 (λl _ r _=>vk [l,r])
 (λ_ y _=>vk [y])
 (λ_ _ _ _=>v0)
 (λu y z _=>vk [u,y,z])
 (λ_ _ _=>v0)
 (λ_ _ _=>v0)
 (λy gs sc _=>#[[y],"",0,.And,(gs,sc),(none,none),.none])
 (λy gs sc _=>#[[y],"",0,.And,(gs,sc),(none,none),.none])
 (λy z gs sc _=>#[[y,z],"",0,.And,(gs,sc),(none,none),.none])
 (λ_ _ _ _=>v0)
 (λ_ _=>v0)
 (λ_ _=>v0)
 (λ_ _=>v0)
 (λl _ r _=>vk (l::r))
 (λf xs _ _=>vk (f::xs))
 (λ_ _ _ _=>v0)
 (λ_ _=>v0)
 (λc k _=>#[[],"",k,.And,([],default),(none,none),c])
 (λy _ _=>vk [y])
 (λy z _=>vk [y,z])
 (λ_ _=>v0)
 (λy _=>#[[],y,0,.And,([],default),(none,none),.none])
 (λxs _=>vk xs)
 (λxs k _=>#[xs,"",k,.And,([],default),(none,none),.none])
 (λl h st _=>#[st.toList,"",0,.And,([],default),(l,h),.none])
abbrev fA (k:Nat)(x:Expr):Bool:=Nat.beq x.ctorIdx k
abbrev kids (x:Expr):List Expr:=(vw x).ks
abbrev kid (i:Nat)(x:Expr):Expr:=(kids x).getD i default
abbrev md (x:Expr):Str:=(vw x).s
abbrev exK (x:Expr):Nat:=(vw x).k
abbrev CL (x:Expr):Str:=match (vw x).c with
 |.str t=>t
 |_=>""
structure SV where
 es:List Expr
 b:List Stmt
 c:List Stmt
abbrev s0:SV:=#[[],[],[]]
abbrev sw (x:Stmt):SV:=Stmt.casesOn (motive_2:=λ_=>SV) x
 (λ_ _ _ _ _ _ _ _ _ _=>s0)
 (λ_ _ _ _ _ _ _ _ _ _=>s0)
 (λ_ _ _ b _ _ _ _ _ _ _=>#[[],b,[]])
 (λe _=>#[e.toList,[],[]])
 (λts _=>#[ts,[],[]])
 (λts e _=>#[e::ts,[],[]])
 (λ_ _ _ _ _ _ _=>s0)
 (λt _ e _=>#[[e,t],[],[]])
 (λ_ _ _ _ _=>s0)
 (λt e b _ _=>#[[e,t],b,[]])
 (λ_ _ _ _ _=>s0)
 (λe b _ _=>#[[e],b,[]])
 (λe b c _=>#[[e],b,c])
 (λ_ _ _=>s0)
 (λ_ _ _=>s0)
 (λ_ _ _=>s0)
 (λ_ _ _=>s0)
 (λ_ _ _ _ _=>s0)
 (λ_ _ _ _ _=>s0)
 (λ_ _ _=>s0)
 (λ_ _=>s0)
 (λ_ _ _ _=>s0)
 (λ_ _=>s0)
 (λ_ _=>s0)
 (λe _=>#[[e],[],[]])
 (λ_=>s0)
 (λ_=>s0)
 (λ_=>s0)
abbrev zj (x:Stmt):List Expr:=(sw x).es
abbrev st0 (x:Stmt):Expr:=(zj x).headD default
end MP
end
section
set_option backward.match.sparseCases false
open PySem PySem.W PyProof.Rows
set_option maxHeartbeats 0
namespace Mine
public abbrev pw:Program:=PySem.Challenge.pw_dm0056_05
public abbrev an:Option Value:=some (Value.ref 6)
public abbrev p0:Pos:=#[0,0,0,0]
public abbrev TB:String->Option Builtin:=PySem.W.Fast.tw14364793385576792824
def goT:=PySem.W.Fast.tw10295753902157049106
def TP:=PySem.W.Fast.tw10110043849684766642
public abbrev QY:Builtin:=PySem.W.Fast.tw4202317264376624991
public abbrev B0:List Frame:=[topFrame p0]
abbrev mB (x:Stmt):Str:=MP.CL (MP.st0 ((MP.sw x).b.headD default))
abbrev WD (d:Str)(x:Stmt):Stmt:=.Expr (.Constant (.str d) (MP.exK (MP.st0 x)) (MP.st0 x).pos) x.pos
abbrev NZ (d:Str):Stmt->Stmt
 |.ClassDef n b k bo dl tp sc ts bd sa pos=>.ClassDef n b k (bo.modify 0 (WD d)) dl tp sc ts bd sa pos
 |s=>s
abbrev PQ (i:Nat)(d:Str)(p:Program):Program:={p with main:={p.main with body:=p.main.body.modify i (NZ d)}}
abbrev Ds:{s:String // mB (pw.main.body.getD 5 default)=Str.ofString s}:=#[_,rfl]
abbrev PN:{cs:List Char // String.ofList cs=Ds.1}:=#[_,rfl]
abbrev UY:Str:=#[(PySem.W.R.mapR Char.toNat PN.1).toArray]
def O0:mB (pw.main.body.getD 5 default)=UY:=by
 rw[Ds.2,<- PN.2,Fast.ofString_ofList,PySem.W.R.mapR_eq];rfl
abbrev pwF:Program:=PQ 5 UY pw
def QT:pwF=pw:=by
 have h:PQ 5 (mB (pw.main.body.getD 5 default)) pw=pw:=by kernel_rfl
 rw[O0]at h;show h
abbrev S0 (w:World)(os:OsState):Shared:=#[boot_heap w.params,#[[]],boot_drawn,boot_toks,os]
public abbrev bE:List Stmt:=behindTheImports pw
public abbrev bF:List Stmt:=behindTheImports pwF
def V6:bF=bE:=bz behindTheImports QT
public abbrev NV:Env:={scope:=pw.main.scope,locals:=mainNs,globals:=mainNs,cells:=[],code:=Value.ref 13,frame:=some 14}
public abbrev cE:Code:=Code.body bE NV
abbrev X0 (w:World)(os:OsState):Option (Shared×Thread):=topGo TB pw w 11 an 12 (S0 w os) (topStub pw)
abbrev ob (w:World)(os:OsState)(i:Nat):Obj:=((X0 w os).elim (S0 w os) (·.1)).heap.objs.toList.getD i default
abbrev T4 (w:World)(os:OsState):BT:=
 .node (ob w os 0)
  (.node (ob w os 1) (.node (ob w os 3) (.node (ob w os 7) .nil .nil) (.node (ob w os 11) .nil .nil)) (.node (ob w os 5) (.node (ob w os 9) .nil .nil) (.node (ob w os 13) .nil .nil)))
  (.node (ob w os 2) (.node (ob w os 4) (.node (ob w os 8) .nil .nil) (.node (ob w os 12) .nil .nil)) (.node (ob w os 6) (.node (ob w os 10) .nil .nil) (.node (ob w os 14) .nil .nil)))
abbrev S4 (w:World)(os:OsState):SharedT:={tree:=T4 w os,n:=15,life:={},gens:=#[[]],drawn:={},toks:=187,os:=os}
def pre:(λw os=>topGo TB pw w 11 an 12 (S0 w os) (topStub pw))=λw os=>some ((S4 w os).abs,#[denote TB cE,cE,p0,B0]):=by kernel_rfl
def blk:(λw os=>segRun TB pw w 11 an 1 1 (S4 w os).abs (blockOf bE NV cE p0 B0))=λw os=>some (Flow.next,(S4 w os).abs,cE,p0):=by kernel_rfl
def fin:(λw c q s=>topRun TB pw w 11 an 2 s #[doneF .next,c,q,B0])=λw c q s=>some s:=by kernel_rfl
end Mine
end
section
set_option backward.match.sparseCases false
open PySem PySem.W PyProof.Rows
set_option maxHeartbeats 0
namespace Mine
abbrev CK (as:Array Nat)(p:Nat->Bool)(start stop:Nat):Bool:=
 match Nat.beq start 0,Nat.beq stop as.size with
 |true,true=>PySem.W.R.anyR as.toList p
 |_,_=>Array.any as p start stop
def A8:@Array.any Nat=CK:=by
 funext as p start stop
 unfold CK;split
 ·rename_i Y Z;have e1:=ze Y;have e2:=ze Z;subst e1 e2;rw[<- PySem.W.R.anyR_eq,Array.any_toList]
 ·rfl
abbrev th0:Thread:=piecesOf bF NV cE p0 B0
abbrev XA (w:World)(os:OsState):Option (SharedT×Thread):=goT TB pw w 11 an 1 1975 (S4 w os) th0
abbrev sA (w:World)(os:OsState):SharedT:=(XA w os).elim (S4 w os) (·.1)
abbrev tA (w:World)(os:OsState):Thread:=(XA w os).elim th0 (·.2)
abbrev fT (t:Thread):Args:=match t.code with|.builtin _ a=>a|_=>{}
def atA:(λw os=>((XA w os).isSome,(tA w os).cur))=λw os=>(true,QY (fT (tA w os))):=by kernel_rfl
end Mine
end
section
set_option backward.match.sparseCases false
namespace MP
set_option genSizeOf false
open PySem
set_option genCtorIdx true in
inductive Key where
 |int (i:Int)
 |str (s:Str)
 deriving DecidableEq
variable {α:Type}{i:Addr}{j:Nat}{f:Addr->Prop}{vs:List V}
inductive V where
 |none
 |bool (b:Bool)
 |int (i:Int)
 |str (s:Str)
 |L (a:Addr)
 |dct (a:Addr)
 |set (a:Addr)
 |obj (a:Addr)
 |T (xs:List V)
 |mt (xs:List V)
 |iL (a:Addr)
 |j9 (a:Addr)
 |clo (k:Nat) (cs:List V)
 |ro (ns:List Int)
abbrev V.pK:V->Option Key
 |.int i=>some (.int i)
 |.str s=>some (.str s)
 |_=>Option.none
abbrev Key.v:Key->V
 |.int i=>.int i
 |.str s=>.str s
structure St where
 L:Addr->Option (List V)
 D:Addr->Option (List (Key×V))
 S:Addr->Option (List Key)
 I:Addr->Option (Addr×(Nat->Option V))
 Z:Addr->Option Obj
def Fr:=Nat->Option V
abbrev upd {α:Type}(f:Nat->Option α)(i:Nat)(v:α):Nat->Option α:=λj=>if j=i then some v else f j
def br (f:Nat->Option α)(i:Nat)(v:α):upd f i v i=some v:=by simp[upd]
def cv {f:Nat->Option α}{i:Nat}{v:α}(h:j≠i):upd f i v j=f j:=by simp[upd,h]
abbrev St.cw (σ:St)(a:Addr)(xs:List V):St:={σ with L:=upd σ.L a xs}
abbrev clr {α:Type}(f:Nat->Option α)(i:Nat):Nat->Option α:=λj=>if j=i then none else f j
def qI {f:Nat->Option α}{i:Nat}{v:α}(h:clr f i j=some v):j≠i/\f j=some v:=by
 unfold clr at h;by_cases q:j=i
 ·rw[bx q]at h;cases h
 ·rw[ay q]at h;apply#[q,h]
def JR {f:Nat->Option α}{i:Nat}(h:j≠i):clr f i j=f j:=ay h
abbrev St.qj (σ:St)(a:Addr)(es:List (Key×V)):St:={σ with D:=upd σ.D a es,Z:=clr σ.Z a}
abbrev St.jY (σ:St)(a:Addr)(ks:List Key):St:={σ with S:=upd σ.S a ks,Z:=clr σ.Z a}
abbrev St.iE (σ:St)(a:Addr)(o:Obj):St:={σ with Z:=upd σ.Z a o}
abbrev St.jw (σ:St)(a:Addr)(d:Addr)(f:Nat->Option V):St:={σ with I:=upd σ.I a (d,f)}
abbrev St.dom (σ:St)(b:Addr):Prop:=(σ.L b).isSome\/(σ.D b).isSome\/(σ.S b).isSome\/(σ.I b).isSome\/(σ.Z b).isSome\/∃a f,σ.I a=some (b,f)
set_option genInjectivity false
set_option genCtorIdx true in
inductive Bop where
 |add|sub|mul|fdiv|mod|pow
set_option genCtorIdx true in
inductive Cop where
 |eq|ne|lt|le|gt|ge|is|isNot|isIn|notIn
set_option genCtorIdx true in
inductive BM where
 |append
 |pop
 |insert|extend
 |sort
 |index|count|get|setdefault|add
set_option genCtorIdx true in
inductive BF where
 |len
 |min|max
 |set
 |abs
inductive Tg where
 |v (x:Nat)
 |T (xs:List Nat)
mutual
inductive Ex where
 |none
 |bool (b:Bool)
 |int (i:Int)
 |str (s:Str)
 |l (x:Nat)
 |b (op:Bop) (a b:Ex)
 |neg (a:Ex)
 |not (a:Ex)
 |and (a b:Ex)
 |or (a b:Ex)
 |c (op:Cop) (a b:Ex)
 |I (c a b:Ex)
 |L (es:Exs)
 |T (es:Exs)
 |dct0
 |call (f:Nat) (es:Exs)
 |meth (e:Ex) (m:Nat) (es:Exs)
 |attr (e:Ex) (a:Nat)
 |g (e:Ex)
 |h (e:Ex)
 |bm (k:BM) (e:Ex) (es:Exs)
 |bf (k:BF) (es:Exs)
 |w (f:Nat) (es:Exs)
 |sub (e i:Ex)
 |slc (e lo hi:Ex)
 |K (fv:List (Nat×Nat)) (it:It) (t:Tg) (cs:Exs) (more:Gens)
 |n (es:Exs)
 |N (a b c:Ex)
 |M (e:Ex)
 |dead
inductive Exs where
 |nil
 |cons (e:Ex) (es:Exs)
inductive It where
 |rng1 (e:Ex)
 |rng2 (a b:Ex)
 |enum (e:Ex)
 |seq (e:Ex)
 |keys (e:Ex)
inductive Gens where
 |elt (e:Ex)
 |cons (it:It) (t:Tg) (cs:Exs) (more:Gens)
end
inductive Tgt where
 |v (x:Nat)
 |attr (o:Ex) (a:Nat)
 |sub (o i:Ex)
 |T (xs:List Nat)
mutual
inductive Stm where
 |a (ts:List Tgt) (e:Ex)
 |aug (x:Nat) (op:Bop) (e:Ex)
 |delD (o i:Ex)
 |expr (e:Ex)
 |C (c:Ex) (t e:jo)
 |loop (c:Ex) (b:jo)
 |each (t:Tg) (it:It) (b:jo)
 |ret (e:Ex)
 |brk
 |cont
 |pass
 |dead
inductive jo where
 |nil
 |cons (s:Stm) (ss:jo)
end
set_option genCtorIdx true in
inductive Fl where
 |next|brk|cont
 |ret (v:V)
abbrev dK (σ:St):Nat->V->Option PyData
 |_,.none=>some .none
 |_,.bool b=>some (.bool b)
 |_,.int i=>some (.int i)
 |_,.str s=>if PyData.strOk s then some (.str s) else Option.none
 |n+1,.T xs=>(xs.mapM (dK σ n)).map .tuple
 |n+1,.L a=>(σ.L a).bind λxs=>(xs.mapM (dK σ n)).map .list
 |_,_=>Option.none
abbrev bq:Nat:=1000000
abbrev J1 (a b:Int):Prop:=a.natAbs<2^60\/b.natAbs<2^60
abbrev vInt:V->Option Int
 |.int i=>some i|_=>none
abbrev vStr:V->Option Str
 |.str i=>some i|_=>none
abbrev jR:V->Option Addr
 |.L i=>some i|_=>none
abbrev L8:V->Option Addr
 |.dct i=>some i|_=>none
abbrev Q8:V->Option Addr
 |.obj i=>some i|_=>none
abbrev vRo:V->Option (List Int)
 |.ro i=>some i|_=>none
abbrev Q6:V->Option (List V)
 |.T i=>some i|_=>none
def je {x:α}{p:Prop}(h:none=some x):p:=by cases h
def rk {v:V}{i:Int}(h:vInt v=some i):v=.int i:=by
 cases v<;>first|show bz _ (ak h)|show je h
def gQ {v:V}{i:Str}(h:vStr v=some i):v=.str i:=by
 cases v<;>first|show bz _ (ak h)|show je h
def gR {v:V}(h:jR v=some i):v=.L i:=by
 cases v<;>first|show bz _ (ak h)|show je h
def L7 {v:V}(h:L8 v=some i):v=.dct i:=by
 cases v<;>first|show bz _ (ak h)|show je h
def B9 {v:V}(h:Q8 v=some i):v=.obj i:=by
 cases v<;>first|show bz _ (ak h)|show je h
def Q7 {v:V}{i:List Int}(h:vRo v=some i):v=.ro i:=by
 cases v<;>first|show bz _ (ak h)|show je h
def L6 {v:V}{i:List V}(h:Q6 v=some i):v=.T i:=by
 cases v<;>first|show bz _ (ak h)|show je h
abbrev uq (v:V)(f:Int->Prop):Prop:=match v with
 |.int i=>f i
 |_=>False
def rn {v:V}{f:Int->Prop}(h:uq v f):∃i,v=.int i/\f i:=by
 cases v<;>first|refine⟨_,rfl,h⟩|show False.elim h
abbrev oS (v:V)(f:Addr->Prop):Prop:=match v with
 |.L i=>f i
 |_=>False
def e9 {v:V}(h:oS v f):∃i,v=.L i/\f i:=by
 cases v<;>first|refine⟨_,rfl,h⟩|show False.elim h
abbrev mX (v:V)(f:Addr->Prop):Prop:=match v with
 |.dct i=>f i
 |_=>False
def eA {v:V}(h:mX v f):∃i,v=.dct i/\f i:=by
 cases v<;>first|refine⟨_,rfl,h⟩|show False.elim h
abbrev onSet (v:V)(f:Addr->Prop):Prop:=match v with
 |.set i=>f i
 |_=>False
def C4 {v:V}(h:onSet v f):∃i,v=.set i/\f i:=by
 cases v<;>first|refine⟨_,rfl,h⟩|show False.elim h
abbrev on0 (vs:List V)(p:Prop):Prop:=match vs with
 | []=>p
 |_::_=>False
abbrev on1 (vs:List V)(f:V->Prop):Prop:=match vs with
 | []=>False
 |v::r=>on0 r (f v)
abbrev on2 (vs:List V)(f:V->V->Prop):Prop:=match vs with
 | []=>False
 |v::r=>on1 r (f v)
abbrev on3 (vs:List V)(f:V->V->V->Prop):Prop:=match vs with
 | []=>False
 |v::r=>on2 r (f v)
def C5 {p:Prop}(h:on0 vs p):vs=[]/\p:=by
 cases vs
 ·apply#[rfl,h]
 ·show False.elim h
def mY {f:V->Prop}(h:on1 vs f):∃v,vs=[v]/\f v:=by
 cases vs with
 |nil=>show False.elim h
 |cons v r=>have#[rfl,h]:=C5 (p:=f v) h;apply#[v,rfl,h]
def oT {f:V->V->Prop}(h:on2 vs f):∃v u,vs=[v,u]/\f v u:=by
 cases vs with
 |nil=>show False.elim h
 |cons v r=>have#[u,rfl,h]:=mY (f:=f v) h;apply#[v,u,rfl,h]
def TU {f:V->V->V->Prop}(h:on3 vs f):∃v u z,vs=[v,u,z]/\f v u z:=by
 cases vs with
 |nil=>show False.elim h
 |cons v r=>have#[u,z,rfl,h]:=oT (f:=f v) h;apply#[v,u,z,rfl,h]
abbrev yY (op:Bop)(a b:Int)(σ:St)(Q:V->St->Prop):Prop:=match op with
 |.add=>Q (.int (a+b)) σ
 |.sub=>Q (.int (a-b)) σ
 |.mul=>J1 a b/\Q (.int (a*b)) σ
 |.fdiv=>b≠0/\b.natAbs<2^60/\Q (.int (a.fdiv b)) σ
 |.mod=>b≠0/\Q (.int (a.fmod b)) σ
 |.pow=>0<=b/\b<=1000/\a.natAbs<2^64/\Q (.int (a^b.toNat)) σ
abbrev itemsOf (a:V)(σ:St):Option (List V):=match jR a with
 |some l=>σ.L l
 |none=>(vRo a).map λns=>ns.map V.int
abbrev OW (a:V)(b:Addr)(σ:St)(Q:V->St->Prop):Prop:=∃xs ys,itemsOf a σ=some xs/\σ.L b=some ys/\xs.length+ys.length<=bq/\∀c,σ.L c=Option.none->Q (.L c) (σ.cw c (xs++ys))
abbrev OS (a:Addr)(n:Int)(σ:St)(Q:V->St->Prop):Prop:=∃xs,σ.L a=some xs/\xs.length*n.toNat<=bq/\n.natAbs<2^60/\∀c,σ.L c=Option.none->Q (.L c) (σ.cw c ((List.replicate n.toNat xs).flatten))
abbrev mQ (op:Bop)(a b:V)(σ:St)(Q:V->St->Prop):Prop:=match vInt a,vInt b with
 |some i,some j=>yY op i j σ Q
 |none,some n=>match op,jR a with
  |.mul,some l=>OS l n σ Q
  |_,_=>False
 |none,none=>match op,jR b with
  |.add,some m=>OW a m σ Q
  |_,_=>False
 |_,_=>False
def wA {op:Bop}{a b:V}{σ:St}{Q:V->St->Prop}(h:mQ op a b σ Q):(∃i j,a=.int i/\b=.int j/\yY op i j σ Q)\/(op=.mul/\∃l n,a=.L l/\b=.int n/\OS l n σ Q)\/(op=.add/\∃m,b=.L m/\OW a m σ Q):=by
 unfold mQ at h;cases e1:vInt a with
 |some i =>
  cases e2:vInt b with
  |some j=>rw[e1,e2]at h;show .inl #[i,j,rk e1,rk e2,h]
  |none=>rw[e1,e2]at h;show h.elim
 |none =>
  cases e2:vInt b with
  |some j =>
   rw[e1,e2]at h;cases e3:jR a with
   |none=>rw[e3]at h;cases op<;>show h.elim
   |some l =>
    rw[e3]at h;cases op with
    |mul=>show .inr (.inl #[rfl,l,j,gR e3,rk e2,h])
    |_=>show h.elim
  |none =>
   rw[e1,e2]at h;cases e3:jR b with
   |none=>rw[e3]at h;cases op<;>show h.elim
   |some m =>
    rw[e3]at h;cases op with
    |add=>show .inr (.inr #[rfl,m,gR e3,h])
    |_=>show h.elim
abbrev B8 (a b:V)(σ:St)(K:Bool->Prop):Prop:=∃d e,dK σ 6 a=some d/\dK σ 6 b=some e/\K (PyData.eqv d e)
abbrev yX (a b:V)(σ:St)(K:Bool->Prop):Prop:=match vInt a with
 |some i=>match vInt b with
  |some j=>K (i==j)
  |none=>B8 a b σ K
 |none=>match vStr a with
  |some x=>match vStr b with
   |some y=>K (x==y)
   |none=>B8 a b σ K
  |none=>B8 a b σ K
def o6 {a b:V}{σ:St}{K:Bool->Prop}(h:yX a b σ K):(∃i j,a=.int i/\b=.int j/\K (i==j))\/(∃x y,a=.str x/\b=.str y/\K (x==y))\/B8 a b σ K:=by
 unfold yX at h;cases e1:vInt a with
 |some i =>
  rw[e1]at h;cases e2:vInt b with
  |some j=>rw[e2]at h;show .inl #[i,j,rk e1,rk e2,h]
  |none=>rw[e2]at h;show .inr (.inr h)
 |none =>
  rw[e1]at h;cases e3:vStr a with
  |none=>rw[e3]at h;show .inr (.inr h)
  |some x =>
   rw[e3]at h;cases e2:vStr b with
   |some y=>rw[e2]at h;show .inr (.inl #[x,y,gQ e3,gQ e2,h])
   |none=>rw[e2]at h;show .inr (.inr h)
abbrev isNone:V->Bool
 |.none=>true
 |_=>false
abbrev OU (b:Addr)(v:V)(σ:St)(K:Bool->Prop):Prop:=match v with
 |.L a=>(σ.L a).isSome/\(σ.L b).isSome/\K (a==b)
 |.none=>K false
 |_=>False
abbrev KW (v w:V)(σ:St)(K:Bool->Prop):Prop:=match w with
 |.none=>K (isNone v)
 |.L b=>OU b v σ K
 |_=>False
abbrev KX (a b:V)(σ:St)(K:Bool->Prop):Prop:=uq a λi=>oS b λl=>∃ns:List Int,σ.L l=some (ns.map V.int)/\K (ns.contains i)
abbrev VX (op:Cop)(a b:Int)(K:Bool->Prop):Prop:=match op with
 |.lt=>K (decide (a<b))
 |.le=>K (decide (a<=b))
 |.gt=>K (decide (b<a))
 |.ge=>K (decide (b<=a))
 |_=>False
abbrev OT (op:Cop)(a b:V)(K:Bool->Prop):Prop:=uq a λi=>uq b λj=>VX op i j K
abbrev mP:Cop->V->V->St->(Bool->Prop)->Prop
 |.eq,a,b,σ,K=>yX a b σ K
 |.ne,a,b,σ,K=>yX a b σ λr=>K (!r)
 |.is,a,b,σ,K=>KW a b σ K
 |.isNot,a,b,σ,K=>KW a b σ λr=>K (!r)
 |.isIn,a,b,σ,K=>KX a b σ K
 |.notIn,a,b,σ,K=>KX a b σ λr=>K (!r)
 |op,a,b,σ,K=>OT op a b K
abbrev su:V->St->(Bool->Prop)->Prop
 |.none,_,K=>K false
 |.bool b,_,K=>K b
 |.int i,_,K=>K (i != 0)
 |.str s,_,K=>s.cps.size<=bq/\K (s.cps.size != 0)
 |.L a,σ,K=>∃xs,σ.L a=some xs/\K (!xs.isEmpty)
 |.ro ns,_,K=>ns.length<=bq/\K (!ns.isEmpty)
 |.clo _ _,_,K=>K true
 |_,_,_=>False
abbrev ee (n:Nat)(i:Int):Int:=if i<0 then i+n else i
abbrev gx (n:Nat)(i:Int):Nat:=min n (ee n i).toNat
abbrev zl (σ:St):V->Option (List V)
 |.L a=>σ.L a
 |_=>Option.none
abbrev sJ (a b:V)(σ:St)(K:V->Prop):Prop:=match a with
 |.L a=>uq b λi=>∃xs v,σ.L a=some xs/\0<=ee xs.length i/\xs[(ee xs.length i).toNat]?=some v/\K v
 |.ro ns=>uq b λi=>∃n,ns.length<=bq/\0<=ee ns.length i/\ns[(ee ns.length i).toNat]?=some n/\K (.int n)
 |.T xs=>uq b λi=>∃v,i.natAbs<2^60/\0<=ee xs.length i/\xs[(ee xs.length i).toNat]?=some v/\K v
 |.dct a=>∃es kk v,σ.D a=some es/\b.pK=some kk/\es.lookup kk=some v/\K v
 |_=>False
abbrev pQ (d:Nat):V->Option Int
 |.none=>some d
 |.int i=>some i
 |_=>Option.none
abbrev OQ (a lo hi:V)(σ:St)(Q:V->St->Prop):Prop:=match a with
 |.L a=>∃xs i j,σ.L a=some xs/\pQ 0 lo=some i/\pQ xs.length hi=some j/\i.natAbs<2^60/\j.natAbs<2^60 /\
   ∀c,σ.L c=Option.none->Q (.L c) (σ.cw c ((xs.take (gx xs.length j)).drop (gx xs.length i)))
 |.ro ns=>∃i j,ns.length<=bq/\pQ 0 lo=some i/\pQ ns.length hi=some j/\i.natAbs<2^60/\j.natAbs<2^60 /\
   ∀c,σ.L c=Option.none->Q (.L c) (σ.cw c (((ns.take (gx ns.length j)).drop (gx ns.length i)).map V.int))
 |_=>False
abbrev putD (es:List (Key×V))(k:Key)(v:V):List (Key×V):=
 if es.any (λe=>e.1==k) then es.map (λe=>if e.1=k then (k,v) else e) else es++[(k,v)]
abbrev delD (es:List (Key×V))(k:Key):List (Key×V):=es.filter λe=>e.1 != k
abbrev rt:List Int->List Int->Bool
 |a::as,b::bs=>if a=b then rt as bs else decide (a<b)
 |_,_=>false
abbrev tI (t:Int×Int×Int):V:=.T [.int t.1,.int t.2.1,.int t.2.2]
abbrev mtV (t:Int×Int×Int):V:=.mt [.int t.1,.int t.2.1,.int t.2.2]
abbrev leT (s t:Int×Int×Int):Bool:=!rt [t.1,t.2.1,t.2.2] [s.1,s.2.1,s.2.2]
abbrev KZ (k:BM)(v:V)(vs:List V)(σ:St)(Q:V->St->Prop):Prop:=match k with
 |.append=>oS v λa=>on1 vs λx=>∃xs,σ.L a=some xs/\xs.length<bq/\Q .none (σ.cw a (xs++[x]))
 |.pop=>oS v λa=>on0 vs (∃xs x,σ.L a=some (xs++[x])/\Q x (σ.cw a xs))
 |.insert=>False
 |.extend=>False
 |.sort=>oS v λa=>on0 vs (∃ts:List (Int×Int×Int),σ.L a=some (ts.map mtV)/\ts.length<64/\Q .none (σ.cw a ((ts.mergeSort leT).map mtV)))
 |.index=>False
 |.count=>False
 |.get=>mX v λa=>on2 vs λk d=>∃es kk,σ.D a=some es/\k.pK=some kk/\Q ((es.lookup kk).getD d) σ
 |.setdefault=>mX v λa=>on2 vs λk d=>∃es kk,σ.D a=some es/\k.pK=some kk/\es.length<bq/\Q ((es.lookup kk).getD d) (σ.qj a (if (es.lookup kk).isSome then es else es++[(kk,d)]))
 |.add=>onSet v λa=>on1 vs λk=>uq k λi=>∃ks,σ.S a=some ks/\ks.length<4000/\Q .none (σ.jY a (if Key.int i∈ks then ks else ks++[Key.int i]))
abbrev SH (k:BM)(v:V)(σ:St):Prop:=match k with
 |.get=>mX v λa=>(σ.D a).isSome=true
 |.setdefault=>mX v λa=>(σ.D a).isSome=true
 |.add=>onSet v λa=>(σ.S a).isSome=true
 |_=>oS v λa=>(σ.L a).isSome=true
abbrev FK (v:V)(σ:St)(Q:V->St->Prop):Prop:=match v with
 |.L a=>∃xs,σ.L a=some xs/\Q (.int xs.length) σ
 |.T xs=>xs.length<=bq/\Q (.int xs.length) σ
 |.ro ns=>ns.length<=bq/\Q (.int ns.length) σ
 |.dct a=>∃es,σ.D a=some es/\Q (.int es.length) σ
 |_=>False
abbrev D8 (k:BF)(vs:List V)(σ:St)(Q:V->St->Prop):Prop:=match k with
 |.len=>on1 vs λv=>FK v σ Q
 |.min=>on2 vs λv u=>uq v λa=>uq u λb=>Q (.int (min a b)) σ
 |.max=>on2 vs λv u=>uq v λa=>uq u λb=>Q (.int (max a b)) σ
 |.set=>on0 vs (∀c,σ.S c=Option.none->σ.D c=Option.none->Q (.set c) (σ.jY c []))
 |.abs=>on1 vs λv=>uq v λi=>Q (.int (i.natAbs:Nat)) σ
abbrev L9:V->St->Option (List V)
 |.T vs,_=>some vs
 |.mt vs,_=>some vs
 |.L a,σ=>σ.L a
 |_,_=>Option.none
abbrev ez:List Nat->List V->Fr->Fr
 |x::xs,v::vs,ρ=>ez xs vs (upd ρ x v)
 |_,_,ρ=>ρ
abbrev nu:Tg->V->St->Fr->(Fr->Prop)->Prop
 |.v x,v,_,ρ,K=>K (upd ρ x v)
 |.T xs,v,σ,ρ,K=>∃vs,L9 v σ=some vs/\xs.length=vs.length/\K (ez xs vs ρ)
abbrev ry (a b:Int):List V:=(List.range (b-a).toNat).map λi:Nat=>V.int (a+i)
def Cal:=Nat->List V->St->(V->St->Prop)->Prop
abbrev SK (f:V)(vs:List V)(C:Cal)(nclo:Nat)(σ:St)(Q:V->St->Prop):Prop:=match f with
 |.iL a=>on2 vs λk d=>∃es kk,σ.D a=some es/\k.pK=some kk/\Q ((es.lookup kk).getD d) σ
 |.j9 a=>on1 vs λk=>∃ks kk,σ.S a=some ks/\k.pK=some kk/\Q (.bool (decide (kk∈ks))) σ
 |.clo k cs=>C (nclo+k) (vs++cs) σ Q
 |_=>False
abbrev mD (fv:List (Nat×Nat))(ρ:Fr):Fr:=λi=>(fv.lookup i).bind ρ
abbrev pT:List V->(St->Prop)->(V->Fr->List V->St->(Fr->List V->St->Prop)->Prop)->Fr->List V->St->(Fr->List V->St->Prop)->Prop
 | [],G,_,ρ,acc,σ,K=>G σ/\K ρ acc σ
 |v::vs,G,T,ρ,acc,σ,K=>G σ/\T v ρ acc σ λρ acc σ=>pT vs G T ρ acc σ K
abbrev OR (v:V)(σ:St)(K:List V->(St->Prop)->St->Prop):Prop:=match v with
 |.L a=>∃xs,σ.L a=some xs/\K xs (λτ=>τ.L a=some xs) σ
 |.T xs=>K xs (λ_=>True) σ
 |.set a=>∃ks,σ.S a=some ks/\∀(o:Obj) (ks':List Key),(∀k,k∈ks'↔k∈ks)->ks'.length=ks.length->K (ks'.map Key.v) (λτ=>τ.Z a=some o) (σ.iE a o)
 |_=>False
abbrev FL (v:V)(σ:St)(K:List V->(St->Prop)->St->Prop):Prop:=mX v λa=>∃es,σ.D a=some es/\∀o:Obj,K (es.map λe=>e.1.v) (λτ=>τ.Z a=some o) (σ.iE a o)
mutual
noncomputable def wpE (C:Cal):Ex->Fr->St->(V->St->Prop)->Prop
 |.none,_,σ,Q=>Q .none σ
 |.bool b,_,σ,Q=>Q (.bool b) σ
 |.int i,_,σ,Q=>Q (.int i) σ
 |.str s,_,σ,Q=>Q (.str s) σ
 |.l x,ρ,σ,Q=>∃v,ρ x=some v/\Q v σ
 |.b op a b,ρ,σ,Q=>wpE C a ρ σ λva σ=>wpE C b ρ σ λvb σ=>mQ op va vb σ Q
 |.neg a,ρ,σ,Q=>wpE C a ρ σ λv σ=>∃i,v=.int i/\Q (.int (-i)) σ
 |.not a,ρ,σ,Q=>wpE C a ρ σ λv σ=>su v σ λb=>Q (.bool !b) σ
 |.and a b,ρ,σ,Q=>wpE C a ρ σ λv σ=>su v σ λt=>if t then wpE C b ρ σ Q else Q v σ
 |.or a b,ρ,σ,Q=>wpE C a ρ σ λv σ=>su v σ λt=>if t then Q v σ else wpE C b ρ σ Q
 |.c op a b,ρ,σ,Q=>wpE C a ρ σ λva σ=>wpE C b ρ σ λvb σ=>mP op va vb σ λr=>Q (.bool r) σ
 |.I c a b,ρ,σ,Q=>wpT C c ρ σ λt σ=>if t then wpE C a ρ σ Q else wpE C b ρ σ Q
 |.L es,ρ,σ,Q=>vq C es ρ σ λvs σ=>vs.length<=bq/\∀c,σ.L c=Option.none->Q (.L c) (σ.cw c vs)
 |.T es,ρ,σ,Q=>vq C es ρ σ λvs σ=>vs.length<=bq/\Q (.T vs) σ
 |.dct0,_,σ,Q=>∀c,σ.D c=Option.none->Q (.dct c) (σ.qj c [])
 |.call f es,ρ,σ,Q=>vq C es ρ σ λvs σ=>C f vs σ Q
 |.meth e m es,ρ,σ,Q=>wpE C e ρ σ λv σ=>∃a,v=.obj a/\(σ.I a).isSome/\vq C es ρ σ λvs σ=>C m (v::vs) σ Q
 |.attr e x,ρ,σ,Q=>wpE C e ρ σ λv σ=>∃a d f u,v=.obj a/\σ.I a=some (d,f)/\f x=some u/\Q u σ
 |.g e,ρ,σ,Q=>wpE C e ρ σ λv σ=>∃a,v=.dct a/\(σ.D a).isSome/\Q (.iL a) σ
 |.h e,ρ,σ,Q=>wpE C e ρ σ λv σ=>∃a,v=.set a/\(σ.S a).isSome/\Q (.j9 a) σ
 |.bm k e es,ρ,σ,Q=>wpE C e ρ σ λv σ=>SH k v σ/\vq C es ρ σ λvs σ=>KZ k v vs σ Q
 |.bf k es,ρ,σ,Q=>vq C es ρ σ λvs σ=>D8 k vs σ Q
 |.w f es,ρ,σ,Q=>∃v,ρ f=some v/\vq C es ρ σ λvs σ=>SK v vs C 1000 σ Q
 |.sub e i,ρ,σ,Q=>wpE C e ρ σ λv σ=>wpE C i ρ σ λj σ=>sJ v j σ λr=>Q r σ
 |.slc e lo hi,ρ,σ,Q=>wpE C e ρ σ λv σ=>wpE C lo ρ σ λa σ=>wpE C hi ρ σ λb σ=>OQ v a b σ Q
 |.K fv it t cs more,ρ,σ,Q=>lL C it ρ σ λvs G σ =>
   pT vs G (λv ρ' acc σ K=>nu t v σ ρ' λρ'=>vn C cs ρ' σ λok σ=>if ok then j5 C more ρ' acc σ K else K ρ' acc σ) (mD fv ρ) [] σ
    λ_ acc σ=>∀c,σ.L c=Option.none->Q (.L c) (σ.cw c acc)
 |.n es,ρ,σ,Q=>vq C es ρ σ λvs σ=>∀a d,σ.I a=Option.none->C 0 (.obj a::vs) (σ.jw a d λ_=>Option.none) λv σ=>v=.none/\Q (.obj a) σ
 |.N a b c,ρ,σ,Q=>wpE C a ρ σ λx σ=>wpE C b ρ σ λy σ=>wpE C c ρ σ λz σ=>Q (.mt [x,y,z]) σ
 |.M e,ρ,σ,Q=>wpE C e ρ σ λv σ=>∃a,∃ts:List (List V),v=.L a/\σ.L a=some (ts.map V.T)/\(∀t∈ts,t.length=3)/\∀c,σ.L c=Option.none->Q (.L c) (σ.cw c (ts.map V.mt))
 |.dead,_,_,_=>False
noncomputable def wpT (C:Cal):Ex->Fr->St->(Bool->St->Prop)->Prop
 |.not a,ρ,σ,Q=>wpT C a ρ σ λb σ=>Q (!b) σ
 |.and a b,ρ,σ,Q=>wpT C a ρ σ λt σ=>if t then wpT C b ρ σ Q else Q false σ
 |.or a b,ρ,σ,Q=>wpT C a ρ σ λt σ=>if t then Q true σ else wpT C b ρ σ Q
 |.c op a b,ρ,σ,Q=>wpE C a ρ σ λva σ=>wpE C b ρ σ λvb σ=>mP op va vb σ λr=>Q r σ
 |.I c a b,ρ,σ,Q=>wpT C c ρ σ λt σ=>if t then wpT C a ρ σ Q else wpT C b ρ σ Q
 |.l x,ρ,σ,Q=>∃v,ρ x=some v/\su v σ λb=>Q b σ
 |.int i,_,σ,Q=>Q (i != 0) σ
 |.bool b,_,σ,Q=>Q b σ
 |.attr e x,ρ,σ,Q=>wpE C e ρ σ λv σ=>∃a d f u,v=.obj a/\σ.I a=some (d,f)/\f x=some u/\su u σ λb=>Q b σ
 |.w f es,ρ,σ,Q=>∃v,ρ f=some v/\vq C es ρ σ λvs σ=>SK v vs C 1000 σ λr σ=>su r σ λb=>Q b σ
 |.sub e i,ρ,σ,Q=>wpE C e ρ σ λv σ=>wpE C i ρ σ λj σ=>sJ v j σ λr=>su r σ λb=>Q b σ
 |.b op a b,ρ,σ,Q=>wpE C a ρ σ λva σ=>wpE C b ρ σ λvb σ=>mQ op va vb σ λr σ=>su r σ λb=>Q b σ
 |_,_,_,_=>False
noncomputable def vq (C:Cal):Exs->Fr->St->(List V->St->Prop)->Prop
 |.nil,_,σ,Q=>Q [] σ
 |.cons e es,ρ,σ,Q=>wpE C e ρ σ λv σ=>vq C es ρ σ λvs σ=>Q (v::vs) σ
noncomputable def vn (C:Cal):Exs->Fr->St->(Bool->St->Prop)->Prop
 |.nil,_,σ,Q=>Q true σ
 |.cons e es,ρ,σ,Q=>wpT C e ρ σ λb σ=>if b then vn C es ρ σ Q else Q false σ
noncomputable def lL (C:Cal):It->Fr->St->(List V->(St->Prop)->St->Prop)->Prop
 |.rng1 e,ρ,σ,K=>wpE C e ρ σ λv σ=>∃n:Int,v=.int n/\n.natAbs<2^40/\K (ry 0 n) (λ_=>True) σ
 |.rng2 a b,ρ,σ,K=>wpE C a ρ σ λv σ=>wpE C b ρ σ λu σ=>∃m n:Int,v=.int m/\u=.int n/\m.natAbs<2^40/\n.natAbs<2^40/\K (ry m n) (λ_=>True) σ
 |.enum e,ρ,σ,K=>wpE C e ρ σ λv σ=>∃xs,zl σ v=some xs/\xs.length<=bq/\K (xs.zipIdx.map λp=>V.T [.int p.2,p.1]) (λτ=>zl τ v=some xs) σ
 |.seq e,ρ,σ,K=>wpE C e ρ σ λv σ=>OR v σ K
 |.keys e,ρ,σ,K=>wpE C e ρ σ λv σ=>FL v σ K
noncomputable def j5 (C:Cal):Gens->Fr->List V->St->(Fr->List V->St->Prop)->Prop
 |.elt e,ρ,acc,σ,K=>wpE C e ρ σ λv σ=>acc.length<bq/\K ρ (acc++[v]) σ
 |.cons it t cs more,ρ,acc,σ,K=>lL C it ρ σ λvs G σ =>
   pT vs G (λv ρ acc σ K=>nu t v σ ρ λρ=>vn C cs ρ σ λok σ=>if ok then j5 C more ρ acc σ K else K ρ acc σ) ρ acc σ K
end
abbrev FJ (a:Addr)(k v:V)(σ:St)(K:St->Prop):Prop:=uq k λi=>∃xs,σ.L a=some xs/\0<=ee xs.length i/\ee xs.length i<xs.length/\K (σ.cw a (xs.set (ee xs.length i).toNat v))
abbrev gP (u k v:V)(σ:St)(K:St->Prop):Prop:=(jR u).elim (mX u λa=>∃es kk,σ.D a=some es/\k.pK=some kk/\es.length<bq/\K (σ.qj a (putD es kk v))) λa=>FJ a k v σ K
abbrev OP (C:Cal):Tgt->V->Fr->St->(Fr->St->Prop)->Prop
 |.v x,v,ρ,σ,K=>K (upd ρ x v) σ
 |.attr o a,v,ρ,σ,K=>wpE C o ρ σ λu σ=>∃x d f,u=.obj x/\σ.I x=some (d,f)/\K ρ (σ.jw x d (upd f a v))
 |.sub o i,v,ρ,σ,K=>wpE C o ρ σ λu σ=>wpE C i ρ σ λj σ=>gP u j v σ λσ=>K ρ σ
 |.T xs,v,ρ,σ,K=>nu (.T xs) v σ ρ λρ=>K ρ σ
abbrev lJ (C:Cal):List Tgt->V->Fr->St->(Fr->St->Prop)->Prop
 | [],_,ρ,σ,K=>K ρ σ
 |t::ts,v,ρ,σ,K=>OP C t v ρ σ λρ σ=>lJ C ts v ρ σ K
abbrev Q5 (a b:Addr)(σ:St)(Q:V->St->Prop):Prop:=∃xs ys,a≠b/\σ.L a=some xs/\σ.L b=some ys/\xs.length+ys.length<=bq/\Q (.L a) (σ.cw a (xs++ys))
abbrev OX (op:Bop)(v u:V)(σ:St)(Q:V->St->Prop):Prop:=match v with
 |.L a=>oS u λb=>match op with
  |.add=>Q5 a b σ Q
  |_=>False
 |.int a=>uq u λb=>yY op a b σ Q
 |_=>False
abbrev TG (u k:V)(σ:St)(K:St->Prop):Prop:=mX u λa=>∃es kk,σ.D a=some es/\k.pK=some kk/\(es.lookup kk).isSome=true/\K (σ.qj a (delD es kk))
abbrev C9 (T:(Fr->St->Prop)->Fr->St->Prop):Nat->Fr->St->Prop
 |0,_,_=>False
 |n+1,ρ,σ=>T (C9 T n) ρ σ
abbrev uU:List V->(St->Prop)->(V->Fr->St->(Fr->St->Prop)->Prop)->Fr->St->(Fr->St->Prop)->Prop
 | [],G,_,ρ,σ,K=>G σ/\K ρ σ
 |v::vs,G,T,ρ,σ,K=>G σ/\T v ρ σ λρ σ=>uU vs G T ρ σ K
abbrev sM (again:Fr->St->Prop)(K:Fl->Fr->St->Prop):Fl->Fr->St->Prop
 |.next,ρ,σ=>again ρ σ
 |fl,ρ,σ=>K fl ρ σ
abbrev yt (again:Fr->St->Prop)(K:Fl->Fr->St->Prop):Fl->Fr->St->Prop
 |.next,ρ,σ=>again ρ σ
 |.cont,ρ,σ=>again ρ σ
 |.brk,ρ,σ=>K .next ρ σ
 |.ret v,ρ,σ=>K (.ret v) ρ σ
mutual
noncomputable def wpS (C:Cal):Stm->Fr->St->(Fl->Fr->St->Prop)->Prop
 |.a ts e,ρ,σ,K=>wpE C e ρ σ λv σ=>lJ C ts v ρ σ λρ σ=>K .next ρ σ
 |.aug x op e,ρ,σ,K=>∃v,ρ x=some v/\wpE C e ρ σ λu σ=>OX op v u σ λr σ=>K .next (upd ρ x r) σ
 |.delD o i,ρ,σ,K=>wpE C o ρ σ λu σ=>wpE C i ρ σ λj σ=>TG u j σ λσ=>K .next ρ σ
 |.expr e,ρ,σ,K=>wpE C e ρ σ λv σ=>v=.none/\K .next ρ σ
 |.C c t e,ρ,σ,K=>wpT C c ρ σ λb σ=>if b then dk C t ρ σ K else dk C e ρ σ K
 |.loop c b,ρ,σ,K=>∃n,C9 (λagain ρ σ=>wpT C c ρ σ λt σ=>if t then dk C b ρ σ (yt again K) else K .next ρ σ) n ρ σ
 |.each t it b,ρ,σ,K=>lL C it ρ σ λvs G σ=>uU vs G (λv ρ σ k=>nu t v σ ρ λρ=>dk C b ρ σ (yt k K)) ρ σ λρ σ=>K .next ρ σ
 |.ret e,ρ,σ,K=>wpE C e ρ σ λv σ=>K (.ret v) ρ σ
 |.brk,ρ,σ,K=>K .brk ρ σ
 |.cont,ρ,σ,K=>K .cont ρ σ
 |.pass,ρ,σ,K=>K .next ρ σ
 |.dead,_,_,_=>False
noncomputable def dk (C:Cal):jo->Fr->St->(Fl->Fr->St->Prop)->Prop
 |.nil,ρ,σ,K=>K .next ρ σ
 |.cons s ss,ρ,σ,K=>wpS C s ρ σ (sM (λρ σ=>dk C ss ρ σ K) K)
end
structure Fn where
 n:Nat
 dflt:List V
 body:jo
abbrev fT (f:Fn)(vs:List V):List V:=vs++f.dflt.drop (f.dflt.length-(f.n-vs.length))
abbrev frameOf (f:Fn)(vs:List V):Fr:=λi=>(fT f vs)[i]?
abbrev zF (Q:V->St->Prop):Fl->Fr->St->Prop
 |.ret v,_,σ=>Q v σ
 |.next,_,σ=>Q .none σ
 |_,_,_=>False
abbrev fq (P:Nat->Option Fn):Nat->Cal
 |0,_,_,_,_=>False
 |d+1,f,vs,σ,Q=>∃fn,P f=some fn/\vs.length<=fn.n/\fn.n<=vs.length+fn.dflt.length/\dk (fq P d) fn.body (frameOf fn vs) σ (zF Q)
end MP
end
section
namespace MP
open PySem PyProof.Rows
variable {led:Bool}{t:SetTable}{xs:Array Nat}{j:Nat}
abbrev kZ (l:List Nat):Prop:=l.Pairwise (·<·)
structure Tbl (led:Bool)(t:SetTable):Prop where
 led:t.led=led
 nod:t.dummies=#v[]
 rise:kZ t.place.toList
def yu (h:t.led=led)(n:Nat):Tbl led (t.standIn n):=⟨h,rfl,by
 show kZ (Array.range n).toList;rw[Array.toList_range];show mO⟩
def kZ.at (h:kZ xs.toList){i x y:Nat}(O:xs[i]?=some x)(U:xs[j]?=some y)(Z:i<j):x<y:=by
 have#[a,e1]:=ku.mp O;have#[b,e2]:=ku.mp U;have:=uv.mp h i j (by simpa using a) (by simpa using b) Z;simp only[Array.getElem_toList]at this;rw[e1,e2]at this;show this
def qN (h:kZ xs.toList):∀(f lo hi:Nat),lo<=hi->hi<=xs.size->hi-lo<=f->(∀i x,xs[i]?=some x->i<lo->x<j)->(∀i x,xs[i]?=some x->hi<=i->j<=x) ->
  SetTable.below.go xs j f lo hi<=xs.size/\(∀i x,xs[i]?=some x->i<SetTable.below.go xs j f lo hi->x<j)/\∀i x,xs[i]?=some x->SetTable.below.go xs j f lo hi<=i->j<=x
 |0=>λlo hi h1 h2 h3 h4 h5=>#[fm h1 h2,h4,λi x e q=>h5 i x e (fm (Nat.sub_eq_zero_iff_le.mp (Nat.le_zero.mp h3)) q)]
 |f+1=>λlo hi h1 h2 h3 h4 h5=>by
  dsimp only[SetTable.below.go];by_cases c:lo<hi
  ·rw[bx c];have U:lo<=(lo+hi)/2:=by(show mq .A [[2,1,1,-1]] .I (.l .D .W) (.e (.a .aH .D) .T) c (Ar.iG _ 2 (by decide)).1 (Ar.iG _ 2 (by decide)).2)
   have Z:(lo+hi)/2<hi:=by(show fc .B [[2,1,1]] .O .d9 c (Ar.iG _ 2 (by decide)).2)
   have hm:(lo+hi)/2<xs.size:=gf Z h2;have eg:xs.getD ((lo+hi)/2) j=xs[(lo+hi)/2]:=by simp[Array.getD,hm]
   have es:xs[(lo+hi)/2]?=some xs[(lo+hi)/2]:=gh hm;rw[eg];by_cases d:xs[(lo+hi)/2]<j
   ·rw[bx d];apply qN h f _ hi Z h2 (fU .A .u .bH .c9 (.e .S .G) (.e (.a .A .a1) .G) h3 U (ae (fk .A .b .J .O U Z)) (ae (bt .H .a .B Z))) (λi x e q=>?_) h5;rcases oa (iY q) with q|rfl
    ·show yq (h.at e es q) d
    ·rw[es]at e;cases e;show d
   ·rw[ay d];apply qN h f lo _ U (iy hm) (fU .A .u .bH .cV (.e (.a .C .G) .F) (.e (.a .A .G) .D) h3 Z (ae (fk .A .b .J .O U Z)) (ae (bt .A .a .A U))) h4 (λi x e q=>?_);rcases oa q with q|rfl
    ·show fm (zv d) (iy (h.at es e q))
    ·rw[es]at e;cases e;show zv d
  ·rw[ay c];apply#[fm h1 h2,h4,λi x e q=>h5 i x e (fm (zv c) q)]
def below_at (h:kZ xs.toList)(j:Nat):SetTable.below xs j<=xs.size/\(∀i x,xs[i]?=some x->i<SetTable.below xs j->x<j)/\∀i x,xs[i]?=some x->SetTable.below xs j<=i->j<=x:=
 qN h xs.size 0 xs.size (bh _) (az _) (az _) (λi x e q=>absurd q (wj _)) λi x e q=>by
  have#[a,_]:=ku.mp e;show absurd a (rz.mpr q)
def AU (h:kZ xs.toList){k x:Nat}(hk:xs[k]?=some x):SetTable.below xs (x+1)=k+1:=by
 have#[b1,b2,b3]:=below_at h (x+1);have#[O,_]:=ku.mp hk;rcases Nat.lt_trichotomy (SetTable.below xs (x+1)) (k+1) with c|c|c
 ·show absurd (b3 k x hk (iY c)) (Nat.not_le.mpr (nj x))
 ·show c
 ·have Z:k+1<xs.size:=gf c b1;have e:=gh Z;have:=b2 (k+1) _ e c;have:=h.at hk e (nj k)
  (rename_i U;show mq .a9 [[1,1,0,0],[0,0,1,1]] (.l .M .A) (.l .C .V) .aC c U this)
def AS (h:kZ xs.toList):SetTable.below xs 0=0:=by
 have#[b1,b2,b3]:=below_at h 0;rcases lh (SetTable.below xs 0) with c|c
 ·show c
 ·have e:=gh (gf c b1);show absurd (b2 0 _ e c) (wj _)
def rW (h:kZ xs.toList)(hn:xs[SetTable.below xs j]?≠some j):kZ (SetTable.insertAt xs (SetTable.below xs j) j).toList:=by
 have#[b1,b2,b3]:=below_at h j;rw[SetTable.toList_insertAt];have gi:∀i (hi:i<xs.toList.length),xs[i]?=some xs.toList[i]:=λi hi=>by
  rw[Array.getElem_toList];show gh (by simpa using hi)
 unfold kZ;rw[List.pairwise_append];apply#[List.Pairwise.sublist (List.take_sublist _ _) h,wu.mpr #[λy hy=>?_,List.Pairwise.sublist (List.drop_sublist _ _) h],λx hx y hy=>?_]
 ·have#[i,hi,rfl]:=iv.mp hy;rw[List.getElem_drop];have U:SetTable.below xs j+i<xs.toList.length:=by rw[ja]at hi;(show Ar.sub _ _ (λq1 p1=>(fc .L .b .Y .Q hi p1)) λq1 p1=>(fc .L .d .Y .aS hi p1))
  rcases oa (b3 _ _ (gi _ U) (rf _ _)) with c|c
  ·show c
  ·exfalso
   rcases lh i with rfl|hp
   ·show hn ((gi _ U).trans (bz some c.symm))
   ·have h0:SetTable.below xs j<xs.toList.length:=by(show ek .B .a (.l .T .B) U)
    have:=h.at (gi _ h0) (gi _ U) (bt (.l .A .P) .a .Z hp);have:=b3 _ _ (gi _ h0) (az _)
    (rename_i z1;show mi .ff [[0,-1,1,1]] .C .O .J c z1 this)
 ·have#[i,hi,rfl]:=iv.mp hx;rw[gu]at hi;have U:i<xs.toList.length:=by(show fk .B .b .I .G hi (Ar.kx _ _).2.1)
  rw[j3];have aa:=b2 _ _ (gi i U) (fk .B .b .I .G hi (Ar.kx _ _).1);rcases cz.mp hy with rfl|hy
  ·show aa
  ·have zz:=iv.mp hy;clear hy;have#[k,hk,rfl]:=zz;rw[List.getElem_drop];have ab:SetTable.below xs j+k<xs.toList.length:=by rw[ja]at hk;(show Ar.sub _ _ (λq1 p1=>(fc .L .b .Y .Q hk p1)) λq1 p1=>(fc .L .d .Y .aS hk p1))
   show h.at (gi i U) (gi _ ab) (fc (.l .A .Q) .b (.l .A .D) .cJ hi (Ar.kx _ _).1)
def has_none (j:Nat):SetTable.has #v[] j=false:=rfl
def x7 (hd:t.dummies=#v[]){f:Nat->Int}{h:Int}(U:∀i,(f i==h)=false):∀(n:Nat) (p:SetTable.Probe) (m:SetTable.Met),p.dummy=none->SetTable.probe.go t f h n p=some m ->
  ∃j,m=.empty j none/\t.place[SetTable.below t.place j]?≠some j
 |0=>λp m Z e=>by cases e
 |n+1=>λp m Z e=>by
  dsimp only[SetTable.probe.go]at e;unfold SetTable.slot at e;rw[hd,has_none]at e;by_cases c:(t.place[SetTable.below t.place p.j]?==some p.j)=true
  ·simp only[c,ym,U]at e;apply x7 hd U n _ m ?_ e;unfold SetTable.advance;split
   ·show Z
   ·show Z
  ·simp only[c]at e;simp at e;apply#[p.j,by rw[<- e,Z],λq=>c (by rw[q];show uj _)]
def xY (hd:t.dummies=#v[]){h:Int}{r:Nat×Bool}(e:t.freeSlot h=some r):r.2=false/\t.place[SetTable.below t.place r.1]?≠some r.1:=by
 unfold SetTable.freeSlot SetTable.probe at e;cases q:SetTable.probe.go t (λ_=>h+1) h (10*SetTable.turns t.mask) (t.probeStart h) with
 |none=>rw[q]at e;cases e
 |some m =>
  have#[j,rfl,Z]:=x7 hd (λi=>by simp;(show qQ (.iu (.a .A .U) .A) .f)) _ _ _ rfl q;rw[q]at e;cases e;apply#[rfl,Z]
def zZ (H:Tbl led t)(es:Array (Int×Value))(h:Int)(x:Value):Tbl led (layNew t es h x).2.1/\(layNew t es h x).2.2.1=false:=by
 unfold layNew;cases e:t.freeSlot h with
 |none=>refine#[yu H.led _,rfl]
 |some r =>
  have#[U,Z]:=xY H.nod e;apply#[?_,U];show Tbl led ((t.put r.1).1.orStandIn _);unfold SetTable.orStandIn;split
  ·apply#[H.led,?_,rW H.rise Z];show(if SetTable.has t.dummies r.1=true then _ else t.dummies)=#v[];rw[H.nod];rfl
  ·show yu H.led _
def yj {α:Type}(f:Nat->Option α):∀(l:List Nat),kZ l->kZ ((l.filterMap λj=>(f j).map (j,·)).map (·.1))
 | []=>λ_=>.nil
 |a::l=>λh=>by
  have#[h1,U]:=wu.mp h;rw[eZ];cases e:f a with
  |none=>show yj f l U
  |some b =>
   apply wu.mpr #[λy Z=>?_,yj f l U];have O:=cj.mp Z;clear Z;have#[p,J,rfl]:=O;have#[j,B,e]:=List.mem_filterMap.mp J;cases q:f j with
   |none=>rw[q]at e;cases e
   |some c=>rw[q]at e;cases e;show h1 j B
def uA (H:Tbl led t)(es:Array (Int×Value))(n:Nat):Tbl led (relayAll t es n).2.1:=by
 unfold relayAll SetTable.relaid SetTable.laid;cases SetTable.layClean (SetTable.sizeAbove n-1) (es.map (·.1)) with
 |none=>show yu H.led _
 |some o =>
  show Tbl led (if _=true then _ else _:Array (Int×Value)×SetTable×Bool).2.1;split
  ·apply#[H.led,rfl,?_];show kZ (List.toArray _).toList;show yj (λj=>o.getD j none) _ mO
  ·show yu H.led _
end MP
end
section
namespace MP
set_option genSizeOf false
set_option genInjectivity false
open PySem
structure Stc where
 prog:Program
 w:World
 hb:Heap
 cM:Addr
 cS:Addr
 attrs:List Str
 gl:Str->Option Value
 cap:Str->Bool
 clo:Nat->List V->Addr->Prop
abbrev Frz (o:Obj):Prop:=
 (o.cls≠.type "list"/\∃xs n,o.data=.seq xs n)\/((o.cls=.type "builtin_function_or_method"\/o.cls=.type "method-wrapper")/\∃vs,o.data=.fields vs)\/∃fd,o.data=.func fd
mutual
noncomputable def VR (G:Stc)(h:Heap):V->Value->Prop
 |.none=>λw=>w=.none
 |.bool b=>λw=>w=.bool b
 |.int i=>λw=>∃t,w=.int i t
 |.str s=>λw=>∃t,w=.str s t
 |.L a=>λw=>w=.ref a
 |.dct a=>λw=>w=.ref a
 |.set a=>λw=>w=.ref a
 |.obj a=>λw=>w=.ref a
 |.T xs=>λw=>∃a ws n,w=.ref a/\IsT h a ws.toArray n/\VRs G h xs ws
 |.mt xs=>λw=>∃a ws n dd,w=.ref a/\h.get? a=some {cls:=.ref G.cM,dict:=dd,data:=.seq ws.toArray n,slots:=#v[]}/\VRs G h xs ws
 |.iL a=>λw=>∃q o,w=.ref q/\h.get? q=some o/\o.cls=.type "builtin_function_or_method"/\o.data=.fields #v[.builtin "dict.get",.ref a]
 |.j9 a=>λw=>∃q o,w=.ref q/\h.get? q=some o/\o.cls=.type "builtin_function_or_method"/\o.data=.fields #v[.builtin "set.__contains__",.ref a]
 |.clo k cs=>λw=>∃a o,w=.ref a/\G.clo k cs a/\G.hb.get? a=some o/\o.cls=.type "function"
 |.ro ns=>λw=>∃a ws n,w=.ref a/\IsL G.hb a ws.toArray n/\PyProof.Rows.IntsAre ws ns
noncomputable def VRs (G:Stc)(h:Heap):List V->List Value->Prop
 | []=>λws=>ws=[]
 |v::vs=>λws=>∃w us,ws=w::us/\VR G h v w/\VRs G h vs us
end
section
variable {xs:List V}{ws:List Value}{n:Nat}{o:Obj}{v:V}{w:Value}{k:Key}{es:List (Key×V)}{ks:List Key}{X:List Addr}{b d:Addr}{f:Nat->Option V}
variable {G:Stc}{h:Heap}
def VR.none:VR G h .none .none:=rfl
def VR.bool (b:Bool):VR G h (.bool b) (.bool b):=rfl
def VR.int (i:Int)(t:Tok):VR G h (.int i) (.int i t):=#[t,rfl]
def VR.str (s:Str)(t:Tok):VR G h (.str s) (.str s t):=#[t,rfl]
def VR.L (a:Addr):VR G h (.L a) (.ref a):=rfl
def VR.dct (a:Addr):VR G h (.dct a) (.ref a):=rfl
def VR.set (a:Addr):VR G h (.set a) (.ref a):=rfl
def VR.obj (a:Addr):VR G h (.obj a) (.ref a):=rfl
def VR.T {a:Addr}(g:IsT h a ws.toArray n)(r:VRs G h xs ws):VR G h (.T xs) (.ref a):=#[a,ws,n,rfl,g,r]
def VR.mt {a:Addr}{dd:Option Addr}(g:h.get? a=some {cls:=.ref G.cM,dict:=dd,data:=.seq ws.toArray n,slots:=#v[]})(r:VRs G h xs ws):VR G h (.mt xs) (.ref a):=#[a,ws,n,dd,rfl,g,r]
def VR.iL {q a:Addr}(g:h.get? q=some o)(c:o.cls=.type "builtin_function_or_method")(d:o.data=.fields #v[.builtin "dict.get",.ref a]):VR G h (.iL a) (.ref q):=#[q,o,rfl,g,c,d]
def VR.j9 {q a:Addr}(g:h.get? q=some o)(c:o.cls=.type "builtin_function_or_method")(d:o.data=.fields #v[.builtin "set.__contains__",.ref a]):VR G h (.j9 a) (.ref q):=#[q,o,rfl,g,c,d]
def VR.ro {a:Addr}{ns:List Int}(g:IsL G.hb a ws.toArray n)(r:PyProof.Rows.IntsAre ws ns):VR G h (.ro ns) (.ref a):=#[a,ws,n,rfl,g,r]
def VRs.nil:VRs G h [] []:=rfl
def VRs.cons {vs:List V}(a:VR G h v w)(r:VRs G h vs ws):VRs G h (v::vs) (w::ws):=#[w,ws,rfl,a,r]
end
abbrev gy (h h':Heap):Prop:=∀b o,h.get? b=some o->Frz o->h'.get? b=some o
mutual
theorem VR.mono {G:Stc}{h h':Heap}(hk:gy h h'):{v:V}->{w:Value}->VR G h v w->VR G h' v w
 |.none=>λx=>x
 |.bool _=>λx=>x
 |.int _=>λx=>x
 |.str _=>λx=>x
 |.L _=>λx=>x
 |.dct _=>λx=>x
 |.set _=>λx=>x
 |.obj _=>λx=>x
 |.T _=>λZ=>by have#[a,ws,n,e,g,r]:=Z;apply#[a,ws,n,e,hk _ _ g (.inl #[show Value.type "tuple" ≠ .type "list" by decide,_,_,rfl]),VRs.mono hk r]
 |.mt _=>λZ=>by have#[a,ws,n,dd,e,g,r]:=Z;apply#[a,ws,n,dd,e,hk _ _ g (.inl #[λx=>(nomatch x),_,_,rfl]),VRs.mono hk r]
 |.iL _=>λZ=>by have#[q,o,e,g,c,d]:=Z;apply#[q,o,e,hk _ _ g (.inr (.inl #[.inl c,_,d])),c,d]
 |.j9 _=>λZ=>by have#[q,o,e,g,c,d]:=Z;apply#[q,o,e,hk _ _ g (.inr (.inl #[.inl c,_,d])),c,d]
 |.clo _ _=>λx=>x
 |.ro _=>λx=>x
theorem VRs.mono {G:Stc}{h h':Heap}(hk:gy h h'):{vs:List V}->{ws:List Value}->VRs G h vs ws->VRs G h' vs ws
 | []=>λx=>x
 |_::_=>λZ=>by have#[w,us,e,a,r]:=Z;apply#[w,us,e,VR.mono hk a,VRs.mono hk r]
end
def VR.inv {G:Stc}{h:Heap}(x:VR G h v w):VR G h v w:=x
section
variable {G:Stc}{h:Heap}
def VRs.length:{vs:List V}->{ws:List Value}->VRs G h vs ws->vs.length=ws.length
 | []=>λe=>e▸rfl
 |_::_=>λZ=>by have#[_,_,e,_,r]:=Z;show e▸bz (·+1) (VRs.length r)
def VRs.get {vs:List V}(x:VRs G h vs ws){i:Nat}(e:vs[i]?=some v):∃w,ws[i]?=some w/\VR G h v w:=by
 induction vs generalizing ws i with
 |nil=>cases e
 |cons u vs Z =>
  have#[w,us,q,a,r]:=x;subst q;cases i with
  |zero=>refine#[w,rfl,ak e▸a]
  |succ i=>show Z r e
def VRs.append:{vs us:List V}->{ws xs:List Value}->VRs G h vs ws->VRs G h us xs->VRs G h (vs++us) (ws++xs)
 | []=>λe b=>e▸b
 |_::_=>λZ b=>by have#[_,_,e,a,r]:=Z;show e▸.cons a (VRs.append r b)
def VRs.take:{vs:List V}->{ws:List Value}->(n:Nat)->VRs G h vs ws->VRs G h (vs.take n) (ws.take n)
 | []=>λn e=>by have rfl:=e;rw[List.take_nil,List.take_nil];rfl
 |_::_=>λn x=>by
  cases n with
  |zero=>show .nil
  |succ n=>have#[_,_,rfl,a,r]:=x;show .cons a (VRs.take n r)
def VRs.drop:{vs:List V}->{ws:List Value}->(n:Nat)->VRs G h vs ws->VRs G h (vs.drop n) (ws.drop n)
 | []=>λn e=>by have rfl:=e;rw[List.drop_nil,List.drop_nil];rfl
 |_::_=>λn x=>by
  cases n with
  |zero=>show x
  |succ n=>have#[_,_,rfl,_,r]:=x;show VRs.drop n r
def VRs.reverse:{vs:List V}->{ws:List Value}->VRs G h vs ws->VRs G h vs.reverse ws.reverse
 | []=>λe=>by subst e;show .nil
 |_::_=>λZ=>by have#[_,_,e,a,r]:=Z;subst e;rw[iZ,iZ];show VRs.append (VRs.reverse r) %[a|0]
end
def pZ {prog:Program}{w:World}{A:Around}{E:QqV}{s:Shared}{a:Int}{t:Tok}{b:Str}{u:Tok}{Q:Bool->Shared->Prop}(h:Q false s):wpAny (model prog w) A (eqBool (.int a t) (.str b u)) Q E s:=by
 unfold eqBool;show af (PySem.EqMixed.eq_int_str (ur h))
def pY {prog:Program}{w:World}{A:Around}{E:QqV}{s:Shared}{a:Str}{t:Tok}{b:Int}{u:Tok}{Q:Bool->Shared->Prop}(h:Q false s):wpAny (model prog w) A (eqBool (.str a t) (.int b u)) Q E s:=by
 unfold eqBool;show af (PySem.EqMixed.eq_str_int (ur h))
abbrev xW:Key->Value->Bool
 |.int i,v=>Value.isInt i v
 |.str s,v=>Value.isStrOf s v
abbrev keyHash (w:World):Key->Int
 |.int i=>hashInt i
 |.str s=>hashStr w s
def tq {v:Value}(h:xW k v=true):(∃i t,k=.int i/\v=.int i t)\/∃s t,k=.str s/\v=.str s t:=by
 cases k with
 |int i=>have#[t,rfl]:=Value.isInt_shape h;show .inl #[i,t,rfl,rfl]
 |str s=>have#[t,rfl]:=Value.isStrOf_shape h;show .inr #[s,t,rfl,rfl]
abbrev uN:Value->Key
 |.int i _=>.int i
 |.str s _=>.str s
 |_=>.int 0
def kF {v:Value}(h:xW k v=true):uN v=k:=by
 rcases tq h with ⟨i,t,rfl,rfl⟩|⟨x,t,rfl,rfl⟩<;>rfl
def xV (i j:Int):decide (Key.int i=Key.int j)=(i==j):=by
 by_cases e:i=j
 ·subst e;rw[uj,dp rfl]
 ·rw[pb e,iq λq=>e (Key.int.inj q)]
def xT (i j:Str):decide (Key.str i=Key.str j)=decide (i=j):=by
 by_cases e:i=j
 ·subst e;rw[dp rfl,dp rfl]
 ·rw[iq e,iq λq=>e (Key.str.inj q)]
abbrev keyKind (prog:Program)(w:World):KeyKind prog w Key where
 is:=xW
 hash:=keyHash w
 inj:=λv a b ha hb=>(kF ha).symm.trans (kF hb)
 byValue:=λk v h=>by rcases tq h with ⟨i,t,rfl,rfl⟩|⟨x,t,rfl,rfl⟩<;>rfl
 pyHash:=λhv h=>by
  rcases tq hv with ⟨i,t,rfl,rfl⟩|⟨x,t,rfl,rfl⟩
  ·show wpAny_pyHash_int h
  ·show wpAny_pyHash_str h
 eqBool:=λhu hv h=>by
  rcases tq hu with ⟨i,t,rfl,rfl⟩|⟨x,t,rfl,rfl⟩<;>rcases tq hv with ⟨j,u,rfl,rfl⟩|⟨y,u,rfl,rfl⟩
  ·show wpAny_eqBool_int (xV i j▸h)
  ·show pZ h
  ·show pY h
  ·show wpAny_eqBool_str (xT x y▸h)
 «strs»:=λk x t v h=>by
  have rfl:=kF h;cases v<;>rfl
public abbrev Stc.kk (G:Stc):KeyKind G.prog G.w Key:=keyKind G.prog G.w
abbrev DRs (G:Stc)(h:Heap):List (Key×V)->List (Key×Value)->Prop
 | []=>λds=>ds=[]
 |e::es=>λds=>∃w us,ds=(e.1,w)::us/\VR G h e.2 w/\DRs G h es us
def DRs.nil {G:Stc}{h:Heap}:DRs G h [] []:=rfl
def DRs.cons {G:Stc}{h:Heap}{ds:List (Key×Value)}(a:VR G h v w)(r:DRs G h es ds):DRs G h ((k,v)::es) ((k,w)::ds):=#[w,ds,rfl,a,r]
def DRs.mono {G:Stc}{h h':Heap}(hk:gy h h'):{es:List (Key×V)}->{ds:List (Key×Value)}->DRs G h es ds->DRs G h' es ds
 | []=>λx=>x
 |_::_=>λZ=>by have#[w,us,e,a,r]:=Z;apply#[w,us,e,a.mono hk,r.mono hk]
abbrev OV (G:Stc)(h:Heap):Option V->Option Value->Prop
 |none,none=>True
 |some v,some w=>VR G h v w
 |_,_=>False
def OV.mono {G:Stc}{h h':Heap}(hk:gy h h'){v:Option V}{w:Option Value}(x:OV G h v w):OV G h' v w:=by
 cases v<;>cases w<;>first|show x|show VR.mono hk x
structure gA (G:Stc)(h:Heap)(a d:Addr)(f:Nat->Option V):Prop where
 here:∃o,h.get? a=some o/\o.cls=.ref G.cS/\o.dict=some d/\∀c,o.data≠.cls c
 ns:∃m,h.Ns1 d m/\(∀i x,G.attrs[i]?=some x->OV G h (f i) (m x))/\∀x,x∉G.attrs->m x=none
 ne:d≠a
public abbrev Stc.led (G:Stc):Bool:=!G.w.params.followText "set-order"
abbrev dS (G:Stc)(h:Heap)(a:Addr)(ks:List Key):Prop:=
 ∃o es ep t,h.get? a=some o/\o.ExactSet/\o.data=.set es ep t/\ElemsOf G.kk es.toList/\(∀k,decide (k∈ks)=true↔∃e∈es.toList,G.kk.is k e.2=true) /\
  es.size<scanBound/\t.fits es.size=true/\es.size=ks.length/\Tbl G.led t
def dS.of {G:Stc}{h:Heap}{a:Addr}(x:dS G h a ks):h.SetOf G.kk a (λk=>decide (k∈ks)) ks.length:=by
 have#[o,es,ep,t,h1,h2,h3,B,J,O,U,Z,_]:=x;apply#[o,es,ep,t,h1,h2,h3,B,J,O,U,Z]
structure Rel (G:Stc)(σ:St)(h:Heap):Prop where
 L:∀a xs,σ.L a=some xs->∃ws n,IsL h a ws.toArray n/\VRs G h xs ws
 D:∀a es,σ.D a=some es->∃ds,h.DictOf G.kk a ds/\DRs G h es ds
 S:∀a ks,σ.S a=some ks->dS G h a ks
 I:∀a d f,σ.I a=some (d,f)->gA G h a d f
 Z:∀a o,σ.Z a=some o->h.get? a=some o/\((σ.D a).isSome\/(σ.S a).isSome)
 Ll:∀a xs,σ.L a=some xs->xs.length<=bq
 Dl:∀a es,σ.D a=some es->es.length<=bq
 inj:∀a a' d f f',σ.I a=some (d,f)->σ.I a'=some (d,f')->a=a'
 apart:∀a d f,σ.I a=some (d,f)->σ.D d=none
 sep:∀a d f a' d' f',σ.I a=some (d,f)->σ.I a'=some (d',f')->a≠d'
 new:∀b,σ.dom b->G.hb.get? b=none
 base:∀b o,G.hb.get? b=some o->h.get? b=some o
structure Evo (X:List Addr)(σ:St)(h:Heap)(σ':St)(h':Heap):Prop where
 keep:∀b o,h.get? b=some o->¬σ.dom b->b∉X->h'.get? b=some o
 frz:gy h h'
 dom:∀b,σ'.dom b->σ.dom b\/h.get? b=none
 there:∀b o,h.get? b=some o->∃o',h'.get? b=some o'
def Evo.refl (X:List Addr)(σ:St)(h:Heap):Evo X σ h σ h:=#[λ_ _ e _ _=>e,λ_ _ e _=>e,λ_ d=>.inl d,λ_ o e=>#[o,e]]
def Evo.trans {σ σ₁ σ₂:St}{h h₁ Z:Heap}(x:Evo X σ h σ₁ h₁)(y:Evo X σ₁ h₁ σ₂ Z):Evo X σ h σ₂ Z:=by
 apply#[λb o e nd O=>y.keep b o (x.keep b o e nd O) (λd=>?_) O,λb o e f=>y.frz b o (x.frz b o e f) f,λb d=>?_,λb o e=>?_]
 ·rcases x.dom b d with d|d
  ·show nd d
  ·rw[e]at d;cases d
 ·rcases y.dom b d with d|d
  ·show x.dom b d
  ·cases hq:h.get? b with
   |none=>show .inr rfl
   |some o=>have#[o',J]:=x.there b o hq;rw[J]at d;cases d
 ·have#[U,e₁]:=x.there b o e;show y.there b U e₁
def Evo.more {Y:List Addr}{σ σ':St}{h h':Heap}(x:Evo X σ h σ' h')(O:∀b∈X,b∈Y):Evo Y σ h σ' h':=
 #[λb o e nd Z=>x.keep b o e nd λU=>Z (O b U),x.frz,x.dom,x.there]
def Evo.less {Y:List Addr}{σ σ':St}{h h':Heap}(x:Evo X σ h σ' h')(O:∀b∈X,b∈Y\/h.get? b=none):Evo Y σ h σ' h':=
 #[λb o e nd Z=>x.keep b o e nd λU=>(O b U).elim Z λq=>(by rw[e]at q;cases q),x.frz,x.dom,x.there]
def yz {xs:Array Value}(c:o.cls=.type "list")(d:o.data=.seq xs n):¬Frz o:=by
 rintro (⟨h,_⟩|⟨_,_,h⟩|⟨_,h⟩)
 ·show h c
 ·rw[d]at h;cases h
 ·rw[d]at h;cases h
def tu {es:Array DictEntry}(d:o.data=.dict es n):¬Frz o:=by
 rintro (⟨_,_,_,h⟩|⟨_,_,h⟩|⟨_,h⟩)<;>(rw[d]at h;cases h)
def vG {v:Option Value}(d:o.data=.cell v):¬Frz o:=by
 rintro (⟨_,_,_,h⟩|⟨_,_,h⟩|⟨_,h⟩)<;>(rw[d]at h;cases h)
def wc {h h':Heap}{a:Addr}(Z:Heap.SameBut a h h')(U:∀o,h.get? a=some o->¬Frz o):gy h h':=λb o e f=>by
 by_cases hb:b=a
 ·subst hb;show absurd f (U o e)
 ·rw[Z.2 b hb];show e
def zi {h h':Heap}{a:Addr}{o':Obj}(Z:Heap.SameBut a h h')(U:h'.get? a=some o'):∀b o,h.get? b=some o->∃o',h'.get? b=some o':=λb o e=>by
 by_cases hb:b=a
 ·subst hb;apply#[_,U]
 ·apply#[o,by rw[Z.2 b hb];show e]
def none_at_size (h:Heap):h.get? h.objs.size=none:=by
 cases hq:h.get? h.objs.size with
 |none=>rfl
 |some o=>show absurd (fj hq) (gp _)
def wQ {es:Array (Int×Value)}{t:SetTable}(d:o.data=.set es n t):¬Frz o:=by
 rintro (⟨_,_,_,h⟩|⟨_,_,h⟩|⟨_,h⟩)<;>(rw[d]at h;cases h)
def Rel.ky {G:Stc}{σ:St}{h:Heap}(R:Rel G σ h)(d:σ.dom b):∃o,h.get? b=some o:=by
 rcases d with d|d|d|d|d|⟨a,f,d⟩
 ·have#[xs,e]:=bp.mp d;have#[ws,n,U,_]:=R.L b xs e;apply#[_,U]
 ·have#[xs,e]:=bp.mp d;have#[ds,#[o,es,ep,U,_,dd,_],_]:=R.D b xs e;apply#[o,U]
 ·have#[xs,e]:=bp.mp d;have#[o,es,ep,t,U,_,dd,_]:=R.S b xs e;apply#[o,U]
 ·have#[#[d,f],e]:=bp.mp d;have#[o,U,_]:=(R.I b d f e).here;apply#[o,U]
 ·have#[o,e]:=bp.mp d;apply#[o,(R.Z b o e).1]
 ·have#[m,#[o',es,ep,O,dd,_],_]:=(R.I a b f d).ns;apply#[o',O]
def Rel.same {G:Stc}{σ:St}{h h':Heap}(R:Rel G σ h)(hk:∀b o,h.get? b=some o->σ.dom b->h'.get? b=some o)(J:gy h h')(hb:∀b o,G.hb.get? b=some o->h'.get? b=some o):Rel G σ h' where
 L:=λa xs e=>by
  have#[ws,n,U,v]:=R.L a xs e;apply#[ws,n,hk a _ U (.inl (by rw[e];rfl)),v.mono J]
 D:=λa xs e=>by
  have#[ds,#[o,es,ep,U,r],v]:=R.D a xs e;apply#[ds,#[o,es,ep,hk a o U (.inr (.inl (by rw[e];rfl))),r],v.mono J]
 S:=λa xs e=>by
  have#[o,es,ep,t,U,r]:=R.S a xs e;apply#[o,es,ep,t,hk a o U (.inr (.inr (.inl (by rw[e];rfl)))),r]
 I:=λa d f e=>by
  have#[#[o,U,r],#[m,#[o',es,ep,O,r'],v,B],ne]:=R.I a d f e;have dd:σ.dom d:=.inr (.inr (.inr (.inr (.inr #[a,f,e]))));apply#[#[o,hk a o U (.inr (.inr (.inr (.inl (by rw[e];rfl))))),r],#[m,#[o',es,ep,hk d o' O dd,r'],λi x hx=>(v i x hx).mono J,B],ne]
 Z:=λa o e=>#[hk a o (R.Z a o e).1 (.inr (.inr (.inr (.inr (.inl (by rw[e];rfl)))))),(R.Z a o e).2]
 Ll:=R.Ll
 Dl:=R.Dl
 inj:=R.inj
 apart:=R.apart
 sep:=R.sep
 new:=R.new
 base:=hb
def Rel.push {G:Stc}{σ:St}{h:Heap}(R:Rel G σ h)(o:Obj):Rel G σ (h.push o):=
 R.same (λ_ _ e _=>aw o e) (λ_ _ e _=>aw o e) λb o' e=>aw o (R.base b o' e)
def Evo.push (X:List Addr)(σ:St)(h:Heap)(o:Obj):Evo X σ h σ (h.push o):=
 #[λ_ _ e _ _=>aw o e,λ_ _ e _=>aw o e,λ_ d=>.inl d,λ_ o' e=>#[o',aw o e]]
def dJ {σ:St}{a:Addr}(d:(σ.cw a xs).dom b):σ.dom b\/b=a:=by
 by_cases h:b=a
 ·show .inr h
 ·apply .inl ?_;rcases d with d|d
  ·show .inl (by simpa[St.cw,upd,h] using d)
  ·show .inr d
def qE {σ:St}{a:Addr}{xs:List (Key×V)}(d:(σ.qj a xs).dom b):σ.dom b\/b=a:=by
 by_cases h:b=a
 ·show .inr h
 ·apply .inl ?_;rcases d with d|d|d
  ·show .inl d
  ·show .inr (.inl (by simpa[St.qj,upd,h] using d))
  ·show .inr (.inr (by simpa[St.qj,clr,h] using d))
def y7 {σ:St}{a:Addr}{xs:List Key}(d:(σ.jY a xs).dom b):σ.dom b\/b=a:=by
 by_cases h:b=a
 ·show .inr h
 ·apply .inl ?_;rcases d with d|d|d|d
  ·show .inl d
  ·show .inr (.inl d)
  ·show .inr (.inr (.inl (by simpa[St.jY,upd,h] using d)))
  ·show .inr (.inr (.inr (by simpa[St.jY,clr,h] using d)))
def kQ {σ:St}{a:Addr}(hd:(σ.jw a d f).dom b):σ.dom b\/b=a\/b=d:=by
 by_cases h:b=a
 ·show .inr (.inl h)
 ·by_cases h':b=d
  ·show .inr (.inr h')
  ·apply .inl ?_;rcases hd with q|q|q|q|q|⟨c,g,q⟩
   ·show .inl q
   ·show .inr (.inl q)
   ·show .inr (.inr (.inl q))
   ·show .inr (.inr (.inr (.inl (by simpa[St.jw,upd,h] using q))))
   ·show .inr (.inr (.inr (.inr (.inl q))))
   ·apply .inr (.inr (.inr (.inr (.inr #[c,g,?_]))));by_cases Z:c=a
    ·simp only[St.jw,upd,Z,ym,fy,te]at q;show absurd q.1.symm h'
    ·simpa[St.jw,upd,Z] using q
def qD {σ:St}{a:Addr}(hd:σ.dom a)(d:(σ.iE a o).dom b):σ.dom b:=by
 by_cases h:b=a
 ·show h▸hd
 ·rcases d with d|d|d|d|d|d
  ·show .inl d
  ·show .inr (.inl d)
  ·show .inr (.inr (.inl d))
  ·show .inr (.inr (.inr (.inl d)))
  ·show .inr (.inr (.inr (.inr (.inl (by simpa[St.iE,upd,h] using d)))))
  ·show .inr (.inr (.inr (.inr (.inr d))))
structure At (a:Addr)(h h':Heap):Prop where
 other:∀b o,b≠a->h.get? b=some o->h'.get? b=some o
 here:∃o,h'.get? a=some o
 C6:∀o,h.get? a=some o->¬Frz o
def At.frz {a:Addr}{h h':Heap}(x:At a h h'):gy h h':=λb o e f=>x.other b o (λhb=>x.C6 o (hb▸e) f) e
def At.there {a:Addr}{h h':Heap}(x:At a h h'):∀b o,h.get? b=some o->∃o',h'.get? b=some o':=λb o e=>by
 by_cases hb:b=a
 ·subst hb;show x.here
 ·apply#[o,x.other b o hb e]
def At.push (h:Heap)(Z:o.isFreed=false:=by rfl):At h.objs.size h (h.push o):=
 #[λ_ _ _ e=>aw o e,#[o,cf _ Z],λo' e=>by rw[none_at_size]at e;cases e]
def At.oY {a:Addr}{h h':Heap}{o':Obj}(U:Heap.SameBut a h h')(J:h.get? a=some o)(O:¬Frz o)(Z:h'.get? a=some o'):At a h h':=
 #[λb _ hb e=>by rw[U.2 b hb];show e,#[o',Z],λ_ e=>by rw[J]at e;cases e;show O]
section
variable {G:Stc}{σ:St}{h h':Heap}{a:Addr}
def Rel.atL (R:Rel G σ h)(x:At a h h')(hb:b≠a)(e:σ.L b=some xs):∃ws n,IsL h' b ws.toArray n/\VRs G h' xs ws:=by
 have#[ws,n,Z,v]:=R.L b xs e;apply#[ws,n,x.other b _ hb Z,v.mono x.frz]
def Rel.atD (R:Rel G σ h)(x:At a h h')(hb:b≠a)(e:σ.D b=some es):∃ds,h'.DictOf G.kk b ds/\DRs G h' es ds:=by
 have#[ds,#[o,Z,ep,U,r],v]:=R.D b es e;apply#[ds,#[o,Z,ep,x.other b o hb U,r],v.mono x.frz]
def Rel.atS (R:Rel G σ h)(x:At a h h')(hb:b≠a)(e:σ.S b=some ks):dS G h' b ks:=by
 have#[o,Z,ep,t,U,r]:=R.S b ks e;apply#[o,Z,ep,t,x.other b o hb U,r]
def Rel.atI (R:Rel G σ h)(x:At a h h')(hb:b≠a)(hd:d≠a)(e:σ.I b=some (d,f)):gA G h' b d f:=by
 have#[#[o,B,r],#[m,#[o',es,ep,Z,O],v,U],ne]:=R.I b d f e;apply#[#[o,x.other b o hb B,r],#[m,#[o',es,ep,x.other d o' hd Z,O],λi y J=>(v i y J).mono x.frz,U],ne]
def Rel.yE (R:Rel G σ h)(e:σ.L a=some xs):∃o,h.get? a=some o/\o.cls=.type "list":=by
 have#[ws,n,Z,_]:=R.L a xs e;apply#[_,Z,rfl]
def Rel.JQ (R:Rel G σ h)(e:σ.D a=some es):∃o,h.get? a=some o/\o.cls=.type "dict":=by
 have#[ds,#[o,U,ep,Z,c,_],_]:=R.D a es e;apply#[o,Z,c.1]
def Rel.JP (R:Rel G σ h)(e:σ.S a=some ks):∃o,h.get? a=some o/\o.cls=.type "set":=by
 have#[o,U,ep,t,Z,c,_]:=R.S a ks e;apply#[o,Z,c.1]
def Rel.SE (R:Rel G σ h)(e:σ.I a=some (d,f)):∃o,h.get? a=some o/\o.cls=.ref G.cS:=by
 have#[o,Z,c,_]:=(R.I a d f e).here;apply#[o,Z,c]
def Rel.JL (R:Rel G σ h)(e:σ.I a=some (d,f)):∃o es ep,h.get? d=some o/\o.data=.dict es ep:=by
 have#[m,#[o',es,ep,Z,dd,_],_]:=(R.I a d f e).ns;apply#[o',es,ep,Z,dd]
def Rel.TY (R:Rel G σ h)(e:σ.L b=some xs)(O:σ.I a=some (d,f)):d≠b:=by
 rintro rfl;have#[o,es,ep,U,hd]:=R.JL O;have#[ws,n,Z,_]:=R.L _ _ e;have rfl:=ak (U.symm.trans Z);cases hd
def Rel.RA (R:Rel G σ h){xs:List Key}(e:σ.S b=some xs)(e':σ.I a=some (d,f)):d≠b:=by
 rintro rfl;have#[o,es,ep,O,hd]:=R.JL e';have#[o',J,B,t',Z,_,U,_]:=R.S _ _ e;rw[O]at Z;cases Z;rw[hd]at U;cases U
def Rel.I8 (R:Rel G σ h)(e:h.get? b=none)(U:σ.I a=some (d,f)):d≠b:=by
 rintro rfl;have#[o,es,ep,Z,hd]:=R.JL U;rw[Z]at e;cases e
def Rel.WH (R:Rel G σ h)(e:σ.Z b=some o):(∃o,h.get? b=some o/\o.cls=.type "dict")\/∃o,h.get? b=some o/\o.cls=.type "set":=
 (R.Z b o e).2.imp (λq=>by
  have#[x,q]:=bp.mp q;show R.JQ q) λq=>by
  have#[x,q]:=bp.mp q;show R.JP q
def Rel.atZ (R:Rel G σ h)(x:At a h h')(n:∀b o,σ.Z b=some o->b≠a):∀b o,σ.Z b=some o->h'.get? b=some o/\((σ.D b).isSome\/(σ.S b).isSome):=λb o e=>#[x.other b o (n b o e) (R.Z b o e).1,(R.Z b o e).2]
def Rel.zH (R:Rel G σ h)(e:h.get? b=some o)(d:(σ.D b).isSome\/(σ.S b).isSome):Rel G (σ.iE b o) h:=
 ⟨R.L,R.D,R.S,R.I,λc o' q=>by
  by_cases U:c=b
  ·subst U;have rfl:=ak ((br σ.Z c o).symm.trans q);apply#[e,d]
  ·show R.Z c o' ((cv U).symm.trans q),R.Ll,R.Dl,R.inj,R.apart,R.sep,λc q=>R.new c (qD (d.elim (λd=>.inr (.inl d)) λd=>.inr (.inr (.inl d))) q),R.base⟩
def Evo.zH (d:(σ.D b).isSome\/(σ.S b).isSome):Evo X σ h (σ.iE b o) h:=
 #[λ_ _ e _ _=>e,λ_ _ e _=>e,λc q=>.inl (qD (d.elim (λd=>.inr (.inl d)) λd=>.inr (.inr (.inl d))) q),λ_ o e=>#[o,e]]
def Rel.putL (R:Rel G σ h)(x:At a h h')(hn:σ.L a=none->h.get? a=none)(hl:IsL h' a ws.toArray n)(hv:VRs G h xs ws)(hz:xs.length<=bq):Rel G (σ.cw a xs) h':=by
 have old:∀b o,h.get? b=some o->∀c:Value,o.cls=c->c≠.type "list"->b≠a:=λb o e c hc O hb=>by
  subst hb;cases U:σ.L b with
  |none=>rw[hn U]at e;cases e
  |some ys=>have#[o',J,c']:=R.yE U;rw[e]at J;cases J;show O (hc.symm.trans c')
 have Z:∀b c,(∃o,h.get? b=some o/\o.cls=c)->c≠.type "list"->b≠a:=λb c aa O=>by have#[o,ho,hc]:=aa;show old b o ho c hc O
 apply⟨λb ys e=>?_,λb es e=>R.atD x (Z b _ (R.JQ e) (by decide)) e,λb ks e=>R.atS x (Z b _ (R.JP e) (by decide)) e,
  λb d f e=>R.atI x (Z b _ (R.SE e) (λq=>nomatch q)) (by
   cases U:σ.L a with
   |none=>show R.I8 (hn U) e
   |some ys=>show R.TY U e) e,R.atZ x λb o e=>(R.WH e).elim (λq=>Z b _ q (by decide)) λq=>Z b _ q (by decide),λb ys e=>?_,R.Dl,R.inj,R.apart,R.sep,λb d=>?_,λb o e=>?_⟩
 ·by_cases hb:b=a
  ·subst hb;simp only[St.cw,br,fy]at e;subst e;apply#[ws,n,hl,hv.mono x.frz]
  ·simp only[St.cw,cv hb]at e;show R.atL x hb e
 ·by_cases hb:b=a
  ·subst hb;simp only[St.cw,br,fy]at e;show e▸hz
  ·simp only[St.cw,cv hb]at e;show R.Ll b ys e
 ·rcases dJ d with d|rfl
  ·show R.new b d
  ·cases U:G.hb.get? b with
   |none=>rfl
   |some o =>
    cases B:σ.L b with
    |none=>have:=R.base b o U;rw[hn B]at this;cases this
    |some ys=>have:=R.new b (.inl (by rw[B];rfl));rw[U]at this;cases this
 ·apply x.other b o (λhb=>?_) (R.base b o e);subst hb;cases B:σ.L b with
  |none=>have:=R.base b o e;rw[hn B]at this;cases this
  |some ys=>have:=R.new b (.inl (by rw[B];rfl));rw[e]at this;cases this
def Evo.putL (x:At a h h')(U:σ.L a=none->h.get? a=none)(xs:List V):Evo X σ h (σ.cw a xs) h':=by
 apply#[λb o e nd _=>x.other b o (λhb=>?_) e,x.frz,λb d=>?_,x.there]
 ·subst hb;cases Z:σ.L b with
  |none=>rw[U Z]at e;cases e
  |some ys=>show nd (.inl (by rw[Z];rfl))
 ·rcases dJ d with d|rfl
  ·show .inl d
  ·cases Z:σ.L b with
   |none=>show .inr (U Z)
   |some ys=>show .inl (.inl (by rw[Z];rfl))
def Rel.putD (R:Rel G σ h)(x:At a h h')(hn:σ.D a=none->h.get? a=none)(hi:∀b f,σ.I b≠some (a,f)){xs:List (Key×V)}{ds:List (Key×Value)}(hl:h'.DictOf G.kk a ds)(hv:DRs G h xs ds)(hz:xs.length<=bq):Rel G (σ.qj a xs) h':=by
 have old:∀b o,h.get? b=some o->∀c:Value,o.cls=c->c≠.type "dict"->b≠a:=λb o e c hc O hb=>by
  subst hb;cases J:σ.D b with
  |none=>rw[hn J]at e;cases e
  |some ys=>have#[o',B,c']:=R.JQ J;rw[e]at B;cases B;show O (hc.symm.trans c')
 have U:∀b c,(∃o,h.get? b=some o/\o.cls=c)->c≠.type "dict"->b≠a:=λb c aa O=>by have#[o,ho,hc]:=aa;show old b o ho c hc O
 apply⟨λb es e=>R.atL x (U b _ (R.yE e) (by decide)) e,λb ys e=>?_,λb ks e=>R.atS x (U b _ (R.JP e) (by decide)) e,
  λb d f e=>R.atI x (U b _ (R.SE e) (λq=>nomatch q)) (λhd=>hi b f (hd▸e)) e,λb o e=>(by
   have#[hb,e]:=qI e;have#[q,r]:=R.Z b o e;apply#[x.other b o hb q,?_];show(upd σ.D a xs b).isSome=true\/_;rw[cv hb];show r),R.Ll,λb ys e=>?_,R.inj,λb d f e=>?_,R.sep,λb d=>?_,λb o e=>?_⟩
 ·by_cases hb:b=a
  ·clear U old;subst hb;simp only[St.qj,br,fy]at e;subst e;apply#[ds,hl,hv.mono x.frz]
  ·simp only[St.qj,cv hb]at e;show R.atD x hb e
 ·by_cases hb:b=a
  ·subst hb;simp only[St.qj,br,fy]at e;show e▸hz
  ·simp only[St.qj,cv hb]at e;show R.Dl b ys e
 ·have hd:d≠a:=λhd=>hi b f (hd▸e);simp only[St.qj,cv hd];show R.apart b d f e
 ·rcases qE d with d|rfl
  ·show R.new b d
  ·cases J:G.hb.get? b with
   |none=>rfl
   |some o =>
    cases hL:σ.D b with
    |none=>have:=R.base b o J;rw[hn hL]at this;cases this
    |some ys=>have:=R.new b (.inr (.inl (by rw[hL];rfl)));rw[J]at this;cases this
 ·apply x.other b o (λhb=>?_) (R.base b o e);subst hb;cases hL:σ.D b with
  |none=>have:=R.base b o e;rw[hn hL]at this;cases this
  |some ys=>have:=R.new b (.inr (.inl (by rw[hL];rfl)));rw[e]at this;cases this
def Evo.putD (x:At a h h')(U:σ.D a=none->h.get? a=none)(xs:List (Key×V)):Evo X σ h (σ.qj a xs) h':=by
 apply#[λb o e nd _=>x.other b o (λhb=>?_) e,x.frz,λb d=>?_,x.there]
 ·subst hb;cases Z:σ.D b with
  |none=>rw[U Z]at e;cases e
  |some ys=>show nd (.inr (.inl (by rw[Z];rfl)))
 ·rcases qE d with d|rfl
  ·show .inl d
  ·cases Z:σ.D b with
   |none=>show .inr (U Z)
   |some ys=>show .inl (.inr (.inl (by rw[Z];rfl)))
def Rel.HV (R:Rel G σ h)(x:At a h h')(hn:σ.S a=none->h.get? a=none){xs:List Key}(hl:dS G h' a xs):Rel G (σ.jY a xs) h':=by
 have old:∀b o,h.get? b=some o->∀c:Value,o.cls=c->c≠.type "set"->b≠a:=λb o e c hc J hb=>by
  subst hb;cases O:σ.S b with
  |none=>rw[hn O]at e;cases e
  |some ys=>have#[o',B,c']:=R.JP O;rw[e]at B;cases B;show J (hc.symm.trans c')
 have U:∀b c,(∃o,h.get? b=some o/\o.cls=c)->c≠.type "set"->b≠a:=λb c aa J=>by have#[o,ho,hc]:=aa;show old b o ho c hc J
 apply⟨λb es e=>R.atL x (U b _ (R.yE e) (by decide)) e,λb ks e=>R.atD x (U b _ (R.JQ e) (by decide)) e,λb ys e=>?_,
  λb d f e=>R.atI x (U b _ (R.SE e) (λq=>nomatch q)) (by
   cases O:σ.S a with
   |none=>show R.I8 (hn O) e
   |some ys=>show R.RA O e) e,λb o e=>(by
   have#[hb,e]:=qI e;have#[q,r]:=R.Z b o e;apply#[x.other b o hb q,?_];show _\/(upd σ.S a xs b).isSome=true;rw[cv hb];show r),R.Ll,R.Dl,R.inj,R.apart,R.sep,λb d=>?_,λb o e=>?_⟩
 ·by_cases hb:b=a
  ·clear U old;subst hb;simp only[St.jY,br,fy]at e;subst e;show hl
  ·simp only[St.jY,cv hb]at e;show R.atS x hb e
 ·rcases y7 d with d|rfl
  ·show R.new b d
  ·cases O:G.hb.get? b with
   |none=>rfl
   |some o =>
    cases hL:σ.S b with
    |none=>have:=R.base b o O;rw[hn hL]at this;cases this
    |some ys=>have:=R.new b (.inr (.inr (.inl (by rw[hL];rfl))));rw[O]at this;cases this
 ·apply x.other b o (λhb=>?_) (R.base b o e);subst hb;cases hL:σ.S b with
  |none=>have:=R.base b o e;rw[hn hL]at this;cases this
  |some ys=>have:=R.new b (.inr (.inr (.inl (by rw[hL];rfl))));rw[e]at this;cases this
def Evo.HV (x:At a h h')(U:σ.S a=none->h.get? a=none)(xs:List Key):Evo X σ h (σ.jY a xs) h':=by
 apply#[λb o e nd _=>x.other b o (λhb=>?_) e,x.frz,λb d=>?_,x.there]
 ·subst hb;cases Z:σ.S b with
  |none=>rw[U Z]at e;cases e
  |some ys=>show nd (.inr (.inr (.inl (by rw[Z];rfl))))
 ·rcases y7 d with d|rfl
  ·show .inl d
  ·cases Z:σ.S b with
   |none=>show .inr (U Z)
   |some ys=>show .inl (.inr (.inr (.inl (by rw[Z];rfl))))
def Rel.QU (R:Rel G σ h){f':Nat->Option V}(e:σ.I a=some (d,f))(x:At d h h')(hl:gA G h' a d f'):Rel G (σ.jw a d f') h':=by
 have ao:d≠a:=hl.ne;have O:∀c d' g,(σ.jw a d f').I c=some (d',g)->∃aa,σ.I c=some (d',aa):=λc d' g q=>by
  by_cases hc:c=a
  ·subst hc;simp only[St.jw,br,fy,te]at q;apply#[f,q.1▸e]
  ·apply#[g,by simpa[St.jw,upd,hc] using q]
 apply⟨λb es U=>R.atL x (R.TY U e).symm U,λb ks U=>R.atD x (λhb=>?_) U,λb ys U=>R.atS x (R.RA U e).symm U,λb d' g U=>?_,R.atZ x λb o U hb=>((R.Z b o U).2.elim (λq=>(by subst hb;rw[R.apart a b f e]at q;cases q)) λq=>(by
  have#[ks,q]:=bp.mp q;show R.RA q e hb.symm)),R.Ll,R.Dl,λb b' d' g g' e1 e2=>?_,λb d' g U=>?_,λb d' g b' ai g' e1 e2=>?_,λb hd=>?_,λb o U=>?_⟩
 ·subst hb;have ab:σ.D b=some ks:=U;rw[R.apart a b f e]at ab;cases ab
 ·by_cases hb:b=a
  ·subst hb;simp only[St.jw,br,fy,te]at U;have#[rfl,rfl]:=U;show hl
  ·simp only[St.jw,cv hb]at U;show R.atI x (R.sep _ _ _ _ _ _ U e) (λhd=>hb (R.inj b a d g f (hd▸U) e)) U
 ·have#[B,q1]:=O b d' g e1;have#[J,q2]:=O b' d' g' e2;show R.inj b b' d' B J q1 q2
 ·by_cases hb:b=a
  ·clear hl;subst hb;simp only[St.jw,br,fy,te]at U;show U.1▸R.apart b d f e
  ·show R.apart b d' g (by simpa[St.jw,upd,hb] using U)
 ·have#[B,q1]:=O b d' g e1;have#[J,q2]:=O b' ai g' e2;show R.sep _ _ _ _ _ _ q1 q2
 ·have ha:σ.dom a:=.inr (.inr (.inr (.inl (by rw[e];rfl))));have ag:σ.dom d:=.inr (.inr (.inr (.inr (.inr #[a,f,e]))));rcases kQ hd with q|rfl|rfl
  ·show R.new b q
  ·show R.new _ ha
  ·show R.new _ ag
 ·apply x.other b o (λhb=>?_) (R.base b o U);clear O;subst hb;have:=R.new b (.inr (.inr (.inr (.inr (.inr #[a,f,e])))));rw[U]at this;cases this
def Evo.QU (Z:Nat->Option V)(e:σ.I a=some (d,f))(x:At d h h'):Evo X σ h (σ.jw a d Z) h':=by
 apply#[λb o U nd _=>x.other b o (λhb=>nd (hb▸.inr (.inr (.inr (.inr (.inr #[a,f,e])))))) U,x.frz,λb hd=>.inl ?_,x.there];rcases kQ hd with q|rfl|rfl
 ·show q
 ·show .inr (.inr (.inr (.inl (by rw[e];rfl))))
 ·show .inr (.inr (.inr (.inr (.inr #[a,f,e]))))
def Rel.QZ (R:Rel G σ h)(ha:h.get? a=none)(hd:h.get? d=none)(ab:d≠a)(hk:∀b o,h.get? b=some o->h'.get? b=some o)(hl:gA G h' a d λ_=>none):Rel G (σ.jw a d λ_=>none) h':=by
 have R':=R.same (λb o e _=>hk b o e) (λb o e _=>hk b o e) λb o e=>hk b o (R.base b o e);have U:∀b,h.get? b=none->¬σ.dom b:=λb hb q=>by have#[o,ho]:=R.ky q;rw[hb]at ho;cases ho
 have aa:∀b g,σ.I b≠some (d,g):=λb g q=>U d hd (.inr (.inr (.inr (.inr (.inr #[b,g,q])))));have ai:σ.I a=none:=by
  cases hq:σ.I a with
  |none=>rfl
  |some p=>show absurd (.inr (.inr (.inr (.inl (by rw[hq];rfl))))) (U a ha)
 have base:∀c d' g,(σ.jw a d λ_=>none).I c=some (d',g)->(c=a/\d'=d)\/(c≠a/\σ.I c=some (d',g)):=λc d' g q=>by
  by_cases B:c=a
  ·subst B;simp only[St.jw,br,fy,te]at q;show .inl #[rfl,q.1.symm]
  ·show .inr #[B,by simpa[St.jw,upd,B] using q]
 apply#[R'.L,R'.D,R'.S,λb d' g e'=>?_,R'.Z,R.Ll,R.Dl,λb b' d' g g' e1 e2=>?_,λb d' g e'=>?_,λb d' g b' ag g' e1 e2=>?_,λb q=>?_,R'.base]
 ·by_cases hb:b=a
  ·subst hb;simp only[St.jw,br,fy,te]at e';have#[rfl,rfl]:=e';show hl
  ·show R'.I b d' g (by simpa[St.jw,upd,hb] using e')
 ·rcases base b d' g e1 with ⟨rfl,rfl⟩|⟨_,J⟩<;>rcases base b' d' g' e2 with ⟨h1,h2⟩|⟨_,q2⟩
  ·show h1.symm
  ·show absurd q2 (aa _ _)
  ·show absurd (h2▸J) (aa _ _)
  ·show R.inj b b' d' g g' J q2
 ·rcases base b d' g e' with ⟨rfl,rfl⟩|⟨_,J⟩
  ·show σ.D d'=none;cases hq:σ.D d' with
   |none=>rfl
   |some p=>show absurd (.inr (.inl (by rw[hq];rfl))) (U d' hd)
  ·show R.apart b d' g J
 ·have O:∀c d' g,σ.I c=some (d',g)->σ.dom c/\σ.dom d':=λc d' g q=>#[.inr (.inr (.inr (.inl (by rw[q];rfl)))),.inr (.inr (.inr (.inr (.inr #[c,g,q]))))];rcases base b d' g e1 with ⟨rfl,rfl⟩|⟨_,J⟩<;>rcases base b' ag g' e2 with ⟨h1,h2⟩|⟨_,q2⟩
  ·rw[h2];show ab.symm
  ·rintro rfl;show U _ ha (O _ _ _ q2).2
  ·rw[h2];rintro rfl;show U _ hd (O _ _ _ J).1
  ·show R.sep _ _ _ _ _ _ J q2
 ·have fresh:∀c,h.get? c=none->G.hb.get? c=none:=λc B=>by
   cases hq:G.hb.get? c with
   |none=>rfl
   |some o=>rw[R.base c o hq]at B;cases B
  rcases kQ q with q|rfl|rfl
  ·show R.new b q
  ·show fresh _ ha
  ·show fresh _ hd
def Evo.QZ (f:Nat->Option V)(Z:h.get? a=none)(hd:h.get? d=none)(hk:∀b o,h.get? b=some o->h'.get? b=some o):Evo X σ h (σ.jw a d f) h':=by
 apply#[λb o e _ _=>hk b o e,λb o e _=>hk b o e,λb q=>?_,λb o e=>#[o,hk b o e]];rcases kQ q with q|rfl|rfl
 ·show .inl q
 ·show .inr Z
 ·show .inr hd
end
end MP
end
section
namespace MP
open PySem PyProof.Rows
variable {env:Env}{ρ:Fr}{h:Heap}{Q:V->St->Prop}{w:Value}{b:Bool}
structure AOk (A:Around)(d:Nat):Prop where
 handled:A.handled=none
 depth:A.depth+3*d+20<recursionLimit
 units:A.units+30*d+300<cLine
structure rv (env:Env):Prop where
 kind:env.scope.kind=.function
 nd:(env.scope.names.map (·.1)).Nodup
 globals:env.globals=mainGlobals
 builtins:env.builtins=builtinsNs
structure FR (G:Stc)(σ:St)(env:Env)(ρ:Fr)(h:Heap):Prop where
 ns:∃m,h.Ns env.locals m/\∀i x,env.scope.names[i]?=some (x,.local)->OV G h (ρ i) (m x)
 cells:∀(i:Nat) (x:Str) (k:NameKind),env.scope.names[i]?=some (x,k)->k=.cell\/k=.free->∃c w,env.cells.lookup x=some c/\h.IsCell c w/\OV G h (ρ i) w/\¬σ.dom c/\c≠env.locals/\(G.cap x=false->G.hb.get? c=none)
 inj:∀(i j:Nat) (x y:Str) (k k':NameKind) (c:Addr),env.scope.names[i]?=some (x,k)->env.scope.names[j]?=some (y,k')->(k=.cell\/k=.free)->(k'=.cell\/k'=.free)->env.cells.lookup x=some c->env.cells.lookup y=some c->i=j
 loc:¬σ.dom env.locals
 notfrz:∀o,h.get? env.locals=some o->¬Frz o
 new:G.hb.get? env.locals=none
 allc:∀p∈env.cells,∃o,h.get? p.2=some o
def FR.evo {G:Stc}{σ σ':St}{h':Heap}(F:FR G σ env ρ h)(x:Evo [] σ h σ' h'):FR G σ' env ρ h':=by
 have#[m,#[o,es,ep,J,r],hm]:=F.ns;have O:=x.keep _ _ J F.loc (by simp);have Z:∀b o,h.get? b=some o->¬σ.dom b->¬σ'.dom b:=λb o e nd d=>(x.dom b d).elim nd λq=>by rw[e]at q;cases q
 apply#[#[m,#[o,es,ep,O,r],λi y e=>(hm i y e).mono x.frz],λi y k e hk=>?_,F.inj,Z _ _ J F.loc,λaa e=>?_,F.new,λp hp=>by have#[o,e]:=F.allc p hp;show x.there _ o e]
 ·have#[c,w,h1,#[oc,U,hd],h3,B,h5]:=F.cells i y k e hk;apply#[c,w,h1,#[oc,x.keep _ _ U B (by simp),hd],h3.mono x.frz,Z _ _ U B,h5]
 ·rw[O]at e;cases e;show F.notfrz o J
structure Go (X:List Addr)(σ:St)(s:Shared)(σ':St)(s':Shared):Prop where
 e:Evo X σ s.heap σ' s'.heap
 g:s'.gens=s.gens
 o:s'.os=s.os
inductive jl (G:Stc)(X:List Addr)(σ:St)(s:Shared)(Q:V->St->Prop)(w:Value)(s':Shared):Prop
 |mk (v:V) (σ':St):Q v σ'->VR G s'.heap v w->Rel G σ' s'.heap->Go X σ s σ' s'->jl G X σ s Q w s'
inductive kz (G:Stc)(X:List Addr)(σ:St)(s:Shared)(Q:Bool->St->Prop)(b:Bool)(s':Shared):Prop
 |mk (σ':St):Q b σ'->Rel G σ' s'.heap->Go X σ s σ' s'->kz G X σ s Q b s'
inductive KP (G:Stc)(X:List Addr)(σ:St)(s:Shared)(Q:List V->St->Prop)(ws:List Value)(s':Shared):Prop
 |mk (vs:List V) (σ':St):Q vs σ'->VRs G s'.heap vs ws->Rel G σ' s'.heap->Go X σ s σ' s'->KP G X σ s Q ws s'
section
variable {G:Stc}{X:List Addr}{σ σ₁ σ₂:St}{s s₁ s₂:Shared}{tk:Nat}{M:Model}{A:Around}{E:QqV}
def Go.refl:Go X σ s σ s:=#[Evo.refl _ _ _,rfl,rfl]
def Go.trans (x:Go X σ s σ₁ s₁)(y:Go X σ₁ s₁ σ₂ s₂):Go X σ s σ₂ s₂:=#[x.e.trans y.e,y.g.trans x.g,y.o.trans x.o]
def Go.frz (x:Go X σ s σ₁ s₁):gy s.heap s₁.heap:=x.e.frz
def Go.keep (x:Go X σ s σ₁ s₁):∀b o,s.heap.get? b=some o->¬σ.dom b->b∉X->s₁.heap.get? b=some o:=x.e.keep
def Go.dom (x:Go X σ s σ₁ s₁):∀b,σ₁.dom b->σ.dom b\/s.heap.get? b=none:=x.e.dom
def Go.there (x:Go X σ s σ₁ s₁):∀b o,s.heap.get? b=some o->∃o',s₁.heap.get? b=some o':=x.e.there
def Go.new (x:Go X σ s σ₁ s₁){b:Addr}(e:s₁.heap.get? b=none):s.heap.get? b=none:=by
 cases hq:s.heap.get? b with
 |none=>rfl
 |some o=>have#[o',Z]:=x.there _ _ hq;rw[e]at Z;cases Z
def Go.more {Y:List Addr}(x:Go X σ s σ₁ s₁)(Z:∀b∈X,b∈Y):Go Y σ s σ₁ s₁:=#[x.e.more Z,x.g,x.o]
def Go.less {Y:List Addr}(x:Go X σ s σ₁ s₁)(Z:∀b∈X,b∈Y\/s.heap.get? b=none):Go Y σ s σ₁ s₁:=#[x.e.less Z,x.g,x.o]
def Go.to {Z:Drawn}(x:Go X σ s σ₁ s₁)(y:Evo X σ₁ s₁.heap σ₂ h):Go X σ s σ₂ #[h,s₁.gens,Z,tk,s₁.os]:=#[x.e.trans y,x.g,x.o]
def Go.tok (x:Go X σ s σ₁ s₁):Go X σ s σ₁ {s₁ with toks:=tk}:=#[x.e,x.g,x.o]
def jl.back {s':Shared}(x:Go X σ s σ₁ s₁):jl G X σ₁ s₁ Q w s'->jl G X σ s Q w s'
 |⟨v,σ',q,vr,r,e⟩=>#[v,σ',q,vr,r,x.trans e]
def kz.back {Q:Bool->St->Prop}{s':Shared}(x:Go X σ s σ₁ s₁):kz G X σ₁ s₁ Q b s'->kz G X σ s Q b s'
 |⟨σ',q,r,e⟩=>#[σ',q,r,x.trans e]
def Go.back {t:Sem Value}(x:Go X σ s σ₁ s₁)(h:wpAny M A t (jl G X σ₁ s₁ Q) E s₂):wpAny M A t (jl G X σ s Q) E s₂:=bg h (λ_ _=>jl.back x) λ_ _ x=>x
def Go.yJ {t:Sem Bool}{Q:Bool->St->Prop}(x:Go X σ s σ₁ s₁)(h:wpAny M A t (kz G X σ₁ s₁ Q) E s₂):wpAny M A t (kz G X σ s Q) E s₂:=bg h (λ_ _=>kz.back x) λ_ _ x=>x
def jl.here {v:V}(q:Q v σ)(vr:VR G s.heap v w)(r:Rel G σ s.heap):jl G X σ s Q w {s with toks:=tk}:=#[v,σ,q,vr,r,Evo.refl _ _ _,rfl,rfl]
def jl.dE {v:V}(q:Q v σ)(vr:VR G s.heap v w)(r:Rel G σ s.heap):jl G X σ s Q w s:=#[v,σ,q,vr,r,.refl]
def kz.here {Q:Bool->St->Prop}(q:Q b σ)(r:Rel G σ s.heap):kz G X σ s Q b s:=#[σ,q,r,.refl]
def kz.dE {Q:Bool->St->Prop}(q:Q b σ)(r:Rel G σ s.heap):kz G X σ s Q b {s with toks:=tk}:=#[σ,q,r,Evo.refl _ _ _,rfl,rfl]
end
public abbrev Stc.M (G:Stc):Model:=model G.prog G.w
structure Cx (G:Stc)(sc:Scope)(d:Nat)(A:Around)(env:Env)(ρ:Fr)(σ:St)(s:Shared):Prop where
 ao:AOk A d
 es:env.scope=sc
 eo:rv env
 F:FR G σ env ρ s.heap
 R:Rel G σ s.heap
def Cx.go {G:Stc}{sc:Scope}{d:Nat}{A:Around}{σ σ₁:St}{s s₁:Shared}(c:Cx G sc d A env ρ σ s)(r:Rel G σ₁ s₁.heap)(x:Go [] σ s σ₁ s₁):Cx G sc d A env ρ σ₁ s₁:=#[c.ao,c.es,c.eo,c.F.evo x.e,r]
def Cx.at {G:Stc}{sc:Scope}{d:Nat}{A:Around}{Z:Fr}{σ σ₁:St}{s s₁:Shared}(c:Cx G sc d A env ρ σ s)(F:FR G σ₁ env Z s₁.heap)(R:Rel G σ₁ s₁.heap):Cx G sc d A env Z σ₁ s₁:=#[c.ao,c.es,c.eo,F,R]
abbrev dw (G:Stc)(C:Cal)(sc:Scope)(d:Nat)(e:Ex)(ex:Expr):Prop:=
 ∀⦃A E env ρ σ Q s⦄,Cx G sc d A env ρ σ s->wpE C e ρ σ Q->wpAny G.M A (eval ex env) (jl G [] σ s Q) E s
abbrev oq (G:Stc)(C:Cal)(sc:Scope)(d:Nat)(e:Ex)(ex:Expr):Prop:=
 ∀⦃A E env ρ σ Q s⦄,Cx G sc d A env ρ σ s->wpT C e ρ σ Q->wpAny G.M A (isTrue ex env (eval ex env)) (kz G [] σ s Q) E s
abbrev ou (G:Stc)(C:Cal)(sc:Scope)(d:Nat)(es:Exs)(exs:List Expr):Prop:=
 ∀⦃A E env ρ σ Q s pos⦄,Cx G sc d A env ρ σ s->vq C es ρ σ Q->wpAny G.M A (spliced (backTo pos (starEach exs env))) (KP G [] σ s Q) E s
section
variable {G:Stc}{A:Around}{E:QqV}{s:Shared}{σ:St}{α:Type}
def nr {t:Sem Value}{P:V->St->Prop}{R:QqV}(h:wpAny G.M A t (jl G [] σ s P) E s)
  (k:∀v σ₁ s₁ w,P v σ₁->VR G s₁.heap v w->Rel G σ₁ s₁.heap->Go [] σ s σ₁ s₁->R w s₁):wpAny G.M A t R E s:=
 bg h (λ_ _ Z=>by have#[v,σ',q,vr,r,x]:=Z;show k v σ' _ _ q vr r x) λ_ _ x=>x
def nN {t:Sem Bool}{P:Bool->St->Prop}{R:Bool->Shared->Prop}(h:wpAny G.M A t (kz G [] σ s P) E s)
  (k:∀b σ₁ s₁,P b σ₁->Rel G σ₁ s₁.heap->Go [] σ s σ₁ s₁->R b s₁):wpAny G.M A t R E s:=
 bg h (λ_ _ Z=>by have#[σ',q,r,x]:=Z;show k _ σ' _ q r x) λ_ _ x=>x
def rQ {t:Sem (List Value)}{P:List V->St->Prop}{R:List Value->Shared->Prop}(h:wpAny G.M A t (KP G [] σ s P) E s)
  (k:∀vs σ₁ s₁ ws,P vs σ₁->VRs G s₁.heap vs ws->Rel G σ₁ s₁.heap->Go [] σ s σ₁ s₁->R ws s₁):wpAny G.M A t R E s:=
 bg h (λ_ _ Z=>by have#[v,σ',q,vr,r,x]:=Z;show k v σ' _ _ q vr r x) λ_ _ x=>x
end
def rB {G:Stc}{σ:St}{a:Addr}{xs:List V}{ws:List Value}(R:Rel G σ h)(e:σ.L a=some xs)(v:VRs G h xs ws):ws.length<=bq:=v.length▸R.Ll a xs e
def EE {n:Nat}(h:n<=bq):(n:Int)<2^63:=Int.lt_of_le_of_lt (Int.ofNat_le.mpr h) (by decide)
def R9 (n:Nat):((n:Int) != 0)=(n != 0):=by
 cases n<;>rfl
def tE {α Z:Type}{ws:List α}{ns:List Z}(q:ws.length=ns.length):ws.toArray.isEmpty=ns.isEmpty:=by
 cases ws<;>cases ns<;>first|rfl|cases q
set_option maxRecDepth 100000 in
def DC {prog:Program}{w:World}{A:Around}{E:QqV}{s:Shared}{a:Addr}{o:Obj}{Q:Bool->Shared->Prop}(U:s.heap.get? a=some o)(O:o.cls=.type "function")(h:Q true s):wpAny (model prog w) A (truthy (.ref a)) Q E s:=by
 have Z:s.TypeIs (.ref a) "function":=#[o,U,O];unfold truthy
 first
  |refine af (wpAny_callSpecial?_none (name:=Str.ofString "__bool__") Z (by rw[ew,dh];kernel_rfl) ?_)
  |refine af (ah (af (wpAny_callSpecial?_none (name:=Str.ofString "__bool__") Z (by rw[ew,dh];kernel_rfl) ?_)))
 first
  |refine af (ud (name:=Str.ofString "__len__") (r:=none) Z (by rw[ew,dh];kernel_rfl) ?_)
  |refine af (ah (af (ud (name:=Str.ofString "__len__") (r:=none) Z (by rw[ew,dh];kernel_rfl) ?_)))
 show ah h
def gV {G:Stc}{A:Around}{E:QqV}{s:Shared}{σ:St}{v:V}{K:Bool->Prop}(R:Rel G σ s.heap)(vr:VR G s.heap v w)(h:su v σ K){Q:Bool->Shared->Prop}
  (k:∀b tk,K b->Q b {s with toks:=tk}):wpAny G.M A (truthy w) Q E s:=by
 cases v
 case none=>have rfl:=vr;show truthy_none (k _ s.toks h)
 case bool=>have rfl:=vr;show ur (k _ s.toks h)
 case int=>have#[t,rfl]:=vr;show truthy_int (k _ s.toks h)
 case str =>
  have#[t,rfl]:=vr;show PySem.P.truthy_str (Int.not_le.mpr (EE h.1)) (k _ _ (by rw[R9];show h.2))
 case L =>
  have rfl:=vr;have#[xs,e,hk]:=h;have#[ws,n,Z,U]:=R.L _ xs e;show wpAny_truthy_list Z.isList (EE (rB R e U)) (k _ _ (by rw[tE U.length.symm];show hk))
 case ro =>
  have#[a,ws,n,rfl,g,r]:=vr;show wpAny_truthy_list #[_,R.base _ _ g,rfl,_,rfl] (EE (fm (Nat.le_of_eq r.length) h.1)) (k _ _ (by rw[tE r.length];show h.2))
 case clo =>
  have#[a,o,rfl,_,O,J]:=vr;show DC (R.base _ _ O) J (k _ s.toks h)
 all_goals first|show False.elim h|show False.elim vr
abbrev binOp:Bop->Operator
 |.add=>.Add|.sub=>.Sub|.mul=>.Mult|.fdiv=>.FloorDiv|.mod=>.Mod|.pow=>.Pow
abbrev dM:Cop->CmpOp
 |.eq=>.Eq|.ne=>.NotEq|.lt=>.Lt|.le=>.LtE|.gt=>.Gt|.ge=>.GtE|.is=>.Is|.isNot=>.IsNot|.isIn=>.In|.notIn=>.NotIn
def log2_lt_of {b:Int}(h:b.natAbs<2^60):b.natAbs.log2<9000:=by
 by_cases h0:b.natAbs=0
 ·rw[h0];decide +kernel
 ·have:=(Nat.log2_lt h0).mpr h;(show ef (.l .A (.n 9000)) .a (.l .A (.n 60)) this)
section
variable {G:Stc}{A:Around}{E:QqV}{s:Shared}{σ:St}
def oE {op:Bop}{a b:Int}{t u:Tok}(R:Rel G σ s.heap)(h:mQ op (.int a) (.int b) σ Q):wpAny G.M A (binaryOp (binOp op) (.int a t) (.int b u)) (jl G [] σ s Q) E s:=by
 cases op with
 |add=>show add_int (jl.here h (.int _ _) R)
 |sub=>show sub_int (jl.here h (.int _ _) R)
 |mul =>
  apply mul_int (jl.here h.2 (.int _ _) R) ?_;rcases h.1 with q|q
  ·show IntMulOk.of_left (intBits_le_64 ((Ar.nab _).elim (λZ=>(qd (.il (.g .Q) .A) .a .aR Z.1)) λZ=>(dQ (.il (.g .Q) .A) .c .a6 .c3 q Z.2)) ((Ar.nab _).elim (λZ=>(dQ (.il .A .Q) .c .a6 .cK q Z.2)) λZ=>(qd (.il .A .Q) .a .d4 Z.1)))
  ·show IntMulOk.of_right (intBits_le_64 ((Ar.nab _).elim (λZ=>(qd (.il (.g .Q) .A) .a .aR Z.1)) λZ=>(dQ (.il (.g .Q) .A) .c .a6 .c3 q Z.2)) ((Ar.nab _).elim (λZ=>(dQ (.il .A .Q) .c .a6 .cK q Z.2)) λZ=>(qd (.il .A .Q) .a .d4 Z.1)))
 |fdiv=>show floordiv_int h.1 (jl.here h.2.2 (.int _ _) R) (.inl (PyProof.noPylong_of_log2 (log2_lt_of h.2.1)))
 |mod=>show mod_int' h.1 (jl.here h.2 (.int _ _) R)
 |pow =>
  have#[h0,J,O,U]:=h;show pow_int_small h0 (qd (.ik .A (.n 1000000)) .a (.ik .A (.n 1000)) J) O (jl.here U (.int _ _) R)
end
section
variable {k:Nat}{pos:Pos}{x e₁:Expr}{a b:Ex}{rest xs:List Expr}
variable {G:Stc}{C:Cal}{sc:Scope}{d:Nat}
def GJ:dw G C sc d .none (.Constant .none k pos):=λ_ _ _ _ _ _ _ c h=>Constant_none (jl.dE h .none c.R)
def H6 {b:Bool}:dw G C sc d (.bool b) (.Constant (.bool b) k pos):=λ_ _ _ _ _ _ _ c h=>Constant_bool (jl.dE h (.bool b) c.R)
def M5 {i:Int}:dw G C sc d (.int i) (.Constant (.int i) k pos):=λ_ _ _ _ _ _ _ c h=>wpAny_Constant_int (jl.here h (.int _ _) c.R)
def LR {x:Str}:dw G C sc d (.str x) (.Constant (.str x) k pos):=λ_ _ _ _ _ _ _ c h=>by
 show wpAny _ _ (mkText x) _ _ _;show wpAny_mkText (jl.here h (.str _ _) c.R)
def vo {names:List (Str×NameKind)}(nd:(names.map (·.1)).Nodup):∀{i:Nat} {x:Str} {k:NameKind},names[i]?=some (x,k)->names.lookup x=some k:=by
 induction names with
 |nil=>intro i x k e;simp at e
 |cons p r U =>
  intro i x k e;have#[y,k']:=p;simp only[lr,nJ]at nd;cases i with
  |zero=>simp only[List.getElem?_cons_zero,fy,te]at e;have#[rfl,rfl]:=e;simp
  |succ i =>
   simp only[List.getElem?_cons_succ]at e;have Z:x≠y:=λq=>nd.1 (by
    subst q;show cj.mpr #[(x,k),dq e,rfl])
   rw[rh,vm.mpr Z];show U nd.2 e
abbrev isVar (k:NameKind):Bool:=k==.local||k==.cell||k==.free
abbrev jg (x:Str):Bool:=!(x==("__debug__":Str))&&!(x==("__classdict__":Str))
def jW {A:Around}{E:QqV}{env:Env}{ρ:Fr}{σ:St}{s:Shared}{i:Nat}{x:Str}{k:NameKind}{v:V}{Q:QqV}(eo:rv env)(F:FR G σ env ρ s.heap)
  (hi:env.scope.names[i]?=some (x,k)) (hk:isVar k=true) (B:jg x=true) (hv:ρ i=some v) (h:∀w,VR G s.heap v w->Q w s):wpAny G.M A (loadName env x) Q E s:=by
 have Z:env.kindOf x=some k:=vo eo.nd hi;simp only[jg,dg,fg]at B;have get:∀{w:Option Value},OV G s.heap (ρ i) w->∃O,w=some O/\VR G s.heap v O:=λ{w} o=>by
  rw[hv]at o;cases w with
  |none=>show o.elim
  |some O=>refine#[O,rfl,o]
 cases k with
 | «local» =>
  have#[m,hn,hm]:=F.ns;have#[O,e,vr]:=get (hm i x hi);show wpAny_loadName_local eo.kind Z hn e (h O vr)
 |cell =>
  have#[c,w,J,U,o,_,_,_]:=F.cells i x _ hi (.inl rfl);have#[O,rfl,vr]:=get o;show wpAny_loadName_cell eo.kind Z J U (h O vr)
 |free =>
  have#[c,w,J,U,o,_,_,_]:=F.cells i x _ hi (.inr rfl);have#[O,rfl,vr]:=get o;show wpAny_loadName_free eo.kind Z J U (h O vr) B.2
 |_=>cases hk
def nU {i:Nat}{x:Str}{k:NameKind}(J:sc.names[i]?=some (x,k))(hk:isVar k=true)(U:jg x=true):dw G C sc d (.l i) (.Name x pos):=λ_ _ _ _ _ _ _ c h=>by
 have#[v,O,q]:=h;have Z:(x==("__debug__":Str))=false:=by simp only[jg,dg,fg]at U;show U.1
 show wpAny_Name (jW c.eo c.F (by rw[c.es];show J) hk U O λw vr=>jl.dE q vr c.R) Z
def M0 (Z:dw G C sc d a x):dw G C sc d (.neg a) (.UnaryOp .USub x pos):=λ_ _ _ _ _ _ _ c h =>
 UnaryOp_ (nr (Z c h) λv σ₁ s₁ w q vr r x=>by
  have#[i,rfl,q]:=q;have#[t,rfl]:=vr;show PyProof.Rows.neg_int (jl.back x (jl.here q (.int _ _) r)))
def LZ (U:dw G C sc d a x):dw G C sc d (.not a) (.UnaryOp .Not x pos):=λ_ _ _ _ _ _ _ c h =>
 UnaryOp_ (nr (U c h) λv σ₁ s₁ w q vr r x=>not_of (gV r vr q λb Z q=>jl.back x (jl.here q (.bool _) r)))
def snd_and {Z:Expr}(O:dw G C sc d a e₁)(hb:dw G C sc d b (.BoolOp .And (Z::rest) pos)):dw G C sc d (.and a b) (.BoolOp .And (e₁::Z::rest) pos):=λ_ _ _ _ _ _ _ c h =>
 BoolOp_and (nr (O c h) λv σ₁ s₁ w q vr r x=>gV r vr q λt U q=>by
  cases t with
  |true=>show x.tok.back (hb (c.go r x.tok) q)
  |false=>show jl.back x (jl.here q vr r))
def QG {Z:Expr}(O:dw G C sc d a e₁)(hb:dw G C sc d b (.BoolOp .Or (Z::rest) pos)):dw G C sc d (.or a b) (.BoolOp .Or (e₁::Z::rest) pos):=λ_ _ _ _ _ _ _ c h =>
 BoolOp_or (nr (O c h) λv σ₁ s₁ w q vr r x=>gV r vr q λt U q=>by
  cases t with
  |false=>show x.tok.back (hb (c.go r x.tok) q)
  |true=>show jl.back x (jl.here q vr r))
def M4 {c:Ex}{y z:Expr}(Z:oq G C sc d c x)(U:dw G C sc d a y)(hb:dw G C sc d b z):dw G C sc d (.I c a b) (.IfExp x y z pos):=λ_ _ _ _ _ _ _ c h =>
 IfExp_ (nN (Z c h) λt σ₁ s₁ q r x=>by
  cases t with
  |true=>show x.back (U (c.go r x) q)
  |false=>show x.back (hb (c.go r x) q))
def H9 (U:oq G C sc d a x):oq G C sc d (.not a) (.UnaryOp .Not x pos):=λ_ _ _ _ _ _ _ c h =>
 isTrue_not (bg (U c h) (λ_ _ Z=>by have#[a,q,r,x]:=Z;apply#[a,q,r,x]) λ_ _ x=>x)
def HC (Z:oq G C sc d a e₁)(hb:oq G C sc d b (.BoolOp .And rest pos)):oq G C sc d (.and a b) (.BoolOp .And (e₁::rest) pos):=λ_ _ _ _ _ _ _ c h =>
 isTrue_and (nN (Z c h) λt σ₁ s₁ q r x=>by
  cases t with
  |true=>show x.yJ (hb (c.go r x) q)
  |false=>show kz.back x (kz.here q r))
def MF (Z:oq G C sc d a e₁)(hb:oq G C sc d b (.BoolOp .Or rest pos)):oq G C sc d (.or a b) (.BoolOp .Or (e₁::rest) pos):=λ_ _ _ _ _ _ _ c h =>
 isTrue_or (nN (Z c h) λt σ₁ s₁ q r x=>by
  cases t with
  |false=>show x.yJ (hb (c.go r x) q)
  |true=>show kz.back x (kz.here q r))
def HA {c:Ex}{y z:Expr}(Z:oq G C sc d c x)(U:oq G C sc d a y)(hb:oq G C sc d b z):oq G C sc d (.I c a b) (.IfExp x y z pos):=λ_ _ _ _ _ _ _ c h =>
 isTrue_IfExp (nN (Z c h) λt σ₁ s₁ q r x=>by
  cases t with
  |true=>show x.yJ (U (c.go r x) q)
  |false=>show x.yJ (hb (c.go r x) q))
def ye {e:Ex}(J:dw G C sc d e x)(O:∀env whole,isTrue x env whole=(do let v←whole;standAt x.pos;holding [v] (truthy v)))
  (U:∀ρ σ Q,wpT C e ρ σ Q->wpE C e ρ σ λv σ=>su v σ λb=>Q b σ):oq G C sc d e x:=λ_ _ _ _ _ _ _ c h =>
 isTrue_plain (nr (J c (U _ _ _ h)) λv σ₁ s₁ w q vr r y=>gV r vr q λb Z q=>kz.back y (kz.dE q r)) (O _ _)
def km:ou G C sc d .nil []:=λ_ _ _ _ _ _ _ _ c h=>dX #[[],_,h,.nil,c.R,.refl]
def jc {e:Ex}{r:Exs}(he:dw G C sc d e x)(hr:ou G C sc d r xs)(B:∀env,starEach (x::xs) env=(false,eval x env)::starEach xs env):ou G C sc d (.cons e r) (x::xs):=λ_ _ _ _ _ _ _ _ c h =>
 spliced_more (nr (he c h) λv σ₁ s₁ w q vr J x =>
  rQ (hr (c.go J x) q) λvs σ₂ s₂ ws U O r₂ Z =>
   #[v::vs,σ₂,U,.cons (vr.mono Z.frz) O,r₂,x.trans Z]) (B _)
def BL {es:Exs}(h₀:ou G C sc d es xs):dw G C sc d (.T es) (.Tuple xs k pos):=λA E env ρ σ Q s c h =>
 Tuple_ (rQ (h₀ c h) λvs σ₁ s₁ ws q Z r x=>by
  have hz:=q.1;rw[Z.length]at hz;unfold bq at hz;apply jq (?_:jl G [] σ s Q (.ref s₁.heap.objs.size) _) (by show ws.toArray.size<=sizeLine;rw[cy,show sizeLine=16777216 from rfl];(show ef .b8 .a .bQ hz));apply#[.T vs,σ₁,q.2,.T (IsT.new _ _) (Z.mono λ_ _ e _=>aw _ e),r.push _,x.to (Evo.push _ _ _ _)])
def M1 {es:Exs}(h₀:ou G C sc d es xs):dw G C sc d (.L es) (.List xs pos):=λA E env ρ σ Q s c h =>
 List_ (rQ (h₀ c h) λvs σ₁ s₁ ws q Z r x=>by
  have hz:=q.1;have O:=hz;rw[Z.length]at hz;unfold bq at hz;have B:σ₁.L s₁.heap.objs.size=none:=by
   cases hq:σ₁.L s₁.heap.objs.size with
   |none=>rfl
   |some ys=>have#[o,J,_]:=r.yE hq;rw[none_at_size]at J;cases J
  apply jq (?_:jl G [] σ s Q (.ref s₁.heap.objs.size) _) (by show ws.toArray.size<=sizeLine;rw[cy,show sizeLine=16777216 from rfl];(show ef .b8 .a .bQ hz));have U:At s₁.heap.objs.size s₁.heap (s₁.heap.push {cls:=.type "list",data:=.seq ws.toArray}):=At.push s₁.heap;apply#[.L _,_,q.2 _ B,.L _,r.putL U (λ_=>none_at_size _) (IsL.new _ _) Z O,x.to (Evo.putL U (λ_=>none_at_size _) _)])
end
end MP
end
section
namespace MP
open PySem PyProof.Rows
section
variable {a:Addr}{ks:List Key}
variable {G:Stc}{A:Around}{E:QqV}{s:Shared}
public abbrev DV (G:Stc):Obj:={cls:=.type "set",dict:=none,data:=.set #v[] 0 (.fresh 0 0 G.led)}
def DT (h:Heap):dS G (h.push (DV G)) h.objs.size []:=
 #[_,#v[],0,_,cf _ rfl,#[rfl,rfl,rfl],rfl,λe Z=>by simp at Z,λk=>by simp,by decide,by rfl,by rfl,#[rfl,rfl,.nil]]
def vC {Q:QqV}(h:Q (.ref s.heap.objs.size) {s with heap:=s.heap.push (DV G)}) :
  codeAny G.M A (.call (.builtin "set.__new__") #[[.type "set"],[]]) (wants Q E) s:=by
 apply ue ?_;show wpAny _ A.in1 (do checkBuiltinCall "set.__new__" #[[.type "set"],[]];again (.builtin "set.__new__" #[[.type "set"],[]])) _ _ s;apply af (ec F.newCall_set_0 (ah #[nT F.plain_set_new _,uf F.entry_set_new ?_]));rw[wh F.plain_set_new _];unfold Builtin.«set.__new__» Builtin.Frozenset.newClass;have Z:=sub_set_self;have#[U,g,d,tk,os]:=s;dsimp only
 wp_walk
 apply wo (ah ?_);dsimp only;simp only[newObj];apply af (wpAny_alloc (ah ?_));show ah h
set_option maxHeartbeats 1000000 in
set_option maxRecDepth 100000 in
def vH {Q:QqV}(h:Q (.ref s.heap.objs.size) {s with heap:=s.heap.push (DV G)}):wpAny G.M A (call (.type "set") []) Q E s:=by
 have#[c,tl,aa]:=F.called_set.mro;have J:=F.called_set.made;have B:=F.called_set.sub;apply nh (ue ?_);show wpAny _ _ (callAny (.type "set") _) _ _ _;apply ah #[lI _ (by decide +kernel),uf F.entry_type_call ?_];rw[Around.under_plain (weight_type_call_type "set" [] []) rfl];have h1:=F.called_set.notType;have h2:=F.called_set.canCreate;have ag:=F.typeCall_set_0
 repeat (any_goals (first|assumption|wp_step))
 apply codeAny_mono (vC (E:=E) (Q:=λobj s₁=>obj=.ref s.heap.objs.size/\s₁={s with heap:=s.heap.push (DV G)}) #[rfl,rfl]) λr s₁ O=>?_;cases r with
 |error e=>show O
 |ok fl =>
  cases fl with
  |ret obj =>
   have#[rfl,rfl]:=O;have hT:Shared.TypeIs {s with heap:=s.heap.push (DV G)} (.ref s.heap.objs.size) "set":=#[_,cf _ rfl,rfl];have ab:=F.called_set.init.lookup;have ai:=F.called_set.init.bind (.ref s.heap.objs.size)
   repeat (any_goals (first|assumption|wp_step))
   apply codeAny_mono (gG (R:=wants (λr s₂=>r=.none/\Q (.ref s.heap.objs.size) s₂) E) F.called_set.init.plain F.entry_set_init (check_set_init hT ?_)) λr₂ s₂ Z=>?_
   ·unfold Builtin.«set.__init__» noKeywords
    wp_walk
    apply#[rfl,h]
   ·cases r₂ with
    |error e=>show Z
    |ok U =>
     cases U with
     |ret r =>
      have#[rfl,hq]:=Z
      repeat (any_goals (first|assumption|wp_step))
     |_=>show Z.elim
  |_=>show O.elim
def oH {o:Obj}{es Z:Array (Int×Value)}{ep:Nat}{t O:SetTable}(ho:s.heap.get? a=some o)(hex:o.ExactSet)(hd:o.data=.set es ep t)
  (J:ElemsOf G.kk Z.toList) (U:∀k,decide (k∈ks)=true↔∃e∈Z.toList,G.kk.is k e.2=true) (hb:Z.size<scanBound) (hf:O.fits Z.size=true) (hn:Z.size=ks.length) (hT:Tbl G.led O) :
  (s.heap.update a (Obj.putSet Z O)).get? a=some {o with data:=.set Z (ep+1) O}/\dS G (s.heap.update a (Obj.putSet Z O)) a ks:=by
 have#[B,_]:=SetOf_store (knd:=G.kk) ho hex hd J U hb hf;apply#[B,_,Z,ep+1,O,B,hex,rfl,J,U,hb,hf,hn,hT]
def yS {g:Bool->Sem Unit}(hg:∀(b:Bool) (s₁:Shared) (Q':Unit->Shared->Prop),Q' () s₁->wpAny G.M A (g b) Q' E s₁)
  {o:Obj} {es Z:Array (Int×Value)} {ep:Nat} {t U:SetTable} (ho:s.heap.get? a=some o) (hex:o.ExactSet) (hd:o.data=.set es ep t)
  (J:ElemsOf G.kk Z.toList) (O:∀k,decide (k∈ks)=true↔∃e∈Z.toList,G.kk.is k e.2=true) (hb:Z.size<scanBound) (hf:U.fits Z.size=true) (hn:Z.size=ks.length) (hT:Tbl G.led U)
  {R:Option Bool->Shared->Prop} (h:∀h',Heap.SameBut a s.heap h'->dS G h' a ks->R (some true) {s with heap:=h'}) :
  wpAny G.M A (do
    storeSet a Z U
    if (!false&&U.tooFull)=true then do
      g (relayAll U Z (SetTable.grown Z.size)).2.2
      storeSet a (relayAll U Z (SetTable.grown Z.size)).1 (relayAll U Z (SetTable.grown Z.size)).2.1
      pure (some true)
     else pure (some true)) R E s:=by
 have B:=gr s.heap a (Obj.putSet Z U);apply af (wpAny_storeSet_of ho hd ?_ (fits_of_scanBound hb));have#[aa,_]:=SetOf_store (knd:=G.kk) ho hex hd J O hb hf;split
 ·have hp:=relayAll_perm U Z (SetTable.grown Z.size);have ab:=relayAll_fits U Z (SetTable.grown Z.size);have ai:=uA hT Z (SetTable.grown Z.size);generalize relayAll U Z (SetTable.grown Z.size)=L at hp ab ai ⊢;have sz:L.1.size=Z.size:=by rw[<- iz,hp.length_eq,iz]
  have ag:L.1.size<scanBound:=by rw[sz];show hb
  apply af (hg _ _ _ (af (wpAny_storeSet_of aa rfl (ah (h _ (B.trans (gr _ a _)) ?_)) (fits_of_scanBound ag))));show(oH (s:={s with heap:=s.heap.update a (Obj.putSet Z U)}) aa hex rfl (J.perm hp) (λk=>(O k).trans #[λ⟨e,he,q⟩=>#[e,hp.mem_iff.mpr he,q],λ⟨e,he,q⟩=>#[e,hp.mem_iff.mp he,q]]) ag ab (sz.trans hn) ai).2
 ·show ah (h _ B (oH (s:=s) ho hex hd J O hb hf hn hT).2)
def NL {b:Bool}{Q:Unit->Shared->Prop}(h:Q () s):wpAny G.M A (match b with|true=>rule "set.scan.the-table-gave-way" |false=>pure ()) Q E s:=by
 cases b
 ·show ah h
 ·show tw h
def B3 {k:Key}{x:Value}{Q:Bool->Shared->Prop}(B:G.kk.is k x=true)(ag:x.scannable=true)(bv:plainKind x=true)(hS:dS G s.heap a ks)(ai:ks.length+1<scanBound)
  (h:∀b h',Heap.SameBut a s.heap h'->dS G h' a (if k∈ks then ks else ks++[k])->Q b {s with heap:=h'}):wpAny G.M A (setAddHashed a x (G.kk.hash k)) Q E s:=by
 have#[o,es,ep,t,ho,hex,hd,ar,J,hb,hf,hn,hT]:=id hS;unfold setAddHashed setAddHashedIn;apply cg (af (dU ho hd hf ?_));dsimp only;rw[byScan_of ag hb ar];simp only[↓reduceIte];unfold setAddByScan;apply af (af (tw (af (wpAny_setScan_of B ho hd hf ar ?_))));cases hr:List.findIdx? (λe=>G.kk.is k e.2) es.toList with
 |some j =>
  have#[hj,bu,_]:=List.findIdx?_eq_some_iff_getElem.mp hr;have hk:k∈ks:=aq ((J k).mpr #[es.toList[j],jj hj,bu]);have:=h false s.heap (Heap.SameBut.refl a s.heap) (by rw[bx hk];show hS);show ah (ah this)
 |none =>
  have hk:k∉ks:=λq=>by
   have#[e,he,hp]:=(J k).mp (dp q);have:=List.findIdx?_eq_none_iff.mp hr e he;rw[hp]at this;cases this
  rw[ay hk]at h;have Z:=layNew_perm t es (G.kk.hash k) x;have U:=layNew_fits t es (G.kk.hash k) x;have bl:=zZ hT es (G.kk.hash k) x;dsimp only;generalize layNew t es (G.kk.hash k) x=L at Z U bl ⊢;rw[j4]at Z;have ab:ElemsOf G.kk L.1.toList:=(ar.push B ag).perm Z;have O:∀k',decide (k'∈ks++[k])=true↔∃e∈L.1.toList,G.kk.is k' e.2=true:=λk'=>by
   have:=mem_push_iff (S:=λk=>decide (k∈ks)) B J Z k';simpa using this
  have ao:L.1.size=(ks++[k]).length:=by rw[<- iz,Z.length_eq,ax,ax,iz,hn];rfl
  have be:L.1.size<scanBound:=by rw[ao,ax];show ai
  have#[aa,hw]:=bl;have bd:∀b:Bool,(if b=true then L.2.1 else {L.2.1 with plain:=false}).fits L.1.size=true:=λb=>by
   cases b
   ·show SetTable.fits_plain_off U
   ·show U
  have bn:∀b:Bool,Tbl G.led (if b=true then L.2.1 else {L.2.1 with plain:=false}):=λb=>by
   cases b
   ·apply#[aa.led,aa.nod,aa.rise]
   ·show aa
  apply af (NL ?_);rw[hw];split
  ·apply af ?_;rw[hashByValue_scannable 8 ag];apply ah (yS (λb s₁ Q' hq=>by cases b<;>first|show ah hq|show tw hq) ho hex hd ab O be (bd _) ao (bn _) λh' hs bb=>ah (h _ h' hs bb))
  ·apply af ?_;apply ah (yS (λb s₁ Q' hq=>by cases b<;>first|show ah hq|show tw hq) ho hex hd ab O be (bd _) ao (bn _) λh' hs bb=>ah (h _ h' hs bb))
def JZ {k:Key}{x:Value}{Q:QqV}(Z:G.kk.is k x=true)(O:x.scannable=true)(J:plainKind x=true)(hS:dS G s.heap a ks)(U:ks.length+1<scanBound)
  (h:∀h',Heap.SameBut a s.heap h'->dS G h' a (if k∈ks then ks else ks++[k])->Q .none {s with heap:=h',toks:=s.toks+1}):wpAny G.M A (call (.builtin "set.add") [.ref a,x]) Q E s:=by
 apply gj F.slot_set_add hS.of.typeIs F.entry_set_add ?_ (F.args_set_add_2 _ _);unfold Builtin.«set.add» Builtin.Frozenset.oneOther;simp only[List.isEmpty_nil,bind_assoc];unfold Builtin.Frozenset.addrOf setAdd;apply af (ah ?_)
 try dsimp only
 apply af (ah ?_)
 try dsimp only
 apply af (cg (af (G.kk.pyHash Z (B3 (s:={s with toks:=s.toks+1}) Z O J hS U λb h' hs B=>?_))));show wpAny _ _ (ret Value.none) _ _ _;show ah #[_,rfl,h h' hs B]
end
end MP
end
section
set_option tactic.hygienic true
namespace MP
open PySem PyProof.Rows
variable {h:Heap}{a b:V}{x y:Value}{K:Bool->Prop}{Q:QqV}
abbrev SS (h:Heap)(w:Value)(d:PyData)(n:Nat):Prop:=∃as,Reads h w d as/\d.canLay0=true/\d.depth<=n
abbrev VH (h:Heap)(ws:List Value)(ds:List PyData)(n:Nat):Prop:=∃as,ReadsAll h ws ds as/\PyData.canLayAll0 ds=true/\PyData.depthAll ds<=n
def lR {G:Stc}{σ:St}(n:Nat)(Z:∀{v:V} {w:Value} {d:PyData},dK σ n v=some d->VR G h v w->SS h w d n) :
  {xs:List V}->{ws:List Value}->{ds:List PyData}->xs.mapM (dK σ n)=some ds->VRs G h xs ws->VH h ws ds n
 | []=>λe vr=>by
  have rfl:=vr;have rfl:=ak (e:some []=some _);apply#[[],.nil,rfl,bh _]
 |x::xs=>λe z=>by
  have#[w,us,q,a,r]:=z;subst q;rw[List.mapM_cons]at e;have#[d,e1,e4]:=eh.mp e;have#[J,e2,e3]:=eh.mp e4;clear e;have rfl:=ak e3;have#[as,O,c1,d1]:=Z e1 a;have#[bs,U,c2,d2]:=lR n Z e2 r;apply#[as++bs,.cons O U,by simp[PyData.canLayAll0,c1,c2],Nat.max_le.mpr #[d1,d2]]
def HT {x:Str}{t:Tok}{d:PyData}{n:Nat}(e:(if PyData.strOk x then some (PyData.str x) else Option.none)=some d):SS h (.str x t) d n:=by
 cases c:PyData.strOk x with
 |true=>rw[c]at e;have rfl:=ak e;apply#[[],.str _ _,by simpa[PyData.canLay0] using c,bh _]
 |false=>rw[c]at e;show je e
def jZ {G:Stc}{σ:St}(R:Rel G σ h):(n:Nat)->{v:V}->{w:Value}->{d:PyData}->dK σ n v=some d->VR G h v w->SS h w d n:=by
 intro n;induction n with
 |zero =>
  intro v w d e vr;cases v
  case none=>have rfl:=vr;have rfl:=ak e;apply#[[],.none,rfl,bh _]
  case bool=>have rfl:=vr;have rfl:=ak e;apply#[[],.bool _,rfl,bh _]
  case int=>have#[t,rfl]:=vr;have rfl:=ak e;apply#[[],.int _ _,rfl,bh _]
  case str=>have#[t,rfl]:=vr;show HT e
  all_goals show je e
 |succ n Z =>
  intro v w d e vr;cases v
  case none=>have rfl:=vr;have rfl:=ak e;apply#[[],.none,rfl,bh _]
  case bool=>have rfl:=vr;have rfl:=ak e;apply#[[],.bool _,rfl,bh _]
  case int=>have#[t,rfl]:=vr;have rfl:=ak e;apply#[[],.int _ _,rfl,bh _]
  case str=>have#[t,rfl]:=vr;show HT e
  case L =>
   have rfl:=vr;have#[xs,U,e]:=eh.mp e;have#[ds,hd,rfl]:=jh.mp e;have#[ws,m,hl,O]:=R.L _ xs U;have#[as,r,c,dd]:=lR n Z hd O;apply#[_,.list hl rfl rfl (by simpa using r),by simpa[PyData.canLay0] using c,Nat.succ_le_succ dd]
  case T =>
   have#[a,ws,m,rfl,g,r]:=vr;have#[ds,hd,rfl]:=jh.mp e;have#[as,r,c,dd]:=lR n Z hd r;apply#[_,.tuple g rfl rfl (by simpa using r),by simpa[PyData.canLay0] using c,Nat.succ_le_succ dd]
  all_goals show je e
section
variable {G:Stc}{A:Around}{E:QqV}{s:Shared}{σ:St}{d:Nat}
def gW {d:PyData}(c:d.canLay0=true)(h:d.depth<=6):SeqAt.shaped d=true:=by
 unfold SeqAt.shaped;rw[c,Bool.true_and];show dp (fm h (by decide))
def AOk.u64 (Z:AOk A d):A.units+64<cLine:=by have:=Z.units;(show ek (.l (.a .A (.n 64)) .B) .a (.l (.a (.a .A (.m 30 .C)) .aC) .B) this)
def QJ (ao:AOk A d)(R:Rel G σ s.heap)(U:VR G s.heap a x)(Z:VR G s.heap b y)(h:yX a b σ K)(k:∀r,K r->Q (.bool r) s):wpAny G.M A (compareOp .Eq x y) Q E s:=by
 rcases o6 h with ⟨i,j,rfl,rfl,h⟩|⟨i,j,rfl,rfl,h⟩|⟨d,e,hd,B,hk⟩
 ·have#[t,rfl]:=U;have#[u,rfl]:=Z;show PyProof.Rows.eq_int (k _ h)
 ·have#[t,rfl]:=U;have#[u,rfl]:=Z;show eq_str (k _ h)
 ·have#[as,J,ca,da]:=jZ R 6 hd U;have#[bs,O,cb,db]:=jZ R 6 B Z;show eq_dataH J O (gW ca da) (gW cb db) ao.u64 (k _ hk)
def QH (ao:AOk A d)(R:Rel G σ s.heap)(U:VR G s.heap a x)(Z:VR G s.heap b y)(h:yX a b σ λr=>K (!r))(k:∀r,K r->Q (.bool r) s):wpAny G.M A (compareOp .NotEq x y) Q E s:=by
 rcases o6 h with ⟨i,j,rfl,rfl,h⟩|⟨i,j,rfl,rfl,h⟩|⟨d,e,hd,B,hk⟩
 ·have#[t,rfl]:=U;have#[u,rfl]:=Z;show ne_int (k _ h)
 ·have#[t,rfl]:=U;have#[u,rfl]:=Z;show ne_str (k _ h)
 ·have#[as,J,ca,da]:=jZ R 6 hd U;have#[bs,O,cb,db]:=jZ R 6 B Z;show ne_dataH J O (gW ca da) (gW cb db) ao.u64 (k _ hk)
def pO {v:Value}{R:Bool->Shared->Prop}(h:R (v==.none) s):wpAny G.M A (isSame v .none) R E s:=by
 cases v<;>show ec (by rfl) (by show h)
def L3 (Z:VR G h a x):(x==.none)=isNone a:=by
 cases a
 case int=>have#[t,rfl]:=Z;rfl
 case str=>have#[t,rfl]:=Z;rfl
 case T=>have#[_,_,_,rfl,_]:=Z;rfl
 case mt=>have#[_,_,_,_,rfl,_]:=Z;rfl
 case iL=>have#[_,_,rfl,_]:=Z;rfl
 case j9=>have#[_,_,rfl,_]:=Z;rfl
 case ro=>have#[_,_,_,rfl,_]:=Z;rfl
 case clo=>have#[_,_,rfl,_]:=Z;rfl
 all_goals have rfl:=Z;rfl
def oD (R:Rel G σ s.heap)(U:VR G s.heap a x)(O:VR G s.heap b y)(h:KW a b σ K){Q:Bool->Shared->Prop}(k:∀r,K r->Q r s):wpAny G.M A (isSame x y) Q E s:=by
 cases b with
 |none =>
  have rfl:=O;show pO (k _ (by rw[L3 U];show h))
 |L q =>
  have rfl:=O;have h:OU q a σ K:=h;cases a with
  |none=>have rfl:=U;show wpAny_isSame_plain rfl (k _ h)
  |L p =>
   have rfl:=U;have#[h1,B,J]:=h;have#[xs,e1]:=bp.mp h1;have#[ys,e2]:=bp.mp B;by_cases Z:p=q
   ·subst Z;show wpAny_isSame_ref_self (k _ (uj p▸J))
   ·have#[o1,g1,c1]:=R.yE e1;have#[o2,g2,c2]:=R.yE e2;show wpAny_isSame_ref_other Z g1 g2 (by rw[c1];decide) (k _ (vm.mpr Z▸J))
  |_=>show False.elim h
 |_=>show False.elim h
def zc {G:Stc}:{ns:List Int}->{ws:List Value}->VRs G h (ns.map V.int) ws->IntsAre ws ns
 | []=>λe=>by have rfl:=e;show .nil
 |_::_=>λz=>by have#[_,_,rfl,#[t,rfl],r]:=z;show .cons _ _ (zc r)
def eW (ns:List Int)(i:Int):(ns.any λx=>x==i)=ns.contains i:=by
 rw[Bool.eq_iff_iff];simp
def QI (R:Rel G σ s.heap)(U:VR G s.heap a x)(Z:VR G s.heap b y)(h:KX a b σ K)(k:∀r,K r->Q (.bool r) s):wpAny G.M A (compareOp .In x y) Q E s:=by
 have#[i,rfl,h]:=rn (v:=a) h;have#[l,rfl,ns,e,hk]:=e9 (v:=b) h;have#[t,rfl]:=U;have rfl:=Z;have#[ws,n,hl,O]:=R.L _ _ e;show in_list_ints hl.isList (zc O) (k _ (by rw[eW];show hk))
def DH (R:Rel G σ s.heap)(U:VR G s.heap a x)(Z:VR G s.heap b y)(h:KX a b σ λr=>K (!r))(k:∀r,K r->Q (.bool r) s):wpAny G.M A (compareOp .NotIn x y) Q E s:=by
 have#[i,rfl,h]:=rn (v:=a) h;have#[l,rfl,ns,e,hk]:=e9 (v:=b) h;have#[t,rfl]:=U;have rfl:=Z;have#[ws,n,hl,O]:=R.L _ _ e;show notin_list_ints hl.isList (zc O) (k _ (by rw[eW];show hk))
def fI {op:Cop}{K:Bool->Prop}(O:AOk A d)(R:Rel G σ s.heap)(U:VR G s.heap a x)(Z:VR G s.heap b y)(h:mP op a b σ K)(k:∀r,K r->Q (.bool r) s):wpAny G.M A (compareOp (dM op) x y) Q E s:=by
 have ord:OT op a b K->wpAny G.M A (compareOp (dM op) x y) Q E s:=λh=>by
  have#[i,rfl,h]:=rn (v:=a) h;have#[j,rfl,h]:=rn (v:=b) h;have#[t,rfl]:=U;have#[u,rfl]:=Z;cases op
  case lt=>show lt_int (k _ h)
  case le=>show le_int (k _ h)
  case gt=>show gt_int (k _ h)
  case ge=>show ge_int (k _ h)
  all_goals show False.elim h
 cases op with
 |eq=>show QJ O R U Z h k
 |ne=>show QH O R U Z h k
 |is =>
  show wpAny G.M A (do return .bool (← isSame x y)) Q E s;show af (oD R U Z h λr q=>ah (k _ q))
 |isNot =>
  show wpAny G.M A (do return .bool (!(← isSame x y))) Q E s;show af (oD (K:=λr=>K (!r)) R U Z h λr q=>ah (k _ q))
 |isIn=>show QI R U Z h k
 |notIn=>show DH R U Z h k
 |lt=>show ord h
 |le=>show ord h
 |gt=>show ord h
 |ge=>show ord h
end
section
variable {G:Stc}{C:Cal}{sc:Scope}{d:Nat}
def M7 {op:Cop}{a b:Ex}{x y:Expr}{pos:Pos}(ha:dw G C sc d a x)(hb:dw G C sc d b y)(hm:behindInMarks (dM op) y=false):dw G C sc d (.c op a b) (.Compare x [dM op] [y] pos):=λ_ _ _ _ _ _ _ c h =>
 wpAny_Compare1 (nr (ha c h) λv σ₁ s₁ w q vr r x =>
  nr (hb (c.go r x) q) λB σ₂ s₂ J O U r₂ Z =>
   fI c.ao r₂ (vr.mono Z.frz) U O λb q=>jl.back (x.trans Z) (jl.dE q (.bool _) r₂)) hm
def eV {G:Stc}{A:Around}{E:QqV}{s:Shared}{env:Env}{l op r pos whole}{Q:Bool->Shared->Prop}
  (h:wpAny G.M A (eval l env) (λa s₁=>wpAny G.M A (eval r env) (λb s₂=>wpAny G.M A (compareOp op a b) (λc Z=>wpAny G.M A (truthy c) Q E Z) E s₂) E s₁) E s)
  (J:behindInMarks op r=false):wpAny G.M A (isTrue (.Compare l [op] [r] pos) env whole) Q E s:=by
 rw[isTrue_Compare1,markedBehindIn_of_false J];apply af (bg h (λa s₁ h₁=>af (cg (bg h₁ (λb s₂ O=>af (fw (af (wpAny_operating (bg O (λc Z U=>cg U) λ_ _ x=>x)))) ) λ_ _ x=>x))) λ_ _ x=>x)
def HB {op:Cop}{a b:Ex}{x y:Expr}{pos:Pos}(ha:dw G C sc d a x)(hb:dw G C sc d b y)(hm:behindInMarks (dM op) y=false):oq G C sc d (.c op a b) (.Compare x [dM op] [y] pos):=λ_ _ _ _ _ _ _ c h =>
 eV (nr (ha c h) λv σ₁ s₁ w q vr r x =>
  nr (hb (c.go r x) q) λB σ₂ s₂ J O U r₂ Z =>
   fI c.ao r₂ (vr.mono Z.frz) U O λb q=>ur (kz.back (x.trans Z) (kz.here q r₂))) hm
end
end MP
end
section
namespace MP
open PySem PyProof.Rows
variable {ws:List Value}
def qi {n:Nat}(h:n<=bq):n<=sizeLine:=by rw[show sizeLine=16777216 from rfl];unfold bq at h;(show ef .b8 .a .bQ h)
section
variable {G:Stc}{σ:St}{h:Heap}
def Rel.RY (R:Rel G σ h):σ.L h.objs.size=none:=by
 cases hq:σ.L h.objs.size with
 |none=>rfl
 |some ys=>have#[o,Z,_]:=R.yE hq;rw[none_at_size]at Z;cases Z
def Rel.freshD (R:Rel G σ h):σ.D h.objs.size=none:=by
 cases hq:σ.D h.objs.size with
 |none=>rfl
 |some ys=>have#[o,Z,_]:=R.JQ hq;rw[none_at_size]at Z;cases Z
def Rel.RX (R:Rel G σ h):σ.S h.objs.size=none:=by
 cases hq:σ.S h.objs.size with
 |none=>rfl
 |some ys=>have#[o,Z,_]:=R.JP hq;rw[none_at_size]at Z;cases Z
def pJ {X:List Addr}{σ₁:St}{s s₁:Shared}{tk:Nat}{O:Drawn}{Q:V->St->Prop}{vs:List V}(r:Rel G σ₁ s₁.heap)(x:Go X σ s σ₁ s₁)(U:VRs G s₁.heap vs ws)(hz:vs.length<=bq)
  (q:∀c,σ₁.L c=none->Q (.L c) (σ₁.cw c vs)):jl G X σ s Q (.ref s₁.heap.objs.size) #[s₁.heap.push {cls:=.type "list",data:=.seq ws.toArray},s₁.gens,O,tk,s₁.os]:=by
 have Z:At s₁.heap.objs.size s₁.heap (s₁.heap.push {cls:=.type "list",data:=.seq ws.toArray}):=At.push s₁.heap;apply#[.L _,_,q _ r.RY,.L _,r.putL Z (λ_=>none_at_size _) (IsL.new _ _) U hz,x.to (Evo.putL Z (λ_=>none_at_size _) _)]
def VRs.rep {vs:List V}(x:VRs G h vs ws):∀k:Nat,VRs G h (List.replicate k vs).flatten (List.replicate k ws).flatten
 |0=>by simpa using VRs.nil
 |k+1=>by simpa[List.replicate_succ] using x.append (x.rep k)
def VRs.ints {ns:List Int}(i:IntsAre ws ns):VRs G h (ns.map V.int) ws:=by
 induction i with
 |nil=>show .nil
 |cons n t r Z=>show .cons (.int n t) Z
end
section
variable {G:Stc}{A:Around}{E:QqV}{s:Shared}{σ:St}
def uJ {l:Addr}{items:Array Value}{k:Nat}{x:Int}{u:Tok}{Q:QqV}(hl:IsL s.heap l items k)(O:-(2^63:Int)<=x)(J:x<2^63)(Z:items.size*x.toNat<=2^24)
  (h:Q (.ref s.heap.objs.size) {s with heap:=s.heap.push {cls:=.type "list",data:=.seq (List.foldl (λx1 x2=>x1++x2) #v[] (List.replicate (if items.isEmpty=true then 0 else x.toNat) items))}}) :
  wpAny G.M A (binaryOp .Mult (.ref l) (.int x u)) Q E s:=
 wpAny_binaryOp_repeat_ref (T:="list") (U:="int") (by decide) #[_,hl,rfl] (λs'=>typeIs_int s' x u) noFill_list_mul F.fills_int_mul F.slot_int_rmul repeat_list F.slot_int_index.lookup
  (call_meets F.slot_int_rmul (typeIs_int s x u) F.entry_int_rmul (F.args_int_rmul_2 _ _) (int___rmul___int_list x u l items k)
   ⟨hl,rfl,#[_,hl,rfl],call_meets F.slot_list_mul #[_,hl,rfl] F.entry_list_mul (F.args_list_mul_2 _ _)
    (AutoListH.list___mul___list_int_3 l items k x u (by simp[Builtin.List.listFitsIndex];(show#[(qd (.ik (.ng 9223372036854775808) .A) .a .bP O),(qd (.il .A (.n 9223372036854775808)) .a .cQ J)])) (eM .cX [[8,8,1,-1,-1]] (.k .B (.n (2^24))) (.l .C (.n 8)) (.e (.a (.m 8 .A) .C) .D) (.e .V (.n (2^63))) Z (Ar.iG _ 8 (by decide)).1 (Ar.iG _ 8 (by decide)).2 (ae (kY (.k .U (.n (2^63))) .f))) (by simp[Builtin.List.listTooLong,sizeLine];(show ef .b8 .a (.k .A (.n (2^24))) Z)))
    #[hl,h]⟩)
set_option maxHeartbeats 2000000 in
def H7 {op:Bop}{a b:V}{x y:Value}{Q:V->St->Prop}(R:Rel G σ s.heap)(va:VR G s.heap a x)(vb:VR G s.heap b y)(h:mQ op a b σ Q):wpAny G.M A (binaryOp (binOp op) x y) (jl G [] σ s Q) E s:=by
 have aa:∀i j t u,x=.int i t->y=.int j u->mQ op (.int i) (.int j) σ Q->wpAny G.M A (binaryOp (binOp op) x y) (jl G [] σ s Q) E s:=λi j t u e1 e2 q=>by
  subst e1;subst e2;show oE R q
 have Z:∀(l:Addr) (xs:List V) (ws:List Value) (i:Int) (t:Tok) (n:Nat),IsL s.heap l ws.toArray n->VRs G s.heap xs ws->xs.length*i.toNat<=bq->i.natAbs<2^60->(∀c,σ.L c=none->Q (.L c) (σ.cw c (List.replicate i.toNat xs).flatten)) ->
   x=.ref l->y=.int i t->wpAny G.M A (binaryOp .Mult x y) (jl G [] σ s Q) E s:=λl xs ws i t n hl U hz hb q e1 e2=>by
  subst e1;subst e2;have h1:=U.length;apply uJ hl ((Ar.nab _).elim (λO=>(qd .bP .a .aR O.1)) λO=>(dQ .bP .c .a6 .c3 hb O.2)) ((Ar.nab _).elim (λO=>(dQ .cQ .c .a6 .cK hb O.2)) λO=>(qd .cQ .a .d4 O.1)) ?_ ?_
  ·simp only[cy];rw[<- h1];unfold bq at hz;(show ef (.k .A (.n (2^24))) .a .bQ hz)
  ·have e:List.foldl (λx1 x2=>x1++x2) #v[] (List.replicate (if ws.toArray.isEmpty=true then 0 else i.toNat) ws.toArray)=((List.replicate i.toNat ws).flatten).toArray:=by
    rw[listMul_foldl];cases ws with
    |nil=>simp
    |cons w ws=>simp
   rw[e];show pJ R .refl (U.rep _) (by rw[lm_len_rep_flat,Nat.mul_comm];show hz) q
 rcases wA h with ⟨i,j,rfl,rfl,_⟩|⟨rfl,l,n,rfl,rfl,q⟩|⟨rfl,m,rfl,q⟩
 ·have#[t,rfl]:=va.inv;have#[u,rfl]:=vb.inv;show oE R h
 ·have#[u,rfl]:=vb.inv;have rfl:=va;have#[xs,e1,hz,hb,q]:=q;have#[ws,n,hl,U]:=R.L _ _ e1;show Z _ _ _ _ _ _ hl U hz hb q rfl rfl
 ·clear Z;have rfl:=vb;have#[xs,ys,e4,e5,hz,q]:=q;have#[us,m,ab,J]:=R.L _ _ e5;have go:∀(l:Addr) (ws:List Value) (n:Nat),x=.ref l->IsL s.heap l ws.toArray n->VRs G s.heap xs ws->wpAny G.M A (binaryOp (binOp .add) x (.ref _)) (jl G [] σ s Q) E s:=λl ws n ex hl U=>by
   subst ex;have h1:=U.length;have h2:=J.length;apply P.add_list hl ab ?_ (by simp only[cy];rw[<- h1,<- h2];show qi hz);rw[List.append_toArray];show pJ R .refl (U.append J) (by simpa using hz) q
  unfold itemsOf at e4;cases e6:jR a with
  |some l' =>
   rw[e6]at e4;have e6:=gR e6;subst e6;have#[ws,n,hl,U]:=R.L _ _ e4;show go _ ws n va.inv hl U
  |none =>
   rw[e6]at e4;cases B:vRo a with
   |none=>rw[B]at e4;cases e4
   |some ns =>
    rw[B]at e4;cases e4;have B:=Q7 B;subst B;have#[a,ws,n,ex,g,r]:=va.inv;show go a ws n ex (R.base _ _ g) (VRs.ints (G:=G) (h:=s.heap) r)
def BP {C:Cal}{sc:Scope}{d:Nat}{op:Bop}{a b:Ex}{x y:Expr}{pos:Pos}(ha:dw G C sc d a x)(hb:dw G C sc d b y):dw G C sc d (.b op a b) (.BinOp x (binOp op) y pos):=λ_ _ _ _ _ _ _ c h =>
 wpAny_BinOp (nr (ha c h) λv σ₁ s₁ w q vr r x =>
  nr (hb (c.go r x) q) λB σ₂ s₂ J O U r₂ Z =>
   (x.trans Z).back (H7 r₂ (vr.mono Z.frz) U O))
def DRs.look {h:Heap}(k:Key):{es:List (Key×V)}->{ds:List (Key×Value)}->DRs G h es ds->OV G h (es.lookup k) (valueAt ds k)
 | []=>λe=>by have rfl:=e;show trivial
 |(k',v)::es=>λz=>by
  have#[w,us,e,a,r]:=z;subst e;by_cases hk:k'=k
  ·subst hk;rw[List.lookup_cons_self,show valueAt ((k',w)::us) k'=some w by simp[valueAt]];show a
  ·rw[rh,vm.mpr (λq=>hk q.symm)];simpa[valueAt,List.find?_cons,hk] using DRs.look k r
def key_is {v:V}{k:Key}{w:Value}{h:Heap}(hk:v.pK=some k)(vr:VR G h v w):G.kk.is k w=true:=by
 cases v
 case int=>have#[t,rfl]:=vr;have rfl:=ak hk;simp[keyKind,xW,Value.isInt]
 case str=>have#[t,rfl]:=vr;have rfl:=ak hk;simp[keyKind,xW,Value.isStrOf]
 all_goals show je hk
def G8 {a b:V}{x y:Value}{ve se:Expr}{K:V->Prop}(R:Rel G σ s.heap)(va:VR G s.heap a x)(vb:VR G s.heap b y)(h:sJ a b σ K)(hs:subscripted se false x y=operate [x,y] (getItem x y)){Q:QqV}(k:∀v w tk,K v->VR G s.heap v w->Q w {s with toks:=tk}) :
  wpAny G.M A (subscriptTail ve se x y) Q E s:=by
 have listAt:∀(l:Addr) (ws:List Value) (i:Int) (t:Tok) (n:Nat) (v:Value),IsL s.heap l ws.toArray n->ws.length<=bq->0<=ee ws.length i->ws[(ee ws.length i).toNat]?=some v->x=.ref l->y=.int i t->(∀tk,Q v {s with toks:=tk})->wpAny G.M A (subscriptTail ve se x y) Q E s:=λl ws i t n v hl hz h0 U e1 e2 hq=>by
  subst e1;subst e2;have B:(ee ws.length i).toNat<ws.length:=(bw.mp U).1;unfold ee at h0 U B;unfold bq at hz;by_cases hi:i<0
  ·simp only[hi,ym]at h0 U B;show tail_any hl.isList.typeIs KV.lookup (wpAny_getItem_list_neg hl.isList hi (by simp only[cy];(show yR (.ik (.g .L) .A) .a (.ik .O (.a .A .L)) h0)) (dQ .bP .b .bQ (.ik .O (.a .A .L)) hz h0) (by simpa using U) (hq s.toks)) hs
  ·simp only[hi,kh]at h0 U B;show tail_any hl.isList.typeIs KV.lookup (wpAny_getItem_list hl.isList (qd .aR .a (.ig .A .O) hi) ((Ar.ton _).elim (λJ=>(Q1 .cQ .v .bQ .W (.ie .M .A) hz B J.2)) λJ=>(qd .cQ .a .d4 J.1)) (by simpa using U) (hq s.toks)) hs
 have aa:∀(l:Addr) (ws:List Value) (i:Int) (t:Tok) (n:Nat) (v:Value),IsT s.heap l ws.toArray n->i.natAbs<2^60->0<=ee ws.length i->ws[(ee ws.length i).toNat]?=some v->x=.ref l->y=.int i t->(∀tk,Q v {s with toks:=tk})->wpAny G.M A (subscriptTail ve se x y) Q E s:=λl ws i t n v hl hz h0 U e1 e2 hq=>by
  subst e1;subst e2;have B:(ee ws.length i).toNat<ws.length:=(bw.mp U).1;have hT:IsTup s.heap l ws.toArray:=#[_,hl,rfl,n,rfl];apply tail_any hT.typeIs slot_tuple_getitem.lookup (PyProof.Rows.getItem_tuple hT ((Ar.nab _).elim (λJ=>(qd .bP .a .aR J.1)) λJ=>(dQ .bP .c .a6 .c3 hz J.2)) ((Ar.nab _).elim (λJ=>(dQ .cQ .c .a6 .cK hz J.2)) λJ=>(qd .cQ .a .d4 J.1)) (j:=(ee ws.length i).toNat) ?_ (by simpa using U) (hq s.toks)) hs;unfold seqIndex?;rw[cy]
  change (if (decide (0<=ee ws.length i)&&decide (ee ws.length i<ws.length))=true then some (ee ws.length i).toNat else none)=_
  rw[bx];simp only[dg,decide_eq_true_eq];(show#[(qd .aR .a .aR h0),((Ar.ton _).elim (λJ=>(yO (.il .A .L) .c .W (.ie .M .A) B J.2)) λJ=>(yO (.il .A .L) .b .W .d4 B J.1))])
 cases a with
 |L a =>
  have rfl:=va;have#[i,rfl,xs,v,e,h0,hx,hk]:=rn (v:=b) h;have#[t,rfl]:=vb;have#[ws,n,hl,U]:=R.L _ _ e;have Z:=U.length;have#[w,hw,vr]:=U.get hx;rw[Z]at h0 hw;show listAt _ ws _ _ n w hl (Z▸R.Ll _ _ e) h0 hw rfl rfl λtk=>k v w tk hk vr
 |ro ns =>
  have#[i,rfl,v,hz,h0,hx,hk]:=rn (v:=b) h;have#[t,rfl]:=vb;have#[a,ws,n,rfl,g,r]:=va;have U:=VRs.ints (G:=G) (h:=s.heap) r;have Z:=r.length.symm;have#[w,hw,vr]:=U.get (v:=.int v) (by rw[cu,hx];rfl);rw[Z]at h0 hw;show listAt _ ws _ _ _ w (R.base _ _ g) (Z▸hz) h0 hw rfl rfl λtk=>k (.int v) w tk hk vr
 |T xs =>
  clear listAt;have#[i,rfl,v,hb,h0,hx,hk]:=rn (v:=b) h;have#[t,rfl]:=vb;have#[a,ws,n,rfl,g,r]:=va;have#[w,hw,vr]:=r.get hx;show aa _ _ _ _ _ _ g hb (r.length▸h0) (r.length▸hw) rfl rfl λtk=>k v w tk hk vr
 |dct a =>
  clear aa;have rfl:=va;have#[es,kk,v,e,ab,hl,hk]:=h;have#[ds,hd,U]:=R.D _ _ e;have hh:=U.look kk;rw[hl]at hh;cases hq:valueAt ds kk with
  |none=>rw[hq]at hh;show hh.elim
  |some w =>
   rw[hq]at hh;show tail_any hd.typeIs slot_dict_getitem.lookup (wpAny_getItem_of (key_is ab vb) hd.mapOf hq (k v w _ hk hh)) hs
 |_=>show False.elim h
end
end MP
end
section
namespace MP
open PySem PyProof.Rows
variable {a:Ex}{x:Expr}{pos:Pos}{A:Around}{E:QqV}{σ:St}{s:Shared}{h:Heap}{i:Int}
structure GOk (G:Stc):Prop where
 cls:∃N mN,ClsAt G.hb G.cS N mN/\mN "__getattribute__"=none/\mN "__getattr__"=none/\mN "__setattr__"=none/\∀x∈G.attrs,mN x=none/\typeLookup (.type "object") x=pure none
 len:G.attrs.length<=100
 nd:G.attrs.Nodup
 sys:∃o,G.hb.get? sysModules=some o
 names:∃mg mb,G.hb.Ns mainGlobals mg/\G.hb.Ns builtinsNs mb/\∀x,G.gl x=(mg x).or (mb x)
abbrev isSlice (x:Expr):Bool:=fA 26 x
def jT {Z:Expr}(h:isSlice Z=false)(x y:Value):subscripted Z false x y=operate [x,y] (getItem x y):=by
 cases Z<;>first|rfl|show Bool.noConfusion h
section
variable {G:Stc}{C:Cal}{sc:Scope}{d:Nat}
def BN {b:Ex}{y:Expr}(ha:dw G C sc d a x)(hb:dw G C sc d b y)(hs:isSlice y=false):dw G C sc d (.sub a b) (.Subscript x y pos):=λ_ _ _ _ _ _ _ c h =>
 Subscript_ (nr (ha c h) λv σ₁ s₁ w q vr r x =>
  nr (hb (c.go r x) q) λB σ₂ s₂ J O U r₂ Z =>
   G8 r₂ (vr.mono Z.frz) U O (jT hs _ _) λv w tk q vr=>jl.back (x.trans Z) (jl.here q vr r₂))
abbrev OG (G:Stc)(C:Cal)(sc:Scope)(d:Nat)(e:Ex)(x:Option Expr):Prop:=(e=.none/\x=none)\/∃y,x=some y/\dw G C sc d e y
def OG.at {e:Ex}{x:Option Expr}(p:OG G C sc d e x){env:Env}{ρ:Fr}{Q:V->St->Prop}(c:Cx G sc d A env ρ σ s)(h:wpE C e ρ σ Q):wpAny G.M A (evalPart x env) (jl G [] σ s Q) E s:=by
 rcases p with ⟨rfl,rfl⟩|⟨y,rfl,p⟩
 ·show evalPart_none_step (jl.dE h .none c.R)
 ·show evalPart_some_step (p c h)
def MW (a:Int)(n:Nat):(max 0 (min a n)).toNat=min n a.toNat:=by
 rcases fC a 0 with h|h
 ·rw[Int.toNat_of_nonpos h,Nat.min_zero,Int.max_eq_left (jn (Int.min_le_left ..) h)];rfl
 ·rcases fC a n with h'|h'
  ·rw[Int.min_eq_left h',Int.max_eq_right h,Nat.min_eq_right (Int.toNat_le.mpr h')]
  ·rw[Int.min_eq_right h',Int.max_eq_right (xf n),ke,Nat.min_eq_left ((Int.le_toNat h).mpr h')]
def qJ (n:Nat)(i:Int):clipAt n i=gx n i:=MW _ n
def part_of {v:V}{w:Value}{k:Nat}(vr:VR G h v w)(e:pQ k v=some i):∃o,IsPart w o/\o.getD k=i:=by
 cases v
 case none=>have rfl:=vr;apply#[none,.none,ak e]
 case int=>have#[t,rfl]:=vr;apply#[_,.int _ _,ak e]
 all_goals show je e
def AG (n:Nat)(o:Option Int)(h:o.getD (0:Nat)=i):o.elim 0 (clipAt n)=gx n i:=by
 cases o with
 |none=>simp at h;subst h;simp[gx,ee]
 |some j=>simp at h;subst h;show qJ n j
def AF (n:Nat)(o:Option Int)(h:o.getD (n:Nat)=i):o.elim n (clipAt n)=gx n i:=by
 cases o with
 |none=>have rfl:=(h:(n:Int)=i);show(Nat.min_self n).symm
 |some j=>simp at h;subst h;show qJ n j
def GB {a b c:V}{x y z:Value}{ve:Expr}{lo U:Option Expr}{p:Pos}{Q:V->St->Prop}(R:Rel G σ s.heap)(va:VR G s.heap a x)(vb:VR G s.heap b y)(vc:VR G s.heap c z)(h:OQ a b c σ Q) :
  wpAny G.M A (subscriptTail ve (.Slice lo U none p) x (.ref s.heap.objs.size)) (jl G [] σ s Q) E {s with heap:=s.heap.push {cls:=.type "slice",data:=.fields #v[y,z,.none]}}:=by
 have go:∀(l:Addr) (xs:List V) (ws:List Value) (n:Nat) (i j:Int),x=.ref l->IsL s.heap l ws.toArray n->VRs G s.heap xs ws->xs.length<=bq->pQ 0 b=some i->pQ xs.length c=some j->(∀c,σ.L c=none->Q (.L c) (σ.cw c ((xs.take (gx xs.length j)).drop (gx xs.length i)))) ->
   wpAny G.M A (subscriptTail ve (.Slice lo U none p) x (.ref s.heap.objs.size)) (jl G [] σ s Q) E {s with heap:=s.heap.push {cls:=.type "slice",data:=.fields #v[y,z,.none]}}:=λl xs ws n i j e hl B hz U J q=>by
  subst e;have#[o1,p1,e1]:=part_of vb U;have#[o2,p2,e2]:=part_of vc J;have O:(s.heap.push {cls:=.type "slice",data:=.fields #v[y,z,.none]}).IsList l ws.toArray:=(hl.push _).isList;have Z:=B.length;apply tail_any (T:="list") (id:="list.__getitem__") (ops:=[.ref s.heap.objs.size,.ref l]) ?_ KV.lookup (wpAny_getItem_list_slice O (Heap.IsSliceOf.new ..) p1 p2 .none (by simp) ?_ (by simp only[cy];rw[<- Z];show qi hz)) rfl
  ·show O.typeIs
  ·have e:slicePick ws.toArray o1 o2 none=((ws.take (gx ws.length j)).drop (gx ws.length i)).toArray:=by
    rw[slicePick_plain,cy,AG ws.length o1 e1,AF ws.length o2 (Z▸e2),List.drop_take]
   rw[e];have R':=R.push {cls:=.type "slice",data:=.fields #v[y,z,.none]};have aa:=((B.take (gx xs.length j)).drop (gx xs.length i)).mono (h':=s.heap.push {cls:=.type "slice",data:=.fields #v[y,z,.none]}) λ_ _ e _=>aw _ e;rw[<- Z];show pJ (s₁:={s with heap:=s.heap.push {cls:=.type "slice",data:=.fields #v[y,z,.none]}}) R' #[Evo.push _ _ _ _,rfl,rfl] aa (by simp only[ja,gu];(show mq .A .e .G .bL .aA hz (Ar.kx _ _).2.1 (nz _ _))) q
 cases a with
 |L a =>
  have rfl:=va;have#[xs,i,j,e,U,J,_,_,q]:=h;have#[ws,n,hl,B]:=R.L _ _ e;show go _ xs ws n i j rfl hl B (R.Ll _ _ e) U J q
 |ro ns =>
  have#[a,ws,n,rfl,g,r]:=va;have#[i,j,hz,U,J,_,_,q]:=h;apply go _ _ _ _ i j rfl (R.base _ _ g) (VRs.ints r) (by simpa using hz) U (by simpa using J) λc hc=>?_;have:=q c hc;simpa[List.map_drop,List.map_take] using this
 |_=>show False.elim h
def LS {b c:Ex}{lo hi:Option Expr}{p:Pos}(ha:dw G C sc d a x)(hb:OG G C sc d b lo)(hc:OG G C sc d c hi):dw G C sc d (.slc a b c) (.Subscript x (.Slice lo hi none p) pos):=λ_ _ _ _ _ _ _ c h =>
 Subscript_ (nr (ha c h) λv σ₁ s₁ w q vr r x =>
  wpAny_Slice (nr (hb.at (c.go r x) q) λbb σ₂ s₂ ao ab J r₂ U =>
   nr (hc.at (c.go r₂ (x.trans U)) ab) λar ag bd ai aa O B Z =>
    evalPart_none_step ((x.trans (U.trans Z)).back (GB B ((vr.mono U.frz).mono Z.frz) (J.mono Z.frz) O aa))))
abbrev lu (x:Expr):Bool:=!(fA 16 x&&(kids x).tail.isEmpty)
def eL {o:Expr}(h:lu o=true)(attr:Str)(env:Env)(whole:Sem Value):attributeBase o attr env whole=whole:=by
 cases o with
 |Call f args Z pos =>
  cases args with
  |nil=>show Bool.noConfusion h
  |cons a as=>cases f<;>show(rfl:whole=whole)
 |_=>show(rfl:whole=whole)
def gA.inst {a dd:Addr}{f:Nat->Option V}(I:gA G h a dd f){m:Str->Option Value}(O:h.Ns1 dd m):h.Inst a G.cS m:=by
 have#[o,Z,J,hd,U]:=I.here;apply#[o,Z,J,U,.inr #[dd,hd,I.ne,O]]
def uP {v:V}{w:Value}(vr:VR G h v w):handedOut w=pure w:=by
 cases v
 case int=>have#[t,rfl]:=vr;rfl
 case str=>have#[t,rfl]:=vr;rfl
 case T=>have#[_,_,_,rfl,_]:=vr;rfl
 case mt=>have#[_,_,_,_,rfl,_]:=vr;rfl
 case iL=>have#[_,_,rfl,_]:=vr;rfl
 case j9=>have#[_,_,rfl,_]:=vr;rfl
 case ro=>have#[_,_,_,rfl,_]:=vr;rfl
 case clo=>have#[_,_,rfl,_]:=vr;rfl
 all_goals have rfl:=vr;rfl
def wJ {a dd:Addr}{f:Nat->Option V}{i:Nat}{name:Str}{u:V}{expr:Bool}{Q:QqV}(K:GOk G)(R:Rel G σ s.heap)(hI:σ.I a=some (dd,f))(hn:G.attrs[i]?=some name)(hu:f i=some u)
  (k:∀w tk,VR G s.heap u w->Q w {s with toks:=tk}):wpAny G.M A (getAttr (.ref a) name expr) Q E s:=by
 have#[N,mN,X,B,ab,aa,O]:=K.cls;have I:=R.I a dd f hI;have#[m,hm,hv,_]:=I.ns;have U:=hv i name hn;rw[hu]at U;cases J:m name with
 |none=>rw[J]at U;show U.elim
 |some w =>
  rw[J]at U;have#[hh,g,dr,t,os]:=s;have#[nm,q,bs,sn,sub,ag,d2,k0,k1,k2,k3,k5,hC]:=(X.keeps R.base).obj;have Z:=dq hn;show load_attr hC (X.keeps R.base).ns B (O name Z).1 (O name Z).2 (I.inst hm) J (uP U) (k w _ U)
def wL {i:Nat}{name:Str}(K:GOk G)(J:dw G C sc d a x)(hb:lu x=true)(O:G.attrs[i]?=some name):dw G C sc d (.attr a i) (.Attribute x name pos):=λ_ _ _ _ _ _ _ c h =>
 Attribute_any_ (nr (J c h) λv σ₁ s₁ w q vr r x=>by
  have#[b,dd,f,u,rfl,B,U,q]:=q;have rfl:=vr;show wJ K r B O U λw Z vr=>jl.back x (jl.here q vr r)) (by rw[arm_eval_Attribute,eL hb])
end
variable {args:List Expr}{A:Around}{E:QqV}{s:Shared}{σ:St}
abbrev isStar:Expr->Bool
 |.Starred _ _=>true
 |_=>false
abbrev noStar:List Expr->Bool
 | []=>true
 |e::r=>!isStar e&&noStar r
def band {a b:Bool}(h:(a&&b)=true):a=true/\b=true:=(dg a b).mp h
def jU {e:Expr}(h:(!isStar e)=true)(r:List Expr)(env:Env):starEach (e::r) env=(false,eval e env)::starEach r env:=by
 cases e<;>first|rfl|show Bool.noConfusion h
def yc:{args:List Expr}->noStar args=true->(env:Env)->starEach args env=args.map λe=>(false,eval e env)
 | [],_,env=>rfl
 |e::r,h,env=>(jU (band h).1 r env).trans (bz (_::·) (yc (band h).2 env))
def fb {x:Expr}{xs:List Expr}(h:noStar (x::xs)=true):(∀env,starEach (x::xs) env=(false,eval x env)::starEach xs env)/\noStar xs=true:=
 #[jU (band h).1 xs,(band h).2]
def ji (h:noStar args=true)(pos:Pos)(env:Env):(backTo pos (starEach args env)).any (·.1)=false:=by
 rw[yc h];simp[backTo,List.any_eq_false]
def AV (h:noStar args=true)(pos:Pos)(env:Env):(backTo pos (starEach args env)).all (λx=>!x.1)=true:=by
 rw[yc h];simp[backTo]
def mv {M:Model}{f:Value}{Z:List (Bool×Sem Value)}{Q:Args->Shared->Prop}(U:Z.any (·.1)=false)(h:wpAny M A (spliced Z) (λvs s'=>Q #[vs,[]] s') E s):wpAny M A (evalArgs f true Z []) Q E s:=by
 cases Z with
 |nil =>
  unfold evalArgs;show wpAny M A (spliced []>>=_) Q E s;apply af (bg h (λvs s' h'=>?_) λ_ _ x=>x);apply cg ?_;show af (ah (af (ah (ah h'))))
 |cons t r =>
  have#[b,x]:=t;simp only[jO,Bool.or_eq_false_iff]at U;have#[rfl,_]:=U;show Calls.evalArgs_plain h
section
variable {G:Stc}{C:Cal}{sc:Scope}{d:Nat}
def mr {env:Env}{o:Expr}{name:Str}{apos pos:Pos}{Q:QqV}(hb:lu o=true)(hs:noStar args=true)(B:args.length<30)(Z:(apos.endLine==pos.line)=true)
  (h:wpAny G.M A (eval o env) (λov s₁=>∀pl,wpAny G.M A (getMethod ov name pl) (λp s₂=>wpAny G.M A (callWith pos p.1 p.2 (backTo pos (starEach args env)) []) Q E s₂) E s₁) E s) :
  wpAny G.M A (eval (.Call (.Attribute o name apos) args [] pos) env) Q E s:=by
 rw[arm_eval_Call,eL hb];apply af (bg h (λov s₁ h₁=>?_) λ_ _ e=>e);apply af (fw ?_);have U:methodCallForm (args.length+([]:List Keyword).length) (backTo pos (starEach args env)) (backToKw pos (keywordEach [] env))=true:=by
  unfold methodCallForm;rw[AV hs];show decide (args.length<30)=true;show dp B
 have J:methodCallPos true o env apos pos=pure pos:=by unfold methodCallPos;simp[Z]
 unfold methodCall;rw[U];apply af (cg (bg (h₁ _) (λp s₂ O=>?_) λ_ _ e=>e));show af (ec J O)
def pe {env:Env}{ρ:Fr}{id:String}{first:List Value}{es:Exs}{pos:Pos}{P:List V->St->Prop}{Q:QqV}(U:noStar args=true)(Z:ou G C sc d es args)(c:Cx G sc d A env ρ σ s)(h:vq C es ρ σ P)
  (k:∀vs σ₁ s₁ ws,P vs σ₁->VRs G s₁.heap vs ws->Rel G σ₁ s₁.heap->Go [] σ s σ₁ s₁->wpAny G.M A (call (.builtin id) (first++ws)) Q E s₁) :
  wpAny G.M A (callWith pos (.builtin id) first (backTo pos (starEach args env)) []) Q E s:=
 Calls.callWith_builtin (ji U pos env) (mv (ji U pos env) (rQ (Z c h) k))
def FQ {h:Heap}{a:Addr}{xs ys:List V}{ws us:List Value}{n:Nat}{f:Array Value->Array Value}(R:Rel G σ h)(e:σ.L a=some xs)(hl:IsL h a ws.toArray n)(U:VRs G h ys us)(hz:ys.length<=bq)(O:f ws.toArray=us.toArray) :
  Rel G (σ.cw a ys) (h.update a (Obj.mapSeq f))/\Evo [] σ h (σ.cw a ys) (h.update a (Obj.mapSeq f)):=by
 have Z:=hl.update f;rw[O]at Z;have x:At a h (h.update a (Obj.mapSeq f)):=⟨λb o hb J=>(gv h _ (wi hb)).trans J,#[_,Z],λo eo=>by
  have rfl:=ak (eo.symm.trans hl);show yz rfl rfl⟩
 apply#[R.putL x (λq=>by rw[e]at q;cases q) Z U hz,Evo.putL x (λq=>by rw[e]at q;cases q) _]
abbrev vM:BM->Str
 |.append=>"append"
 |.pop=>"pop"
 |.insert=>"insert"
 |.extend=>"extend"
 |.sort=>"sort"
 |.index=>"index"
 |.count=>"count"
 |.get=>"get"
 |.setdefault=>"setdefault"
 |.add=>"add"
abbrev V4:BM->String
 |.append=>"list.append"
 |.pop=>"list.pop"
 |.insert=>"list.insert"
 |.extend=>"list.extend"
 |.sort=>"list.sort"
 |.index=>"list.index"
 |.count=>"list.count"
 |.get=>"dict.get"
 |.setdefault=>"dict.setdefault"
 |.add=>"set.add"
def xN {h:Heap}{a:Addr}{items:Array Value}{n:Nat}(hl:IsL h a items n):∀b,Value.ref a=.ref b->∃ob,h.get? b=some ob/\ob.dict=none:=λb e=>by
 injection e with e;subst e;apply#[_,hl,rfl]
def sO {k:BM}{v:V}{w:Value}{pl:Sem Bool}{Q:Value×List Value->Shared->Prop}(R:Rel G σ s.heap)(vr:VR G s.heap v w)(h:SH k v σ)(q:Q (.builtin (V4 k),[w]) s) :
  wpAny G.M A (getMethod w (vM k) pl) Q E s:=by
 have lst:∀(a:Addr) (name:Str) (id:String),(σ.L a).isSome=true->Slot "list" name id->typeOf (.builtin id)=pure (.type "method_descriptor")->Q (.builtin id,[.ref a]) s->wpAny G.M A (getMethod (.ref a) name pl) Q E s:=λa name id e sl Z q=>by
  have#[xs,e]:=bp.mp e;have#[ws,n,hl,_]:=R.L _ _ e;show nH #[_,hl,rfl] PySem.F.plainAttrs_list sl Z (xN hl) q
 cases k
 case get =>
  have#[a,rfl,h]:=eA (v:=v) h;have rfl:=vr;have#[xs,e]:=bp.mp h;have#[ds,hd,_]:=R.D _ _ e;show nH hd.typeIs lF PySem.F.slot_dict_get PySem.F.type_dict_get hd.mapOf.noDict q
 case setdefault =>
  have#[a,rfl,h]:=eA (v:=v) h;have rfl:=vr;have#[xs,e]:=bp.mp h;have#[ds,hd,_]:=R.D _ _ e;show nH hd.typeIs lF PySem.F.slot_dict_setdefault PySem.F.type_dict_setdefault hd.mapOf.noDict q
 case add =>
  have#[a,rfl,h]:=C4 (v:=v) h;have rfl:=vr;have#[xs,e]:=bp.mp h;show getMethod_set_add (R.S _ _ e).of q
 all_goals
  have#[a,rfl,h]:=e9 (v:=v) h;have rfl:=vr
 case append=>show lst _ _ _ h jN PySem.F.type_list_append q
 case pop=>show lst _ _ _ h PySem.F.slot_list_pop PySem.F.type_list_pop q
 case insert=>show lst _ _ _ h PySem.F.slot_list_insert PySem.F.type_list_insert q
 case extend=>show lst _ _ _ h PySem.F.slot_list_extend PySem.F.type_list_extend q
 case sort=>show lst _ _ _ h PySem.F.slot_list_sort PySem.F.type_list_sort q
 case index=>show lst _ _ _ h PySem.F.slot_list_index PySem.F.type_list_index q
 case count=>show lst _ _ _ h PySem.F.slot_list_count PySem.F.type_list_count q
end
section
variable {h:Heap}{k:Key}{v:V}{w:Value}{es:List (Key×V)}{a:Addr}{ws:List Value}
variable {G:Stc}{A:Around}{E:QqV}{s:Shared}{σ:St}
def kB (K:GOk G)(R:Rel G σ s.heap){b:Addr}(d:σ.dom b):(b==sysModules)=false:=by
 apply vm.mpr λe=>?_;have#[o,Z]:=K.sys;have:=R.new b d;rw[e,Z]at this;cases this
def DRs.put (vr:VR G h v w){ds:List (Key×Value)}(r:DRs G h es ds):DRs G h (putD es k v) (stored ds k w):=by
 have B:∀{es:List (Key×V)} {ds:List (Key×Value)},DRs G h es ds->(es.any λe=>e.1==k)=ds.any λU=>decide (U.1=k):=by
  intro es;induction es with
  |nil=>intro ds r;have rfl:=r;rfl
  |cons e es Z=>intro ds r;have#[w,us,rfl,a,r]:=r;rw[jO,jO,Z r];rfl
 have O:∀{es:List (Key×V)} {ds:List (Key×Value)},DRs G h es ds->DRs G h (es.map λe=>if e.1=k then (k,v) else e) (ds.map λU=>if U.1=k then (U.1,w) else U):=by
  intro es;induction es with
  |nil=>intro ds r;have rfl:=r;show .nil
  |cons e es Z =>
   intro ds r;have#[k',v']:=e;have#[w',us,rfl,a,r]:=r;rw[lr,lr];by_cases hk:k'=k
   ·subst hk;rw[bx rfl,bx rfl];show .cons vr (Z r)
   ·rw[ay hk,ay hk];show .cons a (Z r)
 have J:∀{es:List (Key×V)} {ds:List (Key×Value)},DRs G h es ds->DRs G h (es++[(k,v)]) (ds++[(k,w)]):=by
  intro es;induction es with
  |nil=>intro ds r;have rfl:=r;show .cons vr .nil
  |cons e es Z=>intro ds r;have#[w',us,rfl,a,r]:=r;show .cons a (Z r)
 unfold putD stored;rw[B r];split
 ·show O r
 ·show J r
def DRs.length:{es:List (Key×V)}->{ds:List (Key×Value)}->DRs G h es ds->es.length=ds.length
 | []=>λe=>e▸rfl
 |_::_=>λz=>by have#[_,_,rfl,_,r]:=z;show bz (·+1) r.length
def OV.getD {v:Option V}{w:Option Value}{u:V}{x:Value}(o:OV G h v w)(a:VR G h u x):VR G h (v.getD u) (w.getD x):=by
 cases v<;>cases w
 ·show a
 ·show False.elim o
 ·show False.elim o
 ·show o
def mW (es:List (Key×V))(k:Key)(v:V):(putD es k v).length<=es.length+1:=by
 unfold putD;split<;>simp
def O2 (R:Rel G σ s.heap)(e:σ.D a=some es):∀b f,σ.I b≠some (a,f):=λb f q=>by
 have:=R.apart b a f q;rw[e]at this;cases this
def Q9 {h':Heap}{Z:List (Key×V)}{ds:List (Key×Value)}(R:Rel G σ s.heap)(e:σ.D a=some es)(hs:Heap.SameBut a s.heap h')(hd:h'.DictOf G.kk a ds)(B:DRs G s.heap Z ds)(hz:Z.length<=bq) :
  Rel G (σ.qj a Z) h'/\Evo [] σ s.heap (σ.qj a Z) h':=by
 have#[ag,#[o,ab,ep,ho,hc,O,_],_]:=R.D _ _ e;have#[o',J,aa,U,_]:=id hd;have x:At a s.heap h':=At.oY hs ho (tu O) U;apply#[R.putD x (λq=>by rw[e]at q;cases q) (O2 R e) hd B hz,Evo.putD x (λq=>by rw[e]at q;cases q) _]
def xU (hk:v.pK=some k)(vr:VR G h v w):w.scannable=true:=by
 cases v
 case int=>have#[t,rfl]:=vr;rfl
 case str=>have#[t,rfl]:=vr;rfl
 all_goals show je hk
def HW (h:es.lookup k=none)(v:V):putD es k v=es++[(k,v)]:=by
 unfold putD;rw[ay];simp only[List.any_eq_true,not_exists,not_and];intro e Z hk;rw[rg]at h;have:=h e Z;simp only[wq]at hk;simp[hk]at this
def DU (R:Rel G σ s.heap)(e:σ.D a=some es):Rel G (σ.qj a es) s.heap/\Evo [] σ s.heap (σ.qj a es) s.heap:=by
 have O:upd σ.D a es=σ.D:=by
  funext b
  unfold upd;split
  ·rename_i h;rw[h,e]
  ·rfl
 have hd:∀b,(σ.qj a es).dom b->σ.dom b:=λb d=>(qE d).elim id λq=>.inr (.inl (by rw[q,e];rfl));have U:σ.qj a es={σ with Z:=clr σ.Z a}:=by unfold St.qj;rw[O]
 apply#[?_,λ_ _ e _ _=>e,λ_ _ e _=>e,λb d=>.inl (hd b d),λ_ o e=>#[o,e]];apply#[R.L,?_,R.S,R.I,λb o q=>?_,R.Ll,?_,R.inj,?_,R.sep,λb d=>R.new b (hd b d),R.base]
 ·rw[U];show R.D
 ·rw[U]at q ⊢;show R.Z b o (qI q).2
 ·rw[U];show R.Dl
 ·rw[U];show R.apart
def VS {ks Z:List Key}{h':Heap}(R:Rel G σ s.heap)(e:σ.S a=some ks)(O:Heap.SameBut a s.heap h')(U:dS G h' a Z) :
  Rel G (σ.jY a Z) h'/\Evo [] σ s.heap (σ.jY a Z) h':=by
 have#[o,ai,ep,tt,ho,hc,B,_]:=R.S _ _ e;have#[o',aa,ag,ab,J,_]:=id U;have x:At a s.heap h':=At.oY O ho (wQ B) J;have hn:σ.S a=none->s.heap.get? a=none:=λq=>by rw[e]at q;cases q
 apply#[R.HV x hn U,Evo.HV x hn _]
def VRs.one:VRs G h [v] ws->∃w,ws=[w]/\VR G h v w
 |⟨w,us,e,a,r⟩=>#[w,e.trans (bz (w::·) r),a]
def VRs.two {u:V}:VRs G h [v,u] ws->∃w Z,ws=[w,Z]/\VR G h v w/\VR G h u Z
 |⟨w,us,e,a,r⟩=>by have#[Z,U,b]:=VRs.one r;apply#[w,Z,e.trans (bz (w::·) U),a,b]
def zB {k:BM}{v:V}{vs:List V}{Q:V->St->Prop}(K:GOk G)(hk:k≠.sort)(R:Rel G σ s.heap)(vr:VR G s.heap v w)(J:VRs G s.heap vs ws)(h:KZ k v vs σ Q) :
  wpAny G.M A (call (.builtin (V4 k)) (w::ws)) (jl G [] σ s Q) E s:=by
 cases k
 case append =>
  have#[a,rfl,h]:=e9 (v:=v) h;have rfl:=vr;have#[x,rfl,xs,e,hz,q]:=mY (vs:=vs) h;have#[wa,rfl,va]:=J.one;have#[us,n,hl,O]:=R.L _ _ e;have Z:=O.length;apply call_meets jN #[_,hl,rfl] PySem.F.entry_list_append (PySem.F.args_list_append_2 _ _) (list_append _ _ _ _ (by simp only[cy];rw[<- Z];show qi (bt .A .a .B hz))) #[hl,?_];have#[r',x']:=FQ (f:=λx=>x.push wa) R e hl (O.append %[va|0]) (by simp;(show bt .H .a .B hz)) (by simp);apply#[.none,_,q,.none,r',x',rfl,rfl]
 case pop =>
  have#[a,rfl,h]:=e9 (v:=v) h;have rfl:=vr;have#[rfl,xs,v,e,q]:=C5 (vs:=vs) h;have rfl:=J;have#[us,n,hl,O]:=R.L _ _ e;have Z:=O.length;have hz:=R.Ll _ _ e;have#[u,hu,vu]:=O.get (i:=xs.length) (v:=v) (by simp);have aa:us.length=xs.length+1:=by rw[<- Z];simp
  apply call_meets PySem.F.slot_list_pop #[_,hl,rfl] PySem.F.entry_list_pop (PySem.F.args_list_pop_1 _) (MeetsSeq.list_pop_last _ _ _ u (by simp only[cy];rw[aa];simpa using hu) (by simp only[cy];rw[<- Z];show qi hz)) #[hl,?_];have#[r',x']:=FQ (f:=λx=>x.eraseIdxIfInBounds (us.toArray.size-1)) (us:=us.take xs.length) R e hl (by simpa using O.take xs.length) (by simp at hz;(show bt .A .a .H hz)) (by
   have e:us.toArray.eraseIdxIfInBounds (us.toArray.size-1)=(us.eraseIdx (us.length-1)).toArray:=by simp
   rw[e,List.eraseIdx_eq_take_drop_succ];simp[aa])
  apply#[v,_,q,vu.mono x'.frz,r',x',rfl,rfl]
 case insert=>show False.elim h
 case extend=>show False.elim h
 case index=>show False.elim h
 case count=>show False.elim h
 case get =>
  have#[a,rfl,h]:=eA (v:=v) h;have rfl:=vr;have#[x,y,rfl,es,kk,e,U,q]:=oT (vs:=vs) h;have#[wa,wb,rfl,va,vb]:=J.two;have#[ds,hd,O]:=R.D _ _ e;have hl:=O.look kk;apply call_meetsIn PySem.F.slot_dict_get hd.typeIs PySem.F.entry_dict_get (PySem.F.args_dict_get_3 _ _ _) (meets_dict_get_default G.kk _ (key_is U va) (kB K R (.inr (.inl (by rw[e];rfl)))) _) #[_,hd.mapOf,?_];apply#[_,σ,q,hl.getD vb,R,Evo.refl _ _ _,rfl,rfl]
 case setdefault =>
  have#[a,rfl,h]:=eA (v:=v) h;have rfl:=vr;have#[x,y,rfl,es,kk,e,U,hz,q]:=oT (vs:=vs) h;have#[wa,wb,rfl,va,vb]:=J.two;have#[ds,hd,O]:=R.D _ _ e;have hl:=O.look kk;have Z:=O.length;apply call_meetsIn PySem.F.slot_dict_setdefault hd.typeIs PySem.F.entry_dict_setdefault (PySem.F.args_dict_setdefault_3 _ _ _) (kt_meets_setdefault G.kk _ (key_is U va) (kB K R (.inr (.inl (by rw[e];rfl)))) _) #[ds,hd,by rw[<- Z];show qi (bt .A .a .B hz),λv' ag=>?_,λhn h' ao ab=>?_]
  ·rw[ag]at hl;cases h1:es.lookup kk with
   |none=>rw[h1]at hl;show hl.elim
   |some u =>
    rw[h1]at hl q;simp only[Option.getD_some,Option.isSome_some,ym]at q;have#[r',x']:=DU R e;apply#[u,_,q,hl,r',x',rfl,rfl]
  ·rw[hn]at hl;cases h1:es.lookup kk with
   |some u=>rw[h1]at hl;show hl.elim
   |none =>
    rw[h1]at q;simp only[Option.getD_none,wt,dt,kh]at q;have e2:=HW h1;have#[r',x']:=Q9 R e ab ao (O.put vb) (fm (mW _ _ _) (bt .H .a .B hz));rw[e2]at r' x';apply#[_,_,q,vb.mono x'.frz,r',x',rfl,rfl]
 case add =>
  have#[a,rfl,h]:=C4 (v:=v) h;have rfl:=vr;have#[x,rfl,h]:=mY (vs:=vs) h;have#[i,rfl,ks,e,hz,q]:=rn (v:=x) h;have#[wa,rfl,va]:=J.one;have hS:=R.S _ _ e;have ai:plainKind wa=true:=by have#[t,rfl]:=va;rfl
  have U:(V.int i).pK=some (.int i):=rfl;apply JZ (key_is U va) (xU U va) ai hS (by rw[show scanBound=4096 from rfl];(show ef (.l .L (.n 4096)) .a (.l .A (.n 4000)) hz)) λh' ab ar=>?_;have#[r',x']:=VS R e ab ar;apply#[.none,_,q,.none,r',x',rfl,rfl]
 case sort=>show absurd rfl hk
def QK {C:Cal}{sc:Scope}{d:Nat}{k:BM}{a:Ex}{es:Exs}{o:Expr}{args:List Expr}{apos pos:Pos}(K:GOk G)(hk:k≠.sort)(ha:dw G C sc d a o)(aa:ou G C sc d es args)(hb:lu o=true)(hs:noStar args=true)(J:args.length<30)(U:(apos.endLine==pos.line)=true) :
  dw G C sc d (.bm k a es) (.Call (.Attribute o (vM k) apos) args [] pos):=λ_ _ _ _ _ _ _ c h =>
 mr hb hs J U (nr (ha c h) λv σ₁ s₁ w q vr r x pl =>
  sO r vr q.1 (pe hs aa (c.go r x) q.2 λvs σ₂ s₂ ws O B r₂ Z =>
   (x.trans Z).back (zB K hk r₂ (vr.mono Z.frz) B O)))
end
variable {M:Model}{A:Around}{E:QqV}{s:Shared}
abbrev rl (p:Arguments):Bool:=p.posonlyargs.isEmpty&&p.kwonlyargs.isEmpty&&p.vararg.isNone&&p.kwarg.isNone
abbrev addDefaults:List (Str×Value)->List (Str×Value)->List (Str×Value)
 |slots,[]=>slots
 |slots,(n,d)::r=>addDefaults (if (slots.lookup n).isNone then slots++[(n,d)] else slots) r
def yi (f:Str×Value->List (Str×Value)->Sem (ForInStep (List (Str×Value))))
  (Z:∀n d slots,f (n,d) slots=if (slots.lookup n).isNone then pure (.yield (slots++[(n,d)])) else pure (.yield slots)) :
  ∀(l:List (Str×Value)) (slots:List (Str×Value)) (Q:List (Str×Value)->Shared->Prop),Q (addDefaults slots l) s->wpAny M A (forIn l slots f) Q E s
 | []=>λslots Q h=>by rw[oe];show ah h
 |(n,d)::r=>λslots Q h=>by
  rw[pd,Z];apply af ?_;dsimp only[addDefaults]at h;split
  ·rename_i U;rw[bx U]at h;show ah (yi f Z r _ Q h)
  ·rename_i U;rw[ay U]at h;show ah (yi f Z r _ Q h)
def yl:∀(l₁ l₂ slots:List (Str×Value)),addDefaults slots (l₁++l₂)=addDefaults (addDefaults slots l₁) l₂
 | []=>λ_ _=>rfl
 |(n,d)::r=>λl₂ slots=>by rw[zx];dsimp only[addDefaults];show yl r l₂ _
def dR:∀(l slots:List (Str×Value)),(∀p∈l,(slots.lookup p.1).isSome=true)->addDefaults slots l=slots
 | []=>λ_ _=>rfl
 |(n,d)::r=>λslots h=>by
  have O:=h (n,d) (.head _);dsimp only[addDefaults];rw[ay (by cases U:slots.lookup n<;>simp_all)];show dR r slots λp Z=>h p (.tail _ Z)
def vt {slots:List (Str×Value)}{n:Str}(h:n∈slots.map (·.1)):(slots.lookup n).isSome=true:=by
 cases hq:slots.lookup n with
 |some v=>rfl
 |none =>
  rw[rg]at hq;have#[p,Z,rfl]:=cj.mp h;have:=hq p Z;simp at this
def lookup_none_of_not_mem {slots:List (Str×Value)}{n:Str}(h:n∉slots.map (·.1)):slots.lookup n=none:=by
 rw[rg];intro p Z;simp only[bne_iff_ne,ne_eq,vm];rintro rfl;show h (cj.mpr #[p,Z,rfl])
def eX:∀(l slots:List (Str×Value)),(l.map (·.1)).Nodup->(∀n∈l.map (·.1),n∉slots.map (·.1))->addDefaults slots l=slots++l
 | []=>λ_ _ _=>(cq _).symm
 |(n,d)::r=>λslots Z h=>by
  simp only[lr,nJ]at Z;have J:=h n (.head _);dsimp only[addDefaults];rw[bx (by rw[lookup_none_of_not_mem J];rfl)]
  rewrite [eX r _ Z.2 λm U=>?_]
  ·simp
  ·have O:=h m (.tail _ U);simp only[cm,lr,List.map_nil,dj,au,not_or];apply#[O,λe=>Z.1 (e▸U)]
def wN {n₁ n₂:List Str}{vals d₁ d₂:List Value}(aa:(n₁++n₂).Nodup)(h1:n₁.length=vals.length)(h2:n₂.length=d₂.length)(h3:d₁.length<=n₁.length) :
  addDefaults ((n₁++n₂).zip vals) (((n₁++n₂).drop ((n₁++n₂).length-(d₁++d₂).length)).zip (d₁++d₂))=(n₁++n₂).zip (vals++d₂):=by
 have e0:(n₁++n₂).zip vals=n₁.zip vals:=by
  have:=List.zip_append (l₁:=n₁) (r₁:=n₂) (l₂:=vals) (r₂:=[]) h1;simpa using this
 have e1:(n₁++n₂).drop ((n₁++n₂).length-(d₁++d₂).length)=n₁.drop (n₁.length-d₁.length)++n₂:=by
  rw[ax,ax,show n₁.length+n₂.length-(d₁.length+d₂.length)=n₁.length-d₁.length by show sG .C [[1,-1,-1,1],[1,1,1,-1]] .aV (.e (.a .A (.a .F .D)) (.a .G .C)) .c5 h2 (ae (fc .bX .t .cI .J h2 h3)) (ae (bt .A .a .A h3)),List.drop_append,show n₁.length-d₁.length-n₁.length=0 by(show Ar.sub _ _ (λq1 U=>(Ar.sub _ _ (λO Z=>(fc .M .y .S (.e .S .B) U Z)) λO Z=>(fk .M .y .S .a0 U Z))) λq1 U=>(ef .M .w .M U))];rfl
 have f1:(n₁.zip vals).map (·.1)=n₁:=List.map_fst_zip (bt .A .a .C h1);have f2:(n₂.zip d₂).map (·.1)=n₂:=List.map_fst_zip (bt .A .a .C h2);have hd:=List.nodup_append.mp aa;rw[e0,e1,List.zip_append (by rw[ja];(show Ar.sub _ _ (λq1 U=>(Ar.sub _ _ (λO Z=>(fc .C .l .bC (.e .a7 .D) U Z)) λO Z=>(eM .C [[1,1,-1,0,1],[1,0,1,1,0]] .cB .cC .G .aS h3 U O Z))) λq1 U=>(Ar.sub _ _ (λO Z=>(mq .C .m .aB .M (.e .aK .C) q1 U Z)) λO Z=>(eM .C [[1,1,1,0,1],[1,0,0,1,0]] .cB .aB .M .aS h3 q1 U Z)))),yl];have e2:addDefaults (n₁.zip vals) ((n₁.drop (n₁.length-d₁.length)).zip d₁)=n₁.zip vals:=dR _ _ λp hp=>by
  apply vt ?_;rw[f1];show List.mem_of_mem_drop (List.of_mem_zip hp).1
 rw[e2,eX,List.zip_append h1]
 ·rw[f2];show hd.2.1
 ·intro n hn hm;rw[f1]at hm;rw[f2]at hn;show hd.2.2 n hm n hn rfl
def DR {ns:List Str}{vals ds:List Value}(aa:ns.Nodup)(h1:vals.length<=ns.length)(h2:ns.length<=vals.length+ds.length)(h3:ds.length<=ns.length) :
  addDefaults (ns.zip vals) ((ns.drop (ns.length-ds.length)).zip ds)=ns.zip (vals++ds.drop (ds.length-(ns.length-vals.length))):=by
 have en:=zf vals.length ns;have ed:=zf (ds.length-(ns.length-vals.length)) ds;have:=wN (n₁:=ns.take vals.length) (n₂:=ns.drop vals.length) (vals:=vals) (d₁:=ds.take (ds.length-(ns.length-vals.length))) (d₂:=ds.drop (ds.length-(ns.length-vals.length)))
  (by rw[en];show aa) (by rw[gu];(show(Ar.kx _ _).2.2.elim (λO=>(gz .C .g .A .V (Ar.kx _ _).1 O)) λO=>(mi .C .m .cB .A .a8 h1 (Ar.kx _ _).1 O))) (by rw[ja,ja];(show Ar.sub _ _ (λO Z=>(Ar.sub _ _ (λU p2=>(fc .C [[1,1,-1],[1,-1,1]] .bD (.e .a3 .D) Z p2)) λU p2=>(qP .C [[1,0,0,1,1,0],[1,1,1,-1,0,1]] (.k .C .a0) .cC (.e .aT .F) (.k .F .A) .cP h2 (ae (bt .A .a .A h1)) Z U p2))) λO Z=>(Ar.sub _ _ (λU p2=>(mq .C [[1,0,1,0],[1,1,0,1]] .aB .aJ .Q O Z p2)) λU p2=>(qP .C [[1,0,0,0,1,0],[1,1,1,1,0,1]] (.k .C .a0) .cC (.k .F .G) .aJ .cP h2 (ae (bt .A .a .A h1)) O Z p2)))) (by rw[gu,gu];(show Ar.sub _ _ (λO Z=>((Ar.kx _ _).2.2.elim (λU=>(Ar.sub _ _ (λq3 p3=>(yN .A [[1,1,1,1,1,-1]] .aB (.k .A .F) (.e .aN .C) (.k .H .B) (.e .a6 .D) h3 (Ar.kx _ _).1 Z U p3)) λq3 p3=>(yN .A [[1,1,1,1,1,1]] .aB (.k .A .F) (.e .aN .C) (.k .H .B) (.k .D .H) h3 (Ar.kx _ _).1 Z U q3))) λU=>(mq .A .e .aB .J .cJ h3 (Ar.kx _ _).2.1 U))) λO Z=>(fk .A .b .J .a0 (Ar.kx _ _).1 Z)))
 rw[en,ed]at this;show this
def xA:∀(ms:List Str) (n:Str) (u:Value) (l:List (Str×Value)),n∉ms->(ms.filterMap λm=>(((n,u)::l).lookup m).map (m,·))=ms.filterMap λm=>(l.lookup m).map (m,·)
 | []=>λ_ _ _ _=>rfl
 |m::ms=>λn u l h=>by
  simp only[cz,not_or]at h;have e:((n,u)::l).lookup m=l.lookup m:=by rw[rh,vm.mpr (wi h.1)]
  simp only[eZ,e,xA ms n u l h.2]
def xB:∀{ns:List Str} {us:List Value},ns.Nodup->us.length=ns.length->(ns.filterMap λn=>((ns.zip us).lookup n).map (n,·))=ns.zip us
 | [],_,_,_=>by simp
 |n::ns,[],_,h=>by simp at h
 |n::ns,u::us,Z,h=>by
  simp only[nJ]at Z;have U:=xB (ns:=ns) (us:=us) Z.2 (by simpa using h);simp only[List.zip_cons_cons,eZ,List.lookup_cons_self,Option.map_some];rw[xA ns n u _ Z.1,U]
def B7 {α:Type}{c:Bool}{a b:Sem α}{Q:α->Shared->Prop}(Z:c=false)(h:wpAny M A b Q E s):wpAny M A (if c=true then a else b) Q E s:=by
 subst Z;show h
section
variable {ns:List Str}{vals ds xs:List Value}
def K4 (h:vals.length<=ns.length):(decide (vals.length>ns.length)&&true)=false:=by
 rw[iq (rz.mpr h)];rfl
def F7 (ho:xs=ds)(h1:vals.length<=ns.length)(h2:ns.length<=vals.length+ds.length)(J:ds.length<=ns.length) :
  (!((ns.take (ns.length-(xs.drop (xs.length-ns.length)).length)).filter λn=>((ns.zip vals).lookup n).isNone).isEmpty)=false:=by
 subst ho;rw[zd J,gN,Bool.not_eq_false',nk,List.filter_eq_nil_iff];intro n U hq;have e0:ns.zip vals=(ns.take vals.length).zip vals:=by
  have:=List.zip_append (l₁:=ns.take vals.length) (r₁:=ns.drop vals.length) (l₂:=vals) (r₂:=[]) (by rw[gu];(show(Ar.kx _ _).2.2.elim (λZ=>(gz .C .g .A .V (Ar.kx _ _).1 Z)) λZ=>(mi .C .m .cB .A .a8 h1 (Ar.kx _ _).1 Z)));rw[zf,cq,List.zip_nil_right,cq]at this;show this
 have hm:n∈(ns.zip vals).map (·.1):=by
  rw[e0,List.map_fst_zip (by rw[gu];(show bt .A .a .A (Ar.kx _ _).1))];rw[List.mem_take_iff_getElem]at U ⊢;have#[i,O,e]:=U;apply#[i,by(first|show(Ar.kx _ _).2.2.elim (λZ=>(yN .B [[1,1,1,1,1,1]] (.k .C .a0) (.l .A .G) (.k .G .H) (.e (.a .H .F) .C) .cJ h2 O (Ar.kx _ _).1 (ae (bt .A .a .A J)) Z)) λZ=>(mq .B .e .I .aB .cJ O (Ar.kx _ _).2.1 Z)|omega),e]
 cases (vt hm).symm.trans (bz _ (uu.mp hq))
def F8 (ho:xs=ds)(aa:ns.Nodup)(h1:vals.length<=ns.length)(h2:ns.length<=vals.length+ds.length)(h3:ds.length<=ns.length) :
  ((ns++[]).filterMap λn=>((addDefaults (ns.zip vals) ((ns.drop (ns.length-(xs.drop (xs.length-ns.length)).length)).zip (xs.drop (xs.length-ns.length)))).lookup n).map (n,·))=ns.zip (vals++ds.drop (ds.length-(ns.length-vals.length))):=by
 subst ho;rw[zd h3,gN,cq,DR aa h1 h2 h3];show xB aa (by rw[ax,ja];(show Ar.sub _ _ (λq1 O=>(Ar.sub _ _ (λq2 U=>(Ar.sub _ _ (λB Z=>(sG .S .p (.e .aF .F) .cG .b7 O U Z)) λB Z=>(qP .S [[1,0,0,0,1,0],[1,1,1,-1,0,1]] .J (.e .aF .F) .cG .a8 .cP h1 O U B Z))) λq2 U=>(Ar.sub _ _ (λB Z=>(qP .S [[1,1,-1,0,1,0],[1,0,1,1,0,1]] (.k .C .Y) (.e .a4 .D) (.k .D .G) .aT .b7 h2 O q2 U Z)) λB Z=>(SI .S [[1,0,1,-1,0,1,0],[1,1,0,1,1,0,1]] .J (.k .C .Y) (.e .a4 .D) (.k .D .G) .aT .cP h1 h2 O q2 U Z)))) λq1 O=>(Ar.sub _ _ (λq2 U=>(Ar.sub _ _ (λB Z=>(qP .S [[1,0,1,0,1,-1],[1,1,0,1,0,0]] .J .c9 .aJ (.e .aN .D) .b7 h1 q1 O U Z)) λB Z=>(mi .S [[1,0,0,1],[1,1,1,0]] .J .aJ .a8 h1 O B))) λq2 U=>(OD .S [[1,0,1,1,0,1],[1,1,0,0,1,0]] .J (.k .C .Y) .c9 .aJ .aT h1 h2 q1 O U))))
end
def OB {nm qn:Str}{args:List Arg}{kd dfs body sc gl clo df kdf dc pm cd bl ct bu}{vals ds:List Value}{Q:List (Str×Value)->Shared->Prop}
  (hd:∀(Q:Option (Array Value)->Shared->Prop),(∀o,(o.getD #v[]).toList=ds->Q o s)->wpAny M A (seqItems? df) Q E s)
  (Z:(args.map (·.arg)).Nodup) (U:vals.length<=(args.map (·.arg)).length) (B:(args.map (·.arg)).length<=vals.length+ds.length) (J:ds.length<=(args.map (·.arg)).length)
  (h:Q ((args.map (·.arg)).zip (vals++ds.drop (ds.length-((args.map (·.arg)).length-vals.length)))) s):wpAny M A (bindArgs #[nm,qn,#[[],args,none,[],kd,none,dfs],body,sc,gl,clo,df,kdf,dc,pm,cd,bl,ct,bu] #[vals,[]]) Q E s:=
 af (m:=forIn [] _ _) (ah (af (hd _ λo O=>B7 (K4 U) (B7 (F7 O U B J) (af (yi _ (λn d slots=>rfl) _ _ _ (af (m:=forIn [] _ _) (ah (ah (F8 O Z U B J▸h))))))))))
def AQ {fd:FuncData}{vals ds:List Value}{Q:List (Str×Value)->Shared->Prop}(Z:rl fd.params=true)
  (hd:∀(Q:Option (Array Value)->Shared->Prop),(∀o,(o.getD #v[]).toList=ds->Q o s)->wpAny M A (seqItems? fd.defaults) Q E s)
  (U:(fd.params.args.map (·.arg)).Nodup) (B:vals.length<=fd.params.args.length) (J:fd.params.args.length<=vals.length+ds.length) (O:ds.length<=fd.params.args.length)
  (h:Q ((fd.params.args.map (·.arg)).zip (vals++ds.drop (ds.length-(fd.params.args.length-vals.length)))) s):wpAny M A (bindArgs fd #[vals,[]]) Q E s:=by
 have el:(fd.params.args.map (·.arg)).length=fd.params.args.length:=av _;rw[<- el]at B J O h;have e:fd.params=#[[],fd.params.args,none,[],fd.params.kw_defaults,none,fd.params.defaults]:=by
  clear B J O h hd U el;cases fd with|mk nm qn p =>
  cases p with|mk po args va ko kd ka dfs =>
  have#[Z,h4]:=band Z;have#[Z,h5]:=band Z;have#[h6,h7]:=band Z;show congr (congr (congr (bz (λpo va ko ka=>Arguments.mk po args va ko kd ka dfs) (nk.mp h6)) (uu.mp h5)) (nk.mp h7)) (uu.mp h4)
 have:=OB (nm:=fd.name) (qn:=fd.qualname) (kd:=fd.params.kw_defaults) (dfs:=fd.params.defaults) (body:=fd.body) (sc:=fd.scope) (gl:=fd.globals) (clo:=fd.closure) (df:=fd.defaults) (kdf:=fd.kwdefaults) (dc:=fd.doc) (pm:=fd.pyModule) (cd:=fd.annotations) (bl:=fd.code) (ct:=fd.closureTuple) (bu:=fd.builtins) hd U B J O h;rw[<- e]at this;show this
variable {s₁:Shared}{A:Around}{E:QqV}{h:Heap}{X:List Addr}{i:Nat}{x:Str}{k:NameKind}{ρ:Fr}{w:Value}{Q:Unit->Shared->Prop}
abbrev envX (env:Env):List Addr:=env.locals::env.cells.map (·.2)
inductive FlR (G:Stc)(h:Heap):Fl->Flow->Prop
 |next:FlR G h .next .next
 |brk:FlR G h .brk .brk
 |cont:FlR G h .cont .cont
 |ret {v:V} {w:Value}:VR G h v w->FlR G h (.ret v) (.ret w)
inductive qt (G:Stc)(env:Env)(σ:St)(s:Shared)(K:Fl->Fr->St->Prop)(f:Flow)(s':Shared):Prop
 |mk (fl:Fl) (ρ':Fr) (σ':St):FlR G s'.heap fl f->K fl ρ' σ'->FR G σ' env ρ' s'.heap->Rel G σ' s'.heap->Go (envX env) σ s σ' s'->qt G env σ s K f s'
inductive tQ (G:Stc)(env:Env)(σ:St)(s:Shared)(K:Fr->St->Prop)(s':Shared):Prop
 |mk (ρ':Fr) (σ':St):K ρ' σ'->FR G σ' env ρ' s'.heap->Rel G σ' s'.heap->Go (envX env) σ s σ' s'->tQ G env σ s K s'
def mem_of_lookup {α Z:Type}[BEq α][LawfulBEq α]{l:List (α×Z)}{x:α}{c:Z}(h:l.lookup x=some c):(x,c)∈l:=by
 induction l with
 |nil=>simp at h
 |cons p r O =>
  have#[y,b]:=p;rw[rh]at h;split at h
  ·rename_i U;cases h;rw[wq]at U;subst U;show .head _
  ·show .tail _ (O h)
section
variable {G:Stc}{env:Env}{σ σ₁:St}{s:Shared}{h₁:Heap}{tk:Nat}
def Go.wide (x:Go [] σ s σ₁ s₁):Go (envX env) σ s σ₁ s₁:=x.more λ_ h=>(nomatch h)
def qt.back {K:Fl->Fr->St->Prop}{f:Flow}{s':Shared}(x:Go (envX env) σ s σ₁ s₁):qt G env σ₁ s₁ K f s'->qt G env σ s K f s'
 |⟨Z,ρ',σ',a,b,c,d,e⟩=>#[Z,ρ',σ',a,b,c,d,x.trans e]
def tQ.back {K:Fr->St->Prop}{s':Shared}(x:Go (envX env) σ s σ₁ s₁):tQ G env σ₁ s₁ K s'->tQ G env σ s K s'
 |⟨ρ',σ',b,c,d,e⟩=>#[ρ',σ',b,c,d,x.trans e]
def Go.K6 {M:Model}{s₂:Shared}{t:Sem Flow}{K:Fl->Fr->St->Prop}(x:Go (envX env) σ s σ₁ s₁)(h:wpAny M A t (qt G env σ₁ s₁ K) E s₂):wpAny M A t (qt G env σ s K) E s₂:=bg h (λ_ _=>qt.back x) λ_ _ x=>x
def Rel.frame {h':Heap}{a:Addr}{o':Obj}(R:Rel G σ h)(Z:Heap.SameBut a h h')(hd:¬σ.dom a)(hb:G.hb.get? a=none)(U:gy h h'):Rel G σ h':=
 R.same (λb o e d=>by rw[Z.2 b (λhb=>hd (hb▸d))];show e) U λb o e=>by rw[Z.2 b (λh=>by subst h;rw[hb]at e;cases e)];show R.base b o e
def Evo.frame {h':Heap}{a:Addr}{o':Obj}(Z:Heap.SameBut a h h')(J:h'.get? a=some o')(B:a∈X)(O:gy h h'):Evo X σ h σ h':=
 #[λb o e _ U=>by rw[Z.2 b (λhb=>U (hb▸B))];show e,O,λb d=>.inl d,zi Z J]
def kC {names:List (Str×NameKind)}(nd:(names.map (·.1)).Nodup){j:Nat}{k':NameKind}(J:names[i]?=some (x,k))(O:names[j]?=some (x,k')):i=j:=by
 have U:(names.map (·.1))[i]?=some x:=by rw[cu,J];rfl
 have B:(names.map (·.1))[j]?=some x:=by rw[cu,O];rfl
 have Z:i<(names.map (·.1)).length:=(bw.mp U).1;show(List.getElem?_inj Z nd).mp (U.trans B.symm)
abbrev sY (k:NameKind):Bool:=k==.local||k==.cell
abbrev Own (G:Stc)(x:Str)(k:NameKind):Prop:=sY k=true/\(k=.cell->G.cap x=false)
def j6 {v:V}(eo:rv env)(F:FR G σ env ρ s.heap)(R:Rel G σ s.heap)
  (hi:env.scope.names[i]?=some (x,k)) (hk:sY k=true) (hN:∀c,env.cells.lookup x=some c->k=.cell->G.hb.get? c=none) (vr:VR G s.heap v w) (ca:env.locals∈X) (cb:∀c,env.cells.lookup x=some c->k=.cell->c∈X)
  (q:∀s',FR G σ env (upd ρ i v) s'.heap->Rel G σ s'.heap->Go X σ s σ s'->Q () s'):wpAny G.M A (storeName env x w) Q E s:=by
 have J:env.kindOf x=some k:=vo eo.nd hi;cases k with
 | «local» =>
  have#[m,hn,hm]:=F.ns;apply wpAny_storeName_local J hn (λh' ao O=>?_) (by rw[eo.kind];rfl);have hf:gy s.heap h':=wc O F.notfrz;have#[o',cd,ck,ai,ar,_]:=id ao;have R':=R.frame (o':=o') O F.loc F.new hf;apply q _ #[#[_,ao,λj y U=>?_],λj y k' U B=>?_,F.inj,F.loc,λo e=>?_,F.new,λp hp=>by have#[o,e]:=F.allc p hp;show zi O ai _ o e] R' #[Evo.frame O ai ca hf,rfl,rfl]
  ·by_cases Z:j=i
   ·subst Z;rw[hi]at U;cases U;simp only[br,ym];show vr.mono hf
   ·have bn:y≠x:=λe=>Z (by subst e;show kC eo.nd U hi);simp only[cv Z,bn,kh];show(hm j y U).mono hf
  ·have#[c,w',h1,#[oc,ag,hd],h3,h4,h5,h6]:=F.cells j y k' U B;have Z:j≠i:=λe=>by
    subst e;rw[hi]at U;cases U;rcases B with h|h<;>cases h
   apply#[c,w',h1,#[oc,by rw[O.2 c h5];show ag,hd],?_,h4,h5,h6];rw[cv Z];show h3.mono hf
  ·rw[ai]at e;cases e;show tu ar
 |cell =>
  have#[c,cc,hc,aa,o,h4,h5,h6]:=F.cells i x _ hi (.inl rfl);have h7:=hN c hc rfl;apply wpAny_storeName_cell eo.kind J hc aa λh' bb O=>?_;have#[oc,ag,hd]:=id aa;have#[bl,ab,ar]:=id bb;have hf:gy s.heap h':=wc O λo e=>by rw[ag]at e;cases e;show vG hd
  have R':=R.frame (o':=bl) O h4 h7 hf;have hX:c∈X:=cb c hc rfl;have#[m,#[o2,es,ep,bu,r2],hm]:=F.ns;apply q _ #[#[m,#[o2,es,ep,by rw[O.2 _ h5.symm];show bu,r2],λj y U=>?_],λj y k' U B=>?_,F.inj,F.loc,λo e=>?_,F.new,λp hp=>by have#[o,e]:=F.allc p hp;show zi O ab _ o e] R' #[Evo.frame O ab hX hf,rfl,rfl]
  ·have Z:j≠i:=λe=>by subst e;rw[hi]at U;cases U
   rw[cv Z];show(hm j y U).mono hf
  ·have#[c2,w2,g1,#[be,bd,gd],g3,g4,g5,g6]:=F.cells j y k' U B;by_cases Z:j=i
   ·clear q;subst Z;rw[hi]at U;cases U;rw[hc]at g1;cases g1;apply#[c,some w,hc,bb,by rw[br];show vr.mono hf,h4,h5,h6]
   ·have bv:c2≠c:=λe=>by subst e;show Z (F.inj j i y x k' _ c2 U hi B (.inl rfl) g1 hc)
    apply#[c2,w2,g1,#[be,by rw[O.2 _ bv];show bd,gd],?_,g4,g5,g6];rw[cv Z];show g3.mono hf
  ·rw[O.2 _ h5.symm]at e;show F.notfrz o e
 |_=>cases hk
def MO (F:FR G σ env ρ h)(hi:env.scope.names[i]?=some (x,k))(hk:Own G x k):∀c,env.cells.lookup x=some c->k=.cell->G.hb.get? c=none:=λc O e=>by
 have#[B,U,Z,_,_,_,_,J]:=F.cells i x _ hi (.inl e);rw[O]at Z;cases Z;show J (hk.2 e)
def j7 {v:V}(eo:rv env)(F:FR G σ env ρ s.heap)(R:Rel G σ s.heap)
  (O:env.scope.names[i]?=some (x,k)) (hk:Own G x k) (vr:VR G s.heap v w) (Z:env.locals∈X) (U:∀c,env.cells.lookup x=some c->c∈X)
  (q:∀s',FR G σ env (upd ρ i v) s'.heap->Rel G σ s'.heap->Go X σ s σ s'->Q () s'):wpAny G.M A (storeName env x w) Q E s:=
 j6 eo F R O hk.1 (MO F O hk) vr Z (λc J _=>U c J) q
def xw {v:V}(eo:rv env)(F:FR G σ env ρ s.heap)(R:Rel G σ s.heap)
  (Z:env.scope.names[i]?=some (x,k)) (hk:Own G x k) (vr:VR G s.heap v w)
  (q:∀s',FR G σ env (upd ρ i v) s'.heap->Rel G σ s'.heap->Go (envX env) σ s σ s'->Q () s'):wpAny G.M A (storeName env x w) Q E s:=
 j7 eo F R Z hk vr (.head _) (λc U=>.tail _ (cj.mpr #[(x,c),mem_of_lookup U,rfl])) q
end
variable {xs:List Stmt}{pos:Pos}{x:Expr}
abbrev yr (G:Stc)(C:Cal)(sc:Scope)(d:Nat)(st:Stm)(x:Stmt):Prop:=
 ∀⦃A E env ρ σ K s⦄,Cx G sc d A env ρ σ s->wpS C st ρ σ K->wpAny G.M A (exec x env) (qt G env σ s K) E s
abbrev nv (G:Stc)(C:Cal)(sc:Scope)(d:Nat)(st:jo)(xs:List Stmt):Prop:=
 ∀⦃A E env ρ σ K s⦄,Cx G sc d A env ρ σ s->dk C st ρ σ K->wpAny G.M A (execs xs env) (qt G env σ s K) E s
section
variable {G:Stc}{C:Cal}{sc:Scope}{d:Nat}
def qt.here {env:Env}{σ:St}{s:Shared}{tk:Nat}{K:Fl->Fr->St->Prop}{Z:Fl}{f:Flow}{ρ:Fr}(a:FlR G s.heap Z f)(q:K Z ρ σ)(F:FR G σ env ρ s.heap)(R:Rel G σ s.heap):qt G env σ s K f {s with toks:=tk}:=
 #[Z,ρ,σ,a,q,F,R,Go.refl.tok]
def qt.dE {A:Around}{env:Env}{σ:St}{s:Shared}{K:Fl->Fr->St->Prop}{Z:Fl}{f:Flow}{ρ:Fr}(a:FlR G s.heap Z f)(q:K Z ρ σ)(c:Cx G sc d A env ρ σ s):qt G env σ s K f s:=
 #[Z,ρ,σ,a,q,c.F,c.R,.refl]
def DP:nv G C sc d .nil []:=λ_ _ _ _ _ _ _ c h=>wpAny_execs_nil (qt.dE .next h c)
def zD {st:Stm}{r:jo}{x:Stmt}(h₁:yr G C sc d st x)(Z:nv G C sc d r xs):nv G C sc d (.cons st r) (x::xs):=λ_ _ _ _ _ _ _ c h =>
 mj (bg (h₁ c h) (λf s' l=>by
  have#[J,ρ',σ',a,q,O,U,x']:=l;cases a with
  |next=>show x'.K6 (Z (c.at O U) q)
  |brk=>refine#[.brk,ρ',σ',.brk,q,O,U,x']
  |cont=>refine#[.cont,ρ',σ',.cont,q,O,U,x']
  |ret v=>refine#[_,ρ',σ',.ret v,q,O,U,x']) λ_ _ x=>x)
def GI:yr G C sc d .pass (.Pass pos):=λ_ _ _ _ _ _ _ c h=>wpAny_Pass (qt.dE .next h c)
def M8:yr G C sc d .brk (.Break pos):=λ_ _ _ _ _ _ _ c h=>by
 show wpAny G.M _ (do standAt pos;pure Flow.brk) _ _ _;show af (fw (ah (qt.dE .brk h c)))
def GY:yr G C sc d .cont (.Continue pos):=λ_ _ _ _ _ _ _ c h=>by
 show wpAny G.M _ (do standAt pos;pure Flow.cont) _ _ _;show af (fw (ah (qt.dE .cont h c)))
def GV {x:Stmt}:yr G C sc d .dead x:=λ_ _ _ _ _ _ _ c h=>h.elim
def DL:dw G C sc d .dead x:=λ_ _ _ _ _ _ _ c h=>h.elim
def DK:oq G C sc d .dead x:=λ_ _ _ _ _ _ _ c h=>h.elim
def LV {e:Ex}(Z:dw G C sc d e x):yr G C sc d (.ret e) (.Return (some x) pos):=λ_ _ _ _ _ _ _ c h =>
 nG (nr (Z c h) λv σ₁ s₁ w q vr r x=>#[.ret v,_,σ₁,.ret vr,q,c.F.evo x.e,r,x.wide])
def GF:yr G C sc d (.ret .none) (.Return none pos):=λ_ _ _ _ _ _ _ c h =>
 wpAny_Return_none (qt.dE (.ret .none) h c)
abbrev zo (x:Expr):Bool:=!(fA 8 x||(fA 9 x||fA 10 x))
def fH {e:Expr}(h:zo e=true)(t:Option Expr)(n:Nat)(env:Env):swapsWith e t n env=pure false:=by
 cases e<;>first|rfl|show Bool.noConfusion h
def GS {e:Ex}(Z:dw G C sc d e x)(U:zo x=true):yr G C sc d (.expr e) (.Expr x pos):=λ_ _ _ _ _ _ _ c h =>
 wpAny_Expr (nr (Z c h) λv σ₁ s₁ w q vr r x=>by
  have#[rfl,q]:=q;have rfl:=vr;apply#[.next,_,σ₁,.next,q,c.F.evo x.e,r,x.wide]) (by unfold interactive;rw[c.eo.kind];rfl) (fH U _ _ _)
def GZ {c:Ex}{t e:jo}{ys:List Stmt}(O:oq G C sc d c x)(Z:nv G C sc d t xs)(U:nv G C sc d e ys):yr G C sc d (.C c t e) (.If x xs ys pos):=λ_ _ _ _ _ _ _ c h =>
 wpAny_If (nN (O c h) λb σ₁ s₁ q r x=>by
  cases b with
  |true=>show x.wide.K6 (Z (c.go r x) q)
  |false=>show x.wide.K6 (U (c.go r x) q))
def GQ {c:Ex}{b:jo}(hc:oq G C sc d c x)(hb:nv G C sc d b xs):yr G C sc d (.loop c b) (.While x xs [] pos):=λA E env ρ σ K s cx h=>by
 have#[n,h]:=h;apply wpAny_While (codeAny_whileLoop (λn s'=>∃ρ' σ',C9 (λagain ρ σ=>wpT C c ρ σ λt σ=>if t then dk C b ρ σ (yt again K) else K .next ρ σ) n ρ' σ'/\FR G σ' env ρ' s'.heap/\Rel G σ' s'.heap/\Go (envX env) σ s σ' s') ?_ n #[ρ,σ,h,cx.F,cx.R,.refl]);intro n s' z;have#[ρ',σ',hl,F',R',x']:=z;cases n with
 |zero=>show hl.elim
 |succ n =>
  apply nN (hc (cx.at (A:=_) F' R') hl) λt σ₁ s₁ q r y=>?_;cases t with
  |false=>show wpAny_execs_nil #[.next,ρ',σ₁,.next,q,F'.evo y.e,r,x'.trans y.wide]
  |true =>
   apply bg (hb ((cx.at F' R').go r y) q) (λf s₂ l=>?_) λ_ _ x=>x;have#[fl,Z,σ₂,a,U,J,O,B]:=l;have x3:=x'.trans (y.wide.trans B);cases a with
   |next=>refine#[n,nj n,Z,σ₂,U,J,O,x3]
   |cont=>refine#[n,nj n,Z,σ₂,U,J,O,x3]
   |brk=>refine#[.next,Z,σ₂,.next,U,J,O,x3]
   |ret v=>refine#[_,Z,σ₂,.ret v,U,J,O,x3]
end
end MP
end
section
set_option tactic.hygienic true
namespace MP
open PySem PyProof.Rows
variable {σ:St}{h h':Heap}{i:Nat}{pos:Pos}{A:Around}{E:QqV}{s:Shared}{Q:Unit->Shared->Prop}{items:Array Value}{vs:List V}{env:Env}
abbrev LU (G:Stc)(env:Env)(σ:St)(s:Shared)(K:Fr->St->Prop):Unit->Shared->Prop:=λ_ s'=>tQ G env σ s K s'
abbrev mJ (G:Stc)(C:Cal)(sc:Scope)(d:Nat)(t:Tgt)(x:Expr):Prop:=
 ∀⦃A E env ρ σ K s v w⦄,Cx G sc d A env ρ σ s->VR G s.heap v w->OP C t v ρ σ K->wpAny G.M A (assign x env w) (LU G env σ s K) E s
section
variable {G:Stc}{C:Cal}{sc:Scope}{d:Nat}
def Rel.keeps (R:Rel G σ h)(hk:∀b o,h.get? b=some o->h'.get? b=some o):Rel G σ h':=R.same (λb o e _=>hk b o e) (λb o e _=>hk b o e) λb o e=>hk b o (R.base b o e)
def Evo.keeps {X:List Addr}(hk:∀b o,h.get? b=some o->h'.get? b=some o):Evo X σ h σ h':=#[λb o e _ _=>hk b o e,λb o e _=>hk b o e,λb d=>.inl d,λb o e=>#[o,hk b o e]]
def lY (x:Heap.ExtBut h.objs.size h h'):∀b o,h.get? b=some o->h'.get? b=some o:=λb o e=>x b o (gm (fj e)) e
def BE {x:Str}{k:NameKind}(Z:sc.names[i]?=some (x,k))(hk:Own G x k):mJ G C sc d (.v i) (.Name x pos):=λ_ _ _ _ _ _ _ _ _ c vr h =>
 assign_Name (xw c.eo c.F c.R (by rw[c.es];show Z) hk vr λs' O U x=>#[_,_,h,O,U,x])
def wI {a dd:Addr}{f:Nat->Option V}{name:Str}{u:V}{w:Value}(K:GOk G)(R:Rel G σ s.heap)(hI:σ.I a=some (dd,f))(hn:G.attrs[i]?=some name)(vr:VR G s.heap u w)
  (k:∀s',Rel G (σ.jw a dd (upd f i u)) s'.heap->Go [] σ s (σ.jw a dd (upd f i u)) s'->Q () s'):wpAny G.M A (setAttr (.ref a) name w) Q E s:=by
 have#[N,mN,X,dz,dy,cn,bn]:=K.cls;have I:=R.I a dd f hI;have#[m,hm,hv,ab]:=I.ns;have#[hh,g,dr,t,os]:=s;have#[nm,q,bs,sn,sub,ea,d2,k0,k1,k2,k3,k5,hC]:=(X.keeps R.base).obj;have O:=dq hn;have cl:a≠G.cS:=by
  rintro rfl;have#[_,_,_,_,_,_,_,_,_,_,_,_,df]:=X.obj;have:=R.new _ (.inr (.inr (.inr (.inl (by rw[hI];rfl)))));rw[df]at this;cases this
 have hw:Within m G.attrs:=λy hy=>by
  by_cases h:y∈G.attrs
  ·show h
  ·show absurd (ab y h) hy
 apply store_attr PySem.F.store_object hC (X.keeps R.base).ns cn (bn name O).1 (bn name O).2 cl (I.inst hm) (λh' dn I' hk ai=>?_) hw (fm K.len (by decide));have#[o,ho,hc,hd,ct]:=I.here;have#[aa,e₁,ag,J,U,bb]:=ai o ho;have eo:aa=o:=by
  have#[oc,od,dx,dv]:=o;have#[cd,cb,ca,bv]:=aa;simp only at ag J U hd;subst ag;subst J;subst U;have:=bb dd hd;simp only at this;rw[hd,this]
 subst eo;have Z:h'.Ns1 dd (λy=>if y=name then some w else m y):=by
  have#[o',e',_,_,ar]:=I';have rfl:=ak (e₁.symm.trans e');rcases ar with ⟨be,_⟩|⟨d',ar,_,Z⟩
  ·rw[hd]at be;cases be
  ·have rfl:=ak (hd.symm.trans ar);show Z
 have B:At dd hh h':=by
  have#[od,es,ep,cp,da,_]:=hm;have#[cc,dL,dV,bd,_]:=Z;apply#[λb ob hb e=>?_,#[cc,bd],λo' e=>?_]
  ·by_cases bl:b=a
   ·subst bl;rw[ho]at e;cases e;show e₁
   ·show hk b ob bl (λdm d' bu ed=>by
     clear hk;have rfl:=ak (ho.symm.trans bu);have rfl:=ak (hd.symm.trans ed);show hb) e
  ·have rfl:=ak (cp.symm.trans e);show tu da
 have dc:gA G h' a dd (upd f i u):=by
  apply#[#[_,e₁,hc,hd,ct],#[_,Z,λj y hj=>?_,λy hy=>?_],I.ne]
  ·by_cases ao:j=i
   ·clear I;subst ao;rw[hn]at hj;cases hj;simp only[br,ym];show vr.mono B.frz
   ·have ck:y≠name:=λe=>by
     subst e;have cx:j<G.attrs.length:=(bw.mp hj).1;show ao ((List.getElem?_inj cx K.nd).mp (hj.trans hn.symm))
    simp only[cv ao,ck,kh];show(hv j y hj).mono B.frz
  ·have:y≠name:=λe=>hy (e▸O);simp only[this,kh];show ab y hy
 show k _ (R.QU hI B dc) #[Evo.QU _ hI B,rfl,rfl]
def FZ {o:Ex}{x:Expr}{name:Str}(K:GOk G)(O:dw G C sc d o x)(J:G.attrs[i]?=some name):mJ G C sc d (.attr o i) (.Attribute x name pos):=λ_ _ _ _ _ _ _ _ _ c vr h=>by
 rw[assign_Attribute];apply af (cg (nr (O c h) λu σ₁ s₁ U q Z r x=>?_));have#[a,dd,f,rfl,B,q]:=q;have rfl:=Z;apply af (fw (af (cg (wI K r B J (vr.mono x.frz) λs' R' x'=>wpAny_release ?_))));apply#[_,_,q,(c.F.evo x.e).evo x'.e,R',(x.trans x').wide]
def tG {it l:Addr}(ai:l≠it):∀(n i:Nat) (s:Shared) (Q:List Value->Shared->Prop),s.heap.IsListIter it l i->s.heap.IsList l items->i+n<=items.size ->
  (∀h',h'.IsListIter it l (i+n)->Heap.SameBut it s.heap h'->Q ((items.toList.drop i).take n) {s with heap:=h'})->wpAny G.M A (draw (.ref it) n) Q E s
 |0=>λi s Q hit hl hn hQ=>by
  dsimp only[draw];show ah (by simpa using hQ s.heap hit (.refl ..))
 |n+1=>λi s Q hit hl hn hQ=>by
  dsimp only[draw];have hx:items[i]?=some items[i]:=gh (ek .B .a (.k .aA .B) hn);apply af (wpAny_pyNext_list_item hit hl hx λh₁ J U=>?_);have ab:h₁.IsList l items:=by have#[o,ho,r]:=hl;apply#[o,by rw[U.2 l ai];show ho,r]
  apply af (cg (tG ai n (i+1) _ _ J ab (ek .b1 .a .T hn) λag O aa=>ah ?_));have hd:items.toList.drop i=items[i]::items.toList.drop (i+1):=by
   rw[jy (by simpa using (by(show ek .B .a (.k .aA .B) hn):i<items.size))];simp
  have:=hQ ag (by rw[show i+(n+1)=i+1+n by(show vi (.e .a8 .Z) .n)];show O) (U.trans aa);rw[hd,List.take_succ_cons]at this;show this
def nK {t:Addr}{Q:List Value->Shared->Prop}(hh:A.handled=none)(ht:s.heap.IsList t items)
  (hQ:∀h',Heap.ExtBut s.heap.objs.size s.heap h'->Q items.toList {s with heap:=h'}):wpAny G.M A (unpackItems (.ref t) items.size none) Q E s:=by
 have aa:t≠s.heap.objs.size:=by have#[o,ho,_]:=ht;show gm (fj ho)
 unfold unpackItems;apply af ?_
 ·unfold notIterableAtAll;apply af (ud ht.typeIs slot_list_iter.lookup ?_);apply ah ?_;simp only[dt,kh];apply af (cg (nE ht ?_));have hp:(s.heap.push {cls:=.type "list_iterator",data:=.fields #v[.ref t,.int 0 0]}).IsList t items:=by have#[o,ho,r]:=ht;apply#[o,aw _ ho,r]
  apply af (cg (tG aa items.size 0 _ _ #[_,cf _ rfl,rfl,rfl] hp (jf (.k .a9 .A) .f) λh₁ U Z=>?_));have ab:List.take items.size (List.drop 0 items.toList)=items.toList:=by
   rw[gN];show List.take_of_length_le (by simp)
  rw[ab];rw[ay (by simp)];have O:h₁.IsList t items:=by have#[o,ho,r]:=hp;apply#[o,by rw[Z.2 t aa];show ho,r]
  apply af (cg (wpAny_pyNext_list_end hh U O (by simp) λB J=>?_));simp only[wt,dt,kh];apply ah (hQ B λb o hb e=>J b o hb (Z.extBut b o hb (aw _ e)))
abbrev FE (G:Stc):Prop:=∀(A:Around) (E:QqV) (s:Shared) (t:Addr) (ws:List Value) (n:Nat) (dd:Option Addr) (Q:List Value->Shared->Prop),A.handled=none->(∀b o,G.hb.get? b=some o->s.heap.get? b=some o) ->
 s.heap.get? t=some {cls:=.ref G.cM,dict:=dd,data:=.seq ws.toArray n,slots:=#v[]} ->
 (∀h',Heap.ExtBut s.heap.objs.size s.heap h'->Q ws {s with heap:=h'})->wpAny G.M A (unpackItems (.ref t) ws.length none) Q E s
def wm {A:Around}{E:QqV}{v:V}{w:Value}{Q:List Value->Shared->Prop}(U:FE G)(Z:A.handled=none)(R:Rel G σ s.heap)(vr:VR G s.heap v w)(e:L9 v σ=some vs)
  (k:∀ws h',VRs G h' vs ws->Rel G σ h'->(∀b o,s.heap.get? b=some o->h'.get? b=some o)->Q ws {s with heap:=h'}):wpAny G.M A (unpackItems w vs.length none) Q E s:=by
 have fin:∀ws h',VRs G s.heap vs ws->Heap.ExtBut s.heap.objs.size s.heap h'->Q ws {s with heap:=h'}:=λws h' r x =>
  k ws h' (r.mono λb o e _=>lY x b o e) (R.keeps (lY x)) (lY x)
 clear k;cases v
 case L =>
  have rfl:=vr;have#[ws,n,hl,O]:=R.L _ _ e;have:=nK (G:=G) (A:=A) (E:=E) (Q:=Q) Z hl.isList λh' x=>fin ws h' O x;rw[cy,<- O.length]at this;show this
 case T =>
  have#[a,ws,n,rfl,g,r]:=vr;have rfl:=ak e;have:=PyProof.Rows.unpackItems_tuple (prog:=G.prog) (w:=G.w) (A:=A) (E:=E) (Q:=Q) Z #[_,g,rfl,_,rfl] λh' x=>fin _ h' r x;rw[cy,<- r.length]at this;show this
 case mt =>
  have#[a,ws,n,dd,rfl,g,r]:=vr;have rfl:=ak e;have:=U A E s _ _ _ _ Q Z R.base g λh' x=>fin _ h' r x;rw[<- r.length]at this;show this
 all_goals show je e
def any_some {α:Type}{a:Option α}{f:α->Bool}(h:a.any f=true):∃x,a=some x/\f x=true:=by
 cases a with
 |none=>show Bool.noConfusion h
 |some x=>refine#[x,rfl,h]
abbrev yf (sc:Scope)(i:Nat):Str:=(sc.names[i]?.map (·.1)).getD ""
abbrev kindAt (k:NameKind->Bool)(sc:Scope)(i:Nat):Bool:=sc.names[i]?.any λy=>k y.2&&jg y.1
def hV {p:NameKind->Bool}(h:kindAt p sc i=true):∃k,sc.names[i]?=some (yf sc i,k)/\p k=true/\jg (yf sc i)=true:=by
 have#[y,e,h]:=any_some h;have Z:yf sc i=y.1:=by unfold yf;rw[e];rfl
 apply#[y.2,Z▸e,(band h).1,Z▸(band h).2]
abbrev sy (sc:Scope):List Nat->List Expr->List Expr
 | []=>λ_=>[]
 |i::is=>λl=>.Name (yf sc i) (l.headD default).pos::sy sc is l.tail
abbrev ownAt (cap:Str->Bool)(sc:Scope)(i:Nat):Bool:=kindAt sY sc i&&(kindAt (·==.local) sc i||!cap (yf sc i))
def zL {G:Stc}{sc:Scope}(h:ownAt G.cap sc i=true):∃k,sc.names[i]?=some (yf sc i,k)/\Own G (yf sc i) k/\jg (yf sc i)=true:=by
 have#[k,Z,O,U]:=hV (band h).1;apply#[k,Z,#[O,λe=>?_],U];rcases sr .. |>.mp (band h).2 with q|q
 ·have#[k',e1,e2,_]:=hV q;rw[Z]at e1;cases e1;rw[e]at e2;cases e2
 ·show(fg _).mp q
abbrev uD (cap:Str->Bool)(sc:Scope)(is:List Nat):Bool:=is.all (ownAt cap sc)
def lU:(is:List Nat)->(l:List Expr)->(assignEach (sy sc is l) env).length=is.length
 | []=>λ_=>rfl
 |_::is=>λl=>bz (·+1) (lU is l.tail)
def jE {env:Env}:(is:List Nat)->(l:List Expr)->(assignEach (sy sc is l) env).findIdx? (·.1)=none
 | []=>λ_=>rfl
 |_::is=>λl=>by
  have e:=jE (env:=env) is l.tail;show List.findIdx? _ ((false,_)::assignEach (sy sc is l.tail) env)=none;rw[List.findIdx?_cons,e];rfl
abbrev BG (elts:List Expr):List Str:=elts.filterMap λx=>bif fA 23 x then some (md x) else none
def mS {X:List Addr}(Z:env.scope=sc)(eo:rv env)(U:env.locals∈X)(is:List Nat)(l:List Expr){ws:List Value}{ρ:Fr}(O:uD G.cap sc is=true)(hl:is.length=vs.length)(J:∀y∈BG (sy sc is l),∀c,env.cells.lookup y=some c->c∈X)
  (F:FR G σ env ρ s.heap) (R:Rel G σ s.heap) (vr:VRs G s.heap vs ws) (k:∀s',FR G σ env (ez is vs ρ) s'.heap->Rel G σ s'.heap->Go X σ s σ s'->Q () s') :
  wpAny G.M A (assignInOrder ((assignEach (sy sc is l) env).map (·.2)) ws) Q E s:=by
 induction is generalizing l vs ws ρ s with
 |nil=>show ah (k s F R .refl)
 |cons i is ih =>
  cases vs with
  |nil=>show nomatch hl
  |cons v vs =>
  have#[w,us,e,B,vr]:=vr;subst e;have#[kk,hi,hk,_]:=zL (band O).1;show wpAny G.M A (do holding us (assign (.Name (yf sc i) (l.headD default).pos) env w);assignInOrder ((assignEach (sy sc is l.tail) env).map (·.2)) us) Q E s;apply af (cg (assign_Name (j7 eo F R (by rw[Z];show hi) hk B U (J _ (.head _)) λs' F' R' x'=>?_)));show ih l.tail (band O).2 (um hl) (λy hy=>J y (.tail _ hy)) F' R' (vr.mono x'.frz) λs2 F2 R2 x2=>k s2 F2 R2 (x'.trans x2)
def z7 (Z:env.scope=sc)(eo:rv env){is:List Nat}{l:List Expr}{ws:List Value}{ρ:Fr}(J:uD G.cap sc is=true)(O:is.length=vs.length)
  (F:FR G σ env ρ s.heap) (R:Rel G σ s.heap) (vr:VRs G s.heap vs ws) (k:∀s',FR G σ env (ez is vs ρ) s'.heap->Rel G σ s'.heap->Go (envX env) σ s σ s'->Q () s') :
  wpAny G.M A (assignInOrder ((assignEach (sy sc is l) env).map (·.2)) ws) Q E s:=
 mS Z eo (.head _) is l J O (λy _ c U=>.tail _ (cj.mpr #[(y,c),mem_of_lookup U,rfl])) F R vr k
def LG {is:List Nat}{l:List Expr}{k:Nat}(U:FE G)(O:uD G.cap sc is=true):mJ G C sc d (.T is) (.Tuple (sy sc is l) k pos):=λ_ _ _ _ _ _ _ _ _ c vr h=>by
 have#[vs,e,hl,q]:=h;rw[assign_Tuple];apply af (fw ?_);unfold unpack;rw[lU,jE,hl];apply af (cg (wm U c.ao.handled c.R vr e λws h' Z B hk=>?_));apply z7 c.es c.eo O hl (c.F.evo (Evo.keeps hk)) B Z λs2 F2 J x2=>?_;apply#[_,_,q,F2,J,#[(Evo.keeps hk).trans x2.e,x2.g,x2.o]]
def wR {prog:Program}{w:World}{l:Addr}{n:Nat}{k:Int}{t:Tok}{v:Value}(hl:IsL s.heap l items n)(h0:0<=ee items.size k)(U:ee items.size k<items.size)(hz:items.size<2^62)
  (hQ:Q () {s with heap:=s.heap.update l (Obj.mapSeq (·.setIfInBounds (ee items.size k).toNat v))}):wpAny (model prog w) A (setItem (.ref l) (.int k t) v) Q E s:=by
 unfold setItem
 try with_reducible refine cg ?_
 first|refine af (ah ?_)|skip
 apply af (wpAny_sequenceKey hl.isList.typeIs (by decide) ?_);apply af (jt (name:=Str.ofString "__setitem__") hl.isList.typeIs slot_list_setitem (gj slot_list_setitem hl.isList.typeIs entry_list_setitem ?_ (args_list_setitem _ _ _)));show wpAny _ _ (Builtin.List.listSubscript? (.int k t)>>=_) _ _ s;have hb:-(2^63)<=k/\k<2^63:=by
  unfold ee at h0 U;split at h0<;>(first|(rename_i z1;show⟨(dQ .bP .b (.l .A (.n (2^62))) (.ik .O (.a .A .L)) hz h0),(qd .cQ .a (.il .A .O) z1)⟩)|omega)
 apply af (wpAny_listSubscript_int (fitsIndex_both hb.1 hb.2) ?_);clear hb;have J:seqIndex? k items.size=some (ee items.size k).toNat:=bx ((dg _ _).mpr #[dp h0,dp U]);have hx:items[(ee items.size k).toNat]?=some items[(ee items.size k).toNat]:=gh ((Ar.ton _).elim (λZ=>(yO .B .b (.il .A .M) .cK U Z.2)) λZ=>(Q1 .B .e .aR (.il .A .M) .M h0 U Z.2));cases k with
 |ofNat j =>
  have e:(ee items.size (Int.ofNat j)).toNat=j:=by
   unfold ee;rw[ay (Int.not_lt.mpr (xf j))];rfl
  have hj:j<items.size:=by(show(Ar.ton _).elim (λZ=>(VC .B .q (.il .A .M) .cA (.ie .R .A) U e Z.2)) λZ=>(Q0 .B .u .aR (.il .A .M) .cA .a0 h0 U e Z.2))
  have aa:items[j]?=some items[j]:=gh hj;clear hx;rw[e]at hQ;show wpAny _ _ ((seqItemAt l j>>=λr=>pure (r.map (j,·)))>>=_) _ _ s;apply af (af (wpAny_seqItemAt hl rfl (ah ?_)));rw[aa];show wpAny _ _ (setSeqItemAt l j v>>=_) _ _ s;apply af (wpAny_setSeqItemAt hl rfl ?_)
  first
   |show af (ah (ah ⟨.none,rfl,ah hQ⟩))
   |show ah ⟨.none,rfl,ah hQ⟩
 |negSucc j =>
 show wpAny _ _ ((Builtin.List.listItems (.ref l)>>=λxs=>pure ((seqIndex? (Int.negSucc j) xs.size).bind λi=>xs[i]?.map (i,·)))>>=_) _ _ s;apply af (af ?_);show wpAny _ _ (seqItems? (.ref l)>>=_) _ _ s;apply af (mx hl rfl (ah (ah ?_)));rw[J];simp only[Option.bind_some,hx,Option.map_some];show wpAny _ _ (setSeqItemAt l _ v>>=_) _ _ s;apply af (wpAny_setSeqItemAt hl rfl ?_)
 first
  |show af (ah (ah ⟨.none,rfl,ah hQ⟩))
  |show ah ⟨.none,rfl,ah hQ⟩
def VRs.set:∀{vs:List V} {ws:List Value} (n:Nat) {v:V} {w:Value},VRs G h vs ws->VR G h v w->VRs G h (vs.set n v) (ws.set n w)
 | [],_,n,_,_,e,_=>by subst e;show .nil
 |_::_,_,0,_,_,⟨_,_,e,_,r⟩,q=>by subst e;show .cons q r
 |_::_,_,n+1,_,_,⟨_,_,e,a,r⟩,q=>by subst e;show .cons a (VRs.set n r q)
def LH {o i:Ex}{x y:Expr}(ho:dw G C sc d o x)(hi:dw G C sc d i y):mJ G C sc d (.sub o i) (.Subscript x y pos):=λA E env ρ σ K s v w c vr h=>by
 rw[arm_assign_Subscript];apply af (cg (nr (ho c h) λu σ₁ s₁ bd q J r x=>?_));apply af (cg (nr (hi (c.go r x) q) λj σ₂ s₂ bb Z O r₂ U=>?_));apply af (fw (af (cg ?_)));have ab:=(vr.mono x.frz).mono U.frz;unfold gP at Z;cases eu:jR u with
 |some a =>
  rw[eu]at Z;have rfl:=gR eu;have rfl:=J;have#[i,rfl,xs,e,h0,h1,Z]:=rn (v:=j) Z;have#[t,rfl]:=O;have#[ws,n,hl,hv]:=r₂.L _ _ e;have hz:=r₂.Ll _ _ e;have ag:=hv.length;have aa:ws.toArray.size=xs.length:=by rw[cy,ag]
  apply wR hl (by rw[aa];show h0) (by rw[aa];show h1) (by rw[aa];unfold bq at hz;(show ef (.l .A (.n (2^62))) .a .bQ hz)) (wpAny_release ?_);rw[aa];have#[R',x']:=FQ r₂ e hl (hv.set (ee xs.length i).toNat ab) (by rw[List.length_set];show hz) (f:=λa=>a.setIfInBounds (ee xs.length i).toNat w) (by simp);apply#[_,_,Z,((c.F.evo x.e).evo U.e).evo x',R',((x.trans U).to x').wide]
 |none =>
 rw[eu]at Z;have#[a,rfl,be,kk,e,ai,hz,Z]:=eA (v:=u) Z;have rfl:=J;have#[ds,hd,hv]:=r₂.D _ _ e;apply wpAny_setItem_pairs (key_is ai O) hd (λh' ar ao=>wpAny_release ?_) (by rw[<- hv.length];show qi (bt .A .a .B hz));have#[R',x']:=Q9 r₂ e ao ar (hv.put ab) (fm (mW _ _ _) (bt .H .a .B hz));apply#[_,_,Z,((c.F.evo x.e).evo U.e).evo x',R',((x.trans U).to x').wide]
end
variable {x value:Expr}{targets xs:List Expr}{env:Env}
abbrev xp (sc:Scope)(ts:List Expr):List Str:=ts.filterMap λ
 |.Name id pos=>if sc.names.lookup id==some .local&&pos.line==(ts.head?.map (·.pos.line)).getD 0 then some id else none
 |_=>none
abbrev QC (x:Expr):Option (Option (List Expr)):=bif fA 25 x then some (some (kids x)) else bif fA 24 x then none else some none
abbrev tgK:List Expr->Option (Option (List Expr))
 | []=>some none
 |x::r=>bif r.isEmpty then QC x else some none
abbrev tupK (x:Expr):Option (List Expr):=bif fA 25 x then some (kids x) else none
abbrev TL (sc:Scope)(ts vs:List Expr):Option (Option (List Str)):=
 bif !(ts.length==2||ts.length==3)||vs.length != ts.length then some none
 else bif vs.any isStar then some none
 else bif (xp sc ts).length != ts.length||(xp sc ts).eraseDups.length != (xp sc ts).length then some none
 else bif vs.all (foldedForSure 8) then some none
 else bif vs.all (constantsAlone 8) then none
 else some (some (xp sc ts))
abbrev swp (sc:Scope)(targets:List Expr)(value:Expr):Option (Option (List Str)):=
 (tgK targets).bind λo=>o.elim (some none) λts=>(tupK value).elim (some none) (TL sc ts)
def lM (h:fA 25 x=true):∃es k p,x=.Tuple es k p:=Expr.Tuple.elim (motive_1:=λx=>∃es k p,x=.Tuple es k p) x (ze h) λes k p=>#[es,k,p,rfl]
def G3 (h:tgK targets=some none)(value:Expr)(env:Env):swappedStores targets value env=pure none:=by
 cases targets with
 |nil=>rfl
 |cons x r =>
  revert h
  cases x
  case Tuple =>
   cases r with
   |nil=>show λh=>je (ak h).symm
   |cons y r=>show λ_=>(rfl:(pure none:Sem (Option (List Str)))=pure none)
  case List =>
   cases r with
   |nil=>show λh=>je h
   |cons y r=>show λ_=>(rfl:(pure none:Sem (Option (List Str)))=pure none)
  all_goals show λ_=>(rfl:(pure none:Sem (Option (List Str)))=pure none)
def DA {vs:List Expr}(h:tupK value=some vs):∃k p,value=.Tuple vs k p:=by
 unfold tupK at h;cases e:fA 25 value with
 |false=>rw[e]at h;show je h
 |true=>rw[e]at h;have#[es,k,p,rfl]:=lM e;have rfl:=ak h;apply#[k,p,rfl]
def G0 {ts:List Expr}(h:tgK targets=some (some ts)):∃k p,targets=[.Tuple ts k p]:=by
 cases targets with
 |nil=>show je (ak h)
 |cons x r =>
  cases r with
  |nil =>
   have h:QC x=some (some ts):=h;unfold QC at h;cases e:fA 25 x with
   |false =>
    rw[e]at h;cases e2:fA 24 x with
    |false=>rw[e2]at h;show je (ak h)
    |true=>rw[e2]at h;show je h
   |true=>rw[e]at h;have#[es,k,p,rfl]:=lM e;have rfl:=ak (ak h);apply#[_,_,rfl]
  |cons y r=>show je (ak h)
def DB (h:tupK value=none)(ts:List Expr)(k:Nat)(p:Pos)(env:Env):swappedStores [.Tuple ts k p] value env=pure none:=by
 revert h
 cases value
 case Tuple=>show λh=>je h.symm
 all_goals show λ_=>(rfl:(pure none:Sem (Option (List Str)))=pure none)
def kS {α:Type}{b:Bool}{x y:Option (Option α)}{r:Option α}{t u:Sem (Option α)}(h:(bif b then x else y)=some r)(U:x=some r->t=pure r)(Z:y=some r->u=pure r):(if b=true then t else u)=pure r:=by
 cases b with
 |true=>show U h
 |false=>show Z h
def oA {sc:Scope}{r:Option (List Str)}(h:swp sc targets value=some r)(J:env.scope=sc)(hk:env.blockKind=.function):swappedStores targets value env=pure r:=by
 have#[o,U,h]:=eh.mp h;cases o with
 |none=>have rfl:=ak h;show G3 U value env
 |some ts =>
  have#[k,p,rfl]:=G0 U;have h:(tupK value).elim (some none) (TL sc ts)=some r:=h;cases Z:tupK value with
  |none=>rw[Z]at h;have rfl:=ak h;show DB Z ts k p env
  |some vs =>
   rw[Z]at h;have#[k',O,rfl]:=DA Z;subst J;have e:swappedStores [.Tuple ts k p] (.Tuple vs k' O) env=(if (!(ts.length==2||ts.length==3)||vs.length != ts.length||env.blockKind != .function)=true then pure none
    else if vs.any isStar=true then pure none
    else if ((xp env.scope ts).length != ts.length||(xp env.scope ts).eraseDups.length != (xp env.scope ts).length)=true then pure none
    else if vs.all (foldedForSure 8)=true then pure none
    else if vs.all (constantsAlone 8)=true then (do unsupported "assign.tuple-of-constant-expressions:order-of-the-stores";pure (some (xp env.scope ts)))
    else pure (some (xp env.scope ts))):=rfl
   rw[e,hk,show(ScopeKind.function != ScopeKind.function)=false from rfl,jP];show kS h (λh=>ak h▸rfl) λh=>kS h (λh=>ak h▸rfl) λh=>kS h (λh=>ak h▸rfl) λh=>kS h (λh=>ak h▸rfl) λh=>kS h (λh=>je h) λh=>ak h▸rfl
def sv (h:zo value=true)(targets:List Expr)(n:Nat)(env:Env):swapsWithSole targets value n env=pure false:=by
 cases targets with
 |nil=>rfl
 |cons t r =>
  cases r with
  |nil=>show fH h _ _ _
  |cons=>rfl
section
variable {G:Stc}{C:Cal}{sc:Scope}{d:Nat}
inductive iC (G:Stc)(C:Cal)(sc:Scope)(d:Nat):List Tgt->List Expr->Prop
 |nil:iC G C sc d [] []
 |cons {t:Tgt} {x:Expr} {ts:List Tgt} {xs:List Expr}:mJ G C sc d t x->(∀env,assignEach (x::xs) env=(false,assign x env)::assignEach xs env)->iC G C sc d ts xs->iC G C sc d (t::ts) (x::xs)
def BQ {A:Around}{E:QqV}{ts:List Tgt}(O:iC G C sc d ts xs):∀{ρ:Fr} {σ:St} {K:Fr->St->Prop} {s:Shared} {v:V} {w:Value},Cx G sc d A env ρ σ s->VR G s.heap v w ->
  lJ C ts v ρ σ K->wpAny G.M A (assignAll w ((assignEach xs env).map (·.2))) (LU G env σ s K) E s:=by
 induction O with
 |nil=>show λc vr h=>ah #[_,_,h,c.F,c.R,.refl]
 | @cons t x ts xs U B J Z =>
  intro ρ σ K s v w c vr h;rw[B];cases J with
  |nil=>show U c vr h
  |cons a b c' =>
   rw[b env]at Z ⊢;apply af (cg (bg (U c vr h) (λ_ s' l=>?_) λ_ _ x=>x));have#[ρ',σ',q,F',R',x']:=l;show bg (Z (c.at F' R') (vr.mono x'.frz) q) (λ_ _=>tQ.back x') λ_ _ x=>x
def zC {ts:List Tgt}{e:Ex}{pos:Pos}(O:iC G C sc d ts xs)(J:dw G C sc d e x)(B:zo x=true)(U:swp sc xs x=some none):yr G C sc d (.a ts e) (.Assign xs x pos):=λ_ _ _ _ _ _ _ c h=>by
 rw[exec_Assign];apply af (fw ?_);rw[sv B];apply af (ah ?_);rw[ay (by decide)];apply af (nr (J c h) λv σ₁ s₁ w q vr r x=>?_);rw[oA U c.es (by unfold Env.blockKind;rw[c.eo.kind];rfl)];apply af (ah ?_);show wpAny G.M _ (do assignAll w _;pure Flow.next) _ _ _;apply af (bg (BQ O (c.go r x) vr q) (λ_ s' l=>ah ?_) λ_ _ x=>x);have#[ρ',σ',Z,F',R',x']:=l;apply#[.next,ρ',σ',.next,Z,F',R',x.wide.trans x']
def iO:∀(xs:List Nat) (vs:List V) (x:Nat) (v:V) (ρ:Fr),xs.length=vs.length->ez (xs++[x]) (vs++[v]) ρ=upd (ez xs vs ρ) x v
 | [],[],_,_,_,_=>rfl
 | [],_::_,_,_,_,h=>absurd h.symm (zu _)
 |_::_,[],_,_,_,h=>absurd h (zu _)
 |y::xs,u::vs,x,v,ρ,h=>by
  show iO xs vs x v _ (um h)
def FP {α:Type}{f:Nat->Option α}{i j:Nat}{a b:α}(h:i≠j):upd (upd f i a) j b=upd (upd f j b) i a:=by
 funext k
 unfold upd;by_cases U:k=j<;>by_cases Z:k=i<;>simp_all
def oJ:∀(xs:List Nat) (vs:List V) (x:Nat) (v:V) (ρ:Fr),x∉xs->ez xs vs (upd ρ x v)=upd (ez xs vs ρ) x v
 | [],_,_,_,_,_=>rfl
 |_::_,[],_,_,_,_=>rfl
 |y::xs,u::vs,x,v,ρ,h=>by
  show ez xs vs (upd (upd ρ x v) y u)=upd (ez xs vs (upd ρ y u)) x v;have h:=tW h;rw[FP h.1,oJ xs vs x v _ h.2]
def fJ:∀(xs:List Nat) (vs:List V) (ρ:Fr),xs.length=vs.length->xs.Nodup->ez xs.reverse vs.reverse ρ=ez xs vs ρ
 | [],[],_,_,_=>rfl
 | [],_::_,_,h,_=>absurd h.symm (zu _)
 |_::_,[],_,h,_=>absurd h (zu _)
 |x::xs,v::vs,ρ,h,Z=>by
  have Z:=nJ.mp Z;have h:xs.length=vs.length:=um h;rw[iZ,iZ,iO _ _ _ _ _ (by rw[List.length_reverse,List.length_reverse];show h),fJ xs vs ρ h Z.2];show(oJ xs vs x v ρ Z.1).symm
abbrev TV (cap:Str->Bool)(sc:Scope)(is:List Nat)(xs:List Str):Bool:=decide (xs=is.map (yf sc))&&uD cap sc is
def wF {A:Around}{E:QqV}(Z:env.scope=sc)(eo:rv env){σ:St}(is:List Nat){vs:List V}{ws:List Value}{ρ:Fr}{s:Shared}{Q:Unit->Shared->Prop}(U:uD G.cap sc is=true)(hl:is.length=vs.length)
  (F:FR G σ env ρ s.heap) (R:Rel G σ s.heap) (vr:VRs G s.heap vs ws) (k:∀s',FR G σ env (ez is vs ρ) s'.heap->Rel G σ s'.heap->Go (envX env) σ s σ s'->Q () s') :
  wpAny G.M A (assignInOrder ((is.map (yf sc)).map λn=>bindName env n) ws) Q E s:=by
 induction is generalizing vs ws ρ s with
 |nil=>show ah (k s F R .refl)
 |cons i is B =>
  cases vs with
  |nil=>show nomatch hl
  |cons v vs =>
  have#[w,us,e,O,vr]:=vr;subst e;have#[kk,hi,hk,_]:=zL (band U).1;show wpAny G.M A (do holding us (bindName env (yf sc i) w);assignInOrder ((is.map (yf sc)).map λn=>bindName env n) us) Q E s;apply af (cg (wpAny_bindName (xw eo F R (by rw[Z];show hi) hk O λs' F' R' x'=>?_)));show B (band U).2 (um hl) F' R' (vr.mono x'.frz) λJ F2 R2 x2=>k J F2 R2 (x'.trans x2)
def snd_swap {is:List Nat}{e:Ex}{pos:Pos}{names:List Str}(U:FE G)(he:dw G C sc d e x)(hc:zo x=true)(hw:swp sc xs x=some (some names))(J:TV G.cap sc is names=true)(O:is.Nodup):yr G C sc d (.a [.T is] e) (.Assign xs x pos):=λ_ _ _ _ _ _ _ c h=>by
 rw[exec_Assign];apply af (fw ?_);rw[sv hc];apply af (ah ?_);rw[ay (by decide)];apply af (nr (he c h) λv σ₁ s₁ w q vr r x=>?_);rw[oA hw c.es (by unfold Env.blockKind;rw[c.eo.kind];rfl)];apply af (ah ?_);have#[vs,ev,hl,q]:=q;show wpAny G.M _ (do rule "assign.swapped-stores";let items←unpackItems w names.length none;assignInOrder (names.reverse.map λn=>bindName _ n) items.reverse;pure Flow.next) _ _ _;apply af (tw (af ?_));have rfl:=aq (band J).1;rw[av,hl,<- List.map_reverse];apply wm U c.ao.handled r vr ev λws h' Z R' hk=>?_;apply af (wF c.es c.eo is.reverse (by unfold uD;rw[List.all_reverse];show(band J).2) (by simpa using hl) ((c.F.evo x.e).evo (Evo.keeps hk)) R' Z.reverse λs2 B R2 x2=>ah ?_);rw[fJ _ _ _ hl O]at B;apply#[.next,_,_,.next,q,B,R2,x.wide.trans #[(Evo.keeps hk).trans x2.e,x2.g,x2.o]]
end
end MP
end
section
namespace MP
open PySem PyProof.Rows
def n6:typeLookup (.type "list") (dunderI "add")=pure (some (.builtin "list.__iadd__")):=by rw[ew,dh];kernel_rfl
def A4:fillsInplaceSlot (.type "list") "add" (Operator.Add==.Add)=pure false:=by
 unfold fillsInplaceSlot;show(typeLookup (.type "list") (dunderI "add")>>=λZ=>pure (Z.isSome&&!isSeqSlot Z))=pure false;rw[n6];first|rfl|kernel_rfl
def J3:seqSlot? (.type "list") (dunderI "add")=pure (some (.builtin "list.__iadd__")):=by
 unfold seqSlot?;rw[n6];first|rfl|kernel_rfl
section
variable {G:Stc}{A:Around}{E:QqV}{s:Shared}{σ:St}
def A3 {a b:Value}{Q:QqV}(Z:s.TypeIs a "list")(hb:s.TypeIs b "list")(U:wpAny G.M A (call (.builtin "list.__iadd__") [a,b]) Q E s):wpAny G.M A (inplaceOp .Add a b) Q E s:=by
 unfold inplaceOp;apply cg ?_;apply af (dT Z (af (ec A4 ?_)));show wpAny _ A (if false=true then _ else _) Q E s;rw[ay sf];apply af (wpAny_binaryOp1_none (nm:="add") Z hb noFill_list_add ?_);apply af (ec J3 ?_);show af (tw U)
def H8 {op:Bop}{a b:V}{x y:Value}{Q:V->St->Prop}(J:op=.add\/op=.sub)(R:Rel G σ s.heap)(va:VR G s.heap a x)(vb:VR G s.heap b y)(h:OX op a b σ Q):wpAny G.M A (inplaceOp (binOp op) x y) (jl G [] σ s Q) E s:=by
 cases a with
 |L a =>
  have rfl:=va;have#[b,rfl,h]:=e9 (v:=b) h;have rfl:=vb;rcases J with rfl|rfl
  ·have#[xs,ys,ab,e1,e2,hz,q]:=h;have#[us,n,hl,hv]:=R.L _ _ e1;have#[ts,m,aa,O]:=R.L _ _ e2;have B:=hv.length;have U:=O.length;have Z:us.length+ts.length<=sizeLine:=by rw[<- B,<- U];show qi hz
   apply A3 #[_,hl,rfl] #[_,aa,rfl] (call_meets PySem.F.slot_list_iadd #[_,hl,rfl] PySem.F.entry_list_iadd (PySem.F.args_list_iadd_2 _ _) (AutoSeq1.list___iadd___list_list_0 _ _ _ _ _ _ ?_ (by simp only[cy];(show ek .A .a .cN Z)) (by simp only[cy];(show ek (.k .P .R) .a .K Z))) #[hl,aa,?_])
   ·simp only[cy,Builtin.List.listTooLong];rw[show sizeLine=16777216 from rfl]at Z;simp;intro _;first|omega|(unfold sizeLine;(show bt (.k .P (.n (2^24))) .a (.k .P (.n 16777216)) Z))
   ·have#[r',x']:=FQ (f:=λx=>x++ts.toArray) R e1 hl (hv.append O) (by simpa using hz) (by simp);apply#[.L _,_,q,.L _,r',x',rfl,rfl]
  ·show False.elim h
 |int a =>
  have#[t,rfl]:=va;have#[b,rfl,h]:=rn (v:=b) h;have#[u,rfl]:=vb;rcases J with rfl|rfl
  ·show P.iadd_int (jl.here h (.int _ _) R)
  ·show P.isub_int (jl.here h (.int _ _) R)
 |_=>show False.elim h
def MD {C:Cal}{sc:Scope}{d:Nat}{op:Bop}{i:Nat}{e:Ex}{x:Str}{k:NameKind}{y:Expr}{pos U:Pos}(J:op=.add\/op=.sub)(he:dw G C sc d e y)(hi:sc.names[i]?=some (x,k))(hk:Own G x k)(hx:jg x=true) :
  yr G C sc d (.aug i op e) (.AugAssign (.Name x U) (binOp op) y pos):=λ_ _ _ _ _ _ _ c h=>by
 have#[v,hv,h]:=h;have B:isVar k=true:=by cases k<;>first|rfl|show Bool.noConfusion hk.1
 apply wpAny_AugAssign_Name (jW c.eo c.F (by rw[c.es];show hi) B hx hv λw vr=>?_);apply nr (he c h) λu σ₁ s₁ aa q Z r x=>?_;apply bg (H8 J r (vr.mono x.frz) Z q) (λw' s' l=>?_) λ_ _ x=>x;have#[v',σ',q',O,r',x']:=l;apply xw c.eo ((c.F.evo x.e).evo x'.e) r' (by rw[c.es];show hi) hk O λs2 F2 R2 x2=>?_;apply#[.next,_,σ',.next,q',F2,R2,(x.trans x').wide.trans x2]
end
end MP
end
section
namespace MP
set_option genInjectivity false
open PySem PyProof.Rows
variable {own X:List Addr}{σ σ':St}{env:Env}{ρ:Fr}{h h':Heap}{s s₁ s':Shared}{i:Nat}{t:Tg}{x:Expr}{pos:Pos}
def FR.but {G:Stc}(F:FR G σ env ρ h)(hk:∀b o,b∉own->h.get? b=some o->h'.get? b=some o)(hf:gy h h')(J:∀b∈own,b∉envX env):FR G σ env ρ h':=by
 have#[m,#[o,es,ep,ho,r],hm]:=F.ns;have Z:=hk _ _ (λq=>J _ q (.head _)) ho;apply#[#[m,#[o,es,ep,Z,r],λi y e=>(hm i y e).mono hf],λi y k e O=>?_,F.inj,F.loc,λaa e=>?_,F.new,λp B=>?_]
 ·have#[c,w,h1,#[oc,U,hd],h3,h4,h5]:=F.cells i y k e O;apply#[c,w,h1,#[oc,hk _ _ (λq=>J _ q (.tail _ (cj.mpr #[(y,c),mem_of_lookup h1,rfl]))) U,hd],h3.mono hf,h4,h5]
 ·rw[Z]at e;cases e;show F.notfrz o ho
 ·have#[o,e]:=F.allc p B;apply#[o,hk _ _ (λq=>J _ q (.tail _ (cj.mpr #[p,B,rfl]))) e]
def Evo.but {h₀:Heap}(x:Evo X σ h₀ σ' h)(hk:∀b o,b∉own->h.get? b=some o->h'.get? b=some o)(U:∀b∈own,h₀.get? b=none):Evo X σ h₀ σ' h':=by
 have out:∀b o,h₀.get? b=some o->b∉own:=λb o e q=>by rw[U b q]at e;cases e
 apply#[λb o e nd O=>hk b o (out b o e) (x.keep b o e nd O),λb o e f=>hk b o (out b o e) (x.frz b o e f),x.dom,λb o e=>by have#[Z,e₁]:=x.there b o e;apply#[Z,hk b Z (out b o e) e₁]]
abbrev fW (s s':Shared):Prop:=s'.gens=s.gens/\s'.os=s.os
def fW.rfl {Z:Drawn}{tk:Tok}:fW s #[h,s.gens,Z,tk,s.os]:=#[Eq.refl _,Eq.refl _]
def fW.trans (m:fW s s₁)(Z:fW s₁ s'):fW s s':=#[Z.1.trans m.1,Z.2.trans m.2]
def Go.same (x:Go X σ s σ' s'):fW s s':=#[x.g,x.o]
def fW.go (m:fW s s₁)(x:Go X σ s₁ σ' s'):fW s s':=m.trans x.same
def Go.but {s₀:Shared}(x:Go X σ s₀ σ' s)(hk:∀b o,b∉own->s.heap.get? b=some o->s'.heap.get? b=some o)(g:fW s s')(Z:∀b∈own,s₀.heap.get? b=none):Go X σ s₀ σ' s':=#[x.e.but hk Z,g.1.trans x.g,g.2.trans x.o]
abbrev T6 (own:List Addr)(pos:Nat->Heap->Prop):Prop:=∀i h h',pos i h->(∀b∈own,∀o,h.get? b=some o->h'.get? b=some o)->gy h h'->pos i h'
abbrev VI (own:List Addr)(pos:Nat->Heap->Prop):Prop:=∀i h,pos i h->∀b∈own,∃o,h.get? b=some o/\¬Frz o
abbrev SR (G:Stc)(it:Addr)(pos:Nat->Heap->Prop):Prop:=∀(A:Around) (E:QqV) (s:Shared) (i:Nat) (Q:QqV),pos i s.heap->Q (.ref it) s->wpAny G.M A (pyIter (.ref it)) Q E s
abbrev D3 (own:List Addr)(s s':Shared):Prop:=(∀b o,b∉own->s.heap.get? b=some o->s'.heap.get? b=some o)/\fW s s'
abbrev SU (G:Stc)(it:Addr)(own:List Addr)(vs:List V)(Gd:St->Prop)(tup:Bool)(pos:Nat->Heap->Prop):Prop:=∀(A:Around) (E:QqV) (s:Shared) (σ:St) (i:Nat) (v:V) (target:Expr) (Q:QqV),A.handled=none->Rel G σ s.heap->Gd σ->pos i s.heap->vs[i]?=some v->(tup=true->∃es k p,target=.Tuple es k p) ->
  (∀w s',D3 own s s'->(gy s.heap s'.heap->VR G s'.heap v w/\pos (i+1) s'.heap)->Q w s') ->
  wpAny G.M A (pyNext (.ref it)) (λr s₁=>match r with|none=>False|some w=>wpAny G.M A (letOwnedTupleGo target (.ref it) w) (λ_ s₂=>Q w s₂) E s₁) E s
abbrev SO (G:Stc)(it:Addr)(own:List Addr)(vs:List V)(Gd:St->Prop)(pos:Nat->Heap->Prop):Prop:=∀(A:Around) (E:QqV) (s:Shared) (σ:St) (i:Nat) (Q:Option Value->Shared->Prop),A.handled=none->Rel G σ s.heap->Gd σ->pos i s.heap->vs[i]?=none ->
  (∀s',D3 own s s'->Q none s')->wpAny G.M A (pyNext (.ref it)) Q E s
structure Itr (G:Stc) where
 it:Addr
 own:List Addr
 vs:List V
 Gd:St->Prop
 tup:Bool
 pos:Nat->Heap->Prop
 keep:T6 own pos
 obj:VI own pos
 self:SR G it pos
 next:SU G it own vs Gd tup pos
 stop:SO G it own vs Gd pos
def aE {it:Addr}(h:Heap.SameBut it s.heap s'.heap)(g:fW s s'):D3 [it] s s':=#[λb o hb e=>by rw[h.2 b λq=>hb (q▸.head _)];show e,g]
def eF {it:Addr}(h:Heap.ExtBut it s.heap s'.heap)(Z:it∈own)(g:fW s s'):D3 own s s':=#[λb o hb e=>h b o (λq=>hb (q▸Z)) e,g]
section
variable {G:Stc}{C:Cal}{sc:Scope}{d:Nat}
def Itr.there (I:Itr G)(Z:I.pos i h){b:Addr}(hb:b∈I.own):∃o,h.get? b=some o:=by have#[o,e,_]:=I.obj i h Z b hb;apply#[o,e]
def Itr.C6 (I:Itr G)(Z:I.pos i h){b:Addr}(hb:b∈I.own){o:Obj}(e:h.get? b=some o):¬Frz o:=by have#[o',U,f]:=I.obj i h Z b hb;have rfl:=ak (e.symm.trans U);show f
def Itr.frz (I:Itr G)(Z:I.pos i h)(hk:∀b o,b∉I.own->h.get? b=some o->h'.get? b=some o):gy h h':=λb o e f=>hk b o (λhb=>I.C6 Z hb e f) e
def Itr.rel (I:Itr G)(Z:I.pos i h)(R:Rel G σ h)(hd:∀b∈I.own,¬σ.dom b)(hb:∀b∈I.own,G.hb.get? b=none)(hk:∀b o,b∉I.own->h.get? b=some o->h'.get? b=some o):Rel G σ h':=
 R.same (λb o e U=>hk b o (λq=>hd b q U) e) (λb o e f=>hk b o (λq=>I.C6 Z q e f) e) λb o e=>hk b o (λq=>by rw[hb b q]at e;cases e) (R.base b o e)
inductive tR (G:Stc)(σ:St)(s:Shared)(tupled:Bool)(P:List V->(St->Prop)->St->Prop)(itv:Value)(s':Shared):Prop
 |mk (I:Itr G) (σ':St):itv=.ref I.it->(I.tup=true->tupled=true)->P I.vs I.Gd σ'->I.pos 0 s'.heap->Rel G σ' s'.heap->Go [] σ s σ' s'->(∀b∈I.own,s.heap.get? b=none)->(∀b∈I.own,¬σ'.dom b)->tR G σ s tupled P itv s'
abbrev xh (G:Stc)(C:Cal)(sc:Scope)(d:Nat)(tupled:Bool)(it:It)(x:Expr):Prop:=
 ∀⦃A E env ρ σ P s⦄,Cx G sc d A env ρ σ s->lL C it ρ σ P->wpAny G.M A (eval x env) (λv s₁=>wpAny G.M A (pyIter v) (tR G σ s tupled P) E s₁) E s
abbrev LX (G:Stc)(X:List Addr)(env:Env)(σ:St)(s:Shared)(K:Fr->Prop)(s':Shared):Prop:=∃ρ',K ρ'/\FR G σ env ρ' s'.heap/\Rel G σ s'.heap/\Go X σ s σ s'
abbrev n9 (G:Stc)(C:Cal)(sc:Scope)(d:Nat)(t:Tg)(x:Expr):Prop:=
 ∀⦃A E env ρ σ K s v w⦄,Cx G sc d A env ρ σ s->VR G s.heap v w->nu t v σ ρ K->wpAny G.M A (assign x env w) (λ_ s'=>LX G (envX env) env σ s K s') E s
abbrev isTup (x:Expr):Bool:=fA 25 x
abbrev jS (x:Expr):List Str:=bif fA 23 x then [md x] else bif fA 25 x then BG (kids x) else []
abbrev vl (G:Stc)(C:Cal)(sc:Scope)(d:Nat)(t:Tg)(x:Expr):Prop:=
 ∀⦃A E X env ρ σ K s v w⦄,env.locals∈X->(∀y∈jS x,∀c,env.cells.lookup y=some c->c∈X)->Cx G sc d A env ρ σ s->VR G s.heap v w->nu t v σ ρ K->wpAny G.M A (assign x env w) (λ_ s'=>LX G X env σ s K s') E s
def vl.plain (h:vl G C sc d t x):n9 G C sc d t x:=λ_ _ _ _ _ _ _ _ _ c vr q=>h (.head _) (λy _ c Z=>.tail _ (cj.mpr #[(y,c),mem_of_lookup Z,rfl])) c vr q
def LI {x:Str}{k:NameKind}(O:sc.names[i]?=some (x,k))(hk:Own G x k):vl G C sc d (.v i) (.Name x pos):=λ_ _ _ _ _ _ _ _ _ _ Z U c vr h =>
 assign_Name (j7 c.eo c.F c.R (by rw[c.es];show O) hk vr Z (U x (.head _)) λs' B J x=>#[_,h,B,J,x])
def LJ {is:List Nat}{l:List Expr}{k:Nat}(U:FE G)(B:uD G.cap sc is=true):vl G C sc d (.T is) (.Tuple (sy sc is l) k pos):=λ_ _ _ _ _ _ _ _ _ _ O J c vr h=>by
 have#[vs,e,hl,q]:=h;rw[assign_Tuple];apply af (fw ?_);unfold unpack;rw[lU,jE,hl];apply af (cg (wm U c.ao.handled c.R vr e λws h' Z R' hk=>?_));apply mS c.es c.eo O is l B hl J (c.F.evo (Evo.keeps hk)) R' Z λs2 F2 R2 x2=>?_;apply#[_,q,F2,R2,(Evo.keeps hk).trans x2.e,x2.g,x2.o]
inductive rG (I:Itr G)(env:Env)(σ:St)(s:Shared)(T:V->Fr->St->(Fr->St->Prop)->Prop)(K:Fr->St->Prop)(n:Nat)(s':Shared):Prop
 |mk (i:Nat) (σ':St) (ρ':Fr):n=I.vs.length-i->I.pos i s'.heap->FR G σ' env ρ' s'.heap->Rel G σ' s'.heap->Go (envX env) σ s σ' s'->(∀b∈I.own,¬σ'.dom b)->uU (I.vs.drop i) I.Gd T ρ' σ' K->rG I env σ s T K n s'
def rG.next {I:Itr G}{T:V->Fr->St->(Fr->St->Prop)->Prop}{K:Fr->St->Prop}{ρ':Fr}(lt:i<I.vs.length)(Z:I.pos (i+1) s'.heap)(F:FR G σ' env ρ' s'.heap)(R:Rel G σ' s'.heap)(x:Go (envX env) σ s σ' s')(hd:∀b∈I.own,¬σ'.dom b)(q:uU (I.vs.drop (i+1)) I.Gd T ρ' σ' K) :
  ∃m,m<I.vs.length-i/\rG I env σ s T K m s':=#[_,by show fc .B .c .d3 .bD (ae (bt .H .a .B lt)) (ae (bt .A .a .B lt)),i+1,σ',ρ',rfl,Z,F,R,x,hd,q]
def Itr.nM {I:Itr G}{Y:List Addr}{Z σb:St}{J hb:Heap}{j:Nat}(B:∀b∈I.own,b∉Y)(O:I.pos j J)(hd:∀c∈I.own,¬Z.dom c)(x:Evo Y Z J σb hb):I.pos j hb/\∀c∈I.own,¬σb.dom c:=
 #[I.keep _ _ _ O (λc U o e=>x.keep c o e (hd c U) (B c U)) x.frz,λc U dm=>(x.dom c dm).elim (hd c U) λq=>by have#[o,e]:=I.there O U;rw[e]at q;cases q]
def vA {l:List V}{v:V}(e:l[i]?=some v):i<l.length/\l.drop i=v::l.drop (i+1):=by
 have h:=bw.mp e;apply#[h.1,?_];rw[jy h.1,h.2]
def pN (h:isTup x=true):∃es k p,x=.Tuple es k p:=lM h
def hO (F:FR G σ env ρ h)(O:∀b∈own,h.get? b=none):∀b∈own,b∉envX env:=λb hb U=>by
 rcases cz.mp U with rfl|U
 ·have#[m,#[o,B,ep,Z,_],_]:=F.ns;rw[O _ hb]at Z;cases Z
 ·have#[p,J,rfl]:=cj.mp U;have#[o,Z]:=F.allc p J;rw[O _ hb]at Z;cases Z
def aO (R:Rel G σ h)(Z:∀b∈own,h.get? b=none):∀b∈own,G.hb.get? b=none:=λb hb=>by
 cases hq:G.hb.get? b with
 |none=>rfl
 |some o=>have:=R.base b o hq;rw[Z b hb]at this;cases this
def EP {b:jo}{ys:List Stmt}(ht:n9 G C sc d t x)(hb:nv G C sc d b ys){A:Around}{E:QqV}{I:Itr G}{σ₀:St}{K:Fl->Fr->St->Prop}{v:V}{w:Value}(c:Cx G sc d A env ρ σ s₁)
  (hX:∀b∈I.own,b∉envX env) (lt:i<I.vs.length) (x0:Go (envX env) σ₀ s σ s₁) (hp:I.pos (i+1) s₁.heap) (hd:∀b∈I.own,¬σ.dom b) (vr:VR G s₁.heap v w)
  (hf:nu t v σ ρ λρ=>dk C b ρ σ (yt (λρ σ=>uU (I.vs.drop (i+1)) I.Gd (λv ρ σ k=>nu t v σ ρ λρ=>dk C b ρ σ (yt k K)) ρ σ λρ σ=>K .next ρ σ) K))
  {Qp:Flow->Shared->Prop} (h1:∀s',(∃m,m<I.vs.length-i/\rG I env σ₀ s (λv ρ σ k=>nu t v σ ρ λρ=>dk C b ρ σ (yt k K)) (λρ σ=>K .next ρ σ) m s')->Qp .next s'/\Qp .cont s') (h2:∀s',qt G env σ₀ s K .next s'->Qp .brk s') (h3:∀w s',qt G env σ₀ s K (.ret w) s'->Qp (.ret w) s') :
  wpAny G.M A (assign x env w) (λ_ ag=>wpAny G.M A (execs ys env) Qp E ag) E s₁:=by
 apply bg (ht c vr hf) (λ_ ag l=>?_) λ_ _ x=>x;have#[bl,ao,be,bd,ab]:=l;have#[bn,bb]:=I.nM hX hp hd ab.e;apply bg (hb (c.at be bd) ao) (λf bu l=>?_) λ_ _ x=>x;have#[fl,B,J,a,Z,O,U,aa]:=l;have#[ar,ai]:=I.nM hX bn bb aa.e;have x5:=(x0.trans ab).trans aa;cases a with
 |next=>show(h1 _ (rG.next lt ar O U x5 ai Z)).1
 |cont=>show(h1 _ (rG.next lt ar O U x5 ai Z)).2
 |brk=>show h2 _ #[.next,B,J,.next,Z,O,U,x5]
 |ret v=>show h3 _ _ #[_,B,J,.ret v,Z,O,U,x5]
def GU {it:It}{b:jo}{y:Expr}{ys:List Stmt}(ht:n9 G C sc d t x)(hi:xh G C sc d (isTup x) it y)(hb:nv G C sc d b ys)(hs:∀env v,foldedSetIterable y env v=pure v) :
  yr G C sc d (.each t it b) (.For x y ys [] pos):=λA E env ρ σ K s c h=>by
 apply wpAny_For (bg (hi c h) (λv s₁ h₁=>bg h₁ (λbe s₂ l=>?_) λ_ _ x=>x) λ_ _ x=>x) (hs env);have#[I,σ₁,rfl,ai,hf,hp,r,ab,O,bb]:=l;have aa:=aO c.R O;have hX:=hO c.F O;apply codeAny_forLoop_any (rG I env σ s (λv ρ σ k=>nu t v σ ρ λρ=>dk C b ρ σ (yt k K)) λρ σ=>K .next ρ σ) ?_ (I.vs.length-0)
  #[0,σ₁,ρ,rfl,hp,c.F.evo ab.e,r,ab.wide,bb,hf]
 intro n s' z;have#[i,σ',ρ',rfl,U,F',R',x',B,J]:=z;cases hq:I.vs[i]? with
 |none =>
  rw[sd (pa.mp hq)]at J;apply I.stop A _ s' σ' i _ c.ao.handled R' J.1 U hq λs2 g=>?_;have#[Z,g2]:=g;show wpAny_execs_nil #[.next,ρ',σ',.next,J.2,F'.but Z (I.frz U Z) hX,I.rel U R' B aa Z,x'.but Z g2 O]
 |some v =>
  have#[bd,ag]:=vA hq;rw[ag]at J;apply bg (I.next A _ s' σ' i v x ?Q c.ao.handled R' J.1 U hq (λq=>pN (ai q)) ?k) (λr s₁ hr=>?m) λ_ _ x=>x
  case m =>
   cases r with
   |none=>show hr.elim
   |some w=>show hr
  case k =>
   intro w s2 g z;have#[Z,g2]:=g;have#[vr,ar]:=z (I.frz U Z);show EP ht hb (c.at (F'.but Z (I.frz U Z) hX) (I.rel U R' B aa Z)) hX bd (x'.but Z g2 O) ar B vr J.2 (λ_ q=>#[q,q]) (λ_ q=>q) λ_ _ q=>q
end
end MP
end
section
set_option tactic.hygienic true
namespace MP
open PySem PyProof.Rows
abbrev ownsTuple (n:String):Bool:=["enumerate","zip","dict_itemiterator","dict_reverseitemiterator","odict_iterator","itertools.zip_longest","itertools.pairwise"].contains n
section
variable {G:Stc}{A:Around}{E:QqV}{s:Shared}
def nt {it:Addr}{o:Obj}{n:String}{target:Expr}{w:Value}{Q:Unit->Shared->Prop}(Z:s.heap.get? it=some o)(O:o.cls=.type n)(U:ownsTuple n=false)(h:Q () s):wpAny G.M A (letOwnedTupleGo target (.ref it) w) Q E s:=by
 have go:wpAny G.M A (do
   let (.ref r,.ref a):=(Value.ref it,w)|return
   let o←load r
   match o.cls,o.data with
   |.type n,.fields vs=>if (ownsTuple n&&vs[0]?==some (rawInt a))=true then do rule "for.unpacks-the-owned-tuple";updateField r 0 .none else pure ()
   |_,_=>pure ():Sem Unit) Q E s:=by
  cases w with
  |ref a =>
   apply af (we Z ?_);rw[O];cases o.data with
   |fields vs =>
    show wpAny _ _ (if (ownsTuple n&&vs[0]?==some (rawInt a))=true then _ else _) _ _ _;rw[U,Bool.false_and,ay (by decide)];show ah h
   |_=>show ah h
  |_=>show ah h
 cases target<;>first|show go|show ah h
def kg {o:Obj}{n:String}{vs:Array Value}(Z:o.cls=.type n)(hd:o.data=.fields vs)(O:n ≠ "builtin_function_or_method")(U:n ≠ "method-wrapper"):¬Frz o:=by
 rintro (⟨_,_,_,h⟩|⟨h|h,_⟩|⟨_,h⟩)
 ·rw[hd]at h;cases h
 ·rw[Z]at h;injection h with h;show O h
 ·rw[Z]at h;injection h with h;show U h
 ·rw[hd]at h;cases h
abbrev N8 (G:Stc)(it l:Addr)(hne:l≠it)(xs:List V):Itr G where
 it:=it
 own:=[it]
 vs:=xs
 Gd:=λτ=>τ.L l=some xs
 tup:=false
 pos:=λi h=>h.IsListIter it l i
 keep:=λi h h' zz3 hk _=>by have#[o,ho,r]:=zz3;apply#[o,hk it (.head _) o ho,r]
 obj:=λi h z b hb=>by have#[o,ho,hc,hd]:=z;have rfl:=au.mp hb;apply#[o,ho,kg hc hd (by decide) (by decide)]
 self:=λA E s i Q hp q=>wpAny_pyIter_listiter hp q
 next:=λA E s σ i v target Q hh R hg hp hv htup k=>by
  have#[ws,n,hl,hvs]:=R.L l xs hg;have#[w,hw,vr]:=hvs.get hv;apply wpAny_pyNext_list_item hp hl.isList (by simpa using hw) λh' hp' hs=>?_;have#[o,ho,hc,hd]:=id hp';show nt ho hc (by decide) (k w _ (aE hs .rfl) λhf=>#[vr.mono hf,hp'])
 stop:=λA E s σ i Q hh R hg hp hv k=>by
  have#[ws,n,hl,hvs]:=R.L l xs hg;have hlen:=hvs.length;show wpAny_pyNext_list_end hh hp hl.isList (by simpa[<- hlen] using hv) λh' he=>k _ (eF he (.head _) .rfl)
end
end MP
end
section
namespace MP
open PySem PyProof.Rows
variable {α:Type}{ps:List Nat}
def slot_set_iter:Slot "set" "__iter__" "set.__iter__":=
 .of (owner:="set") (n:="__iter__") (by rw[ew,dh];kernel_rfl) (by decide +kernel) (by decide +kernel) (by decide +kernel)
  (by first|show .inl (by decide +kernel)|show .inr (by decide +kernel)) (by rw[jm];kernel_rfl)
def q7:entryFor table "set.__iter__"=some Builtin.«frozenset.__iter__»:=
 entryFor_alias (id':="frozenset.__iter__") (by kernel_rfl) (by first|rfl|decide +kernel|(unfold String.splitOn;simp +decide [String.splitOnAux])) (by decide +kernel) (by kernel_rfl)
def sD (a:Value):argsOk "set.__iter__" #[[a],[]]:=by unfold argsOk;kernel_rfl
def jd:Slot "set_iterator" "__next__" "set_iterator.__next__":=
 .of (owner:="set_iterator") (n:="__next__") (by rw[ew,dh];kernel_rfl) (by decide +kernel) (by decide +kernel) (by decide +kernel)
  (by first|show .inl (by decide +kernel)|show .inr (by decide +kernel)) (by rw[jm];kernel_rfl)
def tj:entryFor table "set_iterator.__next__"=some Builtin.«set_iterator.__next__»:=entryFor_of_fast (by kernel_rfl)
def ub (a:Value):argsOk "set_iterator.__next__" #[[a],[]]:=by unfold argsOk;kernel_rfl
def yw:Slot "set_iterator" "__iter__" "set_iterator.__iter__":=
 .of (owner:="set_iterator") (n:="__iter__") (by rw[ew,dh];kernel_rfl) (by decide +kernel) (by decide +kernel) (by decide +kernel)
  (by first|show .inl (by decide +kernel)|show .inr (by decide +kernel)) (by rw[jm];kernel_rfl)
def jH:entryFor table "set_iterator.__iter__"=some Builtin.«dict_keyiterator.__iter__»:=
 entryFor_alias (id':="dict_keyiterator.__iter__") (by kernel_rfl) (by first|rfl|decide +kernel|(unfold String.splitOn;simp +decide [String.splitOnAux])) (by decide +kernel) (by kernel_rfl)
def kU (a:Value):argsOk "set_iterator.__iter__" #[[a],[]]:=by unfold argsOk;kernel_rfl
def jG:∀(l:List α) {i:Nat} (h:i<l.length),(l[i]::l.eraseIdx i).Perm l
 |x::l,0,_=>.refl _
 |x::l,i+1,h=>(List.Perm.swap _ _ _).trans ((jG l (Nat.lt_of_succ_lt_succ h)).cons x)
def C2 (next:Nat->Nat):∀(f k:Nat) (l:List α) (out:Array α),l.length=f->(pickOrder.go next f k l out).toList.Perm (out.toList++l)
 |0=>λk l out h=>by
  have rfl:=lG.mp h;dsimp only[pickOrder.go];rw[cq]
 |f+1=>λk l out h=>by
  have Z:next k%l.length<l.length:=Nat.mod_lt _ (bt .F .C .a9 h)
  dsimp only[pickOrder.go];rw[di Z];dsimp only;apply(C2 next f (k+1) _ _ (by rw[gK Z];(show fk .C .G (.e .C .M) .X h (ae (bt .D .a .W Z))))).trans ?_;rw[j4,fh];show(List.Perm.append_left _ (jG l Z))
def E0 (next:Nat->Nat)(xs:Array α):(pickOrder next xs).toList.Perm xs.toList:=by
 have:=C2 next xs.size 0 xs.toList #v[] (by simp)
 simpa[pickOrder] using this
section
variable {G:Stc}{A:Around}{E:QqV}{s:Shared}
abbrev fP (G:Stc)(a:Addr)(es:Array (Int×Value))(ep:Nat):Array (Int×Value):=if G.w.params.followText "set-order" then pickOrder (G.w.params.setOrder a ep) es else es
def dZ (a:Addr)(es:Array (Int×Value))(ep:Nat):(fP G a es ep).toList.Perm es.toList:=by
 unfold fP;split
 ·show E0 _ _
 ·show .refl _
def zM (a:Addr)(es:Array (Int×Value))(ep:Nat):(fP G a es ep).size=es.size:=by
 rw[<- iz,(dZ a es ep).length_eq,iz]
def fS {Q:Bool->Shared->Prop}(h:Q (G.w.params.followText "set-order") s):wpAny G.M A setsByText Q E s:=by
 unfold setsByText;show af (wo (ah h))
def oI {a:Addr}{o:Obj}{es:Array (Int×Value)}{ep slot i:Nat}{t:SetTable}{Q:Option (Value×Nat)->Shared->Prop}(ho:s.heap.get? a=some o)(hd:o.data=.set es ep t)(U:t.fits es.size=true)(hT:Tbl G.led t)(J:G.led=true->(!t.plain&&decide (es.size>1))=false)
  (hs:G.led=true->SetTable.below t.place slot=i) (h:∀Z,(i<es.size->G.led=true->SetTable.below t.place Z=i+1)->Q (((fP G a es ep)[i]?).map λe=>(e.2,Z)) s):wpAny G.M A (setNext a slot i ep) Q E s:=by
 have hz:t.place.size=es.size:=by
  unfold SetTable.fits at U;show wq.mp (rK.mp U).1
 unfold setNext;apply af (dU ho hd U ?_);dsimp only;apply af (fS ?_);cases hb:G.w.params.followText "set-order" with
 |true =>
  have hl:G.led=false:=by show(!_)=false;rw[hb];rfl
  simp -iota only[yn,dt,↓reduceIte,pure_bind];unfold setWalk;apply af (af (dU ho hd U ?_));dsimp only;apply af (fS ?_);rw[hb];simp -iota only[↓reduceIte];apply af (wo (ah (ah ?_)));have:=h slot (λ_ q=>by rw[hl]at q;cases q);unfold fP at this;rw[hb]at this;show this
 |false =>
  have hl:G.led=true:=by show(!_)=true;rw[hb];rfl
  have O:(!t.led&&!es.isEmpty)=false:=by rw[hT.led,hl];rfl
  simp -iota only[dt,↓reduceIte];show wpAny _ _ (if (!t.plain&&decide (es.size>1))=true then _ else _) _ _ s;rw[J hl,ay (by decide)];apply af ?_;show wpAny _ _ (if (!t.led&&!es.isEmpty)=true then _ else _) _ _ s;rw[O,ay (by decide)];apply ah ?_;have e0:fP G a es ep=es:=by unfold fP;rw[hb];rfl
  rw[hs hl];rw[e0]at h;rcases pj i es.size with c|c
  ·have e1:es[i]?=some es[i]:=gh c;have c2:i<t.place.size:=by(show fk .B .t (.e .B .C) .I hz c)
   have e2:t.place[i]?=some t.place[i]:=gh c2;have:=h (t.place[i]+1) λ_ _=>AU hT.rise e2;rw[e1]at this;rw[e1,e2];show ah this
  ·have:=h slot λq=>by(show λq1=>(fk .a9 .j .G .aZ c q))
   rw[Array.getElem?_eq_none c]at this;rw[Array.getElem?_eq_none c];show ah this
abbrev mM (h:Heap)(it a:Addr)(f:Value)(i n ep:Nat):Prop:=
 ∃o,h.get? it=some o/\o.cls=.type "set_iterator"/\o.data=.fields #v[f,.int i 0,.ref a,.int n 0,.int ep 0]
def mM.typeIs {it a f i n ep}(x:mM s.heap it a f i n ep):s.TypeIs (.ref it) "set_iterator":=by
 have#[o,Z,U,_]:=x;apply#[o,Z,U]
def kG {it a:Addr}{f:Value}{i n ep:Nat}{Q:QqV}(hit:mM s.heap it a f i n ep)(h:Q (.ref it) s):wpAny G.M A (pyIter (.ref it)) Q E s:=by
 apply nD hit.typeIs yw (gj yw hit.typeIs jH ?_ (kU _));show wpAny _ _ (ret (.ref it)) _ _ s;show ah #[_,rfl,"set_iterator",_,hit.typeIs,jd.lookup,h]
def AH {Q:List α->Shared->Prop}:∀(n:Nat) (xs:List α) (s:Shared),xs.length=n->(∀ys Z,ys.Perm xs->Q ys {s with drawn:=Z})->wpAny G.M A (drawOrder n xs) Q E s:=by
 intro n;induction n generalizing Q with
 |zero=>intro xs s e h;have rfl:=lG.mp e;show ah (h [] s.drawn (.refl _))
 |succ n U =>
  intro xs s e h;have#[x,l,rfl]:=mn e;dsimp only[drawOrder];apply af (λΓ p O=>#[zu _,?_]);generalize B:G.M.w.draws Source.order (s.drawn.get Source.order)%(x::l).length=i;have lt:i<(x::l).length:=B▸Nat.mod_lt _ (Nat.succ_pos _);have:=U ((x::l).eraseIdx i) {s with drawn:=s.drawn.bump .order} (by rw[gK lt,e];rfl) (Q:=λys s'=>Q ((x::l)[i]::ys) s') λys Z J=>h _ Z ((J.cons _).trans (jG _ lt));show wpAny _ _ (match (x::l)[i]? with|some y=>_|none=>_) _ _ _;rw[di lt];show af (bg this (λys s' h=>ah h) λ_ _ x=>x)
public abbrev zh (ps:List Nat):Obj:={cls:=.type "tuple",data:=.seq (ps.map λi:Nat=>rawInt i).toArray}
def IY {a:Addr}{o:Obj}{es:Array (Int×Value)}{ep:Nat}{t:SetTable}{Q:QqV}(Z:s.heap.get? a=some o)(hc:o.cls=.type "set")(hd:o.data=.set es ep t)(O:t.fits es.size=true)(hb:es.size<scanBound)
  (h:(G.led=true->(!t.plain&&decide (es.size>1))=false)->Q (.ref s.heap.objs.size) {s with heap:=s.heap.push {cls:=.type "set_iterator",data:=.fields #v[.int (0:Nat) 0,.int (0:Nat) 0,.ref a,.int es.size 0,.int ep 0]}})
  (h2:∀ps J,ps.Perm (List.range es.size)->Q (.ref (s.heap.push (zh ps)).objs.size) {s with heap:=(s.heap.push (zh ps)).push {cls:=.type "set_iterator",data:=.fields #v[.ref s.heap.objs.size,.int (0:Nat) 0,.ref a,.int es.size 0,.int ep 0]},drawn:=J}):wpAny G.M A (pyIter (.ref a)) Q E s:=by
 have U:s.TypeIs (.ref a) "set":=#[o,Z,hc];apply nD U slot_set_iter (gj slot_set_iter U q7 ?_ (sD _));unfold Builtin.«frozenset.__iter__»;apply af (ah ?_);apply af ?_;unfold Builtin.Frozenset.sizeOf;apply af (iX Z hd O (ah ?_));apply af ?_;unfold setDrawn;apply af (dU Z hd O ?_);dsimp only;apply af (fS ?_);apply ah ?_;show wpAny _ _ (if (!G.w.params.followText "set-order" && (!t.plain&&decide (es.size>1)))=true then _ else _) _ _ s;by_cases c:(!G.w.params.followText "set-order" && (!t.plain&&decide (es.size>1)))=true
 ·rw[bx c];apply af (AH _ _ _ kc λps J B=>?_);apply af (wpAny_newTuple ?_ (by rw[av,B.length_eq,kc];show fm (iy hb) (by rw[sizeLine_eq];decide)));apply af (wpAny_setEpoch_of (aw _ Z) hd O ?_);show af (jq (ah #[_,rfl,"set_iterator",_,#[_,cf _ rfl,rfl],jd.lookup,h2 ps J B]))
 ·rw[ay c];apply af (ah ?_);apply af (wpAny_setEpoch_of Z hd O ?_);apply af (jq (ah #[_,rfl,"set_iterator",_,#[_,cf _ rfl,rfl],jd.lookup,h λq=>?_]));cases e:(!t.plain&&decide (es.size>1)) with
  |false=>rfl
  |true=>show absurd (by rw[e,Bool.and_true];show q) c
def jA {prog:Program}{w:World}{Q:α->Shared->Prop}(Z:A.handled=none)
  (h:∀h' e,(∀b o,s.heap.get? b=some o->h'.get? b=some o)->(∃o,h'.get? e=some o/\o.cls=.type "StopIteration")->E (.ref e) {s with heap:=h'}):wpAny (model prog w) A (newExc (.type "StopIteration") []>>=raiseNew) Q E s:=by
 apply af ?_;unfold newExc newTuple;apply af (jq ?_ (by size_fits));apply af (m:=firstArgMember _ _) (ec (a:=Value.none) (by first|rfl|(simp only[firstArgMember];rfl)) ?_);apply jq ?_ (by size_fits);unfold raiseNew;apply af (wpAny_handled ?_);rw[Z];show af (ah (wpAny_throw (h _ _ (λb o e=>aw _ (aw _ e)) #[_,cf _ rfl,rfl])))
section
variable {it a:Addr}{o:Obj}{es:Array (Int×Value)}{ep i:Nat}{t:SetTable}{Q:Option Value->Shared->Prop}
def rU {slot:Nat}{x:Int×Value}(hit:mM s.heap it a (.int slot 0) i es.size ep)(ho:s.heap.get? a=some o)(hd:o.data=.set es ep t)(hf:t.fits es.size=true)(hT:Tbl G.led t)(B:G.led=true->(!t.plain&&decide (es.size>1))=false)
  (hs:G.led=true->SetTable.below t.place slot=i) (hx:(fP G a es ep)[i]?=some x)
  (h:∀(Z:Nat) h',mM h' it a (.int Z 0) (i+1) es.size ep->(G.led=true->SetTable.below t.place Z=i+1)->Heap.SameBut it s.heap h'->Q (some x.2) {s with heap:=h'}):wpAny G.M A (pyNext (.ref it)) Q E s:=by
 have#[oi,O,hc,U]:=id hit;have J:i<es.size:=by
  have#[q,_]:=ku.mp hx;rw[zM]at q;show q
 unfold pyNext;apply af (fE (jt (name:=Str.ofString "__next__") hit.typeIs jd
  (gj jd hit.typeIs tj ?_ (ub _))))
 unfold Builtin.«set_iterator.__next__»;apply af (ah ?_);apply af (wpAny_fieldsOf O U ?_);dsimp only;apply af (iX ho hd hf ?_);rw[ay (by simp)];apply af (m:=setNext a _ _ _) (oI (i:=i) (slot:=slot) ho hd hf hT B hs λZ q=>?_);rw[hx];dsimp only[Option.map_some];apply af (sq O U (by simp) ?_);have g1:=gk (Obj.mapFields (·.setIfInBounds 0 (rawInt Z))) O (uk (jx U _));have d1:=jx U (·.setIfInBounds 0 (rawInt Z));apply af (sq (s:={s with heap:=s.heap.update it (Obj.mapFields (·.setIfInBounds 0 (rawInt Z)))}) g1 d1 (by simp) (ah #[x.2,rfl,ah (h Z _ ?_ (q J) ((gr ..).trans (gr ..)))]));apply⟨_,gk _ g1 (uk (jx d1 _)),(nI ..).trans ((nI ..).trans hc),by
  rw[jx d1];simp[rawInt]⟩
def uH {slot:Nat}(hh:A.handled=none)(hit:mM s.heap it a (.int slot 0) i es.size ep)(B:s.heap.get? a=some o)(hd:o.data=.set es ep t)(hf:t.fits es.size=true)(hT:Tbl G.led t)(J:G.led=true->(!t.plain&&decide (es.size>1))=false)
  (hs:G.led=true->SetTable.below t.place slot=i) (hx:(fP G a es ep)[i]?=none)
  (h:∀h',Heap.ExtBut it s.heap h'->Q none {s with heap:=h'}):wpAny G.M A (pyNext (.ref it)) Q E s:=by
 have#[oi,Z,hc,U]:=id hit;unfold pyNext;apply af (fE (jt (name:=Str.ofString "__next__") hit.typeIs jd
  (gj jd hit.typeIs tj ?_ (ub _))))
 unfold Builtin.«set_iterator.__next__»;apply af (ah ?_);apply af (wpAny_fieldsOf Z U ?_);dsimp only;apply af (iX B hd hf ?_);rw[ay (by simp)];apply af (m:=setNext a _ _ _) (oI (i:=i) (slot:=slot) B hd hf hT J hs λO q=>?_);rw[hx];dsimp only[Option.map_none];apply af (sq Z U (by simp) ?_);apply jA hh λh' e hk he=>?_;apply af (rJ (T:="StopIteration") (b:=true) he isSubtype_stop ?_);show ah (h _ λb o n e=>hk b o ((gr ..).extBut b o n e))
def tF {O:Addr}(hit:mM s.heap it a (.ref O) i es.size ep)(ht:s.heap.get? O=some (zh ps))(J:s.heap.get? a=some o)(hd:o.data=.set es ep t)(B:t.fits es.size=true)
  (h1:∀j,ps[i]?=some j->∃x,es[j]?=some x/\∀h',mM h' it a (.ref O) (i+1) es.size ep->Heap.SameBut it s.heap h'->Q (some x.2) {s with heap:=h'})
  (h2:ps[i]?=none->A.handled=none/\∀h',Heap.ExtBut it s.heap h'->Q none {s with heap:=h'}):wpAny G.M A (pyNext (.ref it)) Q E s:=by
 have#[oi,U,hc,Z]:=id hit;unfold pyNext;apply af (fE (jt (name:=Str.ofString "__next__") hit.typeIs jd
  (gj jd hit.typeIs tj ?_ (ub _))))
 unfold Builtin.«set_iterator.__next__»;apply af (ah ?_);apply af (wpAny_fieldsOf U Z ?_);dsimp only;apply af (iX J hd B ?_);rw[ay (by simp)];apply af (mx ht rfl ?_);dsimp only;rw[ke,show(ps.map λi:Nat=>rawInt i).toArray[i]?=ps[i]?.map λj:Nat=>rawInt j by simp];cases hj:ps[i]? with
 |some j =>
  have#[x,hx,h]:=h1 j hj;show wpAny _ _ (setNextDrawn a _ _>>=_) _ _ _;unfold setNextDrawn;apply af (af (dU J hd B ?_));dsimp only;rw[ay (by simp),ke,hx];apply ah ?_;apply af (sq U Z (by simp) (ah #[x.2,rfl,ah (h _ ?_ (gr ..))]));apply⟨_,gk _ U (uk (jx Z _)),(nI ..).trans hc,by
   rw[jx Z];simp[rawInt]⟩
 |none =>
  have#[hh,h]:=h2 hj;show wpAny _ _ (setField _ 0 _>>=_) _ _ _;apply af (sq U Z (by simp) ?_);apply af (sq (s:={s with heap:=_}) (gk (Obj.mapFields (·.setIfInBounds 0 (rawInt 0))) U (uk (jx Z _))) (jx Z _) (by simp) ?_);apply jA hh λh' e hk he=>?_;apply af (rJ (T:="StopIteration") (b:=true) he isSubtype_stop ?_);show ah (h _ λb o n e=>hk b o ((gr ..).extBut b o n ((gr ..).extBut b o n e)))
def zQ {Z j:Nat}{x:Int×Value}(hit:mM s.heap it a (.ref Z) i es.size ep)(J:s.heap.get? Z=some (zh ps))(B:s.heap.get? a=some o)(hd:o.data=.set es ep t)(hf:t.fits es.size=true)
  (U:ps[i]?=some j) (O:es[j]?=some x)
  (h:∀h',mM h' it a (.ref Z) (i+1) es.size ep->Heap.SameBut it s.heap h'->Q (some x.2) {s with heap:=h'}):wpAny G.M A (pyNext (.ref it)) Q E s:=
 tF hit J B hd hf (λk e=>by have rfl:=ak (U.symm.trans e);apply#[x,O,h]) (λe=>by rw[U]at e;cases e)
def ER {Z:Addr}(B:A.handled=none)(hit:mM s.heap it a (.ref Z) i es.size ep)(U:s.heap.get? Z=some (zh ps))(O:s.heap.get? a=some o)(hd:o.data=.set es ep t)(hf:t.fits es.size=true)
  (J:ps[i]?=none) (h:∀h',Heap.ExtBut it s.heap h'->Q none {s with heap:=h'}):wpAny G.M A (pyNext (.ref it)) Q E s:=
 tF hit U O hd hf (λk e=>by rw[J]at e;cases e) (λ_=>#[B,h])
end
end
section
variable {G:Stc}{A:Around}{E:QqV}{s:Shared}{σ:St}
def kr {env:Env}{x:Str}{pos:Pos}{v:Value}{Q:QqV}(K:GOk G)(eo:rv env)(R:Rel G σ s.heap)(hx:env.scope.names.lookup x=some .globalImplicit)(hn:jg x=true)(Z:G.gl x=some v)(h:Q v s):wpAny G.M A (eval (.Name x pos) env) Q E s:=by
 have J:(x==("__debug__":Str))=false:=by simp only[jg,dg,fg]at hn;show hn.1
 apply Calls.Name_function_global eo.kind hx ?_ J;have#[mg,mb,hg,hb,e]:=K.names;rw[e]at Z;have U:s.heap.Ns env.globals mg:=by rw[eo.globals];show hg.keeps R.base
 have B:s.heap.Ns env.builtins mb:=by rw[eo.builtins];show hb.keeps R.base
 cases O:mg x with
 |some u=>rw[O]at Z;cases Z;show Calls.loadGlobal_global U O h
 |none=>rw[O]at Z;show Calls.loadGlobal_builtin U O B Z h
end
variable {A:Around}{E:QqV}{σ:St}{x:Str}{p pos:Pos}{tupled:Bool}
abbrev IW (G:Stc)(it:Addr)(a c:Int)(n:Nat)(xs:List V)(hl:xs.length=n)(hx:∀i,i<n->xs[i]?=some (.int (a+c*i))):Itr G where
 it:=it
 own:=[it]
 vs:=xs
 Gd:=λ_=>True
 tup:=false
 pos:=λi h=>i<=n/\IsRangeIter h it (a+c*i) (n-i) c
 keep:=λi h h' zz3 hk _=>by have#[hi,hp]:=zz3;apply#[hi,hk it (.head _) _ hp]
 obj:=λi h z b hb=>by have#[_,hp]:=z;have rfl:=au.mp hb;apply#[_,hp,kg rfl rfl (by decide) (by decide)]
 self:=λA E s i Q hp q=>wpAny_pyIter_rangeiter hp.2 q
 next:=λA E s σ i v target Q hh R hg hp hv htup k=>by
  have#[hi,hp]:=hp;have hlt:i<n:=by rw[<- hl];show(bw.mp hv).1
  obtain rfl:v=.int (a+c*i):=ak (hv.symm.trans (hx i hlt));apply wpAny_pyNext_range_item hp (bt (.il .O .S) .a .W hlt) λh' hp' hs=>?_;have e:a+c*i+c=a+c*((i+1:Nat):Int):=by push_cast;rw[Int.mul_add];(show VF (.ie (.a (.a .A .B) .C) (.a .A (.a .B (.r .C 1)))) .n)
  have e2:(n:Int)-i-1=n-((i+1:Nat):Int):=by(show vi (.ie (.s .S .U) (.s .L (.t .M))) .n)
  rw[e,e2]at hp';show nt hp' rfl (by decide) (k _ _ (aE hs .rfl) λ_=>#[.int _ _,hlt,hp'])
 stop:=λA E s σ i Q hh R hg hp hv k=>by
  have#[hi,hp]:=hp;have hge:n<=i:=by rw[<- hl];show pa.mp hv
  show wpAny_pyNext_range_end hh hp (bt (.ik .S .O) .a .A hge) λh' he=>k _ (eF he (.head _) .rfl)
def KI {x:Int}{n:Nat}(h:x.natAbs<n):-(n:Int)<=x/\x<=n:=by(show#[((Ar.nab _).elim (λZ=>(yR (.ik (.g .L) .A) .a .aR Z.1)) λZ=>(yO (.ik (.g .L) .A) .c .W (.ie .M (.g .A)) h Z.2)),((Ar.nab _).elim (λZ=>(yO (.ik .A .L) .c .W (.ie .M .A) h Z.2)) λZ=>(yR (.ik .A .L) .a .d4 Z.1))])
def kJ {x:Int}(U:-(2^42)<=x)(Z:x<=2^42):Builtin.Range.rangeFitsLong x=true:=by
 unfold Builtin.Range.rangeFitsLong;rw[dp (jn (by decide) U),dp (Int.lt_of_le_of_lt Z (by decide))];rfl
def HE {a b c:Int}(J:a.natAbs<2^40)(hb:b.natAbs<2^40)(U:0<c)(Z:c<2^40):Builtin.Range.small a b c=true:=by
 have A:=KI J;have B:=KI hb;have O:0<=Builtin.Range.rangeSize a b c/\Builtin.Range.rangeSize a b c<=2^42:=by
  unfold Builtin.Range.rangeSize;rw[bx U];split
  ·rename_i h;have h0:0<=b-a-1:=Int.le_sub_one_of_lt (Int.sub_pos.mpr h);apply#[Int.add_nonneg (Int.ediv_nonneg h0 (Int.le_of_lt U)) (by decide),jn (Int.add_le_add_right (Int.ediv_le_self c h0) 1) (by rw[Int.sub_add_cancel];show jn (Int.sub_le_sub B.2 A.1) (by decide))]
  ·apply#[Int.le_refl _,by decide]
 unfold Builtin.Range.small;rw[bx U,kJ (jn (by decide) A.1) (jn A.2 (by decide)),kJ (jn (by decide) B.1) (jn B.2 (by decide)),kJ (jn (by decide) (Int.le_of_lt U)) (jn (Int.le_of_lt Z) (by decide)),kJ (jn (by decide) O.1) O.2,
  kJ (x:=b+(c-1)) (jn (by decide) (Int.add_le_add B.1 (Int.le_sub_one_of_lt U))) (jn (Int.add_le_add B.2 (jn (Int.sub_le_self c (by decide)) (Int.le_of_lt Z))) (by decide)),Bool.or_true]
 rfl
section
variable {G:Stc}{C:Cal}{sc:Scope}{d:Nat}
def xq {s:Shared}{env:Env}{ρ:Fr}{T:String}{es:Exs}{args:List Expr}{P:List V->St->Prop}{Q:QqV}(K:GOk G)(U:noStar args=true)(Z:ou G C sc d es args)(O:sc.names.lookup x=some .globalImplicit)(B:jg x=true)(J:G.gl x=some (.type T))(c:Cx G sc d A env ρ σ s)(h:vq C es ρ σ P)
  (k:∀vs σ₁ s₁ ws,P vs σ₁->VRs G s₁.heap vs ws->Rel G σ₁ s₁.heap->Go [] σ s σ₁ s₁->wpAny G.M A (call (.type T) ws) Q E s₁) :
  wpAny G.M A (eval (.Call (.Name x p) args [] pos) env) Q E s:=
 Call_ (kr K c.eo c.R (by rw[c.es];show O) B J (ug (ji U pos env) (mv (ji U pos env) (rQ (Z c h) k))))
def j8 {s:Shared}{env:Env}{ρ:Fr}{id:String}{es:Exs}{args:List Expr}{P:List V->St->Prop}{Q:QqV}(K:GOk G)(J:noStar args=true)(Z:ou G C sc d es args)(U:sc.names.lookup x=some .globalImplicit)(B:jg x=true)(O:G.gl x=some (.builtin id))(c:Cx G sc d A env ρ σ s)(h:vq C es ρ σ P)
  (k:∀vs σ₁ s₁ ws,P vs σ₁->VRs G s₁.heap vs ws->Rel G σ₁ s₁.heap->Go [] σ s σ₁ s₁->wpAny G.M A (call (.builtin id) ws) Q E s₁) :
  wpAny G.M A (eval (.Call (.Name x p) args [] pos) env) Q E s:=
 Call_ (kr K c.eo c.R (by rw[c.es];show U) B O (pe J Z c h k))
def oP {σ₀:St}{s₀:Shared}{a b c:Int}{t u v:Tok}{xs:List V}{n:Nat}{P:List V->(St->Prop)->St->Prop}{tk:Nat}{dr:Drawn}{s₁:Shared}(R:Rel G σ s₁.heap)(x:Go [] σ₀ s₀ σ s₁)(ha:a.natAbs<2^40)(hb:b.natAbs<2^40)(hc:0<c)(J:c<2^40)
  (O:Builtin.Range.rangeSize a b c=n) (hl:xs.length=n) (hx:∀i,i<n->xs[i]?=some (.int (a+c*i))) (q:P xs (λ_=>True) σ) :
  wpAny G.M A (pyIter (.ref s₁.heap.objs.size)) (tR G σ₀ s₀ tupled P) E #[s₁.heap.push {cls:=.type "range",data:=.fields #v[.int a t,.int b u,.int c v]},s₁.gens,dr,tk,s₁.os]:=by
 apply wpAny_pyIter_range (IsRange.new ..) (HE ha hb hc J) ?_;have hk:∀z o,s₁.heap.get? z=some o->((s₁.heap.push {cls:=.type "range",data:=.fields #v[.int a t,.int b u,.int c v]}).push {cls:=.type "range_iterator",data:=.fields #v[rawInt a,rawInt (Builtin.Range.rangeSize a b c),rawInt c]}).get? z=some o:=λz o e=>aw _ (aw _ e);have U:(s₁.heap.push {cls:=.type "range",data:=.fields #v[.int a t,.int b u,.int c v]}).objs.size=s₁.heap.objs.size+1:=gb ..;have Z:s₁.heap.get? (s₁.heap.objs.size+1)=none:=rj (jf (.k .A .L) .f);apply#[IW G (s₁.heap.objs.size+1) a c n xs hl hx,σ,by rw[<- U];rfl,λh=>(nomatch h),q,#[bh _,?_],R.keeps hk,x.to (Evo.keeps hk),λz hz=>?_,λz hz dm=>?_]
 ·rw[<- U];have:=cf (s₁.heap.push {cls:=.type "range",data:=.fields #v[.int a t,.int b u,.int c v]}) (o:={cls:=.type "range_iterator",data:=.fields #v[rawInt a,rawInt (Builtin.Range.rangeSize a b c),rawInt c]}) rfl;show IsRangeIter _ _ (a+c*((0:Nat):Int)) ((n:Int)-((0:Nat):Int)) c;rw[show a+c*((0:Nat):Int)=a by simp,show(n:Int)-((0:Nat):Int)=n by simp,<- O];show this
 ·have rfl:=au.mp hz;show x.new Z
 ·have B:=au.mp hz;clear hz;have rfl:=B;have#[o,e]:=R.ky dm;rw[Z]at e;cases e
def pP (a b:Int)(n:Nat)(Z:n=(b-a).toNat):(ry a b).length=n/\∀i,i<n->(ry a b)[i]?=some (.int (a+1*i)):=by
 subst Z;apply#[by simp[ry],λi U=>?_];unfold ry;rw[cu,List.getElem?_range U];simp
def ND {e:Ex}{y:Expr}(K:GOk G)(he:dw G C sc d e y)(U:noStar [y]=true)(J:sc.names.lookup x=some .globalImplicit)(hn:jg x=true)(B:G.gl x=some (.type "range")) :
  xh G C sc d tupled (.rng1 e) (.Call (.Name x p) [y] [] pos):=λA E env ρ σ P s c h=>by
 have O:ou G C sc d %[e|0] [y]:=jc he km (fb U).1;apply xq (P:=λvs σ=>on1 vs λv=>∃n:Int,v=.int n/\n.natAbs<2^40/\P (ry 0 n) (λ_=>True) σ) K U O J hn B c h λvs σ₁ s₁ ws q vr r Z=>?_;have#[v,rfl,n,rfl,hb,q]:=mY (vs:=vs) q;have#[w,rfl,t,rfl]:=vr.one;have#[g1,g2]:=pP 0 n _ rfl;show call_range_1 (oP r Z (by decide) hb (by decide) (by decide) (by rw[rangeSize_nat]) g1 g2 q)
def NC {e f:Ex}{y z:Expr}(K:GOk G)(he:dw G C sc d e y)(hf:dw G C sc d f z)(Z:noStar [y,z]=true)(J:sc.names.lookup x=some .globalImplicit)(hn:jg x=true)(B:G.gl x=some (.type "range")) :
  xh G C sc d tupled (.rng2 e f) (.Call (.Name x p) [y,z] [] pos):=λA E env ρ σ P s c h=>by
 have O:ou G C sc d %[e,f|0] [y,z]:=jc he (jc hf km (fb (fb Z).2).1) (fb Z).1;apply xq (P:=λvs σ=>on2 vs λv u=>∃m n:Int,v=.int m/\u=.int n/\m.natAbs<2^40/\n.natAbs<2^40/\P (ry m n) (λ_=>True) σ) K Z O J hn B c h λvs σ₁ s₁ ws q vr r U=>?_;have#[v,u,rfl,m,n,rfl,rfl,ha,hb,q]:=oT (vs:=vs) q;have#[w,w',rfl,#[t,rfl],#[t',rfl]]:=vr.two;have#[g1,g2]:=pP m n _ rfl;show call_range_2 (oP r U ha hb (by decide) (by decide) (by rw[rangeSize_nat]) g1 g2 q)
def VRs.three {h:Heap}{v u z:V}{ws:List Value}(x:VRs G h [v,u,z] ws):∃w U Z,ws=[w,U,Z]/\VR G h v w/\VR G h u U/\VR G h z Z:=by
 have#[w,us,e,a,r]:=x;have#[U,Z,O,b,c]:=VRs.two r;apply#[w,U,Z,e.trans (bz (w::·) O),a,b,c]
end
section
variable {l:List (Int×Value)}
variable {G:Stc}
def lW {k:Key}{v:Value}(h:G.kk.is k v=true):uN v=k:=kF h
def IT {h:Heap}{k:Key}{v:Value}(e:G.kk.is k v=true):VR G h k.v v:=by
 rcases tq e with ⟨i,t,rfl,rfl⟩|⟨x,t,rfl,rfl⟩
 ·show .int _ _
 ·show .str _ _
abbrev zp (l:List (Int×Value)):List Key:=l.map λe=>uN e.2
def pB {es:List (Int×Value)}{ks:List Key}(O:l.Perm es)(he:ElemsOf G.kk es)(B:∀k,decide (k∈ks)=true↔∃e∈es,G.kk.is k e.2=true)(k:Key):k∈zp l↔k∈ks:=by
 apply Iff.trans #[λh=>?_,λh=>?_] ((B k).symm.trans (by simp))
 ·have#[e,U,Z]:=cj.mp h;have J:=O.mem_iff.mp U;have#[#[k',q,_],_]:=he e J;rw[lW q]at Z;apply#[e,J,Z▸q]
 ·have#[e,U,Z]:=h;show cj.mpr #[e,O.mem_iff.mpr U,lW Z]
def sV {es:List (Int×Value)}{i:Nat}{v:V}(B:ElemsOf G.kk es)(J:l.Perm es)(Z:((zp l).map Key.v)[i]?=some v):∃x,l[i]?=some x/\∀h,VR G h v x.2:=by
 unfold zp at Z;rw[cu,cu]at Z;cases U:l[i]? with
 |none=>rw[U]at Z;cases Z
 |some x =>
  rw[U]at Z;have rfl:=ak Z;have#[#[k',q,_],_]:=B x (J.mem_iff.mp (dq U));apply#[x,rfl,λh=>?_];have O:G.kk.is (uN x.2) x.2=true:=by rw[lW q];show q
  show IT O
def pC {i:Nat}(Z:((zp l).map Key.v)[i]?=none):l[i]?=none:=by
 rw[pa,av,zp,av]at Z;show oh Z
def qC {es:Array (Int×Value)}{ps:List Nat}(U:ps.Perm (List.range es.size)):(ps.map λj=>es.getD j (0,.none)).Perm es.toList:=by
 apply(U.map _).trans (.of_eq (List.ext_getElem (by simp) λi O Z=>?_));simp at O Z;simp[Array.getD,Z]
abbrev RO (G:Stc)(it a:Addr)(hne:a≠it)(o:Obj)(es:Array (Int×Value))(ep:Nat)(t:SetTable)(hd:o.data=.set es ep t)(hf:t.fits es.size=true)(hT:Tbl G.led t)(hdr:G.led=true->(!t.plain&&decide (es.size>1))=false)(he:ElemsOf G.kk es.toList):Itr G where
 it:=it
 own:=[it]
 vs:=(zp (fP G a es ep).toList).map Key.v
 Gd:=λτ=>τ.Z a=some o
 tup:=false
 pos:=λi h=>∃slot:Nat,mM h it a (.int slot 0) i es.size ep/\(G.led=true->SetTable.below t.place slot=i)
 keep:=λi h h' zz3 hk _=>by have#[slot,#[o,ho,r],q]:=zz3;apply#[slot,#[o,hk it (.head _) o ho,r],q]
 obj:=λi h z b hb=>by have#[slot,#[o,ho,hc,hd],q]:=z;have rfl:=au.mp hb;apply#[o,ho,kg hc hd (by decide) (by decide)]
 self:=λA E s i Q hp q=>by have#[slot,hp,_]:=hp;show kG hp q
 next:=λA E s σ i v target Q hh R hg hp hv htup k=>by
  have#[slot,hp,hs]:=hp;have#[ho,_]:=R.Z _ _ hg;have#[x,hx,vr]:=sV he (dZ (G:=G) a es ep) hv;apply rU hp ho hd hf hT hdr hs (by simpa using hx) λslot' h' hp' hs' hsb=>?_;have#[oi,hoi,hc,hdi]:=id hp';show nt hoi hc (by decide) (k _ _ (aE hsb .rfl) λ_=>#[vr h',slot',hp',hs'])
 stop:=λA E s σ i Q hh R hg hp hv k=>by
  have#[slot,hp,hs]:=hp;have#[ho,_]:=R.Z _ _ hg;show uH hh hp ho hd hf hT hdr hs (by simpa using pC hv) λh' he'=>k _ (eF he' (.head _) .rfl)
abbrev IX (G:Stc)(it tp a:Addr)(hne:tp≠it)(o:Obj)(es:Array (Int×Value))(ep:Nat)(t:SetTable)(ps:List Nat)(hp:ps.Perm (List.range es.size))(hd:o.data=.set es ep t)(hf:t.fits es.size=true)(he:ElemsOf G.kk es.toList):Itr G where
 it:=it
 own:=[it]
 vs:=(zp (ps.map λj=>es.getD j (0,.none))).map Key.v
 Gd:=λτ=>τ.Z a=some o
 tup:=false
 pos:=λi h=>mM h it a (.ref tp) i es.size ep/\h.get? tp=some (zh ps)
 keep:=λi h h' z hk hf=>by have#[#[o,ho,r],ht]:=z;apply#[#[o,hk it (.head _) o ho,r],hf tp _ ht (.inl #[show Value.type "tuple" ≠ .type "list" by decide,_,_,rfl])]
 obj:=λi h z b hb=>by have#[#[o,ho,hc,hd],q]:=z;have rfl:=au.mp hb;apply#[o,ho,kg hc hd (by decide) (by decide)]
 self:=λA E s i Q hp q=>kG hp.1 q
 next:=λA E s σ i v target Q hh R hg z hv htup k=>by
  have#[ho,_]:=R.Z _ _ hg;have#[x,hx,vr]:=sV he (qC hp) hv;rw[cu]at hx;cases hj:ps[i]? with
  |none=>rw[hj]at hx;cases hx
  |some j =>
   rw[hj]at hx;have lt:j<es.size:=gJ.mp (hp.mem_iff.mp (dq hj));have rfl:=ak hx;apply zQ z.1 z.2 ho hd hf hj (show es[j]?=some (es.getD j (0,.none)) by simp[Array.getD,lt]) λh' hp' hsb=>?_;have#[oi,hoi,hc,hdi]:=id hp';show nt hoi hc (by decide) (k _ _ (aE hsb .rfl) λ_=>#[vr h',hp',by rw[hsb.2 _ hne];show z.2])
 stop:=λA E s σ i Q hh R hg z hv k=>by
  have#[ho,_]:=R.Z _ _ hg;show ER hh z.1 z.2 ho hd hf (by simpa using pC hv) λh' he'=>k _ (eF he' (.head _) .rfl)
def pairs_at {G:Stc}{h:Heap}:∀{es:List (Key×V)} {ds:List (Key×Value)},DRs G h es ds->ds.map (·.1)=es.map (·.1)/\∀(i:Nat) (e:Key×V),es[i]?=some e->∃w,ds[i]?=some (e.1,w)/\VR G h e.2 w
 | [],ds=>λr=>by have rfl:=r;apply#[rfl,λi e q=>by simp at q]
 |e::es,ds=>λr=>by
  have#[w,us,rfl,a,r]:=r;have#[U,Z]:=pairs_at r;apply#[by rw[lr,lr,U],λi O q=>?_];cases i with
  |zero=>have rfl:=ak q;apply#[w,rfl,a]
  |succ i=>show Z i O q
abbrev N9 (G:Stc)(it d:Addr)(o:Obj)(es:List (Key×V))(ds:List (Key×Value))(ep:Nat)(hds:ds.map (·.1)=es.map (·.1))(hat:∀h:Heap,h.get? d=some o->h.DictAt G.kk d ds ep):Itr G where
 it:=it
 own:=[it]
 vs:=es.map λe=>e.1.v
 Gd:=λτ=>τ.Z d=some o
 tup:=false
 pos:=λi h=>h.IsKeyIter it d i ds.length ep
 keep:=λi h h' zz3 hk _=>by have#[o,ho,r]:=zz3;apply#[o,hk it (.head _) o ho,r]
 obj:=λi h z b hb=>by have#[o,ho,hc,hd]:=z;have rfl:=au.mp hb;apply#[o,ho,kg hc hd (by decide) (by decide)]
 self:=λA E s i Q hp q=>by
  apply nD hp.typeIs F.slot_dict_keyiterator_iter (gj F.slot_dict_keyiterator_iter hp.typeIs F.entry_dict_keyiterator_iter ?_ (F.args_dict_keyiterator_iter_1 _));show wpAny _ _ (ret (.ref it)) _ _ s;show ah #[_,rfl,"dict_keyiterator",_,hp.typeIs,F.slot_dict_keyiterator_next.lookup,q]
 next:=λA E s σ i v target Q hh R hg hp hv htup k=>by
  have#[ho,_]:=R.Z _ _ hg;have hx:(ds.map (·.1))[i]?.map Key.v=some v:=by
   rw[hds,<- cu,pn];show hv
  rw[cu]at hx;cases hq:ds[i]? with
  |none=>rw[hq]at hx;cases hx
  |some e =>
   rw[hq]at hx;have rfl:=ak hx;apply wpAny_pyNext_dict_item hp (hat _ ho) hq λkey h' hk hp' hsb=>?_;have#[oi,hoi,hc,hdi]:=id hp';show nt hoi hc (by decide) (k _ _ (aE hsb .rfl) λ_=>#[IT hk,hp'])
 stop:=λA E s σ i Q hh R hg hp hv k=>by
  have#[ho,_]:=R.Z _ _ hg;have hlen:ds.length=es.length:=by have:=bz List.length hds;simpa using this
  have hx:ds[i]?=none:=by
   rw[pa,av]at hv;show oh (fk .A .b .G (.e .A .C) hv hlen)
  show wpAny_pyNext_dict_end hh hp (hat _ ho) hx λh' he=>k _ (eF he (.head _) .rfl)
end
abbrev RN (G:Stc)(it t:Addr)(xs:List V):Itr G where
 it:=it
 own:=[it]
 vs:=xs
 Gd:=λ_=>True
 tup:=false
 pos:=λi h=>IsTupIter h it t i/\t≠it/\∃ws n,IsT h t ws.toArray n/\VRs G h xs ws
 keep:=λi h h' zz3 hk hf=>by have#[#[o,ho,r],hne,ws,n,ht,vr]:=zz3;apply#[#[o,hk it (.head _) o ho,r],hne,ws,n,hf t _ (show h.get? t=some {cls:=.type "tuple",dict:=none,data:=.seq ws.toArray n,slots:=#v[]} from ht) (.inl #[show Value.type "tuple" ≠ .type "list" by decide,_,_,rfl]),vr.mono hf]
 obj:=λi h z b hb=>by have#[#[o,ho,hc,hd],_]:=z;have rfl:=au.mp hb;apply#[o,ho,kg hc hd (by decide) (by decide)]
 self:=λA E s i Q hp q=>wpAny_pyIter_tupleiter hp.1 q
 next:=λA E s σ i v target Q hh R hg hp hv htup k=>by
  have#[hp,hne,ws,n,ht,vrs]:=hp;have#[w,hw,vr]:=vrs.get hv;apply next_tuple_item hp #[_,ht,rfl,n,rfl] (by simpa using hw) λh' hp' hs=>?_;have#[o,ho,hc,hd]:=id hp';show nt ho hc (by decide) (k w _ (aE hs .rfl) λhf=>#[vr.mono hf,hp',hne,ws,n,by rw[IsT,hs.2 _ hne];show ht,vrs.mono hf])
 stop:=λA E s σ i Q hh R hg hp hv k=>by
  have#[hp,hne,ws,n,ht,vrs]:=hp;have hlen:=vrs.length;show next_tuple_end hh hp #[_,ht,rfl,n,rfl] (by simpa[<- hlen] using hv) λh' he=>k _ (eF he (.head _) .rfl)
section
variable {G:Stc}{C:Cal}{sc:Scope}{d:Nat}
def RP {tupled:Bool}{e:Ex}{y:Expr}(he:dw G C sc d e y):xh G C sc d tupled (.seq e) y:=λA E env ρ σ P s c h=>by
 apply nr (he c h) λv σ₁ s₁ w q vr r x=>?_;have Z:s₁.heap.get? s₁.heap.objs.size=none:=none_at_size s₁.heap;have U:s.heap.get? s₁.heap.objs.size=none:=x.new Z;have J:¬σ₁.dom s₁.heap.objs.size:=λdm=>by have#[o,e]:=r.ky dm;rw[Z]at e;cases e
 cases v with
 |L a =>
  have rfl:=vr;have#[xs,e,q]:=q;have#[ws,n,hl,hv]:=r.L _ _ e;have O:=gm (fj hl);apply nE hl.isList ?_;apply#[N8 G s₁.heap.objs.size _ O xs,σ₁,rfl,λh=>(nomatch h),q,#[_,cf _ rfl,rfl,rfl],r.push _,x.to (Evo.push _ _ _ _),λz hz=>by have rfl:=au.mp hz;show U,λz hz=>by have rfl:=au.mp hz;show J]
 |T xs =>
  have#[a,ws,n,rfl,g,ai]:=vr;have O:=gm (fj g);apply iter_tuple #[_,g,rfl,_,rfl] ?_;apply#[RN G s₁.heap.objs.size _ _,σ₁,rfl,λh=>(nomatch h),q,#[#[_,cf _ rfl,rfl,rfl],O,_,_,g.push _,ai.mono λ_ _ e _=>aw _ e],r.push _,x.to (Evo.push _ _ _ _),λz hz=>by have rfl:=au.mp hz;show U,λz hz=>by have rfl:=au.mp hz;show J]
 |set a =>
  have rfl:=vr;have#[ks,e,q]:=q;have#[o,B,ep,t,ho,hc,hd,ab,hm,ao,hf,hn,hT]:=r.S _ _ e;have O:=gm (fj ho);have dm:(σ₁.D a).isSome\/(σ₁.S a).isSome:=.inr (by rw[e];rfl);apply IY ho hc.1 hd hf ao (λar=>?_) λps dr hp=>?_
  ·apply#[RO G s₁.heap.objs.size a O o B ep t hd hf hT ar ab,σ₁.iE a o,rfl,λh=>(nomatch h),q o (zp (fP G a B ep).toList) (pB (dZ a B ep) ab hm) (by rw[zp,av,(dZ a B ep).length_eq,iz,hn]),#[0,#[_,cf _ rfl,rfl,rfl],λ_=>AS hT.rise],(r.zH ho dm).push _,x.to ((Evo.zH dm).trans (Evo.push _ _ _ _)),λz hz=>by have rfl:=au.mp hz;show U,λz hz=>by have rfl:=au.mp hz;show λdz=>J (qD (.inr (.inr (.inl (by rw[e];rfl)))) dz)]
  ·have ag:=qC hp;have r2:=(r.zH ho dm).push (zh ps);have aa:(s₁.heap.push (zh ps)).get? (s₁.heap.push (zh ps)).objs.size=none:=none_at_size _;apply⟨IX G (s₁.heap.push (zh ps)).objs.size s₁.heap.objs.size a (by rw[gb];show gm (nj _)) o B ep t ps hp hd hf ab,σ₁.iE a o,rfl,λh=>(nomatch h),q o _ (pB ag ab hm) (by rw[zp,av,ag.length_eq,iz,hn]),#[#[_,cf _ rfl,rfl,rfl],aw _ (cf _ rfl)],r2.push _,x.to (((Evo.zH dm).trans (Evo.push _ _ _ _)).trans (Evo.push _ _ _ _)),λz hz=>by
    have rfl:=au.mp hz;show x.new (rj (by rw[gb];show xj _)),λz hz=>by
    have zz:=au.mp hz;clear hz;have rfl:=zz;show λdz=>by have#[o',e']:=r2.ky dz;rw[aa]at e';cases e'⟩
 |_=>show False.elim q
end
section
variable {prog:Program}{w:World}{A:Around}{E:QqV}{s:Shared}
def AN {c:Value}{Q:Bool->Shared->Prop}(h:∀b,Q b s):wpAny (model prog w) A (Builtin.SmallTypes.calledThroughType c) Q E s:=af (wpAny_stack_any λ_=>ah (h _))
def pD {v:Value}{ob:Obj}{Pre:Heap->Prop}(J:∀{prog:Program} {w:World} {A:Around} {E:QqV} {s:Shared} {Q:QqV},Pre s.heap->Q (.ref s.heap.objs.size) {s with heap:=s.heap.push ob}->wpAny (model prog w) A (pyIter v) Q E s) :
  Meets (Builtin.«enumerate.__new__» #[[.type "enumerate",v],[]]) (λ_ R s=>Pre s.heap /\
   R (.ok (.ret (.ref (s.heap.push ob).objs.size))) {s with heap:=(s.heap.push ob).push {cls:=.type "enumerate",data:=.fields #v[.none,.bool false,.ref s.heap.objs.size,rawInt 0,.none,.none]}}):=
 .of_wp λprog w A R s h=>by
  have#[Z,g,d,tk,os]:=s;have#[hl,h]:=h;have U:=sub_enumerate;have O:∀{A:Around} {E:QqV} {Q:QqV},Q (.ref Z.objs.size) #[Z.push ob,g,d,tk,os]->wpAny (model prog w) A (pyIter v) Q E #[Z,g,d,tk,os]:=λq=>J (s:=#[Z,g,d,tk,os]) hl q
  wp_walk using AN
  intro b;cases b
  ·wp_walk using O
   apply#[_,rfl,h]
  ·wp_walk using O
   apply#[_,rfl,h]
def F5 {v:Value}{ob:Obj}{Pre:Heap->Prop}{Q:QqV}(J:ob.isFreed=false)(U:∀{prog:Program} {w:World} {A:Around} {E:QqV} {s:Shared} {Q:QqV},Pre s.heap->Q (.ref s.heap.objs.size) {s with heap:=s.heap.push ob}->wpAny (model prog w) A (pyIter v) Q E s)
  (O:Pre s.heap) (h:∀h',IsEnum h' (s.heap.objs.size+1) s.heap.objs.size 0 .none->h'.get? s.heap.objs.size=some ob->(∀b o,s.heap.get? b=some o->h'.get? b=some o)->Q (.ref (s.heap.objs.size+1)) {s with heap:=h'}) :
  wpAny (model prog w) A (call (.type "enumerate") [v]) Q E s:=by
 apply callType_new PySem.F.called_enumerate (by decide) (PySem.F.typeCall_enumerate_1 _) (PySem.F.newCall_enumerate_1 _) (λobj=>PySem.F.args_object_init_2 obj _) PySem.F.entry_enumerate_new (pD U) #[O,?_];have hz:(s.heap.push ob).objs.size=s.heap.objs.size+1:=gb ..;show _/\_;rw[hz];have Z:IsEnum ((s.heap.push ob).push {cls:=.type "enumerate",data:=.fields #v[.none,.bool false,.ref s.heap.objs.size,rawInt 0,.none,.none]}) (s.heap.objs.size+1) s.heap.objs.size 0 .none:=by
  have:=cf (s.heap.push ob) (o:={cls:=.type "enumerate",data:=.fields #v[.none,.bool false,.ref s.heap.objs.size,rawInt 0,.none,.none]}) rfl;rw[hz]at this;show this
 apply#[#[_,Z,rfl],h _ Z (aw _ (cf _ J)) λb o x=>aw _ (aw _ x)]
end
public abbrev B5 (T:String)(x0:Value)(it:Addr)(i:Nat)(h:Heap):Prop:=∃o,h.get? it=some o/\o.cls=.type T/\o.data=.fields #v[x0,.int i 0]
abbrev SP (G:Stc)(v:V)(xs:List V)(it:Addr)(fp:List Addr)(T:String)(x0:Value)(okF:Heap->Prop):Prop:=
 ∀⦃σ:St⦄ ⦃h:Heap⦄ ⦃i:Nat⦄ ⦃A:Around⦄,A.handled=none->okF h->B5 T x0 it i h->Rel G σ h->zl σ v=some xs ->
  ∃P St,Draws G.prog G.w A it fp xs.length P St/\St i h/\(∀j h',St j h'->B5 T x0 it j h')/\∀u w h',gy h h'->P i w->xs[i]?=some u->VR G h' u w
abbrev NA {G:Stc}{e it:Addr}{v:V}{xs:List V}{fp:List Addr}{T:String}{x0:Value}{okF:Heap->Prop}(hei:e≠it)(hef:e∉fp)(h1:T ≠ "builtin_function_or_method")(h2:T ≠ "method-wrapper")
  (okf:∀h h',okF h->gy h h'->okF h') (src:SP G v xs it fp T x0 okF):Itr G where
 it:=e
 own:=[e,it]
 vs:=xs.zipIdx.map λp=>V.T [.int p.2,p.1]
 Gd:=λτ=>zl τ v=some xs
 tup:=true
 pos:=λi h=>(∃old,IsEnum h e it i old)/\B5 T x0 it i h/\okF h/\i<=xs.length
 keep:=λi h h' zz3 hk hf=>by have#[#[old,he],#[o,ho,r],hz]:=zz3;apply#[#[old,hk e (.head _) _ he],#[o,hk it (.tail _ (.head _)) o ho,r],okf _ _ hz.1 hf,hz.2]
 obj:=λi h z b hb=>by
  have#[#[old,he],#[o,ho,hc,hd],hz]:=z;rcases cz.mp hb with rfl|hb
  ·apply#[_,he,kg rfl rfl (by decide) (by decide)]
  ·have rfl:=au.mp hb;apply#[o,ho,kg hc hd h1 h2]
 self:=λA E s i Q hp q=>by have#[#[old,he],_]:=hp;show wpAny_pyIter_enum he q
 next:=λA E s σ i u target Q hh R hg hp hv htup k=>by
  have#[#[old,he],hit,hok]:=hp;rw[cu,List.getElem?_zipIdx]at hv;cases hxi:xs[i]? with
  |none=>rw[hxi]at hv;cases hv
  |some u' =>
   rw[hxi]at hv;have hv:V.T [.int (0+i:Nat),u']=u:=ak hv;rw[nc]at hv;subst hv;have#[es,kk,p,rfl]:=htup rfl;have#[P,St,D,hst,back,val]:=src (A:=A.in1) hh hok.1 hit R hg;have hlt:i<xs.length:=(bw.mp hxi).1;apply wpAny_pyNext_enum_itemD D he hst hlt hei hef λx h' tk hP heo hst' htp hz hk=>?_;apply wpAny_letOwnedTupleGo_enum heo λh₂ he₂ hs₂=>?_;have old':∀b o,b∉[e,it]->s.heap.get? b=some o->h₂.get? b=some o:=λb o hb eb=>by
    have hbe:b≠e:=λq=>hb (q▸.head _);rw[hs₂.2 b hbe];show hk b o hbe (λq=>hb (q▸.tail _ (.head _))) eb
   have hne:s.heap.objs.size≠e:=λq=>gp e (Nat.lt_of_lt_of_eq (fj he) q);have htp2:IsT h₂ s.heap.objs.size [Value.int i tk,x].toArray 0:=by
    show h₂.get? _=_;rw[hs₂.2 _ hne];show htp
   show k _ _ #[old',.rfl] λhf=>#[.T htp2 %[.int _ _,val u' x _ hf hP hxi|0],#[_,by exact_mod_cast he₂],back _ _ (D.frame _ _ _ hst' λb hb o eb=>by rw[hs₂.2 b λq=>hef (q▸hb)];show eb),okf _ _ hok.1 hf,hlt]
 stop:=λA E s σ i Q hh R hg hp hv k=>by
  have#[#[old,he],hit,hok]:=hp;have#[P,St,D,hst,back,val]:=src (A:=A.in1) hh hok.1 hit R hg;have hx:xs.length<=i:=by
   have:=pa.mp hv
   rwa [av,List.length_zipIdx]at this
  have rfl:=Nat.le_antisymm hok.2 hx;show wpAny_pyNext_enum_endD D he hst λh' hx'=>k _ (eF hx' (.tail _ (.head _)) .rfl)
section
variable {G:Stc}{C:Cal}{sc:Scope}{d:Nat}
def NW {A:Around}{E:QqV}{σ σ₁:St}{s s₁:Shared}{tp:Bool}{P:List V->(St->Prop)->St->Prop}{v:V}{xs:List V}{w x0:Value}{T:String}{fp:List Addr}{Pre Z:Heap->Prop}(hT:T ≠ "builtin_function_or_method"/\T ≠ "method-wrapper"/\({cls:=.type T,data:=.fields #v[x0,.int 0 0]}:Obj).isFreed=false)
  (hv:∀{prog:Program} {w':World} {A:Around} {E:QqV} {s:Shared} {Q:QqV},Pre s.heap->Q (.ref s.heap.objs.size) {s with heap:=s.heap.push {cls:=.type T,data:=.fields #v[x0,.int 0 0]}}->wpAny (model prog w') A (pyIter w) Q E s)
  (hp:Pre s₁.heap) (aa:∀b∈fp,b<s₁.heap.objs.size+1) (B:tp=true) (ok:Z s₁.heap) (O:∀h h',Z h->gy h h'->Z h') (J:SP G v xs s₁.heap.objs.size fp T x0 Z)
  (q:P (xs.zipIdx.map λp:V×Nat=>V.T [.int p.2,p.1]) (λτ=>zl τ v=some xs) σ₁) (r:Rel G σ₁ s₁.heap) (U:Go [] σ s σ₁ s₁):wpAny G.M A (call (.type "enumerate") [w]) (λv s₂=>wpAny G.M A (pyIter v) (tR G σ s tp P) E s₂) E s₁:=by
 apply F5 hT.2.2 hv hp λh' hE hI hk=>?_;apply wpAny_pyIter_enum hE ?_;have fresh:∀z∈[s₁.heap.objs.size+1,s₁.heap.objs.size],s₁.heap.get? z=none:=λz hz=>rj (by
  rcases cz.mp hz with rfl|hz
  ·show xj _
  ·have rfl:=au.mp hz;show az _)
 apply⟨NA (G:=G) (e:=s₁.heap.objs.size+1) (Nat.succ_ne_self _) (λm=>gp _ (aa _ m)) hT.1 hT.2.1 O J,σ₁,rfl,λ_=>B,q,#[#[_,hE],#[_,hI,rfl,rfl],O _ _ ok λb o e _=>hk b o e,bh _],r.keeps hk,U.to (Evo.keeps hk),λz hz=>U.new (fresh z hz),λz hz dm=>by
  have#[o,e]:=r.ky dm;rw[fresh z hz]at e;cases e⟩
def U2 {a b:Addr}(h:a<b):∀z∈[b,a],z<b+1:=λz hz=>by
 rcases cz.mp hz with rfl|hz
 ·show nj _
 ·have rfl:=au.mp hz;show Nat.lt_succ_of_lt h
def LQ {a it:Addr}{xs:List V}(J:a≠it):SP G (.L a) xs it [it,a] "list_iterator" (.ref a) (λ_=>True):=λσ h i A hh _ hit R hg=>by
 have#[ws,n,hl,Z]:=R.L a xs hg;have D:=Draws.list (prog:=G.prog) (w:=G.w) hh it a J ws.toArray;rw[show ws.toArray.size=xs.length from cy.trans Z.length.symm]at D;apply#[_,_,D,#[hit,hl.isList],λ_ _ x=>x.1,λu w h' hf U B=>?_];have#[w',O,vr]:=Z.get B;have U:ws[i]?=some w:=by rw[<- List.getElem?_toArray];show U
 rw[O]at U;show ak U▸vr.mono hf
def NG {e:Ex}{x:Str}{y:Expr}{p pos:Pos}(K:GOk G)(he:dw G C sc d e y)(U:noStar [y]=true)(B:sc.names.lookup x=some .globalImplicit)(hn:jg x=true)(hv:G.gl x=some (.type "enumerate")) :
  xh G C sc d true (.enum e) (.Call (.Name x p) [y] [] pos):=λA E env ρ σ P s c h=>by
 have J:ou G C sc d %[e|0] [y]:=jc he km (fb U).1;apply xq (P:=λvs σ=>on1 vs λv=>∃xs:List V,zl σ v=some xs/\xs.length<=bq/\P (xs.zipIdx.map λp:V×Nat=>V.T [.int p.2,p.1]) (λτ=>zl τ v=some xs) σ) K U J B hn hv c h λvs σ₁ s₁ ws q vr r Z=>?_;have#[v,rfl,xs,e1,hz,q]:=mY (vs:=vs) q;have#[w,rfl,vw]:=vr.one;cases v with
 |L a =>
  have rfl:=vw;have#[us,n,hl,aa]:=r.L _ _ e1;have O:=fj hl;show NW (Pre:=λh=>h.IsList a us.toArray) #[by decide,by decide,rfl] (λhl q=>nE hl q) hl.isList (U2 O) rfl trivial (λ_ _ _ _=>trivial) (LQ (gm O)) q r Z
 |_=>cases e1
end
variable {α:Type}{x:Str}
def ib:∀(names:List (Str×NameKind)) (n:Nat) (acc:List (Str×Addr)),cellsFrom n names acc=cellsFrom n names []++acc
 | []=>λ_ _=>by simp[cellsFrom]
 |(x,k)::r=>λn acc=>by
  unfold cellsFrom;split
  ·rw[ib r (n+1) ((x,n)::acc),ib r (n+1) [(x,n)]];simp
  ·show ib r n acc
def zt:∀(names:List (Str×NameKind)) (n:Nat) (x:Str) (c:Addr),(x,c)∈cellsFrom n names []->(x,NameKind.cell)∈names
 | []=>λ_ _ _ h=>by simp[cellsFrom]at h
 |(y,k)::r=>λn x c h=>by
  unfold cellsFrom at h;split at h
  ·rename_i hk;rw[ib]at h;rcases dj.mp h with h|h
   ·show .tail _ (zt r _ x c h)
   ·have#[rfl,rfl]:=uh (au.mp h);rw[wq]at hk;subst hk;show .head _
  ·show .tail _ (zt r _ x c h)
def vp:∀(names:List (Str×NameKind)) (n:Nat) (x:Str),(x,NameKind.cell)∈names->∃c,(x,c)∈cellsFrom n names []
 | []=>λ_ _ h=>by cases h
 |(y,k)::r=>λn x h=>by
  unfold cellsFrom;split
  ·rw[ib];rcases cz.mp h with e|h
   ·have#[rfl,_]:=uh e;apply#[n,gc _ (.head _)]
   ·have#[c,Z]:=vp r (n+1) x h;apply#[c,gq _ Z]
  ·rename_i hk;rcases cz.mp h with e|h
   ·have#[_,rfl]:=uh e;simp at hk
   ·show vp r n x h
def tf {l:List (Str×α)}{c:α}(h:(x,c)∈l):∃Z,l.lookup x=some Z:=by
 cases hq:l.lookup x with
 |some Z=>refine#[Z,rfl]
 |none=>rw[rg]at hq;have:=hq _ h;simp at this
def yg {l r:List (Str×α)}{c:α}(h:l.lookup x=some c):(l++r).lookup x=some c:=by
 rw[List.lookup_append,h];rfl
def iJ {l r:List (Str×α)}(h:l.lookup x=none):(l++r).lookup x=r.lookup x:=by
 rw[List.lookup_append,h];rfl
def xR {names:List (Str×NameKind)}(nd:(names.map (·.1)).Nodup){k k':NameKind}(h:(x,k)∈names)(h':(x,k')∈names):k=k':=by
 have#[i,hi,e]:=iv.mp h;have#[j,O,J]:=iv.mp h';have U:names[i]?=some (x,k):=by rw[di hi,e]
 have Z:names[j]?=some (x,k'):=by rw[di O,J]
 have:=kC nd U Z;subst this;rw[U]at Z;cases Z;rfl
structure KU (G:Stc)(σ:St)(h:Heap)(names:List (Str×NameKind))(cl:List (Str×Addr))(ρf:Fr):Prop where
 free:∀(i:Nat) (x:Str),names[i]?=some (x,.free)->∃c w,cl.lookup x=some c/\h.IsCell c w/\OV G h (ρf i) w/\¬σ.dom c/\(G.cap x=false->G.hb.get? c=none)
 inj:∀(i j:Nat) (x y:Str) (c:Addr),names[i]?=some (x,.free)->names[j]?=some (y,.free)->cl.lookup x=some c->cl.lookup y=some c->i=j
 all:∀p∈cl,∃o,h.get? p.2=some o
 other:∀(i:Nat) (x:Str) (k:NameKind),names[i]?=some (x,k)->k≠.free->ρf i=none
def pS {G:Stc}{σ:St}{h:Heap}{names:List (Str×NameKind)}{cl:List (Str×Addr)}{ρf:Fr}{env:Env}{T:String}(R:Rel G σ h)(nd:(names.map (·.1)).Nodup)(K:KU G σ h names cl ρf)
  (hl:env.locals=h.objs.size) (hc:env.cells=cellsFrom (h.objs.size+1) names cl) (hk:∀(i:Nat) (x:Str) (k':NameKind),env.scope.names[i]?=some (x,k')->∃k,names[i]?=some (x,k)/\(k'=k\/(k=.free/\k'=.cell))) :
  FR G σ env ρf (pushCells (h.push {cls:=.type T,data:=.dict #v[]}) names)/\(∀b o,h.get? b=some o->(pushCells (h.push {cls:=.type T,data:=.dict #v[]}) names).get? b=some o):=by
 have keep:∀b o,h.get? b=some o->(pushCells (h.push {cls:=.type T,data:=.dict #v[]}) names).get? b=some o:=λb o e=>pushCells_keeps _ _ b o (aw _ e);have frz:gy h (pushCells (h.push {cls:=.type T,data:=.dict #v[]}) names):=λb o e _=>keep b o e;have ok:=cellsFrom_ok names (h.push {cls:=.type T,data:=.dict #v[]}) (h.objs.size+1) [] #[λ_ _ hm=>(nomatch hm),List.Pairwise.nil] (by rw[gb];show az _);rw[gb]at ok;have O:∀c,h.objs.size<=c->¬σ.dom c:=λc hc d=>by have#[o,e]:=R.ky d;show absurd (fj e) (rz.mpr hc)
 have U:∀c,h.objs.size<=c->G.hb.get? c=none:=λc hc=>by
  cases hq:G.hb.get? c with
  |none=>rfl
  |some o=>show absurd (fj (R.base c o hq)) (rz.mpr hc)
 have J:(pushCells (h.push {cls:=.type T,data:=.dict #v[]}) names).get? h.objs.size=some {cls:=.type T,data:=.dict #v[]}:=pushCells_keeps _ _ _ _ (cf _ rfl);have cellAt:∀(i:Nat) (x:Str),names[i]?=some (x,.cell)->∃c,env.cells.lookup x=some c/\(x,c)∈cellsFrom (h.objs.size+1) names []:=λi x e=>by
  have#[c,hm]:=vp names (h.objs.size+1) x (dq e);have#[c',ag]:=tf hm;apply#[c',by rw[hc,ib];show yg ag,mem_of_lookup ag]
 have Z:∀(i:Nat) (x:Str),names[i]?=some (x,.free)->env.cells.lookup x=cl.lookup x:=λi x e=>by
  rw[hc,ib];apply iJ ?_;cases hq:(cellsFrom (h.objs.size+1) names []).lookup x with
  |none=>rfl
  |some c=>have:=xR nd (zt _ _ _ _ (mem_of_lookup hq)) (dq e);cases this
 apply#[#[#[_,by rewrite [hl];show(Heap.Ns.new h (.type T)).keeps (pushCells_keeps _ _),λi x e=>?_],λi x k' e bl=>?_,λi j x y k k' c ei ej bd bb lx ly=>?_,by rw[hl];show O _ (az _),λo e=>?_,by rw[hl];show U _ (az _),λp hp=>?_],keep]
 ·have#[k,e',aa]:=hk i x _ e;have:ρf i=none:=K.other i x k e' (by rcases aa with h|⟨_,h⟩;show h▸(by decide);cases h);rw[this];trivial
 ·have#[k,e',aa]:=hk i x _ e;have ab:k=.cell\/k=.free:=by rcases aa with h|⟨h,_⟩;show h▸bl;show .inr h
  rcases ab with rfl|rfl
  ·have#[c,ar,hm]:=cellAt i x e';have B:=ok.empty x c hm;apply#[c,none,ar,B.1,by rewrite [K.other i x _ e' (by decide)];trivial,O c (Nat.le_of_succ_le B.2),by rewrite [hl];show Nat.ne_of_gt (Nat.lt_of_succ_le B.2),λ_=>U c (Nat.le_of_succ_le B.2)]
  ·have#[c,w,h1,h2,h3,h4,h5]:=K.free i x e';apply#[c,w,by rw[Z i x e'];show h1,h2.keeps keep,h3.mono frz,h4,?_,h5];rw[hl];show gm h2.lt
 ·have#[k1,e1,be]:=hk i x _ ei;have#[k2,e2,ab]:=hk j y _ ej;have ao:k1=.cell\/k1=.free:=by rcases be with h|⟨h,_⟩;show h▸bd;show .inr h
  have ai:k2=.cell\/k2=.free:=by rcases ab with h|⟨h,_⟩;show h▸bb;show .inr h
  have low:∀(i:Nat) (x:Str) (c:Addr),names[i]?=some (x,.free)->env.cells.lookup x=some c->c<h.objs.size:=λi x c e l=>by
   have#[c',w,h1,h2,_]:=K.free i x e;rw[Z i x e,h1]at l;cases (l);show h2.lt
  have high:∀(i:Nat) (x:Str) (c:Addr),names[i]?=some (x,.cell)->env.cells.lookup x=some c->h.objs.size<c/\(x,c)∈cellsFrom (h.objs.size+1) names []:=λi x c e l=>by
   have#[c',h1,h2]:=cellAt i x e;rw[h1]at l;cases (l);apply#[(ok.empty x c h2).2,h2]
  rcases ao with rfl|rfl<;>rcases ai with rfl|rfl
  ·have#[_,m1]:=high i x c e1 lx;have#[_,m2]:=high j y c e2 ly;have:=name_of_addr ok.apart m1 m2;subst this;show kC nd e1 e2
  ·have:=(high i x c e1 lx).1;have:=low j y c e2 ly;show absurd ‹c<h.objs.size› (rz.mpr (iy ‹h.objs.size<c›))
  ·have:=(high j y c e2 ly).1;have:=low i x c e1 lx;show absurd ‹c<h.objs.size› (rz.mpr (iy ‹h.objs.size<c›))
  ·show K.inj i j x y c e1 e2 (by rw[<- Z i x e1];show lx) (by rw[<- Z j y e2];show ly)
 ·rw[hl,J]at e;cases e;show tu rfl
 ·rw[hc,ib]at hp;rcases dj.mp hp with hp|hp
  ·have#[#[o,ho,_],_]:=ok.empty p.1 p.2 hp;apply#[o,ho]
  ·have#[o,ho]:=K.all p hp;apply#[o,keep _ _ ho]
section
variable {G:Stc}{A:Around}{E:QqV}
def tM {env:Env}{σ:St}{X:List Addr}(eo:rv env)(aa:env.locals∈X)(hN:∀(i:Nat) x c,env.scope.names[i]?=some (x,.cell)->env.cells.lookup x=some c->c∈X/\G.hb.get? c=none)(f:Str×Value->PUnit->Sem (ForInStep PUnit))(hf:∀n v u,f (n,v) u=(do storeName env n v;pure (.yield #[]))) :
  ∀(j:Nat) (ns:List Str) (vs:List V) (ws:List Value) (ρ:Fr) (s:Shared) (Q:PUnit->Shared->Prop),ns.length=ws.length->(∀(i:Nat) (x:Str),ns[i]?=some x->∃k,env.scope.names[j+i]?=some (x,k)/\sY k=true) ->
   FR G σ env ρ s.heap->Rel G σ s.heap->VRs G s.heap vs ws ->
   (∀s' ρ',(∀i,ρ' i=if i<j then ρ i else if i<j+vs.length then vs[i-j]? else ρ i)->FR G σ env ρ' s'.heap->Rel G σ s'.heap->Go X σ s σ s'->Q #[] s') ->
   wpAny G.M A (forIn (ns.zip ws) #[] f) Q E s
 |j,[],vs,ws,ρ,s,Q,hl,hn,F,R,vr,q=>by
  cases ws with
  |cons _ _=>simp at hl
  |nil =>
   cases vs with
   |cons _ _=>have#[_,_,e,_]:=vr;cases e
   |nil =>
    rw[List.zip_nil_left,oe];apply ah (q s ρ (λi=>?_) F R .refl);by_cases h:i<j
    ·simp[h]
    ·simp[h]
 |j,x::ns,vs,ws,ρ,s,Q,hl,hn,F,R,vr,q=>by
  cases vs with
  |nil=>have rfl:=vr;cases hl
  |cons v vs =>
   have#[w,ws,rfl,va,vr]:=vr;rw[List.zip_cons_cons,pd,hf];have#[k,hi,hk]:=hn 0 x rfl;apply af (af (j6 eo F R hi hk (λc hc e=>(hN _ _ c (e▸hi) hc).2) va aa (λc hc e=>(hN _ _ c (e▸hi) hc).1) λs' F' R' x'=>ah ?_));apply tM eo aa hN f hf (j+1) ns vs ws _ s' Q (by simpa using hl) (λi y e=>?_) F' R' (vr.mono x'.frz) λs2 ρ' J F2 R2 x2=>?_
   ·have#[k,hi,hk]:=hn (i+1) y (by simpa using e);apply#[k,by rw[show j+1+i=j+(i+1) by(show vi (.e .Z .a8) .n)];show hi,hk]
   ·apply q s2 ρ' (λi=>?_) F2 R2 (x'.trans x2);rw[J i];simp only[kj,Nat.add_zero];by_cases U:i<j
    ·rw[bx (bt .a7 .a .B U),bx U,cv (bt .cM [[-1,1]] .B U)]
    ·rw[ay U];by_cases h2:i=j
     ·clear q hn J;subst h2;rw[bx (jf (.l .A .L) .f),bx (vi (.l .A .a8) .f),br];simp
     ·rw[ay ((ba h2).elim (λO=>(gz (.g .A .M) .d .cX .B U O)) λO=>(bt (.g .A .M) .a .W O))];by_cases h3:i<j+1+vs.length
      ·rw[bx h3,bx (ek (.l .A .aG) .a (.l .A (.a .M .C)) h3),show i-j=(i-(j+1))+1 by(show Ar.sub _ _ (λO p1=>(fc .a9 .l .bC (.e .aG .D) (ae (bt .A .a (.g .B .A) U)) p1)) λO p1=>((ba h2).elim (λq2=>(eM .a9 [[0,1,0,0,1],[1,0,1,1,0]] .bR .cC (.k .C .V) .N U (ae (bt .A .a (.g .B .A) U)) O q2)) λq2=>(eM .a9 [[1,-1,0,1,1],[1,1,1,0,0]] .bC (.k .D .R) .aJ .N (ae (bt .A .a (.g .B .A) U)) O p1 q2)))];simp
      ·rw[ay h3,ay (ek (.g .A .aG) .a (.g .A (.a .M .C)) h3),cv h2]
end
variable {d n:Nat}{a:Addr}{vs dflt:List V}{ws:List Value}{sc:Scope}{body:List Stmt}{Q:V->St->Prop}{C:Cal}
abbrev pf:List Str->List (Str×NameKind)->Bool
 | [],_=>true
 |x::xs,(y,k)::r=>x==y&&sY k&&pf xs r
 |_::_,[]=>false
def mZ:∀{xs:List Str} {r:List (Str×NameKind)},pf xs r=true->∀(i:Nat) (x:Str),xs[i]?=some x->∃k,r[i]?=some (x,k)/\sY k=true
 | [],_,_,i,x,e=>by simp at e
 |_::_,[],h,_,_,_=>Bool.noConfusion (show false=true from h)
 |x::xs,(y,k)::r,h,0,z,e=>by
  dsimp only[pf]at h;simp only[dg,wq]at h;simp at e;subst e;apply#[k,by simp[h.1.1],h.1.2]
 |x::xs,(y,k)::r,h,i+1,z,e=>by
  dsimp only[pf]at h;simp only[dg]at h;simpa using mZ h.2 i z (by simpa using e)
structure FnAt (G:Stc)(a:Addr)(n:Nat)(dflt:List V)(sc:Scope)(body:List Stmt):Prop where
 lim:G.hb.NoLimit
 kind:sc.kind=.function
 co:sc.isCoroutine=false
 gen:sc.isGenerator=false
 nd:(sc.names.map (·.1)).Nodup
 fQ:∀(i:Nat) (x:Str),sc.names[i]?≠some (x,.free)
 here:∃o fd,G.hb.get? a=some o/\o.data=.func fd/\fd.scope=sc/\fd.body=.stmts body/\fd.closure=[]/\fd.globals=mainGlobals/\fd.builtins=builtinsNs/\G.hb.CodeRec fd.code fd.qualname /\
  rl fd.params=true/\pf (fd.params.args.map (·.arg)) sc.names=true/\fd.params.args.length=n /\
  ((fd.defaults=.none/\dflt=[])\/∃t ot ds m,fd.defaults=.ref t/\G.hb.get? t=some ot/\ot.data=.seq (ds.toArray) m/\VRs G G.hb dflt ds)/\dflt.length<=n
section
variable {G:Stc}{A:Around}{E:QqV}{s:Shared}{σ:St}
def AOk.deep (h:AOk A (d+1))(env:Env):AOk (A.deeper env) d:=
 #[h.handled,by have:=h.depth;show A.depth+1+3*d+20<_;(show ek (.l (.a (.a .L (.m 3 .B)) (.n 20)) .C) .a .aF this),by have:=h.units;show A.units+3+30*d+300<_;(show ek (.l (.a (.a (.a .A (.n 3)) (.m 30 .B)) .aC) .C) .a .c4 this)]
def jK {fd:FuncData}{Pst:Env->Shared->Prop}{cl:List (Str×Addr)}{ρf ρ':Fr}{dv:List V}{ds:List Value}{R':Result->Shared->Prop}{o:Obj}(ho:G.hb.get? a=some o)(hd:o.data=.func fd)
  (lim:G.hb.NoLimit) (kind:fd.scope.kind=.function) (nd:(fd.scope.names.map (·.1)).Nodup) (bn:fd.closure=cl) (cp:fd.globals=mainGlobals) (da:fd.builtins=builtinsNs) (ck:rl fd.params=true) (ab:pf (fd.params.args.map (·.arg)) fd.scope.names=true) (hn:fd.params.args.length=n)
  (ct:∀(A:Around) (E:QqV) (Q:Option (Array Value)->Shared->Prop),(∀o,(o.getD #v[]).toList=ds->Q o s)->wpAny G.M A (seqItems? fd.defaults) Q E s) (bd:VRs G s.heap dv ds) (cx:dv.length<=n)
  (be:(wpAny G.M A.in1 (bindArgs fd #[ws,[]]) (λai s₁ =>
   wpAny G.M A.in1 (newFunctionEnv fd.scope fd.globals fd.closure ai (fd.qualname ++ ".<locals>.") (some a) fd.code none fd.builtins)
    (λenv s₂=>s₂.heap.NoLimit/\Pst env s₂) (λe s'=>R' (.error e) s') s₁) (λe s'=>R' (.error e) s') s)->codeAny G.M A (.call (.ref a) #[ws,[]]) R' s)
  (clo:KU G σ s.heap fd.scope.names cl ρf) (R:Rel G σ s.heap) (vr:VRs G s.heap vs ws) (h1:vs.length<=n) (h2:n<=vs.length+dv.length)
  (cd:∀i,ρ' i=if i<n then (vs++dv.drop (dv.length-(n-vs.length)))[i]? else ρf i)
  (hb:∀env s' X,env.scope=fd.scope->env.code=fd.code->rv env->FR G σ env ρ' s'.heap->Rel G σ s'.heap->Go X σ s σ s'->(∀z∈X,s.heap.get? z=none)->(∀z∈X,z∈envX env)->(∀z∈envX env,z∈X\/∃p∈cl,p.2=z)->Pst env s'):codeAny G.M A (.call (.ref a) #[ws,[]]) R' s:=by
 have Z:=vr.length;have U:=bd.length;have cn:(fd.params.args.map (·.arg)).Nodup:=by
  have hp:∀{xs:List Str} {r:List (Str×NameKind)},pf xs r=true->∃ys,r.map (·.1)=xs++ys:=by
   intro xs;induction xs with
   |nil=>intro r _;apply#[_,rfl]
   |cons x xs ih =>
    intro r h;cases r with
    |nil=>show Bool.noConfusion (show false=true from h)
    |cons p r =>
     dsimp only[pf]at h;simp only[dg,wq]at h;have#[ys,e]:=ih h.2;apply#[ys,by simp[e,h.1.1]]
  have#[ys,e]:=hp ab;rw[e]at nd;show(List.nodup_append.mp nd).1
 apply be ?_;apply AQ (ds:=ds) ck (ct _ _) cn (by rw[hn,<- Z];show h1) (by rw[hn,<- Z,<- U];show h2) (by rw[hn,<- U];show cx) ?_;rw[hn,bn,cp,da];simp only[newFunctionEnv,wt,dt,kh];apply af (wpAny_alloc ?_);apply af (wpAny_layCells _ (λname kind cells=>by cases hkc:kind==NameKind.cell<;>simp[hkc]) _ _ _ _ ?_);rw[show({s with heap:=s.heap.push {cls:=.type "frame",data:=.dict #v[]}}:Shared).heap.objs.size=s.heap.objs.size+1 from gb ..];have#[cb,aa]:=pS (T:="frame") (env:=newEnv fd.scope s.heap.objs.size mainGlobals (cellsFrom (s.heap.objs.size+1) fd.scope.names cl) (fd.qualname ++ ".<locals>.") (some a) fd.code none builtinsNs) R nd clo rfl rfl λi x k' e=>#[k',e,.inl rfl];have eo:rv (newEnv fd.scope s.heap.objs.size mainGlobals (cellsFrom (s.heap.objs.size+1) fd.scope.names cl) (fd.qualname ++ ".<locals>.") (some a) fd.code none builtinsNs):=#[kind,nd,rfl,rfl];have ao:Go [] σ s σ {s with heap:=pushCells (s.heap.push {cls:=.type "frame",data:=.dict #v[]}) fd.scope.names}:=Go.refl.to (Evo.keeps aa);have bu:VRs G s.heap (vs++dv.drop (dv.length-(n-vs.length))) (ws++ds.drop (ds.length-(n-ws.length))):=by
  rw[<- U,<- Z];show vr.append (bd.drop _)
 have ok:=cellsFrom_ok fd.scope.names (s.heap.push {cls:=.type "frame",data:=.dict #v[]}) (s.heap.objs.size+1) [] #[λ_ _ hm=>(nomatch hm),List.Pairwise.nil] (by rw[gb];show az _);rw[gb]at ok;have hX:∀z∈s.heap.objs.size::(cellsFrom (s.heap.objs.size+1) fd.scope.names []).map (·.2),s.heap.get? z=none:=λz hz=>by
  rcases cz.mp hz with rfl|hz
  ·show none_at_size _
  ·have#[p,hp,rfl]:=cj.mp hz;show rj (Nat.le_of_succ_le (ok.empty p.1 p.2 hp).2)
 have hN:∀(i:Nat) x c,fd.scope.names[i]?=some (x,.cell)->(cellsFrom (s.heap.objs.size+1) fd.scope.names cl).lookup x=some c->c∈s.heap.objs.size::(cellsFrom (s.heap.objs.size+1) fd.scope.names []).map (·.2)/\G.hb.get? c=none:=λi x c e hc=>by
  have hm:c∈s.heap.objs.size::(cellsFrom (s.heap.objs.size+1) fd.scope.names []).map (·.2):=by
   have#[c1,hm]:=vp fd.scope.names (s.heap.objs.size+1) x (dq e);have#[c',bl]:=tf hm;rw[ib,yg bl]at hc;cases hc;show .tail _ (cj.mpr #[_,mem_of_lookup bl,rfl])
  apply#[hm,?_];cases hq:G.hb.get? c with
  |none=>rfl
  |some o=>have:=R.base c o hq;rw[hX c hm]at this;cases this
 have ag:s.heap.objs.size∈s.heap.objs.size::(cellsFrom (s.heap.objs.size+1) fd.scope.names []).map (·.2):=.head _;have bv:∀p∈cellsFrom (s.heap.objs.size+1) fd.scope.names [],p.2∈s.heap.objs.size::(cellsFrom (s.heap.objs.size+1) fd.scope.names []).map (·.2):=λp hp=>.tail _ (cj.mpr #[p,hp,rfl]);have ca:∀z∈s.heap.objs.size::(cellsFrom (s.heap.objs.size+1) fd.scope.names []).map (·.2),z∈s.heap.objs.size::(cellsFrom (s.heap.objs.size+1) fd.scope.names cl).map (·.2):=λz hz=>by
  rcases cz.mp hz with rfl|hz
  ·show .head _
  ·have#[p,hp,rfl]:=cj.mp hz;show .tail _ (cj.mpr #[p,by rw[ib];show gq _ hp,rfl])
 generalize s.heap.objs.size::(cellsFrom (s.heap.objs.size+1) fd.scope.names []).map (·.2)=X at hX hN ag bv ca;apply af (tM (X:=X) eo ag hN _ (λ_ _ _=>rfl) 0 (fd.params.args.map (·.arg)) (vs++dv.drop (dv.length-(n-vs.length))) _ ρf {s with heap:=pushCells (s.heap.push {cls:=.type "frame",data:=.dict #v[]}) fd.scope.names} _ ?_ (λi x e=>?_) cb (R.keeps aa) (bu.mono λb o e _=>aa b o e) λs' cc ar F' R' x'=>?_)
 ·rw[av,ax,ja,hn];(show Ar.sub _ _ (λq1 p1=>(Ar.sub _ _ (λq2 p2=>(Ar.sub _ _ (λq3 p3=>(sG .a5 [[1,1,-1,1],[1,-1,1,-1]] .b5 .cG (.e (.a .G .B) .A) p1 p2 p3)) λq3 p3=>(VA .a5 [[1,1,-1,1,-1,0,1],[1,0,0,0,0,1,0]] .c0 .cI .bU .cH .A .d0 h1 Z p1 p2 q3 p3))) λq2 p2=>(Ar.sub _ _ (λq3 p3=>(WK .a5 [[1,0,0,0,1,1,0,1],[1,1,1,1,-1,0,1,0]] (.k .A .a0) .cI (.e .F .G) (.e (.a .C .H) .G) (.k .G .I) .d0 (.e (.a .I .B) .A) h2 Z U p1 q2 p2 p3)) λq3 p3=>(V8 .a5 [[1,1,0,-1,0,1,1,0,1],[1,0,1,1,1,-1,0,1,0]] .c0 (.k .A .a0) .cI (.e .F .G) (.e (.a .C .H) .G) (.k .G .I) .d0 (.e .I .O) h1 h2 Z U p1 q2 p2 p3)))) λq1 p1=>(Ar.sub _ _ (λq2 p2=>(Ar.sub _ _ (λq3 p3=>(VA .a5 [[1,1,-1,0,1,0,0],[1,0,0,1,0,1,-1]] .c0 .cI (.k .F .G) .a0 (.e .a6 .F) (.e (.a .H .B) .A) h1 Z q1 p1 p2 p3)) λq3 p3=>(eM .a5 [[1,1,-1,1,0],[1,0,0,0,1]] .c0 .cI .a0 .A h1 Z p1 q3))) λq2 p2=>(V9 .a5 [[1,1,0,-1,0,0,1,0],[1,0,1,1,1,1,0,1]] .c0 (.k .A .a0) .cI (.e .F .G) (.k .G .H) .a0 .d0 h1 h2 Z U q1 p1 p2)))
 ·rw[nc];show mZ ab i x e
 ·apply ah #[lim.keeps R'.base,?_];have bb:cc=ρ':=by
   funext i
   rw[ar i,cd i,ax,ja];simp only[wj,kh,nc,Nat.sub_zero];rw[show vs.length+(dv.length-(dv.length-(n-vs.length)))=n by(show Ar.sub _ _ (λq1 p1=>(Ar.sub _ _ (λq2 p2=>(Ar.sub _ _ (λq3 p3=>(sG .S .p (.e .aF .F) .cG .b7 p1 p2 p3)) λq3 p3=>(qP .S [[1,0,0,0,1,0],[1,1,1,-1,0,1]] .J (.e .aF .F) .cG .a8 .cP h1 p1 p2 q3 p3))) λq2 p2=>(Ar.sub _ _ (λq3 p3=>(qP .S [[1,1,-1,0,1,0],[1,0,1,1,0,1]] (.k .C .Y) (.e .a4 .D) (.k .D .G) .aT .b7 h2 p1 q2 p2 p3)) λq3 p3=>(SI .S [[1,0,1,-1,0,1,0],[1,1,0,1,1,0,1]] .J (.k .C .Y) (.e .a4 .D) (.k .D .G) .aT .cP h1 h2 p1 q2 p2 p3)))) λq1 p1=>(Ar.sub _ _ (λq2 p2=>(Ar.sub _ _ (λq3 p3=>(qP .S [[1,0,1,0,1,-1],[1,1,0,1,0,0]] .J .c9 .aJ (.e .aN .D) .b7 h1 q1 p1 p2 p3)) λq3 p3=>(mi .S [[1,0,0,1],[1,1,1,0]] .J .aJ .a8 h1 p1 q3))) λq2 p2=>(OD .S [[1,0,1,1,0,1],[1,1,0,0,1,0]] .J (.k .C .Y) .c9 .aJ .aT h1 h2 q1 p1 p2)))]
  subst bb;apply hb _ s' X rfl rfl eo F' R' ((ao.more (λ_ h=>nomatch h)).trans x') hX ca λz hz=>?_;rcases cz.mp hz with rfl|hz
  ·show .inl ag
  ·have zz:=cj.mp hz;clear hz;have#[p,hp,rfl]:=zz;have hp:p∈cellsFrom (s.heap.objs.size+1) fd.scope.names cl:=hp;rw[ib]at hp;rcases dj.mp hp with hp|hp
   ·show .inl (bv p hp)
   ·show .inr #[p,hp,rfl]
def yC {b:jo}{Q:QqV}(K:FnAt G a n dflt sc body)
  (hb:∀(A':Around) (E':QqV) (env:Env) (s':Shared),Cx G sc d A' env (frameOf #[n,dflt,b] vs) σ s'->(∀o fd,G.hb.get? a=some o->o.data=.func fd->env.code=fd.code)->Go (envX env) σ s σ s'->(∀z∈envX env,s.heap.get? z=none) ->
   wpAny G.M A' (execs body env) (λf s'=>Q (match f with|.ret v=>v|_=>.none) s') E' s')
  (ao:AOk A (d+1)) (R:Rel G σ s.heap) (vr:VRs G s.heap vs ws)
  (h1:vs.length<=n) (h2:n<=vs.length+dflt.length):codeAny G.M A (.call (.ref a) #[ws,[]]) (wants Q E) s:=by
 have#[o,fd,ho,hd,ai,O,ab,bb,bu,U,ar,aa,hn,bl,be]:=K.here;subst ai;have#[ds,bd,ag]:∃ds,(∀(A:Around) (E:QqV) (Q:Option (Array Value)->Shared->Prop),(∀o,(o.getD #v[]).toList=ds->Q o s)->wpAny G.M A (seqItems? fd.defaults) Q E s)/\VRs G s.heap dflt ds:=by
  rcases bl with ⟨e1,e2⟩|⟨t,ot,ds,m,e1,e2,e3,e4⟩
  ·apply#[[],λA E Q q=>?_,by subst e2;show .nil];rw[e1];show wpAny G.M A (do notAStandIn .none;pure none) Q E s;show ec (by rfl) (q none rfl)
  ·apply#[ds,λA E Q q=>?_,e4.mono λb o e _=>R.base b o e];rw[e1];show wpAny G.M A (do match (← load t).data with|.seq xs _=>pure (some xs)|_=>pure none) Q E s;apply af (we (R.base _ _ e2) ?_);rw[e3];show ah (q _ (by simp))
 apply jK (Pst:=λenv z=>codeAny G.M A (.func body env) (wants Q E) z) (ρf:=λ_=>none) (ρ':=frameOf #[n,dflt,b] vs) ho hd K.lim K.kind K.nd ab bb bu ar aa hn bd ag be (λh=>codeAny_call_function (by have:=ao.depth;(show ek .B .a .c2 this)) (R.base _ _ ho) hd K.co K.gen O (U.keeps R.base) h)
  #[λi x e=>absurd e (K.fQ i x),λi j x y c e=>absurd e (K.fQ i x),λp hp=>(nomatch hp),λ_ _ _ _ _=>rfl] R vr h1 h2 (λi=>?_) λenv s' X e1 e2 eo F' R' x' hX bv bn=>?_
 ·split
  ·rfl
  ·unfold frameOf fT;dsimp only;rw[oh];rw[ax,ja];(rename_i z1;show Ar.sub _ _ (λq1 J=>(Ar.sub _ _ (λq2 p2=>(Ar.sub _ _ (λq3 Z=>(K7 .K .u .bR .c5 .cH .dC z1 J p2 Z)) λq3 Z=>(yN .K [[1,1,1,1,-1,1]] .aA .bR .c5 .cH .d0 h1 z1 J p2 Z))) λq2 p2=>(Ar.sub _ _ (λq3 Z=>(K7 .K .s .bR .c5 (.k .G .H) .dC z1 J q2 Z)) λq3 Z=>(yN .K [[1,1,1,1,1,1]] .aA .bR .c5 (.k .G .H) .d0 h1 z1 J q2 Z)))) λq1 J=>(mq .K .e .aA .bR .aJ h1 z1 J))
 ·show codeAny_func (hb _ _ env s' #[ao.deep _,e1,eo,F',R'] (λo' ca h1 h2=>by have rfl:=ak (ho.symm.trans h1);rw[hd]at h2;cases h2;show e2) (x'.more bv) λz hz=>(bn z hz).elim (hX z) λ⟨_,hp,_⟩=>nomatch hp)
def tJ {b:jo}(K:FnAt G a n dflt sc body)
  (hb:∀(O:Around) (B:QqV) (env:Env) (s':Shared),Cx G sc d O env (frameOf #[n,dflt,b] vs) σ s'->wpAny G.M O (execs body env) (qt G env σ s' (zF Q)) B s')
  (ao:AOk A (d+1)) (R:Rel G σ s.heap) (vr:VRs G s.heap vs ws)
  (h1:vs.length<=n) (h2:n<=vs.length+dflt.length):codeAny G.M A (.call (.ref a) #[ws,[]]) (wants (jl G [] σ s Q) E) s:=by
 apply yC (b:=b) K (λO B env s' c _ x' hX=>?_) ao R vr h1 h2;apply bg (hb O B env s' c) (λf s₂ l=>?_) λ_ _ x=>x;have#[fl,J,σ₂,fr,q,aa,Z,U]:=l;have x3:Go [] σ s σ₂ s₂:=(x'.trans U).less λz hz=>.inr (hX z hz);cases fr with
 |next=>refine#[.none,σ₂,q,.none,Z,x3]
 |ret v=>refine#[_,σ₂,q,v,Z,x3]
 |brk=>show q.elim
 |cont=>show q.elim
def tL {b:jo}(K:FnAt G a n dflt sc body)
  (hb:∀(Z:Around) (B:QqV) (env:Env) (s':Shared),Cx G sc d Z env (frameOf #[n,dflt,b] vs) σ s'->wpAny G.M Z (execs body env) (qt G env σ s' (zF Q)) B s')
  (J:AOk A (d+1)) (R:Rel G σ s.heap) (vr:VRs G s.heap vs ws)
  (O:vs.length<=n) (U:n<=vs.length+dflt.length):wpAny G.M A (call (.ref a) ws) (jl G [] σ s Q) E s:=nh (tJ K hb J R vr O U)
def OA {b:jo}(K:FnAt G a n dflt sc body)(hb:nv G C sc d b body)(O:AOk A (d+1))(R:Rel G σ s.heap)(vr:VRs G s.heap vs ws)
  (U:vs.length<=n) (Z:n<=vs.length+dflt.length) (h:dk C b (frameOf #[n,dflt,b] vs) σ (zF Q)):wpAny G.M A (call (.ref a) ws) (jl G [] σ s Q) E s:=
 tL (b:=b) K (λB J env s' c=>hb c h) O R vr U Z
abbrev iW (G:Stc)(fa:Nat->Option Addr)(C:Cal)(d:Nat):Prop:=∀(k:Nat) (a:Addr),fa k=some a->(∃o fd,G.hb.get? a=some o/\o.data=.func fd)/\∀{A E vs ws σ Q s},AOk A d->Rel G σ s.heap->VRs G s.heap vs ws ->
 C k vs σ Q->wpAny G.M A (call (.ref a) ws) (jl G [] σ s Q) E s
def yv {env:Env}{ρ:Fr}{f:Addr}{o:Obj}{fd:FuncData}{first:List Value}{es:Exs}{args:List Expr}{pos:Pos}{P:List V->St->Prop}{Q:QqV}(J:G.hb.get? f=some o)(Z:o.data=.func fd)(O:noStar args=true)(U:ou G C sc d es args)
  (c:Cx G sc d A env ρ σ s) (h:vq C es ρ σ P)
  (k:∀vs σ₁ s₁ ws,P vs σ₁->VRs G s₁.heap vs ws->Rel G σ₁ s₁.heap->Go [] σ s σ₁ s₁->wpAny G.M A (call (.ref f) (first++ws)) Q E s₁) :
  wpAny G.M A (callWith pos (.ref f) first (backTo pos (starEach args env)) []) Q E s:=
 Calls.callWith_function (o:=o) (fd:=fd) (mv (ji O pos env) (rQ (U c h) λvs σ₁ s₁ ws q vr r x=>#[#[r.base _ _ J,Z],k vs σ₁ s₁ ws q vr r x]))
def H5 {fa:Nat->Option Addr}{k:Nat}{f:Addr}{x:Str}{es:Exs}{args:List Expr}{p pos:Pos}(K:GOk G)(CO:iW G fa C d)(hk:fa k=some f)(Z:ou G C sc d es args)(J:noStar args=true)(U:sc.names.lookup x=some .globalImplicit)(hn:jg x=true)(O:G.gl x=some (.ref f)) :
  dw G C sc d (.call k es) (.Call (.Name x p) args [] pos):=λ_ _ _ _ _ _ _ c h=>by
 have#[#[o,fd,B,hd],hc]:=CO k f hk;show Call_ (kr K c.eo c.R (by rw[c.es];show U) hn O (yv B hd J Z c h λvs σ₁ s₁ ws q vr r x=>x.back (hc c.ao r vr q)))
structure tS (G:Stc)(a:Addr)(n:Nat)(cs:List V)(sc:Scope)(e:Expr):Prop where
 lim:G.hb.NoLimit
 kind:sc.kind=.function
 co:sc.isCoroutine=false
 gen:sc.isGenerator=false
 nd:(sc.names.map (·.1)).Nodup
 here:∃o fd,G.hb.get? a=some o/\o.data=.func fd/\fd.scope=sc/\fd.body=.expr e/\fd.globals=mainGlobals/\fd.builtins=builtinsNs/\G.hb.CodeRec fd.code fd.qualname /\
  rl fd.params=true/\pf (fd.params.args.map (·.arg)) sc.names=true/\fd.params.args.length=n/\fd.defaults=.none /\
  (∀(i:Nat) (x:Str),sc.names[i]?=some (x,.free)->n<=i/\G.cap x=true/\∃c w v,fd.closure.lookup x=some c/\G.hb.IsCell c (some w)/\cs[i-n]?=some v/\VR G G.hb v w) /\
  (∀(i j:Nat) (x y:Str) (c:Addr),sc.names[i]?=some (x,.free)->sc.names[j]?=some (y,.free)->fd.closure.lookup x=some c->fd.closure.lookup y=some c->i=j) /\
  (∀p∈fd.closure,∃o,G.hb.get? p.2=some o)/\(∀(i:Nat) (x:Str) (k:NameKind),sc.names[i]?=some (x,k)->k≠.free->i<n)
def JX {cs:List V}{e:Expr}{b:Ex}(K:tS G a n cs sc e)(hb:dw G C sc d b e)(ao:AOk A (d+1))(R:Rel G σ s.heap)(vr:VRs G s.heap vs ws)(h1:vs.length=n)
  (h:wpE C b (λi=>(vs++cs)[i]?) σ Q):wpAny G.M A (call (.ref a) ws) (jl G [] σ s Q) E s:=by
 have#[o,fd,ho,hd,be,aa,bn,ca,O,bl,ab,hn,bu,U,ai,bb,ag]:=K.here;subst be;apply nh ?_;apply jK (Pst:=λenv z=>codeAny G.M A (.expr e env) (wants (jl G [] σ s Q) E) z) (dv:=[]) (ds:=[]) (ρf:=λi=>if i<n then none else cs[i-n]?) (ρ':=λi=>(vs++cs)[i]?) ho hd K.lim K.kind K.nd rfl bn ca bl ab hn (λA E Q q=>?_) .nil (bh _)
  (λh=>PySem.W.kla_callFunE (by have:=ao.depth;(show ek .B .a .c2 this)) (R.base _ _ ho) hd K.co K.gen aa (O.keeps R.base) h) #[λi x ex=>?_,ai,λp hp=>?_,λi x k ex hk=>bx (ag i x k ex hk)] R vr (Nat.le_of_eq h1) (by rw[List.length_nil];(show bt .cF .C .bK h1)) (λi=>?_) λenv s' X e1 e2 eo F' R' x' hX cc cb=>?_
 ·rw[bu];show wpAny G.M A (do notAStandIn .none;pure none) Q E s;show ec (by rfl) (q none rfl)
 ·have#[h2,ar,c,w,v,hc,J,hv,vv]:=U i x ex;have#[oc,Z,bv]:=J;apply#[c,some w,hc,#[oc,R.base _ _ Z,bv],?_,λdm=>(by rw[R.new c dm]at Z;cases Z),λq=>(by rw[ar]at q;cases q)];rw[ay (bt .cX .a .V h2),hv];show VR.mono (λb o e _=>R.base b o e) vv
 ·have#[o,ho]:=bb p hp;apply#[o,R.base _ _ ho]
 ·rw[List.drop_nil,cq];by_cases c:i<n
  ·rw[bx c,uw (fk .B .t (.e .B .C) .I h1 c)]
  ·rw[ay c,ay c,fu (fk .A .b (.e .A .C) (.g .B .C) h1 c),h1]
 ·apply PySem.W.kla_codeExpr (bg (hb #[ao.deep env,e1,eo,F',R'] h) (λv s₂ l=>?_) λ_ _ x=>x);have#[u,σ',q,bd,R2,x2]:=l;apply#[u,σ',q,bd,R2,(x'.trans (x2.more λ_ h=>nomatch h)).less λz hz=>.inr (hX z hz)]
abbrev qX (G:Stc)(C:Cal)(d:Nat):Prop:=∀(k:Nat) (cs:List V) (a:Addr),G.clo k cs a->(∃o fd,G.hb.get? a=some o/\o.data=.func fd)/\∀{A E vs ws σ Q s},AOk A d->Rel G σ s.heap->VRs G s.heap vs ws ->
 C (1000+k) (vs++cs) σ Q->wpAny G.M A (call (.ref a) ws) (jl G [] σ s Q) E s
end
variable {f:Addr}{d':Nat}
structure MethAt (G:Stc)(name:Str)(f:Addr):Prop where
 here:∃N mN of fd,ClsAt G.hb G.cS N mN/\mN "__getattribute__"=none/\mN "__getattr__"=none/\mN name=some (.ref f)/\G.hb.get? f=some of/\of.cls=.type "function"/\of.data=.func fd
 out:name∉G.attrs
 lk:∃y,typeLookup (.type "object") name=pure y
section
variable {G:Stc}{A:Around}{E:QqV}{s:Shared}{σ:St}{fa:Nat->Option Addr}{C:Cal}{sc:Scope}{d:Nat}
def mT {a:Addr}{name:Str}{pl:Sem Bool}{Q:Value×List Value->Shared->Prop}(M:MethAt G name f)(R:Rel G σ s.heap)(hI:(σ.I a).isSome)(q:Q (.ref f,[.ref a]) s):wpAny G.M A (getMethod (.ref a) name pl) Q E s:=by
 have#[N,mN,of,fd,X,O,U,hf,J,B,_]:=M.here;have#[y,hB]:=M.lk;have#[#[dd,g],hI]:=bp.mp hI;have I:=R.I a dd g hI;have#[m,hm,hv,Z]:=I.ns;have#[hh,gg,dr,t,os]:=s;have#[nm,q',bs,sn,sub,aa,d2,k0,k1,k2,k3,k5,hC]:=(X.keeps R.base).obj;show method_of hC (X.keeps R.base).ns O U hf (R.base _ _ J) B hB (I.inst hm) (Z name M.out) q
def GO {e:Ex}{k:Nat}{name:Str}{es:Exs}{o:Expr}{args:List Expr}{apos pos:Pos}(CO:iW G fa C d)(hk:fa k=some f)(M:MethAt G name f)(ha:dw G C sc d e o)(aa:ou G C sc d es args)(hb:lu o=true)(hs:noStar args=true)(J:args.length<30)(Z:(apos.endLine==pos.line)=true) :
  dw G C sc d (.meth e k es) (.Call (.Attribute o name apos) args [] pos):=λ_ _ _ _ _ _ _ c h=>by
 apply mr hb hs J Z (nr (ha c h) λv σ₁ s₁ w q vr r x pl=>?_);have#[a,rfl,hI,q]:=q;have rfl:=vr;have#[#[of,fd,ho,hd],hc]:=CO k f hk;show mT M r hI (yv ho hd hs aa (c.go r x) q λvs σ₂ s₂ ws O B r₂ U=>(x.trans U).back (hc c.ao r₂ (.cons (.obj a) B) O))
structure rE (G:Stc)(f:Addr):Prop where
 here:∃N mN of,ClsAt G.hb G.cS N mN/\mN "__init__"=some (.ref f)/\G.hb.get? f=some of/\of.cls=.type "function"
def zU (C:Addr)(ws:List Value):(Code.builtin "type.__call__" #[.ref C::ws,[]]).cUnits<=10:=by
 show 1+3*(Code.frames (.builtin "type.__call__" #[.ref C::ws,[]]))<=10;show bc rfl
def AOk.make (h:AOk A (d+1))(C:Addr)(ws:List Value):AOk (A.under (.builtin "type.__call__" #[.ref C::ws,[]])) d:=
 #[h.handled,by have:=h.depth;show A.depth+1+3*d+20<_;(show ek (.l (.a (.a .L (.m 3 .B)) (.n 20)) .C) .a .aF this),by have:=h.units;have:=zU C ws;show A.units+(Code.cUnits _)+30*d+300<_;(rename_i Z;show fc (.l (.a (.a .P (.m 30 .C)) .aC) .D) .b (.l (.a (.a .A (.m 30 .R)) .aC) .D) (.k .B (.n 10)) Z this)]
def AOk.less (h:AOk A d)(hd:d'<=d):AOk A d':=#[h.handled,by have:=h.depth;(show fc (.l (.a (.a .A (.m 3 .B)) (.n 20)) .C) [[1,3,1]] .cW (.l (.a (.a .A (.m 3 .D)) (.n 20)) .C) hd this),by have:=h.units;(show fc (.l (.a (.a .A (.m 30 .B)) .aC) .C) [[1,30,1]] .cW (.l (.a (.a .A (.m 30 .D)) .aC) .C) hd this)]
def EZ {Q:V->St->Prop}{vs:List V}{ws:List Value}(CO:iW G fa C (d-1))(hd:1<=d)(hk:fa 0=some f)(M:rE G f)(ao:AOk A d)(q:∀a dd,σ.I a=none->C 0 (.obj a::vs) (σ.jw a dd λ_=>none) λv σ=>v=.none/\Q (.obj a) σ)(vr:VRs G s.heap vs ws)(r:Rel G σ s.heap):wpAny G.M A (call (.ref G.cS) ws) (jl G [] σ s Q) E s:=by
 have#[N,mN,of,X,hi,be,bl]:=M.here;have#[_,hc]:=CO 0 f hk;have bn:AOk A (d-1+1):=by rw[ae hd];show ao
 have#[nm,q',bs,sn,sub,bu,d2,k0,k1,k2,k3,k5,hC]:=(X.keeps r.base).obj;apply wpAny_call_obj_init PySem.F.objNew hC (X.keeps r.base).ns hi (r.base _ _ be) bl λh' Z dx made=>?_;have aa:σ.I Z=none:=by
  cases hq:σ.I Z with
  |none=>rfl
  |some y=>have#[o,e]:=r.ky (.inr (.inr (.inr (.inl (by rw[hq];rfl)))));rw[made.newX]at e;cases e
 have hI:gA G h' Z dx λ_=>none:=by
  have#[o,ho,ai,bd,hd]:=made.inst;have O:=made.dict o ho;rcases hd with ⟨ab,_⟩|⟨d',ag,bb,ar⟩
  ·rw[O]at ab;cases ab
  ·rw[O]at ag;cases ag;apply#[#[o,ho,ai,O,bd],#[_,ar,λ_ _ _=>trivial,λ_ _=>rfl],bb]
 have r':=r.QZ made.newX made.newD hI.ne made.keeps hI;have x':Go [] σ s (σ.jw Z dx λ_=>none) {s with heap:=h'}:=Go.refl.to (Evo.QZ _ made.newX made.newD made.keeps);apply bg (hc (s:={s with heap:=h'}) (bn.make _ _) r' (.cons (.obj Z) (vr.mono x'.frz)) (q Z dx aa)) (λw s' l=>?_) λ_ _ x=>x;have#[v,σ₂,#[rfl,B],U,r₂,J]:=l;cases U;apply#[rfl,.obj Z,σ₂,B,.obj Z,r₂,x'.trans J]
def GK {x:Str}{es:Exs}{args:List Expr}{p pos:Pos}(K:GOk G)(CO:iW G fa C (d-1))(hd:1<=d)(hk:fa 0=some f)(M:rE G f)(U:ou G C sc d es args)(O:noStar args=true)(Z:args≠[])(J:sc.names.lookup x=some .globalImplicit)(hn:jg x=true)(B:G.gl x=some (.ref G.cS)) :
  dw G C sc d (.n es) (.Call (.Name x p) args [] pos):=λ_ _ _ _ _ _ _ c h=>by
 have#[N,mN,of,X,_]:=id M.here;apply Call_ (kr K c.eo c.R (by rw[c.es];show J) hn B ?_);cases args with
 |nil=>show absurd rfl Z
 |cons e rest =>
  show callWith_cls X (rQ (U c h) λvs σ₁ s₁ ws q vr r x=>#[r.base,x.back (EZ CO hd hk M c.ao q vr r)]) ((fb O).1 _) (ji (fb O).2 pos _)
def iW.more (h:iW G fa C d)(hd:d<=d'):iW G fa C d':=λk a hk=>#[(h k a hk).1,λZ=>(h k a hk).2 (Z.less hd)]
def qX.more {C:Cal}{d:Nat}(h:qX G C d)(hd:d<=d'):qX G C d':=λk cs a hk=>#[(h k cs a hk).1,λZ=>(h k cs a hk).2 (Z.less hd)]
end
end MP
end
section
set_option tactic.hygienic true
namespace MP
open PySem PyProof.Rows
variable {T id nm:String}{name:Str}{o:Obj}{a:Addr}{Q:QqV}{expr:Bool}
def oG:Slot "method_descriptor" "__get__" "method_descriptor.__get__":=
 .of (owner:="method_descriptor") (n:="__get__") (by rw[ew,dh];kernel_rfl) (by decide +kernel) (by decide +kernel) (by decide +kernel)
  (by first|show .inl (by decide +kernel)|show .inr (by decide +kernel)) (by rw[jm];kernel_rfl)
def y6:entryFor table "method_descriptor.__get__"=some Builtin.«method_descriptor.__get__»:=fB (by kernel_rfl)
def AW (a b c:Value):argsOk "method_descriptor.__get__" #[[a,b,c],[]]:=by unfold argsOk;kernel_rfl
def ID:typeLookup (.type "method_descriptor") "__set__"=pure none:=by rw[ew,dh];kernel_rfl
def IE:typeLookup (.type "method_descriptor") "__delete__"=pure none:=by rw[ew,dh];kernel_rfl
structure tU (T:String)(name:Str)(id nm:String):Prop where
 lk:typeLookup (.type T) name=pure (some (.builtin id))
 ty:typeOf (.builtin id)=pure (.type "method_descriptor")
 own:(kfb_private% "ownerAndName") id=(T,nm)
 told:Manifest.toldItsClass.contains id=false
 sub:isSubtype (.type T) (.type T)=pure true
 nm1:(["__module__","__name__","__qualname__","__doc__","__annotations__"]:List Str).contains name=false
 tp1:(Value.type T==Value.type "module")=false
def K2:tU "dict" "get" "dict.get" "get" where
 lk:=PySem.F.slot_dict_get.lookup
 ty:=PySem.F.type_dict_get
 own:=by first|decide +kernel|kernel_rfl
 told:=by first|decide +kernel|kernel_rfl
 sub:=by rw[jm];kernel_rfl
 nm1:=by decide +kernel
 tp1:=by decide +kernel
def K1:tU "set" "__contains__" "set.__contains__" "__contains__" where
 lk:=by rw[ew,dh];kernel_rfl
 ty:=by show builtinType _=_;rw[builtinType_eq_fast];kernel_rfl
 own:=by first|decide +kernel|kernel_rfl
 told:=by first|decide +kernel|kernel_rfl
 sub:=by rw[jm];kernel_rfl
 nm1:=by decide +kernel
 tp1:=by decide +kernel
abbrev mF (id:String)(a:Addr):Obj:={cls:=.type "builtin_function_or_method",data:=.fields #v[.builtin id,.ref a]}
section
variable {prog:Program}{w:World}{A:Around}{E:QqV}{s:Shared}
def DY {a:Addr}{P:Fin->Shared->Prop}(B:tU T name id nm)(U:s.heap.get? a=some o)(O:o.cls=.type T)(h:P (.done (.ret (.ref s.heap.objs.size))) {s with heap:=s.heap.push (mF id a)}) :
  wpAny (model prog w) A (Builtin.«method_descriptor.__get__» #[[.builtin id,.ref a,.type T],[]]) P E s:=by
 have J:s.TypeIs (.ref a) T:=#[_,U,O];unfold Builtin.«method_descriptor.__get__»;apply af (ec (a:=(.builtin id,some (.ref a),some (.type T))) (by first|rfl|kernel_rfl) ?_);simp only[B.told];show wpAny _ _ (do
  (do
   let (owner,name):=(kfb_private% "ownerAndName") id
   if !(← isInstance (.ref a) (.type owner)) then
    rule "descr.get.wrong-instance"
    raiseError "TypeError" s!"descriptor '{(Str.ofString name).toString}' for '{← typeName (.type owner)}' objects doesn't apply to a '{← typeNameOf (.ref a)}' object":Sem Unit)
  ret (← newFields "builtin_function_or_method" [.builtin id,.ref a])) _ _ _
 rw[B.own];dsimp only;unfold isInstance;have Z:=B.sub;apply af (af ?_);apply af (dT J ?_);apply ec B.sub ?_;apply ah ?_;apply af ?_;unfold newFields;show jq (ah h)
def AO (B:tU T name id nm)(Z:s.heap.get? a=some o)(U:o.cls=.type T)(h:Q (.ref s.heap.objs.size) {s with heap:=s.heap.push (mF id a)}) :
  wpAny (model prog w) A (call (.builtin "method_descriptor.__get__") [.builtin id,.ref a,.type T]) Q E s:=
 gj oG B.ty y6 (DY B Z U #[_,rfl,h]) (AW _ _ _)
def HN {tk:Tok}{P:Fin->Shared->Prop}(B:tU T name id nm)(Z:s.heap.get? a=some o)(J:o.cls=.type T)(hd:o.dict=none)(O:∀c,o.data≠.cls c)(h:P (.done (.ret (.ref s.heap.objs.size))) {s with heap:=s.heap.push (mF id a)}) :
  wpAny (model prog w) A (Builtin.«object.__getattribute__» #[[.ref a,.str name tk],[]]) P E s:=by
 have#[hh,g,d,t,os]:=s;have hT:(#[hh,g,d,t,os]:Shared).TypeIs (.ref a) T:=#[_,Z,J];have aa:(#[hh,g,d,t,os]:Shared).TypeIs (.builtin id) "method_descriptor":=B.ty;have f4:=B.lk;have f5:=B.ty;have f6:=oG.lookup;have f7:=ID;have f8:=IE;have U:=B.nm1;unfold Builtin.«object.__getattribute__»
 repeat (any_goals (first|assumption|wp_step))
 split
 ·rename_i c e;show absurd e (O c)
 ·unfold instanceDict
  repeat (any_goals (first|assumption|(with_reducible refine qu Z ?_;rw[J])|with_reducible refine wpAny_loadHead Z ?_|wp_step))
  rw[hd]
  repeat (any_goals (first|assumption|wp_step))
  rw[ay (by rw[U];decide)];apply ah ?_
  repeat (any_goals (first|assumption|((with_reducible show wpAny _ _ (call (Value.builtin "method_descriptor.__get__") _ _) _ _ _);apply AO B Z J ?_)|wp_step))
def n7 {U:String}(B:tU T name id nm)(sl:Slot T "__getattribute__" U)(en:entryFor table U=some Builtin.«object.__getattribute__»)(ar:∀x y,argsOk U #[[x,y],[]])
  (J:s.heap.get? a=some o) (hc:o.cls=.type T) (hd:o.dict=none) (Z:∀c,o.data≠.cls c) (h:Q (.ref s.heap.objs.size) {s with heap:=s.heap.push (mF id a),toks:=s.toks+1}) :
  wpAny (model prog w) A (getAttr (.ref a) name expr) Q E s:=by
 have#[hh,g,d,t,os]:=s;have#[c,dct,ab,aa]:=o;simp only at hc hd Z;subst hc;subst hd;have hT:∀O,(#[hh,g,d,O,os]:Shared).TypeIs (.ref a) T:=λ_=>#[_,J,rfl];have f3:=sl.lookup;have f4:=sl.bind (.ref a);unfold getAttr getAttrBy
 repeat (any_goals (first|assumption|show hT _|((with_reducible show wpAny _ _ (call (Value.builtin U) _ _) _ _ _);apply gj sl (hT _) en (HN B (s:=⟨hh,g,d,t+1,os⟩) J rfl rfl Z ⟨_,rfl,?_⟩) (ar _ _))|wp_step))
 have e:(expr&&onTheHeap (Value.builtin U))=false:=by cases expr<;>rfl
 rw[ay (by rw[e];decide)];unfold boundAndCalled;apply af (ec f4 ?_);apply gj sl (hT _) en (HN B (s:=#[hh,g,d,t+1,os]) J rfl rfl Z #[_,rfl,?_]) (ar _ _);show ah h
def uR (U:s.heap.get? a=some o)(O:o.cls=.type "dict")(hd:o.dict=none)(Z:∀c,o.data≠.cls c)(h:Q (.ref s.heap.objs.size) {s with heap:=s.heap.push (mF "dict.get" a),toks:=s.toks+1}) :
  wpAny (model prog w) A (getAttr (.ref a) "get" expr) Q E s:=
 n7 K2 PySem.F.slot_dict_getattribute am_entry_dict_getattribute PySem.F.args_dict_getattribute_2 U O hd Z h
def entry_set_ga:entryFor table "set.__getattribute__"=some Builtin.«object.__getattribute__»:=
 entryFor_alias (id':="object.__getattribute__") (by kernel_rfl) (by first|rfl|decide +kernel) (by decide +kernel) (by kernel_rfl)
def uQ (U:s.heap.get? a=some o)(O:o.cls=.type "set")(hd:o.dict=none)(Z:∀c,o.data≠.cls c)(h:Q (.ref s.heap.objs.size) {s with heap:=s.heap.push (mF "set.__contains__" a),toks:=s.toks+1}) :
  wpAny (model prog w) A (getAttr (.ref a) "__contains__" expr) Q E s:=
 n7 K1 PySem.F.slot_set_getattribute entry_set_ga PySem.F.args_set_getattribute_2 U O hd Z h
def vJ {pos:Pos}{u:Addr}{first:List Value}{args:List (Bool×Sem Value)}(Z:args.any (·.1)=false)(J:o.cls=.type "builtin_function_or_method")(O:o.data=.fields #v[.builtin id,.ref a])
  (h:wpAny (model prog w) A (evalArgs (.ref u) true args []) (λx s₁=>s₁.heap.get? u=some o/\wpAny (model prog w) A (call (.ref u) (first++x.pos) x.kw) Q E s₁) E s):wpAny (model prog w) A (callWith pos (.ref u) first args []) Q E s:=by
 unfold callWith;apply af (cg (bg h (λx s₁ h₁=>af (fw ?_)) λ_ _ x=>x));have#[ho,U]:=h₁;simp -iota only[Z,List.any_nil,jP];apply af (m:=keeperOf (.ref u)) ?_;unfold keeperOf;apply af (we ho ?_);simp -iota only[J,O,show(Value.type "builtin_function_or_method" != Value.type "method")=true by decide,show(Value.type "builtin_function_or_method" == Value.type "builtin_function_or_method" ||Value.type "builtin_function_or_method" == Value.type "method-wrapper")=true by decide,ym];apply ah ?_;show af (bg U (λr s₂ B=>af (cg (wpAny_point (ah B)))) λ_ _ x=>x)
def JY {u:Addr}{b:Builtin}{args:List Value}(ho:s.heap.get? u=some o)(U:o.cls=.type "builtin_function_or_method")(Z:o.data=.fields #v[.builtin id,.ref a])
  (O:∀(A:Around) (E:QqV) (Q:Unit->Shared->Prop),Q () s->wpAny (model prog w) A (checkBoundCall id #[.ref a::args,[]]) Q E s) (B:id.startsWith "lifetime."=false) (he:entryFor table id=some b)
  (h:∀A':Around,wpAny (model prog w) A' (b #[.ref a::args,[]]) (λfin s'=>∃v,fin=.done (.ret v)/\Q v s') E s):wpAny (model prog w) A (call (.ref u) args) Q E s:=by
 apply nh (ue ?_);show wpAny _ A.in1 (callAny (.ref u) #[args,[]]) _ _ s;simp -iota only[callAny];apply af (we ho ?_);simp -iota only[U,Z,show(Value.type "builtin_function_or_method" == Value.type "method" ||Value.type "builtin_function_or_method" == Value.type "builtin_function_or_method" ||Value.type "builtin_function_or_method" == Value.type "method-wrapper")=true by decide,ym];show wpAny _ _ (do checkBoundCall id #[.ref a::args,[]];again (.builtin id #[.ref a::args,[]])) _ _ s;apply af (O _ _ _ (ah #[lI _ B,uf he ?_]));apply bg (h _) (λfin s' h'=>?_) λ_ _ x=>x;have#[v,rfl,J]:=h';show J
def JU (a b c:Value):(match Manifest.signature? "dict.get" with|some Z=>Bind.checkArgs "dict.get" {Z with full:=s!"{Bind.lastOf "dict"}.{Bind.lastOf "dict.get"}" } #[[a,b,c],[]]|none=>pure ())=pure ():=by
 rw[nS (id:="dict.get") (n:=['t','e','g']) (o:=['t','c','i','d']) (by kernel_rfl) PySem.F.owner_dict];kernel_rfl
def JT (a b:Value):(match Manifest.signature? "set.__contains__" with|some Z=>Bind.checkArgs "set.__contains__" {Z with full:=s!"{Bind.lastOf "set"}.{Bind.lastOf "set.__contains__"}" } #[[a,b],[]]|none=>pure ())=pure ():=by
 rw[nS (id:="set.__contains__") (n:=['_','_','s','n','i','a','t','n','o','c','_','_']) (o:=['t','e','s']) (by kernel_rfl) PySem.F.owner_set];kernel_rfl
def yF {rest:List Value}{Q:Unit->Shared->Prop}(hx:s.heap.get? a=some o)(hc:o.cls=.type T)(O:∀c,o.data≠.cls c)(hk:builtinKind id=some .method)(hm:isSubtype (.type T) (.type "module")=pure false)(hv:Manifest.varargsMethods.contains id=false)
  (J:(match Manifest.signature? id with|some Z=>Bind.checkArgs id {Z with full:=s!"{Bind.lastOf T}.{Bind.lastOf id}" } #[.ref a::rest,[]]|none=>pure ())=pure ()) (h:Q () s):wpAny (model prog w) A (checkBoundCall id #[.ref a::rest,[]]) Q E s:=by
 have hT:s.TypeIs (.ref a) T:=#[_,hx,hc];unfold checkBoundCall;cases hsig:Manifest.signature? id with
 |none=>show ah h
 |some Z =>
  rw[hsig]at J;dsimp only at J ⊢;rw[hk];dsimp only;rw[ay (by decide)];unfold isInstance;apply af (af (dT hT ?_));apply ec hm ?_;rw[hv,ay (by decide)];have U:∀B:Bool->Shared->Prop,B false s->wpAny (model prog w) A (isType (.ref a)) B E s:=λB q=>by
   unfold isType loadHead;apply af (lC hx (ah ?_));split
   ·rename_i c e;show absurd e (O c)
   ·show q
  apply af (U _ ?_);rw[ay (by decide)];apply af (dT hT ?_);show ec J h
def EJ:builtinKind "dict.get"=some .method:=by kernel_rfl
def EI:builtinKind "set.__contains__"=some .method:=by kernel_rfl
def QE:isSubtype (.type "dict") (.type "module")=pure false:=by rw[jm];kernel_rfl
def QD:isSubtype (.type "set") (.type "module")=pure false:=by rw[jm];kernel_rfl
def L5:Manifest.varargsMethods.contains "dict.get"=false:=by decide +kernel
def L4:Manifest.varargsMethods.contains "set.__contains__"=false:=by decide +kernel
def O7 {x y:Value}{Q:Unit->Shared->Prop}(U:s.heap.get? a=some o)(O:o.cls=.type "dict")(Z:∀c,o.data≠.cls c)(h:Q () s):wpAny (model prog w) A (checkBoundCall "dict.get" #[[.ref a,x,y],[]]) Q E s:=
 yF U O Z EJ QE L5 (JU _ _ _) h
def O6 {x:Value}{Q:Unit->Shared->Prop}(U:s.heap.get? a=some o)(O:o.cls=.type "set")(Z:∀c,o.data≠.cls c)(h:Q () s):wpAny (model prog w) A (checkBoundCall "set.__contains__" #[[.ref a,x],[]]) Q E s:=
 yF (T:="set") (id:="set.__contains__") (rest:=[x]) U O Z EI QD L4 (JT (.ref a) x) h
end
end MP
end
section
namespace MP
open PySem PyProof.Rows
def zK:plainId "dict.get"=true:=PySem.F.slot_dict_get.plain
def ED:("dict.get":String).startsWith "lifetime."=false:=by decide +kernel
def EC:("set.__contains__":String).startsWith "lifetime."=false:=by decide +kernel
section
variable {prog:Program}{w:World}{A:Around}{E:QqV}{s:Shared}
def F6 {u a:Addr}{id:String}{o:Obj}{b:Builtin}{args:List Value}{S:PySem.Spec}{Q:QqV}(ho:s.heap.get? u=some o)(U:o.cls=.type "builtin_function_or_method")(Z:o.data=.fields #v[.builtin id,.ref a])
  (O:∀(A:Around) (E:QqV) (Q:Unit->Shared->Prop),Q () s->wpAny (model prog w) A (checkBoundCall id #[.ref a::args,[]]) Q E s) (J:id.startsWith "lifetime."=false) (he:entryFor table id=some b) (B:plainId id=true)
  (g:MeetsIn prog w (b #[.ref a::args,[]]) S) (h:S A (wants Q E) s):wpAny (model prog w) A (call (.ref u) args) Q E s:=by
 apply nh (ue ?_);show wpAny _ A.in1 (callAny (.ref u) #[args,[]]) _ _ s;simp -iota only[callAny];apply af (we ho ?_);simp -iota only[U,Z,show(Value.type "builtin_function_or_method" == Value.type "method" ||Value.type "builtin_function_or_method" == Value.type "builtin_function_or_method" ||Value.type "builtin_function_or_method" == Value.type "method-wrapper")=true by decide,ym];show wpAny _ _ (do checkBoundCall id #[.ref a::args,[]];again (.builtin id #[.ref a::args,[]])) _ _ s;apply af (O _ _ _ (ah #[lI _ J,uf he ?_]));rw[wh B];show g A (wants Q E) s h
def rL {K:Type}[DecidableEq K]{knd:KeyKind prog w K}{a:Addr}{k:K}{key:Value}{S:K->Bool}{n:Nat}{Q:QqV}(Z:knd.is k key=true)(U:key.scannable=true)(J:s.heap.SetOf knd a S n)
  (h:Q (.bool (S k)) {s with toks:=s.toks+1}):wpAny (model prog w) A (Builtin.«frozenset.__contains__» #[[.ref a,key],[]]) (λfin s'=>∃v,fin=.done (.ret v)/\Q v s') E s:=by
 unfold Builtin.«frozenset.__contains__» Builtin.Frozenset.oneOther;simp only[List.isEmpty_nil,bind_assoc];unfold Builtin.Frozenset.addrOf Builtin.Frozenset.withSetAsKey setContains;apply af (ah ?_)
 try dsimp only
 apply af (ah ?_)
 try dsimp only
 apply af (wpAny_tryCatch ?_);apply cg ?_;apply af (knd.pyHash Z ?_);apply af (wpAny_setFind_of (s:={s with toks:=s.toks+1}) Z U J λr O=>?_);apply ah ?_;show wpAny _ _ (ret (Value.bool r.isSome)) _ _ _;rw[O];show ah #[_,rfl,h]
end
section
variable {pos:Pos}
variable {G:Stc}{C:Cal}{sc:Scope}{d:Nat}
def zA {e:Ex}{x:Expr}(he:dw G C sc d e x)(hb:lu x=true):dw G C sc d (.g e) (.Attribute x "get" pos):=λ_ _ _ _ _ _ _ c h =>
 Attribute_any_ (nr (he c h) λv σ₁ s₁ w q vr r x=>by
  have#[a,rfl,hD,q]:=q;have rfl:=vr;have#[aa,e]:=bp.mp hD;have#[ds,hd,_]:=r.D _ _ e;have U:=hd.mapOf.noDict a rfl;have#[o,ab,ep,B,hc,O,_]:=id hd;have#[o',Z,J]:=U;have rfl:=ak (B.symm.trans Z);apply uR B hc.1 J (λc q=>by rw[O]at q;cases q) ?_;apply#[.iL a,σ₁,q,.iL (cf _ rfl) rfl rfl,r.push _,x.to (Evo.push _ _ _ _)]) (by rw[arm_eval_Attribute,eL hb])
def z9 {e:Ex}{x:Expr}(B:dw G C sc d e x)(hb:lu x=true):dw G C sc d (.h e) (.Attribute x "__contains__" pos):=λ_ _ _ _ _ _ _ c h =>
 Attribute_any_ (nr (B c h) λv σ₁ s₁ w q vr r x=>by
  have#[a,rfl,hD,q]:=q;have rfl:=vr;have#[aa,e]:=bp.mp hD;have hd:=r.S _ _ e;have#[o',Z,O]:=hd.of.noDict a rfl;have#[o,ab,ep,t,J,hc,U,_]:=id hd;have rfl:=ak (J.symm.trans Z);apply uQ J hc.1 O (λc q=>by rw[U]at q;cases q) ?_;apply#[.j9 a,σ₁,q,.j9 (cf _ rfl) rfl rfl,r.push _,x.to (Evo.push _ _ _ _)]) (by rw[arm_eval_Attribute,eL hb])
def tK {A:Around}{E:QqV}{s:Shared}{σ:St}{env:Env}{ρ:Fr}{u a:Addr}{id:String}{o:Obj}{es:Exs}{args:List Expr}{P:List V->St->Prop}{Q:QqV}(ho:s.heap.get? u=some o)(U:o.cls=.type "builtin_function_or_method")(Z:o.data=.fields #v[.builtin id,.ref a])(B:noStar args=true)(O:ou G C sc d es args)
  (c:Cx G sc d A env ρ σ s) (h:vq C es ρ σ P)
  (k:∀vs σ₁ s₁ ws,P vs σ₁->VRs G s₁.heap vs ws->Rel G σ₁ s₁.heap->Go [] σ s σ₁ s₁->s₁.heap.get? u=some o->wpAny G.M A (call (.ref u) ws) Q E s₁) :
  wpAny G.M A (callWith pos (.ref u) [] (backTo pos (starEach args env)) []) Q E s:=
 vJ (o:=o) (ji B pos env) U Z (mv (ji B pos env) (rQ (O c h) λvs σ₁ s₁ ws q vr r x=>by
  have J:=x.frz _ _ ho (.inr (.inl #[.inl U,_,Z]));apply#[J,k vs σ₁ s₁ ws q vr r x J]))
def sP {f:Nat}{es:Exs}{x:Str}{kd:NameKind}{args:List Expr}{p:Pos}(K:GOk G)(LO:qX G C d)(hi:sc.names[f]?=some (x,kd))(hk:isVar kd=true)(hx:jg x=true)(aa:ou G C sc d es args)(hs:noStar args=true):dw G C sc d (.w f es) (.Call (.Name x p) args [] pos):=λA E env ρ σ Q s c h=>by
 have#[v,hv,h]:=h;have ar:(x==("__debug__":Str))=false:=by simp only[jg,dg,fg]at hx;show hx.1
 apply Call_ (wpAny_Name (jW c.eo c.F (by rw[c.es];show hi) hk hx hv λw vr=>?_) ar);have no:(∀vs σ,¬SK v vs C 1000 σ Q)->wpAny G.M A (callWith pos w [] (backTo pos (starEach args env)) []) (jl G [] σ s Q) E s:=λbd=>by
  unfold callWith;show af (cg (mv (ji hs pos env) (rQ (aa c h) λvs σ₁ s₁ ws q vr r x=>(bd _ _ q).elim)))
 cases v with
 |iL a =>
  have#[q,o,rfl,ho,B,J]:=vr;apply tK ho B J hs aa c h λvs σ₁ s₁ ws Z ab r O hu=>?_;have#[k,dd,rfl,bl,kk,e,U,Z]:=oT (vs:=vs) Z;have#[wa,wb,rfl,va,vb]:=ab.two;have#[ds,hd,bb]:=r.D _ _ e;have#[od,be,ep,ag,hcd,ai,_]:=id hd;have hl:=bb.look kk;apply F6 hu B J (λA E Q q=>O7 ag hcd.1 (λc q=>by rw[ai]at q;cases q) q) ED PySem.F.entry_dict_get zK (meets_dict_get_default G.kk _ (key_is U va) (kB K r (.inr (.inl (by rw[e];rfl)))) _) #[_,hd.mapOf,?_];apply#[_,σ₁,Z,hl.getD vb,r,O.tok]
 |j9 a =>
  have#[q,o,rfl,ho,B,J]:=vr;apply tK ho B J hs aa c h λvs σ₁ s₁ ws Z ab r O hu=>?_;have#[k,rfl,ks,kk,e,U,Z]:=mY (vs:=vs) Z;have#[wa,rfl,va]:=ab.one;have hS:=r.S _ _ e;have#[od,be,ep,t,ag,hcd,ai,_]:=id hS;apply JY hu B J (λA E Q q=>O6 ag hcd.1 (λc q=>by rw[ai]at q;cases q) q) EC PySem.entry_set_contains λA'=>?_;apply rL (key_is U va) (xU U va) hS.of ?_;apply#[_,σ₁,Z,.bool _,r,O.tok]
 |clo k cs =>
  have#[a,_,rfl,hk,_]:=vr;have#[#[o,fd,ho,hd],hc]:=LO k cs a hk;show yv ho hd hs aa c h λvs σ₁ s₁ ws q vr r x=>x.back (hc c.ao r vr q)
 |_=>show no λ_ _ q=>q
end
end MP
end
section
namespace MP
open PySem PyProof.Rows
variable {e f:Ex}{x:Str}{y z:Expr}{p pos:Pos}
def At.grow {h h':Heap}{a:Addr}{o:Obj}(Z:h.get? a=none)(hk:∀b o,h.get? b=some o->h'.get? b=some o)(U:h'.get? a=some o):At a h h':=
 #[λb o _ e=>hk b o e,#[_,U],λo e=>by rw[Z]at e;cases e]
section
variable {G:Stc}{C:Cal}{sc:Scope}{d:Nat}
def ME (K:GOk G)(he:dw G C sc d e y)(J:noStar [y]=true)(hx:sc.names.lookup x=some .globalImplicit)(hn:jg x=true)(hv:G.gl x=some (.builtin "abs")) :
  dw G C sc d (.bf .abs %[e|0]) (.Call (.Name x p) [y] [] pos):=λ_ _ _ _ _ _ _ c h=>by
 apply j8 (P:=λvs σ=>on1 vs λv=>uq v λi=>_) K J (jc he km (fb J).1) hx hn hv c h λvs σ₁ s₁ ws q vr r U=>?_;have#[v,rfl,q]:=mY (vs:=vs) q;have#[i,rfl,q]:=rn (v:=v) q;have#[w,rfl,t,rfl]:=vr.one;apply PyProof.Rows.call_abs_int λu tk=>#[_,σ₁,q,?_,r,U.tok];rw[show(if i<0 then -i else i)=((i.natAbs:Nat):Int) by split<;>(first|(rename_i B;show(Ar.nab _).elim (λZ=>(dQ (.ie (.g .A) .L) [[1,2,1],[1,0,1]] (.il .A .O) .cK B Z.2)) λZ=>(yR (.ie (.g .A) .L) .i .c3 Z.2))|(rename_i B;show(Ar.nab _).elim (λZ=>(yR (.ie .A .L) .i .cK Z.2)) λZ=>(dQ (.ie .A .L) [[1,2,1],[1,0,1]] (.ig .A .O) .c3 B Z.2))|omega)];show .int _ _
def M3 (K:GOk G)(he:dw G C sc d e y)(J:noStar [y]=true)(hx:sc.names.lookup x=some .globalImplicit)(hn:jg x=true)(hv:G.gl x=some (.builtin "len")) :
  dw G C sc d (.bf .len %[e|0]) (.Call (.Name x p) [y] [] pos):=λ_ _ _ _ _ _ _ c h=>by
 apply j8 K J (jc he km (fb J).1) hx hn hv c h λvs σ₁ s₁ ws q vr r Z=>?_;have#[v,rfl,q]:=mY (vs:=vs) q;have zz:=vr.one;clear vr;have#[w,rfl,va]:=zz;cases v with
 |L a =>
  have rfl:=va;have#[xs,e,q]:=q;have#[us,n,hl,O]:=r.L _ _ e;rw[O.length]at q;show PySem.Calls.call_len_list hl.isList (EE (rB r e O)) #[_,σ₁,q,.int _ _,r,Z.tok]
 |T xs =>
  have#[a,us,n,rfl,g,rr]:=va;have#[hz,q]:=q;rw[rr.length]at q hz;show PyProof.Rows.len_tuple #[_,g,rfl,_,rfl] (EE hz) #[_,σ₁,q,.int _ _,r,Z.tok]
 |ro ns =>
  have#[a,us,n,rfl,g,rr]:=va;have#[hz,q]:=q;rw[<- rr.length]at q hz;show PySem.Calls.call_len_list (IsL.isList (r.base _ _ g)) (EE hz) #[_,σ₁,q,.int _ _,r,Z.tok]
 |dct a =>
  have rfl:=va;have#[ab,e,q]:=q;have#[ds,hd,aa]:=r.D _ _ e;have U:=aa.length;have hz:=r.Dl _ _ e;unfold bq at hz;apply call_len_dict (kB K r (.inr (.inl (by rw[e];rfl)))) hd (gz (.il .L .P) .t .bK (.k .B .X) U hz) ?_;rw[U]at q;apply#[_,σ₁,q,.int _ _,r,Z.tok]
 |_=>show False.elim q
def BO {k:BF}{id:String}{W:Int->Int->St->(V->St->Prop)->Prop}(K:GOk G)(he:dw G C sc d e y)(hf:dw G C sc d f z)(Z:noStar [y,z]=true)(hx:sc.names.lookup x=some .globalImplicit)(hn:jg x=true)(hv:G.gl x=some (.builtin id))
  (hk:∀vs σ Q,D8 k vs σ Q->on2 vs λv u=>uq v λi=>uq u λj=>W i j σ Q)
  (hc:∀{A E σ s Q} (i j:Int) (t u:Tok),AOk A d->Rel G σ s.heap->W i j σ Q->wpAny G.M A (call (.builtin id) [.int i t,.int j u]) (jl G [] σ s Q) E s) :
  dw G C sc d (.bf k %[e,f|0]) (.Call (.Name x p) [y,z] [] pos):=λA E env ρ σ Q s c h=>by
 apply j8 (P:=λvs σ=>D8 k vs σ Q) K Z (jc he (jc hf km (fb (fb Z).2).1) (fb Z).1) hx hn hv c h λvs σ₁ s₁ ws q vr r U=>?_;have q1:=hk vs σ₁ Q q;clear q;have#[v,u,rfl,B]:=oT (vs:=vs) q1;have#[i,rfl,J]:=rn (v:=v) B;have#[j,rfl,q]:=rn (v:=u) J;have#[w,w',rfl,#[t,rfl],#[O,rfl]]:=vr.two;show U.back (hc i j t O c.ao r q)
def GN (K:GOk G)(he:dw G C sc d e y)(hf:dw G C sc d f z)(U:noStar [y,z]=true)(J:sc.names.lookup x=some .globalImplicit)(hn:jg x=true)(hv:G.gl x=some (.builtin "min")) :
  dw G C sc d (.bf .min %[e,f|0]) (.Call (.Name x p) [y,z] [] pos):=BO K he hf U J hn hv (λ_ _ _=>id) λi j t u ao r q=>by
 apply min_two_ints ao.handled λh' O hk=>?_;apply#[_,_,q,?_,r.keeps hk,Go.refl.to (Evo.keeps hk)];split
 ·rw[Int.min_eq_right (by(rename_i Z;show ru (.ik .A .B) .a .aN Z))];show .int _ _
 ·rw[Int.min_eq_left (by(rename_i Z;show ru (.ik .A .B) .a (.ig .B .A) Z))];show .int _ _
def GP (K:GOk G)(he:dw G C sc d e y)(hf:dw G C sc d f z)(U:noStar [y,z]=true)(J:sc.names.lookup x=some .globalImplicit)(hn:jg x=true)(hv:G.gl x=some (.builtin "max")) :
  dw G C sc d (.bf .max %[e,f|0]) (.Call (.Name x p) [y,z] [] pos):=BO K he hf U J hn hv (λ_ _ _=>id) λi j t u ao r q=>by
 apply max_two_ints ao.handled λh' O hk=>?_;apply#[_,_,q,?_,r.keeps hk,Go.refl.to (Evo.keeps hk)];split
 ·rw[Int.max_eq_right (by(rename_i Z;show ru (.ik .A .B) .a .aN Z))];show .int _ _
 ·rw[Int.max_eq_left (by(rename_i Z;show ru (.ik .A .B) .a (.ig .B .A) Z))];show .int _ _
def GD (K:GOk G)(O:sc.names.lookup x=some .globalImplicit)(B:jg x=true)(J:G.gl x=some (.type "set")) :
  dw G C sc d (.bf .set .nil) (.Call (.Name x p) [] [] pos):=λA E env ρ σ Q s c h=>by
 apply xq (P:=λvs σ=>D8 .set vs σ Q) K rfl km O B J c h λvs σ₁ s₁ ws q vr r Z=>?_;have#[rfl,q]:=C5 (vs:=vs) q;have rfl:=vr;have U:At s₁.heap.objs.size s₁.heap (s₁.heap.push (DV G)):=At.push s₁.heap;show vH #[.set _,_,q _ r.RX r.freshD,.set _,r.HV U (λ_=>none_at_size _) (DT s₁.heap),Z.to (Evo.HV U (λ_=>none_at_size _) _)]
end
end MP
end
section
namespace MP
open PySem PyProof.Rows
variable {σ:St}{env:Env}{e:Expr}{depth:Nat}{acc:Value}{gens:List Comprehension}
abbrev Tg.vars:Tg->List Nat
 |.v x=>[x]
 |.T xs=>xs
abbrev Gens.vars:Gens->List Nat
 |.elt _=>[]
 |.cons _ t _ more=>t.vars++more.vars
def oK:∀(xs:List Nat) (vs:List V) (ρ:Fr) (i:Nat),i∉xs->ez xs vs ρ i=ρ i
 | [],_,_,_,_=>rfl
 |_::_,[],_,_,_=>rfl
 |x::xs,v::vs,ρ,i,h=>by
  have h:=tW h;show(oK xs vs _ i h.2).trans (cv h.1)
def AR {t:Tg}{v:V}{ρ:Fr}{K:Fr->Prop}(h:nu t v σ ρ K):nu t v σ ρ λρ'=>K ρ'/\∀i,i∉t.vars->ρ' i=ρ i:=by
 cases t with
 |v x=>refine#[h,λi Z=>cv (by simpa[Tg.vars] using Z)]
 |T xs =>
  have#[vs,e,hl,h]:=h;apply#[vs,e,hl,h,λi Z=>oK _ _ _ _ Z]
def Rel.KD {G:Stc}{h:Heap}{a:Addr}{xs:List V}{ws:List Value}{n:Nat}(R:Rel G σ h)(hd:¬σ.dom a)(hb:G.hb.get? a=none)(hl:IsL h a ws.toArray n)(O:VRs G h xs ws)(hz:xs.length<=bq):Rel G (σ.cw a xs) h:=by
 apply#[λb ys e=>?_,R.D,R.S,R.I,R.Z,λb ys e=>?_,R.Dl,R.inj,R.apart,R.sep,λb d=>?_,R.base]
 ·by_cases U:b=a
  ·subst U;simp only[St.cw,br,fy]at e;subst e;apply#[ws,n,hl,O]
  ·simp only[St.cw,cv U]at e;show R.L b ys e
 ·by_cases U:b=a
  ·subst U;simp only[St.cw,br,fy]at e;show e▸hz
  ·simp only[St.cw,cv U]at e;show R.Ll b ys e
 ·rcases dJ d with d|rfl
  ·show R.new b d
  ·show hb
structure Acc (G:Stc) where
 B:Heap->Addr->List V->Prop
 keep:∀h h' D acc,B h D acc->(∀o,h.get? D=some o->h'.get? D=some o)->gy h h'->B h' D acc
 there:∀h D acc,B h D acc->∃o,h.get? D=some o
abbrev FD (G:Stc):Acc G where
 B:=λh D acc=>acc.length<=bq/\∃ws n,IsL h D ws.toArray n/\VRs G h acc ws
 keep:=λh h' D acc b hk hf=>by have#[z,ws,n,hl,hv]:=b;apply#[z,ws,n,hk _ hl,hv.mono hf]
 there:=λh D acc b=>by have#[z,ws,n,hl,hv]:=b;apply#[_,hl]
inductive D4 (G:Stc)(B:Acc G)(env:Env)(D:Addr)(X:List Addr)(tv:List Nat)(ρ:Fr)(σ:St)(s:Shared)(K:Fr->List V->St->Prop)(s':Shared):Prop
 |mk (ρ':Fr) (acc':List V) (σ':St):K ρ' acc' σ'->FR G σ' env ρ' s'.heap->Rel G σ' s'.heap->B.B s'.heap D acc'->¬σ'.dom D->Go (D::X) σ s σ' s'->(∀i,i∉tv->ρ' i=ρ i)->D4 G B env D X tv ρ σ s K s'
structure eY (G:Stc)(B:Acc G)(env:Env)(D:Addr)(σ:St)(h:Heap)(acc:List V):Prop where
 here:B.B h D acc
 out:¬σ.dom D
 off:D∉envX env
 base:G.hb.get? D=none
def eY.evo {G:Stc}{B:Acc G}{D:Addr}{σ':St}{h h':Heap}{acc:List V}{X:List Addr}(a:eY G B env D σ h acc)(x:Evo X σ h σ' h')(U:D∉X):eY G B env D σ' h' acc:=by
 have#[o,Z]:=B.there _ _ _ a.here;apply#[B.keep _ _ _ _ a.here (λo e=>x.keep _ _ e a.out U) x.frz,λd=>(x.dom D d).elim a.out λq=>(by rw[Z]at q;cases q),a.off,a.base]
abbrev vh (e:Expr)(gens:List Comprehension)(fin:Value->Env->Sem Unit)(depth:Nat)(acc:Value)(env:Env):Sem Unit:=
 match gens[depth+1]? with
 |some g'=>eval g'.iter env>>=λx=>standAt g'.iter.pos>>=λ_=>foldedSetIterable g'.iter env x>>=λx=>holding [x] (pyIter x)>>=λi =>
  runOwn (.compStart e (depth+1) i acc env) env>>=λ_=>pure ()
 |none=>fin acc env
abbrev A7 (elt:Expr)(acc:Value)(env:Env):Sem Unit:=eval elt env>>=λx=>call (.builtin "list.append") [acc,x]>>=λ_=>pure ()
abbrev tests (ifs:List Expr)(env:Env):Sem Bool:=forIn ifs true λc r=>if r=true then do let ok←isTrue c env (eval c env);pure (ForInStep.yield ok) else pure (ForInStep.yield r)
structure rH (e:Expr)(gens:List Comprehension)(fin:Value->Env->Sem Unit):Prop where
 cl:clausesOf e=gens
 turn:∀{depth:Nat} {it acc:Value} {env:Env} {target iter:Expr} {ifs:List Expr},gens[depth]?=some #[target,iter,ifs,0]->(∀g',gens[depth+1]?=some g'->g'.is_async=0) ->
  compTurn e depth it acc env=(standAt iter.pos>>=λ_=>pyNext it>>=λr=>match r with
   |none=>pure (.done .next)
   |some v=>letOwnedTupleGo target it v>>=λ_=>assign target env v>>=λ_=>tests ifs env>>=λok =>
    if ok=true then vh e gens fin depth acc env>>=λ_=>again (.compLoop e depth it acc env) else again (.compLoop e depth it acc env))
 us:∀(A:Around) (depth:Nat) (it acc:Value) (env:Env),A.under (.compStart e depth it acc env)=A
 ul:∀(A:Around) (depth:Nat) (it acc:Value) (env:Env),A.under (.compLoop e depth it acc env)=A
 ds:∀(prog:Program) (w:World) (depth:Nat) (it acc:Value) (env:Env),(model prog w).den (.compStart e depth it acc env)=(compStart e depth it acc env).onRaise (λx=>do noteFrame x env;standAt theWindowsPlace)
 dl:∀(prog:Program) (w:World) (depth:Nat) (it acc:Value) (env:Env),(model prog w).den (.compLoop e depth it acc env)=(compTurn e depth it acc env).onRaise (λx=>do noteFrame x env;theTreesLotGoes x)
def AY {b:Expr}{k:Sem Fin}:((eval b env>>=λx=>standAt b.pos>>=λ_=>foldedSetIterable b env x>>=λx=>holding [x] (pyIter x)>>=λi=>runOwn (.compStart e (depth+1) i acc env) env>>=λ_=>(pure ():Sem Unit))>>=λ_=>k) =
  (eval b env>>=λx=>standAt b.pos>>=λ_=>foldedSetIterable b env x>>=λx=>holding [x] (pyIter x)>>=λi=>runOwn (.compStart e (depth+1) i acc env) env>>=λ_=>k):=by simp only[bind_assoc,pure_bind]
def vE {elt:Expr}{scope:Scope}{pos:Pos}:rH (.ListComp elt gens scope pos) gens (A7 elt):=⟨rfl,λ{depth it acc env target iter ifs} U Z=>by
 delta compTurn
 dsimp only;rw[U];apply bz (standAt iter.pos>>=·) (funext λ_=>bz (pyNext it>>=·) (funext λr=>?_));cases r with
 |none=>rfl
 |some v =>
  apply bz (letOwnedTupleGo target it v>>=·) (funext λ_=>bz (assign target env v>>=·) (funext λ_=>bz (tests ifs env>>=·) (funext λok=>?_)));cases ok with
  |false=>rfl
  |true =>
   delta vh
   cases hq:gens[depth+1]? with
   |none=>rfl
   |some O =>
    have#[a,b,c,d]:=O;obtain rfl:d=0:=Z _ hq;show AY.symm,λ_ _ _ _ _=>rfl,λ_ _ _ _ _=>rfl,λ_ _ _ _ _ _=>rfl,λ_ _ _ _ _ _=>rfl⟩
section
variable {prog:Program}{w:World}{A:Around}{R:Result->Shared->Prop}{s:Shared}
def kR {fin:Value->Env->Sem Unit}{it:Value}{target iter:Expr}{ifs:List Expr}(U:rH e gens fin)(O:gens[depth]?=some #[target,iter,ifs,0])
  (h0:codeAny (model prog w) A (.compLoop e depth it acc env) R s)
  (h:wpAny (model prog w) A (pyIter it) (λZ s'=>codeAny (model prog w) A (.compLoop e depth Z acc env) R s') (notedBy (model prog w) A env λx s'=>R (.error x) s') s) :
  codeAny (model prog w) A (.compStart e depth it acc env) R s:=by
 apply ue ?_;rw[U.us,U.ds];apply wpAny_notedAt ?_;unfold compStart;simp only[U.cl,O];show wpAny _ A (ask>>=_) _ _ s;apply af (wo (wpAny_ite ?_));split
 ·first
   |show af (ah (ah (And.intro rfl h0)))
   |show ah (And.intro rfl h0)
 ·show af (tw (af (fw (af (bg h (λZ s' h'=>ah (And.intro rfl h')) λ_ _ x=>x)))))
def yA {fin:Value->Env->Sem Unit}{it:Value}{target iter:Expr}{ifs:List Expr}(ck:rH e gens fin)(hg:gens[depth]?=some #[target,iter,ifs,0])(ag:∀g',gens[depth+1]?=some g'->g'.is_async=0)(I:Nat->Shared->Prop)
  (turn:∀n s,I n s->wpAny (model prog w) A (pyNext it) (λr s₁=>match r with
   |none=>R (.ok .next) s₁
   |some v=>wpAny (model prog w) A (letOwnedTupleGo target it v) (λ_ U=>wpAny (model prog w) A (assign target env v) (λ_ s₂ =>
     wpAny (model prog w) A (tests ifs env) (λok Z=>if ok=true then wpAny (model prog w) A (vh e gens fin depth acc env) (λ_ O=>∃m,m<n/\I m O) (notedBy (model prog w) A env λe s'=>R (.error e) s') Z else ∃m,m<n/\I m Z)
      (notedBy (model prog w) A env λe s'=>R (.error e) s') s₂) (notedBy (model prog w) A env λe s'=>R (.error e) s') U) (notedBy (model prog w) A env λe s'=>R (.error e) s') s₁) (notedBy (model prog w) A env λe s'=>R (.error e) s') s)
  (n:Nat) (h:I n s):codeAny (model prog w) A (.compLoop e depth it acc env) R s:=by
 apply codeAny_loop rfl I (λn s hI=>?_) n h;rw[ck.ul,ck.dl];apply wpAny_noted ?_;rw[ck.turn hg ag];apply af (fw (af (bg (turn n s hI) (λr s₁ h₁=>?_) λ_ _ h'=>h')));cases r with
 |none=>show ah h₁
 |some v =>
  apply af (bg h₁ (λ_ U B=>af (bg B (λ_ s₂ ab=>af (bg ab (λok Z J=>?_) λ_ _ h'=>h')) λ_ _ h'=>h')) λ_ _ h'=>h');cases ok with
  |false=>show ah #[rfl,J]
  |true=>show af (bg J (λ_ O aa=>ah #[rfl,aa]) λ_ _ h'=>h')
end
section
variable {A:Around}{s s₀:Shared}{cs:Exs}{gens:List Comprehension}{depth:Nat}{env:Env}{σ₀ σ:St}{D:Addr}{X:List Addr}{ρ:Fr}{K:Fr->List V->St->Prop}{acc:List V}{t:Tg}{more:Gens}{e target:Expr}{fin:Value->Env->Sem Unit}{ifs:List Expr}
variable {G:Stc}{C:Cal}{sc:Scope}{d:Nat}
abbrev qq (G:Stc)(C:Cal)(sc:Scope)(d:Nat)(cs:Exs)(ifs:List Expr):Prop:=
 ∀⦃A E env ρ σ Q s⦄,Cx G sc d A env ρ σ s->vn C cs ρ σ Q->wpAny G.M A (tests ifs env) (kz G [] σ s Q) E s
def mR {E:QqV}{env:Env}{Q:Bool->Shared->Prop}(f:Expr->Bool->Sem (ForInStep Bool))(Z:∀c,f c false=pure (.yield false))(h:Q false s):∀ifs:List Expr,wpAny G.M A (forIn ifs false f) Q E s
 | []=>by rw[oe];show ah h
 |c::r=>by
  rw[pd,Z];show af (ah (mR (env:=env) f Z h r))
def EW:qq G C sc d .nil []:=λ_ _ _ _ _ _ _ c h=>by
 unfold tests;rw[oe];show ah (kz.here h c.R)
def AK {c:Ex}{x:Expr}{xs:List Expr}(U:oq G C sc d c x)(Z:qq G C sc d cs xs):qq G C sc d (.cons c cs) (x::xs):=λA E env ρ σ Q s c h=>by
 unfold tests;rw[pd];rw[bx rfl];apply af (af (nN (U c h) λb σ₁ s₁ q r x=>ah ?_));cases b with
 |true=>show x.yJ (Z (c.go r x) q)
 |false=>show mR (env:=env) _ (λc=>by simp) (kz.back x (kz.here q r)) xs
structure XOk (env:Env)(X:List Addr)(gens:List Comprehension):Prop where
 loc:env.locals∈X
 cells:∀g∈gens,∀y∈jS g.target,∀c,env.cells.lookup y=some c->c∈X
 sub:∀b∈X,b∈envX env
abbrev so (G:Stc)(B:Acc G)(C:Cal)(sc:Scope)(d:Nat)(more:Gens)(e:Expr)(gens:List Comprehension)(fin:Value->Env->Sem Unit)(depth:Nat):Prop:=
 ∀⦃A E env ρ σ acc K s D X⦄,XOk env X gens->Cx G sc d A env ρ σ s->eY G B env D σ s.heap acc ->
  j5 C more ρ acc σ K->wpAny G.M A (vh e gens fin depth (.ref D) env) (λ_ s'=>D4 G B env D X more.vars ρ σ s K s') E s
def FC {e:Ex}{elt ce:Expr}(he:dw G C sc d e elt)(hg:gens[depth+1]?=none):so G (FD G) C sc d (.elt e) ce gens (A7 elt) depth:=λA E env ρ σ acc K s D X xo c a h=>by
 unfold vh;rw[hg];apply af (nr (he c h) λv σ₁ s₁ w q vr r x=>?_);have Z:=a.evo x.e (by simp);have#[_,ws,n,hl,hv]:=Z.here;have U:=hv.length;have hz:=q.1;apply af (call_meets jN #[_,hl,rfl] PySem.F.entry_list_append (PySem.F.args_list_append_2 _ _) (list_append _ _ _ _ (by simp only[cy];rw[<- U];show qi (bt .A .a .B q.1))) #[hl,ah ?_]);have hu:=hl.update (λx=>x.push w);have e2:ws.toArray.push w=(ws++[w]).toArray:=by simp
 rw[e2]at hu;have J:Heap.SameBut D s₁.heap (s₁.heap.update D (Obj.mapSeq λx=>x.push w)):=gr ..;have O:gy s₁.heap (s₁.heap.update D (Obj.mapSeq λx=>x.push w)):=wc J λo eo=>by
  have rfl:=ak (eo.symm.trans hl);show yz rfl rfl
 have hk:∀b o,b∉[D]->s₁.heap.get? b=some o->(s₁.heap.update D (Obj.mapSeq λx=>x.push w)).get? b=some o:=λb o hb e=>by rw[J.2 b (λq=>hb (q▸.head _))];show e
 apply#[ρ,acc++[v],σ₁,q.2,(c.F.evo x.e).but hk O (λb hb=>by have rfl:=au.mp hb;show a.off),r.frame (o':=default) J Z.out a.base O,#[by simp;(show bt .H .a .B q.1),ws++[w],_,hu,(hv.mono O).append %[vr.mono O|0]],Z.out,?_,λ_ _=>rfl];show(x.more λ_ h=>nomatch h).to (Evo.frame J hu (.head _) O)
abbrev o8 (C:Cal)(t:Tg)(cs:Exs)(more:Gens)(v:V)(ρ:Fr)(acc:List V)(σ:St)(K:Fr->List V->St->Prop):Prop:=nu t v σ ρ λρ'=>vn C cs ρ' σ λok σ=>if ok then j5 C more ρ' acc σ K else K ρ' acc σ
inductive nC (B:Acc G)(I:Itr G)(env:Env)(σ₀:St)(s₀:Shared)(D:Addr)(X:List Addr)(vs:List Nat)(ρ:Fr)(T:V->Fr->List V->St->(Fr->List V->St->Prop)->Prop)(K:Fr->List V->St->Prop)(n:Nat)(s':Shared):Prop
 |mk (i:Nat) (σ':St) (ρ':Fr) (acc':List V):n=I.vs.length-i->I.pos i s'.heap->FR G σ' env ρ' s'.heap->Rel G σ' s'.heap->eY G B env D σ' s'.heap acc'->Go (D::X) σ₀ s₀ σ' s'->(∀b∈I.own,¬σ'.dom b)->(∀j,j∉vs->ρ' j=ρ j)->pT (I.vs.drop i) I.Gd T ρ' acc' σ' K->nC B I env σ₀ s₀ D X vs ρ T K n s'
def nC.next {B:Acc G}{I:Itr G}{s':Shared}{vs:List Nat}{T:V->Fr->List V->St->(Fr->List V->St->Prop)->Prop}{i:Nat}{σ':St}{ρ':Fr}{Z:List V}(lt:i<I.vs.length)(U:I.pos (i+1) s'.heap)(F:FR G σ' env ρ' s'.heap)(R:Rel G σ' s'.heap)(a:eY G B env D σ' s'.heap Z)(x:Go (D::X) σ₀ s₀ σ' s')(hd:∀b∈I.own,¬σ'.dom b)(O:∀j,j∉vs->ρ' j=ρ j)(q:pT (I.vs.drop (i+1)) I.Gd T ρ' Z σ' K) :
  ∃m,m<I.vs.length-i/\nC B I env σ₀ s₀ D X vs ρ T K m s':=#[_,by show fc .B .c .d3 .bD (ae (bt .H .a .B lt)) (ae (bt .A .a .B lt)),i+1,σ',ρ',Z,rfl,U,F,R,a,x,hd,O,q]
def eY.kept {B:Acc G}{h h':Heap}{own:List Addr}(a:eY G B env D σ h acc)(Z:D∉own)(hk:∀b o,b∉own->h.get? b=some o->h'.get? b=some o)(U:gy h h'):eY G B env D σ h' acc:=by
 apply#[B.keep _ _ _ _ a.here (λo e=>hk _ _ Z e) U,a.out,a.off,a.base]
def QB {B:Acc G}(ht:vl G C sc d t target)(dv:qq G C sc d cs ifs)(dx:so G B C sc d more e gens fin depth)
  {E:QqV} {Z:Fr} {i:Nat} {I:Itr G} {v:V} {w:Value} (xo:XOk env X gens) (ca:∀y∈jS target,∀c,env.cells.lookup y=some c->c∈X) (c:Cx G sc d A env ρ σ s)
  (hX:∀b∈I.own,b∉envX env) (hD:D∉I.own) (lt:i<I.vs.length) (a:eY G B env D σ s.heap acc) (x0:Go (D::X) σ₀ s₀ σ s) (hp:I.pos (i+1) s.heap) (hd:∀b∈I.own,¬σ.dom b) (ag:∀j,j∉t.vars++more.vars->ρ j=Z j) (vr:VR G s.heap v w)
  (hf:o8 C t cs more v ρ acc σ λρ acc σ=>pT (I.vs.drop (i+1)) I.Gd (o8 C t cs more) ρ acc σ K) :
  wpAny G.M A (assign target env w) (λ_ s₂=>wpAny G.M A (tests ifs env) (λok aa=>if ok=true then wpAny G.M A (vh e gens fin depth (.ref D) env) (λ_ J=>∃m,m<I.vs.length-i/\nC B I env σ₀ s₀ D X (t.vars++more.vars) Z (o8 C t cs more) K m J) E aa
   else ∃m,m<I.vs.length-i/\nC B I env σ₀ s₀ D X (t.vars++more.vars) Z (o8 C t cs more) K m aa) E s₂) E s:=by
 have bb:∀c∈I.own,c∉X:=λc hc q=>hX c hc (xo.sub c q);apply bg (ht xo.loc ca c vr (AR hf)) (λ_ aa l=>?_) λ_ _ x=>x;have#[bu,#[cd,ai],bl,cx,O]:=l;have#[dr,cn]:=I.nM bb hp hd O.e;have a3:=a.evo O.e λq=>a.off (xo.sub D q);apply nN (dv (c.at bl cx) cd) λok bn J ar be U=>?_;have#[ck,bd]:=I.nM (λc _=>zw) dr cn U.e;have a4:=a3.evo U.e zw;have F4:=bl.evo U.e;have x5:Go (D::X) σ₀ s₀ bn J:=(x0.trans (O.more λb hb=>.tail _ hb)).trans (U.more λ_ h=>nomatch h);have cp:∀j,j∉t.vars++more.vars->bu j=Z j:=λj hj=>(ai j (λq=>hj (gq _ q))).trans (ag j hj);cases ok with
 |false =>
  rw[ay sf];show nC.next lt ck F4 be a4 x5 bd cp ar
 |true =>
  rw[bx rfl];apply bg (dx xo (c.at F4 be) a4 ar) (λ_ dy l=>?_) λ_ _ x=>x;have#[dm,dc,df,cc,da,ct,cb,bv,ao,ab]:=l;have#[dn,cl]:=I.nM (λc hc q=>(cz.mp q).elim (λe=>by rw[e]at hc;show hD hc) (bb c hc)) ck bd ao.e;show nC.next lt dn da ct #[cb,bv,a.off,a.base] (x5.trans ao) cl (λj hj=>(ab j (λq=>hj (gc _ q))).trans (cp j hj)) cc
def PI {B:Acc G}{iter:Expr}(ck:rH e gens fin)(ht:vl G C sc d t target)(bu:qq G C sc d cs ifs)(bv:so G B C sc d more e gens fin depth)(hg:gens[depth]?=some #[target,iter,ifs,0])(bn:∀g',gens[depth+1]?=some g'->g'.is_async=0)
  {R:Result->Shared->Prop} (I:Itr G) (hI:I.tup=true->isTup target=true) (xo:XOk env X gens) (c:Cx G sc d A env ρ σ s) (a:eY G B env D σ s.heap acc)
  (hp:I.pos 0 s.heap) (ai:Go (D::X) σ₀ s₀ σ s) (ab:∀b∈I.own,s₀.heap.get? b=none) (hX:∀b∈I.own,b∉envX env) (be:∀b∈I.own,¬σ.dom b) (hD:D∉I.own) (aa:∀b∈I.own,G.hb.get? b=none)
  (hf:pT I.vs I.Gd (o8 C t cs more) ρ acc σ K)
  (hR:∀s',D4 G B env D X (t.vars++more.vars) ρ σ₀ s₀ K s'->R (.ok .next) s') :
  codeAny G.M A (.compLoop e depth (.ref I.it) (.ref D) env) R s:=by
 apply yA ck hg bn (nC B I env σ₀ s₀ D X (t.vars++more.vars) ρ (o8 C t cs more) K) ?_ (I.vs.length-0)
  #[0,σ,ρ,acc,rfl,hp,c.F,c.R,a,ai,be,λ_ _=>rfl,hf]
 intro n s' zz;have#[i,σ',ρ',bb,rfl,U,F',R',a',x',J,ar,O]:=zz;cases hq:I.vs[i]? with
 |none =>
  rw[sd (pa.mp hq)]at O;apply I.stop A _ s' σ' i _ c.ao.handled R' O.1 U hq λs2 g=>?_;have#[Z,g2]:=g;have fz:=I.frz U Z;show hR _ #[ρ',bb,σ',O.2,F'.but Z fz hX,I.rel U R' J aa Z,(a'.kept hD Z fz).here,a'.out,x'.but Z g2 ab,ar]
 |some v =>
  have#[bl,ag]:=vA hq;rw[ag]at O;apply bg (I.next A _ s' σ' i v target ?Q c.ao.handled R' O.1 U hq (λq=>pN (hI q)) ?k) (λr s₁ hr=>?m) λ_ _ x=>x
  case m =>
   cases r with
   |none=>show hr.elim
   |some w=>show hr
  case k =>
   intro w s2 g z;have#[Z,g2]:=g;have fz:=I.frz U Z;have#[vr,bd]:=z fz;show QB ht bu bv xo (xo.cells _ (dq hg)) (c.at (F'.but Z fz hX) (I.rel U R' J aa Z)) hX hD bl (a'.kept hD Z fz) (x'.but Z g2 ab) bd J ar vr O.2
def AZ {B:Acc G}{it:It}{iter:Expr}(ck:rH e gens fin)(hit:xh G C sc d (isTup target) it iter)(ht:vl G C sc d t target)(ag:qq G C sc d cs ifs)(ai:so G B C sc d more e gens fin (depth+1))
  (hg:gens[depth+1]?=some #[target,iter,ifs,0]) (ab:∀g',gens[depth+1+1]?=some g'->g'.is_async=0) (hs:∀env v,foldedSetIterable iter env v=pure v):so G B C sc d (.cons it t cs more) e gens fin depth:=λA E env ρ σ acc K s D X xo c a h=>by
 unfold vh;rw[hg];apply af (bg (hit c h) (λv s₁ h₁=>?_) λ_ _ x=>x);apply af (fw (af (ec (hs env v) (af (cg (bg h₁ (λitv s₂ l=>?_) λ_ _ x=>x))))));have#[I,σ₁,rfl,J,hf,hp,r,U,Z,aa]:=l;have hD:D∉I.own:=λq=>by
  have#[o,hl]:=B.there _ _ _ a.here;have:=Z D q;rw[hl]at this;cases this
 have O:Go (D::X) σ s σ₁ s₂:=U.more λ_ h=>nomatch h;have loop:∀{R':Result->Shared->Prop},(∀s',D4 G B env D X (t.vars++more.vars) ρ σ s K s'->R' (.ok .next) s')->codeAny G.M A (.compLoop e (depth+1) (.ref I.it) (.ref D) env) R' s₂:=λhR =>
  PI ck ht ag ai hg ab I J xo (c.go r U) (a.evo U.e (by simp)) hp O Z (hO c.F Z) aa hD (aO c.R Z) hf hR
 apply af (wpAny_runOwn (kR ck hg (loop λs' l=>ah l) (I.self _ _ _ _ _ hp (loop λs' l=>ah l))))
end
end MP
end
section
set_option tactic.hygienic true
namespace MP
open PySem PyProof.Rows
variable {env:Env}{scope:Scope}{fv:List (Nat×Nat)}{σ:St}{ρ:Fr}{it:It}{t:Tg}{cs:Exs}{more:Gens}{target iter elt:Expr}{ifs:List Expr}{rest:List Comprehension}{pos:Pos}
abbrev pg (cells:List (Str×Addr)):List (Str×NameKind)->List (Str×Addr)->List (Str×Addr)
 | [],acc=>acc
 |(n,k)::r,acc=>if k==.free then pg cells r ((n,(cells.lookup n).getD 0)::acc) else pg cells r acc
def fR (f:Str×NameKind->List (Str×Addr)->Sem (ForInStep (List (Str×Addr))))
  (U:∀n k cs,f (n,k) cs=if k==.free then (do let c←cellOf env n;pure (.yield ((n,c)::cs))) else pure (.yield cs)) :
  ∀(names:List (Str×NameKind)) (acc:List (Str×Addr)),(∀n,(n,NameKind.free)∈names->(env.cells.lookup n).isSome=true)->forIn names acc f=pure (pg env.cells names acc)
 | []=>λacc _=>by rw[oe];rfl
 |(n,k)::r=>λacc h=>by
  have Z:=λacc=>fR f U r acc λm J=>h m (.tail _ J);rw[pd,U];dsimp only[pg];split
  ·rename_i hk;rw[wq]at hk;subst hk;have#[c,O]:=bp.mp (h n (.head _));have e:cellOf env n=pure c:=by unfold cellOf;rw[O]
   rw[e,O];show Z _
  ·show Z acc
def iS (h:∀n,(n,NameKind.free)∈scope.names->(env.cells.lookup n).isSome=true):closureFor scope env=pure (pg env.cells scope.names []):=by
 have e:closureFor scope env=(forIn scope.names [] (λ(x:Str×NameKind) (cs:List (Str×Addr))=>if x.2==.free then (do let c←cellOf env x.1;pure (ForInStep.yield ((x.1,c)::cs))) else pure (ForInStep.yield cs))>>=λcs=>pure cs):=by
  unfold closureFor
  first|rfl|simp
 rw[e,fR _ (λn k cs=>rfl) scope.names [] h];rfl
def dN (cells:List (Str×Addr)):∀(names:List (Str×NameKind)) (acc:List (Str×Addr)),pg cells names acc=pg cells names []++acc
 | []=>λ_=>rfl
 |(n,k)::r=>λacc=>by
  dsimp only[pg];split
  ·rw[dN cells r ((n,(cells.lookup n).getD 0)::acc),dN cells r [(n,(cells.lookup n).getD 0)]];simp
  ·show dN cells r acc
def rq (cells:List (Str×Addr)):∀(names:List (Str×NameKind)) (x:Str) (c:Addr),(x,c)∈pg cells names []->(x,NameKind.free)∈names/\c=(cells.lookup x).getD 0
 | []=>λ_ _ h=>nomatch h
 |(n,k)::r=>λx c h=>by
  dsimp only[pg]at h;split at h
  ·rename_i hk;rw[dN]at h;rcases dj.mp h with h|h
   ·apply#[.tail _ (rq cells r x c h).1,(rq cells r x c h).2]
   ·have#[rfl,rfl]:=uh (au.mp h);rw[wq]at hk;subst hk;apply#[.head _,rfl]
  ·apply#[.tail _ (rq cells r x c h).1,(rq cells r x c h).2]
def mE (cells:List (Str×Addr)):∀(names:List (Str×NameKind)) (x:Str),(x,NameKind.free)∈names->(x,(cells.lookup x).getD 0)∈pg cells names []
 | []=>λ_ h=>by cases h
 |(n,k)::r=>λx h=>by
  dsimp only[pg];split
  ·rw[dN];rcases cz.mp h with e|h
   ·have#[rfl,_]:=uh e;show gc _ (.head _)
   ·show gq _ (mE cells r x h)
  ·rename_i hk;rcases cz.mp h with e|h
   ·have#[_,rfl]:=uh e;simp at hk
   ·show mE cells r x h
def eK {cells:List (Str×Addr)}{names:List (Str×NameKind)}{x:Str}(h:(x,NameKind.free)∈names):(pg cells names []).lookup x=some ((cells.lookup x).getD 0):=by
 have#[c,Z]:=tf (mE cells names x h);rw[Z];rw[(rq cells names x c (mem_of_lookup Z)).2]
abbrev qb (scope sc:Scope):Scope:=
 {scope with names:=scope.names.map λ(n,k)=>if (k==.free&&sc.kind==.function&&sc.names.lookup n==some .cell) then (n,.cell) else (n,k)}
def HQ:relabel scope env=qb scope env.scope:=rfl
abbrev uF (sc:Scope)(fv:List (Nat×Nat))(i:Nat):Str×NameKind->Bool
 |(x,.free)=>match fv.lookup i with
  |some j=>match sc.names[j]? with
   |some (y,k)=>x==y&&(k==.cell||k==.free)
   |none=>false
  |none=>false
 |(_,_)=>(fv.lookup i).isNone
abbrev rS (sc:Scope)(fv:List (Nat×Nat)):Nat->List (Str×NameKind)->Bool
 |_,[]=>true
 |i,p::r=>uF sc fv i p&&rS sc fv (i+1) r
def uE {sc:Scope}:∀{names:List (Str×NameKind)} {i:Nat},rS sc fv i names=true->∀(j:Nat) (p:Str×NameKind),names[j]?=some p->uF sc fv (i+j) p=true
 | [],_,_,j,p,e=>by simp at e
 |q::r,i,h,0,p,e=>by
  dsimp only[rS]at h;simp only[dg]at h;simp at e;subst e;show h.1
 |q::r,i,h,j+1,p,e=>by
  dsimp only[rS]at h;simp only[dg]at h;have:=uE h.2 j p (by simpa using e);rw[show i+(j+1)=i+1+j by(show vi (.e .a8 .Z) .n)];show this
abbrev ownIn (scope:Scope)(y:Str):Bool:=match scope.names.lookup y with
 |some .local=>true
 |some .cell=>true
 |_=>false
abbrev oW (scope:Scope)(gens:List Comprehension):Bool:=gens.all λg=>(jS g.target).all (ownIn scope)
def Evo.adopt {X:List Addr}{σ':St}{h h':Heap}{D:Addr}(xs:List V)(x:Evo X σ h σ' h')(Z:h.get? D=none):Evo X σ h (σ'.cw D xs) h':=
 #[x.keep,x.frz,λb d=>(dJ d).elim (x.dom b) λe=>.inr (e▸Z),x.there]
section
variable {G:Stc}{C:Cal}{sc:Scope}{d:Nat}
def JS {h:Heap}(F:FR G σ env ρ h)(es:env.scope=sc)(nd:(scope.names.map (·.1)).Nodup)(Z:rS sc fv 0 scope.names=true) :
  (∀n,(n,NameKind.free)∈scope.names->(env.cells.lookup n).isSome=true)/\KU G σ h scope.names (pg env.cells scope.names []) (mD fv ρ):=by
 have ab:∀(i:Nat) (x:Str),scope.names[i]?=some (x,.free)->∃j k,fv.lookup i=some j/\env.scope.names[j]?=some (x,k)/\(k=.cell\/k=.free):=λi x e=>by
  have:=uE Z i _ e;rw[nc]at this;simp only[uF]at this;split at this
  ·rename_i j hj;split at this
   ·rename_i y k hy;simp only[dg,wq,sr]at this;apply#[j,k,hj,by rw[es,hy,this.1],this.2]
   ·cases this
  ·cases this
 have cellAt:∀(i:Nat) (x:Str),scope.names[i]?=some (x,.free)->∃j k c w,fv.lookup i=some j/\env.scope.names[j]?=some (x,k)/\(k=.cell\/k=.free)/\env.cells.lookup x=some c/\h.IsCell c w/\OV G h (ρ j) w/\¬σ.dom c/\c≠env.locals/\(G.cap x=false->G.hb.get? c=none):=λi x e=>by
  have#[j,k,h1,h2,h3]:=ab i x e;have#[c,w,g1,g2,g3,g4,g5,g6]:=F.cells j x k h2 h3;apply#[j,k,c,w,h1,h2,h3,g1,g2,g3,g4,g5,g6]
 have idx:∀n,(n,NameKind.free)∈scope.names->∃i:Nat,scope.names[i]?=some (n,NameKind.free):=λn B=>List.getElem?_of_mem B;apply#[λn B=>?_,#[λi x e=>?_,λi j x y c ei ej lx ly=>?_,λp hp=>?_,λi x k e hk=>?_]]
 ·have#[i,e]:=idx n B;have#[j,k,c,w,_,_,_,U,_]:=cellAt i n e;rw[U];rfl
 ·have#[j,k,c,w,h1,h2,h3,g1,g2,g3,g4,g5,g6]:=cellAt i x e;apply#[c,w,by rw[eK (dq e),g1];rfl,g2,?_,g4,g6];unfold mD;rw[h1];show g3
 ·have#[a,ka,ca,wa,a1,a2,a3,a4,_]:=cellAt i x ei;have#[b,kb,cb,wb,b1,b2,b3,b4,_]:=cellAt j y ej;rw[eK (dq ei),a4]at lx;rw[eK (dq ej),b4]at ly;have J:ca=c:=by simpa using lx
  have O:cb=c:=by simpa using ly
  have aa:=F.inj a b x y ka kb c a2 b2 a3 b3 (J▸a4) (O▸b4);subst aa;rw[a2]at b2;have#[rfl,_]:=uh (ak b2);show kC nd ei ej
 ·have#[hm,U]:=rq _ _ p.1 p.2 hp;have#[i,e]:=idx _ hm;have#[j,k,c,w,_,_,_,g1,#[o,ho,_],_]:=cellAt i _ e;rw[g1]at U;apply#[o,by rw[U];show ho]
 ·have:=uE Z i _ e;rw[nc]at this;unfold mD;cases k<;>first|show absurd rfl hk|(simp only[uF,uu]at this;rw[this];rfl)
abbrev vg (scope:Scope)(env:Env)(cells:List (Str×Addr))(L:Addr):Env:=
 {scope:=relabel scope env,locals:=L,globals:=env.globals,cells:=cells,qual:=env.qual,func:=none,code:=env.code,frame:=env.frame,builtins:=env.builtins}
def JO {B:Acc G}{e:Expr}{fin:Value->Env->Sem Unit}{ab:Sem Value}{o0:Obj}{p0:Pos}{use:Option (Value->Sem Unit)}(ck:rH e (#[target,iter,ifs,0]::rest) fin)
  (ea:∀{A:Around} {E Q:QqV} {s:Shared},Q (.ref s.heap.objs.size) {s with heap:=s.heap.push o0}->wpAny G.M A ab Q E s) (eg:o0.isFreed=false) (et:∀(h:Heap) (D:Addr),h.get? D=some o0->B.B h D []) (hit:xh G C sc d (isTup target) it iter) (ht:vl G C (qb scope sc) d t target) (ei:qq G C (qb scope sc) d cs ifs)
  (ej:so G B C (qb scope sc) d more e (#[target,iter,ifs,0]::rest) fin 0) (hs:∀env v,foldedSetIterable iter env v=pure v) (bn:scope.kind=.function) (nd:(scope.names.map (·.1)).Nodup) (dn:rS sc fv 0 scope.names=true) (eb:oW scope (#[target,iter,ifs,0]::rest)=true) (dv:∀g'∈rest,g'.is_async=0)
  {A:Around} {E:QqV} {env:Env} {Kf:List V->St->Prop} {s:Shared} {P:QqV} (cx:Cx G sc d A env ρ σ s) (h:lL C it ρ σ λvs Gd σ=>pT vs Gd (o8 C t cs more) (mD fv ρ) [] σ λ_ acc σ=>Kf acc σ)
  (hP:∀(acc:List V) (σ':St) (s':Shared) (D L:Addr),Kf acc σ'->B.B s'.heap D acc->¬σ'.dom D->G.hb.get? D=none->s.heap.get? D=none->Rel G σ' s'.heap->Go [] σ s σ' s'->s.heap.get? L=none->L≠D->¬σ'.dom L->(∃m,s'.heap.Ns L m)->compPost G.M A E use P (.ref D) L (.ok .next) s') :
  wpAny G.M A (comprehension e scope env p0 ab false (eval iter env) use) P E s:=by
 have#[J,_]:=JS cx.F cx.es nd dn;apply wpAny_comprehension_free ck.cl (hs env) (iS J) bn (λx hx hl=>?_) (bg (hit cx h) (λv s₁ h₁=>bg h₁ (λitv s₂ l=>?_) λ_ _ x=>x) λ_ _ x=>x)
 ·have#[i,e]:=List.getElem?_of_mem hx;have#[y,k]:=x;simp only at hl;subst hl;show vo nd e
 have#[I,σ₁,rfl,da,hf,hp,r,ai,be,dV]:=l;have dL:=cx.F.evo ai.e;apply ea ?_;have dz:FR G σ₁ env ρ (s₂.heap.push o0):=dL.evo (Evo.push [] σ₁ s₂.heap o0);have r₂:=r.push o0;have cc:(s₂.heap.push o0).get? s₂.heap.objs.size=some o0:=cf _ eg;have cp:Go [] σ s σ₁ {s₂ with heap:=s₂.heap.push o0}:=ai.to (Evo.push _ _ _ _);have dx:I.pos 0 (s₂.heap.push o0):=I.keep _ _ _ hp (λb _ o e=>aw _ e) λb o e _=>aw _ e;generalize en:s₂.heap.push o0=H at *;have O:H.objs.size=s₂.heap.objs.size+1:=by rw[<- en];show gb ..
 have#[_,clo]:=JS dz cx.es nd dn;have dc:∀(i:Nat) (x:Str) (k':NameKind),(relabel scope env).names[i]?=some (x,k')->∃k,scope.names[i]?=some (x,k)/\(k'=k\/(k=.free/\k'=.cell)):=λi x k' e=>by
  simp only[relabel,cu]at e;cases hq:scope.names[i]? with
  |none=>rw[hq]at e;cases e
  |some p =>
   have#[y,k]:=p;rw[hq]at e;simp only[Option.map_some,fy]at e;split at e
   ·rename_i hc;have#[rfl,rfl]:=uh e;simp only[dg,wq]at hc;apply#[k,rfl,.inr #[hc.1.1,rfl]]
   ·have#[rfl,rfl]:=uh e;apply#[k,rfl,.inl rfl]
 have#[dy,keep]:=pS (T:="dict") (env:=vg scope env (cellsFrom (H.objs.size+1) scope.names (pg env.cells scope.names [])) H.objs.size) r₂ nd clo rfl rfl dc;have cd:rv (vg scope env (cellsFrom (H.objs.size+1) scope.names (pg env.cells scope.names [])) H.objs.size):=by
  apply#[bn,?_,cx.eo.globals,cx.eo.builtins];have e:(relabel scope env).names.map (·.1)=scope.names.map (·.1):=by
   simp only[relabel,pn];apply List.map_congr_left λp _=>?_;have#[y,k]:=p;simp only[Function.comp];split<;>rfl
  show((relabel scope env).names.map (·.1)).Nodup;rw[e];show nd
 have ok:=cellsFrom_ok scope.names (H.push {cls:=.type "dict",data:=.dict #v[]}) (H.objs.size+1) [] #[λ_ _ hm=>(nomatch hm),List.Pairwise.nil] (by rw[gb];show az _);rw[gb]at ok;simp only[newFunctionEnv,Option.isSome_some,ym];apply af (wpAny_alloc ?_);apply af (wpAny_layCells _ (λname kind cells=>by cases hkc:kind==NameKind.cell<;>simp[hkc]) _ _ _ _ ?_);rw[show(H.push {cls:=.type "dict",data:=.dict #v[]}).objs.size=H.objs.size+1 from gb ..];rw[oe];apply af (ah (ah ?_));generalize eu:pushCells (H.push {cls:=.type "dict",data:=.dict #v[]}) scope.names=H3 at *;have ct:=r₂.keeps keep;have fz:gy H H3:=λb o e _=>keep b o e;have cn:Go [] σ s σ₁ {s₂ with heap:=H3}:=cp.to (Evo.keeps keep);have cb:I.pos 0 H3:=I.keep _ _ _ dx (λb _ o e=>keep b o e) fz;have Z:∀b,s₂.heap.objs.size<=b->s.heap.get? b=none:=λb hb=>ai.new (rj hb);have ar:∀b∈I.own,b<s₂.heap.objs.size:=λb hb=>by have#[o,e]:=I.there hp hb;show fj e
 have em:∀b∈I.own,b∉envX (vg scope env (cellsFrom (H.objs.size+1) scope.names (pg env.cells scope.names [])) H.objs.size):=λb hb hm=>by
  have df:=ar b hb;rcases cz.mp hm with rfl|hm
  ·show absurd df (rz.mpr (by show s₂.heap.objs.size<=H.objs.size;(show bt .A .C (.e .B .L) O)))
  ·have#[p,aa,rfl]:=cj.mp hm;have bb:p∈cellsFrom (H.objs.size+1) scope.names (pg env.cells scope.names []):=aa;rw[ib]at bb;rcases dj.mp bb with h1|h1
   ·have:=(ok.empty p.1 p.2 h1).2;show gp _ (gf df (by(show fk .A .t (.e .C .L) (.k .R .B) O this):s₂.heap.objs.size<=p.2))
   ·have#[bl,ag]:=rq _ _ p.1 p.2 h1;have#[c,hc]:=bp.mp (J _ bl);rw[hc]at ag;simp only[Option.getD_some]at ag;have#[o,ho]:=cx.F.allc (p.1,c) (mem_of_lookup hc);have:=be p.2 hb;rw[ag]at this;rw[show s.heap.get? c=some o from ho]at this;cases this
 have er:s₂.heap.objs.size∉envX (vg scope env (cellsFrom (H.objs.size+1) scope.names (pg env.cells scope.names [])) H.objs.size):=λhm=>by
  rcases cz.mp hm with e|hm
  ·have:s₂.heap.objs.size=H.objs.size:=e
   (show gz .ff [[0,-1,-1]] .a9 .bK O this)
  ·have#[p,aa,e]:=cj.mp hm;have bb:p∈cellsFrom (H.objs.size+1) scope.names (pg env.cells scope.names []):=aa;rw[ib]at bb;rcases dj.mp bb with h1|h1
   ·have:=(ok.empty p.1 p.2 h1).2;(show mi .ff [[0,-1,1,1]] .a9 (.e .C .B) (.k .L .C) O e this)
   ·have#[bl,ag]:=rq _ _ p.1 p.2 h1;have#[c,hc]:=bp.mp (J _ bl);rw[hc]at ag;have#[o,ho]:=cx.F.allc (p.1,c) (mem_of_lookup hc);have:=Z c (by rw[<- show p.2=c from ag,e];show az _);rw[show s.heap.get? c=some o from ho]at this;cases this
 have U:∀b,s₂.heap.objs.size<=b->G.hb.get? b=none:=λb hb=>by
  cases hq:G.hb.get? b with
  |none=>rfl
  |some o=>show absurd (fj (r.base b o hq)) (rz.mpr hb)
 have bu:∀b,s₂.heap.objs.size<=b->¬σ₁.dom b:=λb hb dm=>by have#[o,e]:=r.ky dm;show absurd (fj e) (rz.mpr hb)
 have ca:eY G B (vg scope env (cellsFrom (H.objs.size+1) scope.names (pg env.cells scope.names [])) H.objs.size) s₂.heap.objs.size σ₁ H3 []:=
  #[et _ _ (keep _ _ cc),bu _ (az _),er,U _ (az _)]
 have xo:XOk (vg scope env (cellsFrom (H.objs.size+1) scope.names (pg env.cells scope.names [])) H.objs.size) (H.objs.size::(cellsFrom (H.objs.size+1) scope.names []).map (·.2)) (#[target,iter,ifs,0]::rest):=by
  apply#[.head _,λg hg y hy c hc=>?_,λb hb=>?_]
  ·have bd:=kl.mp (kl.mp eb g hg) y hy;have dr:(cellsFrom (H.objs.size+1) scope.names (pg env.cells scope.names [])).lookup y=some c:=hc;rw[ib]at dr;rcases dj.mp (mem_of_lookup dr) with h1|h1
   ·show .tail _ (cj.mpr #[_,h1,rfl])
   ·have#[bl,_]:=rq _ _ y c h1;have#[i,e]:=List.getElem?_of_mem bl;have:=vo nd e;unfold ownIn at bd;rw[this]at bd;cases bd
  ·rcases cz.mp hb with rfl|hb
   ·show .head _
   ·have zz:=cj.mp hb;clear hb;have#[p,aa,rfl]:=zz;apply .tail _ (cj.mpr #[p,?_,rfl]);show p∈cellsFrom (H.objs.size+1) scope.names (pg env.cells scope.names []);rw[ib];show gq _ aa
 have ed:∀g',(#[target,iter,ifs,0]::rest:List Comprehension)[0+1]?=some g'->g'.is_async=0:=λg' e=>dv g' (dq (by simpa using e));have loop:codeAny G.M A (.compLoop e 0 (.ref I.it) (.ref s₂.heap.objs.size) (vg scope env (cellsFrom (H.objs.size+1) scope.names (pg env.cells scope.names [])) H.objs.size)) (compPost G.M A E use P (.ref s₂.heap.objs.size) H.objs.size) {s₂ with heap:=H3}:=by
  apply PI (s₀:=s) (σ₀:=σ) ck ht ei ej rfl ed I da xo #[cx.ao,by show relabel scope env=_;rw[HQ,cx.es],cd,dy,ct] ca cb (cn.more λ_ h=>nomatch h) be em dV (λq=>absurd (ar _ q) (gp _)) (aO cx.R be) hf λs' l=>?_
  ·have#[ρ',acc',σ',q,F',R',hb,hd,x',_]:=l;have bv:∀z∈(s₂.heap.objs.size::H.objs.size::(cellsFrom (H.objs.size+1) scope.names []).map (·.2)),s.heap.get? z=none:=λz hz=>by
    rcases cz.mp hz with rfl|hz
    ·show Z _ (az _)
    rcases cz.mp hz with rfl|hz
    ·show Z _ (bt .A .C (.e .B .L) O)
    ·have#[p,aa,rfl]:=cj.mp hz;have:=(ok.empty p.1 p.2 aa).2;show Z _ (fk .A .t (.e .C .L) (.k .R .B) O this)
   have#[m,hm,_]:=F'.ns;show hP acc' σ' s' s₂.heap.objs.size H.objs.size q hb hd (U _ (az _)) (Z _ (az _)) R' (x'.less λz hz=>.inr (bv z hz)) (Z _ (bt .A .C (.e .B .L) O)) (bt .cM .C .a9 O) F'.loc #[m,hm]
 show kR ck rfl loop (I.self _ _ _ _ _ cb loop)
def tH {p0:Pos}{use:Option (Value->Sem Unit)}(hit:xh G C sc d (isTup target) it iter)(ht:vl G C (qb scope sc) d t target)(ag:qq G C (qb scope sc) d cs ifs)
  (ao:so G (FD G) C (qb scope sc) d more (.ListComp elt (#[target,iter,ifs,0]::rest) scope pos) (#[target,iter,ifs,0]::rest) (A7 elt) 0) (hs:∀env v,foldedSetIterable iter env v=pure v) (Z:scope.kind=.function) (nd:(scope.names.map (·.1)).Nodup) (aa:rS sc fv 0 scope.names=true) (J:oW scope (#[target,iter,ifs,0]::rest)=true) (U:∀g'∈rest,g'.is_async=0)
  {A:Around} {E:QqV} {Q:V->St->Prop} {s:Shared} {P:QqV} (cx:Cx G sc d A env ρ σ s) (h:wpE C (.K fv it t cs more) ρ σ Q)
  (hP:∀(v:V) (σ':St) (s':Shared) (w:Value) (L:Addr),Q v σ'->VR G s'.heap v w->Rel G σ' s'.heap->Go [] σ s σ' s'->s.heap.get? L=none->¬σ'.dom L->(∃m,s'.heap.Ns L m)->compPost G.M A E use P w L (.ok .next) s') :
  wpAny G.M A (comprehension (.ListComp elt (#[target,iter,ifs,0]::rest) scope pos) scope env p0 (newList []) false (eval iter env) use) P E s:=by
 apply JO (B:=FD G) (o0:={cls:=.type "list",data:=.seq ([]:List Value).toArray}) (Kf:=λacc σ=>∀c,σ.L c=none->Q (.L c) (σ.cw c acc)) vE (λq=>jq q (by show([]:List Value).toArray.size<=sizeLine;simp)) rfl (λh D e=>#[bh _,[],0,e,.nil]) hit ht ag ao hs Z nd aa J U cx h λacc σ' s' D L q b hd ai bb R' x hL O ab hm=>?_;have#[hz,ws,n,hl,hv]:=b;have ar:σ'.L D=none:=by
  cases hq:σ'.L D with
  |none=>rfl
  |some y=>show absurd (.inl (by rw[hq];rfl)) hd
 show hP (.L D) _ s' _ L (q _ ar) (.L _) (R'.KD hd ai hl hv hz) #[x.e.adopt acc bb,x.g,x.o] hL (λdm=>(dJ dm).elim ab λe=>O e) hm
def wK (hit:xh G C sc d (isTup target) it iter)(ht:vl G C (qb scope sc) d t target)(ag:qq G C (qb scope sc) d cs ifs)
  (ai:so G (FD G) C (qb scope sc) d more (.ListComp elt (#[target,iter,ifs,0]::rest) scope pos) (#[target,iter,ifs,0]::rest) (A7 elt) 0) (hs:∀env v,foldedSetIterable iter env v=pure v) (U:scope.kind=.function) (nd:(scope.names.map (·.1)).Nodup) (aa:rS sc fv 0 scope.names=true) (B:oW scope (#[target,iter,ifs,0]::rest)=true) (O:∀g'∈rest,g'.is_async=0) :
  dw G C sc d (.K fv it t cs more) (.ListComp elt (#[target,iter,ifs,0]::rest) scope pos):=λA E env ρ σ Q s c h=>by
 rw[eval_ListComp];apply tH (use:=none) hit ht ag ai hs U nd aa B O c h λv σ' s' w L q vr R' x hL hd J=>?_;have#[m,J]:=J;apply#[m,J,λh2 Z=>?_];have#[o,ao,ep,ho,ab,_]:=id J;have hf:gy s'.heap h2:=wc Z λo' e=>by have rfl:=ak (ho.symm.trans e);show tu ab
 have hn:∀b∈[L],s.heap.get? b=none:=λb hb=>by have rfl:=au.mp hb;show hL
 apply#[v,σ',q,vr.mono hf,R'.frame (o':=default) Z hd (aO c.R hn L (.head _)) hf,x.but (own:=[L]) (λb o hb e=>by rw[Z.2 b (λq=>hb (q▸.head _))];show e) .rfl hn]
def oF {i:Nat}{x:Str}{kd:NameKind}{J Z:Pos}(hi:sc.names[i]?=some (x,kd))(hk:Own G x kd)(hit:xh G C sc d (isTup target) it iter)(ht:vl G C (qb scope sc) d t target)(be:qq G C (qb scope sc) d cs ifs)
  (bl:so G (FD G) C (qb scope sc) d more (.ListComp elt (#[target,iter,ifs,0]::rest) scope pos) (#[target,iter,ifs,0]::rest) (A7 elt) 0) (hs:∀env v,foldedSetIterable iter env v=pure v) (O:scope.kind=.function) (nd:(scope.names.map (·.1)).Nodup) (bb:rS sc fv 0 scope.names=true) (ar:oW scope (#[target,iter,ifs,0]::rest)=true) (B:∀g'∈rest,g'.is_async=0) :
  yr G C sc d (.a [.v i] (.K fv it t cs more)) (.Assign [.Name x J] (.ListComp elt (#[target,iter,ifs,0]::rest) scope pos) Z):=λA E env ρ σ K s c h=>by
 have plain:dw G C sc d (.K fv it t cs more) (.ListComp elt (#[target,iter,ifs,0]::rest) scope pos):=wK hit ht be bl hs O nd bb ar B;by_cases ag:(env.blockKind==.function&&env.kindOf x==some .local&&J.line==pos.line&&!(scope.names.any λ(n,k)=>n==x&&(k==.local||k==.cell)))=true
 ·have U:swapsWith (.ListComp elt (#[target,iter,ifs,0]::rest) scope pos) (some (.Name x J)) Z.line env=pure true:=by
   show(pure _:Sem Bool)=_;show bz pure ag
  rw[exec_Assign_Name_used _ _ _ _ U];apply af (fw (af ?_));show wpAny G.M A (comprehension _ scope env _ (newList []) false (eval iter env) (some (assign (.Name x J) env))>>=λ_=>pure ()) _ E s;apply af ?_;apply tH (use:=some (assign (.Name x J) env)) (Q:=λv σ=>lJ C [.v i] v ρ σ λρ σ=>K .next ρ σ) hit ht be bl hs O nd bb ar B c h λv σ' s' w L q vr R' x' hL hd hm=>?_;have#[m,hm]:=hm;show wpAny G.M A (assign (.Name x J) env w) _ E _;apply assign_Name (xw c.eo (c.F.evo x'.e) R' (by rw[c.es];show hi) hk vr λs2 F2 R2 x2=>?_);have hn:∀b∈[L],s.heap.get? b=none:=λb hb=>by have rfl:=au.mp hb;show hL
  have hX:=hO c.F hn;have#[o,bn,ep,ho,bd,ab]:=id hm;have ai:=x2.keep _ _ ho hd (hX L (.head _));apply#[m,#[o,bn,ep,ai,bd,ab],λh3 aa=>ah (ah ?_)];have hf:gy s2.heap h3:=wc aa λo' e=>by have rfl:=ak (ai.symm.trans e);show tu bd
  have ao:∀b o,b∉[L]->s2.heap.get? b=some o->h3.get? b=some o:=λb o hb e=>by rw[aa.2 b (λq=>hb (q▸.head _))];show e
  apply#[.next,_,σ',.next,q,F2.but ao hf hX,R2.frame (o':=default) aa hd (aO c.R hn L (.head _)) hf,(x'.wide.trans x2).but ao .rfl hn]
 ·have U:swapsWith (.ListComp elt (#[target,iter,ifs,0]::rest) scope pos) (some (.Name x J)) Z.line env=pure false:=by
   show(pure _:Sem Bool)=_;show bz pure (pq.mpr ag)
  rw[exec_Assign];apply af (fw ?_);have e1:swapsWithSole [.Name x J] (.ListComp elt (#[target,iter,ifs,0]::rest) scope pos) Z.line env=pure false:=U;rw[e1];apply af (ah ?_);rw[ay (by decide)];apply af (nr (plain (Q:=λv σ=>lJ C [.v i] v ρ σ λρ σ=>K .next ρ σ) c h) λv σ₁ s₁ w q vr r x=>?_);rw[oA (sc:=sc) (r:=none) rfl c.es (by unfold Env.blockKind;rw[c.eo.kind];rfl)];apply af (ah ?_);show wpAny G.M A (do assignAll w _;pure Flow.next) _ _ _;apply af (bg (BQ (.cons (BE hi hk) (λ_=>rfl) .nil) (c.go r x) vr q) (λ_ s' l=>ah ?_) λ_ _ x=>x);have#[ρ',σ',q',F',R',x']:=l;apply#[.next,ρ',σ',.next,q',F',R',x.wide.trans x']
end
end MP
end
section
namespace MP
open PySem PyProof.Rows
variable {Q:Option Value->Shared->Prop}{it x:Addr}{ox:Obj}{xs:Array Value}{n:Nat}{ws:List Value}
abbrev iI (C N:Addr)(nm q:Str)(k0 k2 k3:Option Value):Obj:=
 {cls:=.type "type",dict:=none,data:=.cls {name:=nm,bases:=[.type "tuple"],mro:=[.ref C,.type "tuple",.type "object"],ns:=N,qualname:=q,hasDict:=false,slotNames:=[],subclasses:=[],abstract:=false,collection:=none,hasDel:=false},slots:=#v[k0,none,k2,k3,some .none,some (.bool false)]}
abbrev dD (C:Addr)(dd:Option Addr)(ws:List Value)(n:Nat):Obj:={cls:=.ref C,dict:=dd,data:=.seq ws.toArray n,slots:=#v[]}
def mro_tuple:mroOf (.type "tuple")=pure [.type "tuple",.type "object"]:=by kernel_rfl
section
variable {prog:Program}{w:World}{M:Model}{A:Around}{E:QqV}{h:Heap}{g:Array GenState}{d:Drawn}{t:Nat}{os:OsState}{C N:Addr}{nm q:Str}{k0 k2 k3:Option Value}{mN:Str->Option Value}{dd:Option Addr}
def n0 {base:Value}{Q:Bool->Shared->Prop}(Z:h.get? C=some (iI C N nm q k0 k2 k3))(U:Q ([Value.ref C,.type "tuple",.type "object"].contains base) #[h,g,d,t,os]):wpAny M A (isSubtype (.ref C) base) Q E #[h,g,d,t,os]:=by
 unfold iI at Z;unfold isSubtype
 repeat (any_goals (first|assumption|wp_step))
def MZ {Q:List Value->Shared->Prop}(Z:h.get? C=some (iI C N nm q k0 k2 k3))(U:Q [.ref C,.type "tuple",.type "object"] #[h,g,d,t,os]):wpAny M A (mroOf (.ref C)) Q E #[h,g,d,t,os]:=by
 unfold iI at Z;unfold mroOf
 repeat (any_goals (first|assumption|wp_step))
def zW {name:Str}(O:h.get? C=some (iI C N nm q k0 k2 k3))(U:h.Ns N mN)(Z:Q (mN name) #[h,g,d,t,os]):wpAny M A (classOwn (.ref C) name) Q E #[h,g,d,t,os]:=by
 unfold classOwn;apply af ?_;unfold classData;apply af (we O (ah (wpAny_nsGet U Z)))
def xr {name:Str}{y:Option Value}(J:h.get? C=some (iI C N nm q k0 k2 k3))(hn:h.Ns N mN)(B:typeLookup (.type "tuple") name=pure y)(U:Q ((mN name).or y) #[h,g,d,t,os]):wpAny M A (typeLookup (.ref C) name) Q E #[h,g,d,t,os]:=by
 have Z:lookupAlong [.type "tuple",.type "object"] name=pure y:=by rw[typeLookup_eq,mro_tuple]at B;show B
 rw[typeLookup_eq];apply af (MZ J ?_);rw[lookupAlong_cons];apply af (zW J hn ?_);cases O:mN name with
 |some v=>rw[O]at U;show ah U
 |none=>rw[O]at U;show ec Z U
def HM {x:Addr}{i:Nat}{v:Value}{s:Shared}(hit:IsTupIter s.heap it x i)(O:s.heap.get? x=some ox)(hd:ox.data=.seq xs n)(J:xs[i]?=some v)
  (hQ:∀h',IsTupIter h' it x (i+1)->Heap.SameBut it s.heap h'->Q (some v) {s with heap:=h'}):wpAny (model prog w) A (pyNext (.ref it)) Q E s:=by
 have#[o,U,B,Z]:=id hit;unfold pyNext;apply af (fE (jt (name:=Str.ofString "__next__") hit.typeIs ph (gj ph hit.typeIs vY ?_ (vX _))));show wpAny _ _ (field (.ref it) 0>>=_) _ _ s;apply af (nF U Z (x:=.ref x) rfl ?_);show wpAny _ _ (if (Value.ref x==Value.none)=true then _ else _) _ _ s;rw[ay (show ¬((Value.ref x==Value.none)=true) from sf)];show wpAny _ _ (field (.ref it) 1>>=_) _ _ s;apply af (nF U Z (x:=.int i 0) rfl ?_);show wpAny _ _ (seqItems? (.ref x)>>=_) _ _ s;apply af (mx O hd ?_);dsimp only;rw[ke,J];show wpAny _ _ (setField (.ref it) 1 (rawInt (i+1))>>=_) _ _ _;apply af (sq U Z (by simp) ?_);apply(ah #[v,rfl,ah (hQ _ #[_,gk _ U (uk (jx Z _)),(nI ..).trans B,?_] (gr ..))]);rw[jx Z];simp[rawInt]
def MH {x:Addr}{i:Nat}{s:Shared}(B:A.handled=none)(hit:IsTupIter s.heap it x i)(O:s.heap.get? x=some ox)(hd:ox.data=.seq xs n)(J:xs[i]?=none)
  (hQ:∀h',Heap.ExtBut it s.heap h'->Q none {s with heap:=h'}):wpAny (model prog w) A (pyNext (.ref it)) Q E s:=by
 have#[o,U,hc,Z]:=id hit;unfold pyNext;apply af (fE (jt (name:=Str.ofString "__next__") hit.typeIs ph (gj ph hit.typeIs vY ?_ (vX _))));show wpAny _ _ (field (.ref it) 0>>=_) _ _ s;apply af (nF U Z (x:=.ref x) rfl ?_);show wpAny _ _ (if (Value.ref x==Value.none)=true then _ else _) _ _ s;rw[ay (show ¬((Value.ref x==Value.none)=true) from sf)];show wpAny _ _ (field (.ref it) 1>>=_) _ _ s;apply af (nF U Z (x:=.int i 0) rfl ?_);show wpAny _ _ (seqItems? (.ref x)>>=_) _ _ s;apply af (mx O hd ?_);dsimp only;rw[ke,J];show wpAny _ _ (rule _>>=λ_=>setField (.ref it) 0 .none>>=_) _ _ _;apply af (tw (af (sq U Z (by simp) ?_)));apply jA B λh' e hk he=>?_;apply af (rJ (T:="StopIteration") (b:=true) he isSubtype_stop ?_);show ah (hQ _ λb o n e=>hk b o ((gr ..).extBut b o n e))
def N1 {id B:String}{rest:List Value}{Q:Unit->Shared->Prop}(hC:h.get? C=some (iI C N nm q k0 k2 k3))(U:h.get? x=some (dD C dd ws n))(hs:splitId id=some ("tuple",B))(hk:builtinKind id=some .slot\/builtinKind id=some .method)(O:argsOk id #[.ref x::rest,[]])(J:Q () #[h,g,d,t,os]) :
  wpAny M A (checkBuiltinCall id #[.ref x::rest,[]]) Q E #[h,g,d,t,os]:=by
 have inst:∀{R:Bool->Shared->Prop},R true #[h,g,d,t,os]->wpAny M A (isInstance (.ref x) (.type "tuple")) R E #[h,g,d,t,os]:=λ{R} hr=>by
  unfold isInstance;unfold dD at U
  repeat (first|(with_reducible refine qu U ?_)|(with_reducible refine n0 hC ?_)|wp_step)
  show hr
 rcases hk with hk|hk <;>
 ·simp only[checkBuiltinCall,hk,hs];apply af (inst ?_);simp only[wg,dt,kh];cases hsig:Manifest.signature? id with
  |none=>show ah J
  |some Z =>
   simp only[argsOk,hsig]at O;have h2:Bind.checkArgs id Z #[.ref x::rest,[]]=pure ():=O;show wpAny M A (Bind.checkArgs id Z #[.ref x::rest,[]]) Q E _;rw[h2];show ah J
def zX {id Z:String}{b:Builtin}{rest:List Value}{Q:QqV}(hC:h.get? C=some (iI C N nm q k0 k2 k3))(U:h.get? x=some (dD C dd ws n))(J:splitId id=some ("tuple",Z))(hk:builtinKind id=some .slot\/builtinKind id=some .method)(B:plainId id=true)(he:entryFor table id=some b)(ha:argsOk id #[.ref x::rest,[]])
  (hc:wpAny (model prog w) A.in1 (b #[.ref x::rest,[]]) (λfin s'=>∃v,fin=.done (.ret v)/\Q v s') E #[h,g,d,t,os]):wpAny (model prog w) A (call (.builtin id) (.ref x::rest)) Q E #[h,g,d,t,os]:=by
 apply nh (gG B he (N1 hC U J hk ha (bg hc (λfin s' h'=>?_) λ_ _ e=>e)));have#[v,rfl,O]:=h';show O
def wG:splitId "tuple.__iter__"=some ("tuple","__iter__"):=by kernel_rfl
def A0:builtinKind "tuple.__iter__"=some .slot:=by kernel_rfl
def RH {Q:QqV}(J:h.get? C=some (iI C N nm q k0 k2 k3))(B:h.Ns N mN)(hi:mN "__iter__"=none)(U:h.get? x=some (dD C dd ws n))
  (hQ:Q (.ref h.objs.size) #[h.push {cls:=.type "tuple_iterator",data:=.fields #v[.ref x,.int 0 0]},g,d,t,os]):wpAny (model prog w) A (pyIter (.ref x)) Q E #[h,g,d,t,os]:=by
 have hl:=PySem.F.slot_tuple_iter.lookup;have hb:=PySem.F.slot_tuple_iter.bind (.ref x);have Z:=U;unfold pyIter specialOf;unfold dD at U
 repeat (first|(with_reducible refine qu U ?_)|(with_reducible refine xr J B hl ?_;rw[hi])|wp_step)
 have go:∀(E:QqV) (R:Option (Value×List Value)->Shared->Prop),R (some (.builtin "tuple.__iter__",[.ref x])) #[h,g,d,t,os]->wpAny (model prog w) A (do let r←bindSpecial (Value.builtin "tuple.__iter__") (Value.ref x);pure (some r)) R E #[h,g,d,t,os]:=λE R O=>af (ec hb (ah O));have fin:wpAny (model prog w) A (call (.builtin "tuple.__iter__") [.ref x]) (λr s'=>∃y,r=.ref y/\y=h.objs.size/\s'=#[h.push {cls:=.type "tuple_iterator",data:=.fields #v[.ref x,.int 0 0]},g,d,t,os]) E #[h,g,d,t,os]:=by
  apply zX J Z wG (.inl A0) PySem.F.slot_tuple_iter.plain PySem.F.entry_tuple_iter (PySem.F.args_tuple_iter_1 _) ?_;show wpAny _ _ (do ret (← newFields "tuple_iterator" [.ref x,rawInt 0])) _ _ _;show af (jq (ah #[_,rfl,_,rfl,rfl,rfl]))
 have tail:wpAny (model prog w) A (match (some (Value.builtin "tuple.__iter__",[Value.ref x]):Option (Value×List Value)) with
    |some (g,first)=>if (g==Value.none)=true then (do let r←(do rule "iter.none";raiseError "TypeError" s!"'{← typeNameOf (.ref x)}' object is not iterable":Sem Value);pure (some r)) else (do let r←call g first;pure (some r))
    |_=>pure none:Sem (Option Value)) (λa s'=>wpAny (model prog w) A (match a with
     |some it=>(do match←(do typeLookup (← typeOf it) "__next__":Sem (Option Value)) with
       |none=>(do rule "iter.non-iterator";raiseError "TypeError" s!"iter() returned non-iterator of type '{← typeNameOf it}'":Sem Value)
       |some _=>pure it)
     |none=>(do match←bindSpecialIfBound? (.ref x) "__getitem__" with
       |none=>(do rule "iter.not-iterable";raiseError "TypeError" s!"'{← typeNameOf (.ref x)}' object is not iterable":Sem Value)
       |some _=>(do rule "iter.getitem-fallback";newFields "iterator" [.ref x,<- mkInt 0]))) Q E s') E #[h,g,d,t,os]:=by
  dsimp only;rw[ay (show ¬((Value.builtin "tuple.__iter__" == Value.none)=true) from sf)];apply af (bg fin (λr s' O=>?_) λ_ _ e=>e);have#[y,rfl,rfl,rfl]:=O;apply ah ?_;dsimp only;apply af (af (dT (T:="tuple_iterator") #[_,cf _ rfl,rfl] (ec ph.lookup ?_)));show ah hQ
 apply wo ?_;split
 ·show go _ _ tail
 ·show wpAny_tryCatch (go _ _ tail)
def wU {k:Nat}(ag:x≠it)(hd:ox.data=.seq xs k):∀(n i:Nat) (s:Shared) (Q:List Value->Shared->Prop),IsTupIter s.heap it x i->s.heap.get? x=some ox->i+n<=xs.size ->
  (∀h',IsTupIter h' it x (i+n)->Heap.SameBut it s.heap h'->Q ((xs.toList.drop i).take n) {s with heap:=h'})->wpAny (model prog w) A (draw (.ref it) n) Q E s
 |0=>λi s Q hit hx hn hQ=>by
  dsimp only[draw];show ah (by simpa using hQ s.heap hit (.refl ..))
 |n+1=>λi s Q hit hx hn hQ=>by
  dsimp only[draw];have hv:xs[i]?=some xs[i]:=gh (ek .B .a (.k .aA .B) hn);apply af (HM hit hx hd hv λh₁ J U=>?_);apply af (cg (wU ag hd n (i+1) _ _ J (by rw[U.2 x ag];show hx) (ek .b1 .a .T hn) λab O aa=>ah ?_));have ai:xs.toList.drop i=xs[i]::xs.toList.drop (i+1):=by
   rw[jy (by simpa using (by(show ek .B .a (.k .aA .B) hn):i<xs.size))];simp
  have:=hQ ab (by rw[show i+(n+1)=i+1+n by(show vi (.e .a8 .Z) .n)];show O) (U.trans aa);rw[ai,List.take_succ_cons]at this;show this
end
structure td (G:Stc):Prop where
 here:∃N mN nm q k0 k2 k3,G.hb.get? G.cM=some (iI G.cM N nm q k0 k2 k3)/\G.hb.Ns N mN/\mN "__iter__"=none/\mN "__lt__"=none/\mN "__len__"=none/\mN "__init__"=none
def VT {G:Stc}(K:td G):FE G:=λA E s x ws n dd Q hh U hx hQ=>by
 have#[N,mN,nm,q,k0,k2,k3,hC,hN,hi,_]:=K.here;have ag:x≠s.heap.objs.size:=gm (fj hx);have#[h,g,d,t,os]:=s;have ar:=U _ _ hC;have ao:=hN.keeps U;have hl:=PySem.F.slot_tuple_iter.lookup;have bb:h.get? x=some (dD G.cM dd ws n):=hx;have ab:h.get? x=some {cls:=.ref G.cM,dict:=dd,data:=.seq ws.toArray n,slots:=#v[]}:=hx;have ni:∀R:Bool->Shared->Prop,R false #[h,g,d,t,os]->wpAny G.M A (notIterableAtAll (.ref x)) R E #[h,g,d,t,os]:=λR hr=>by
  unfold notIterableAtAll specialOf
  repeat (first|(with_reducible refine qu ab ?_)|(with_reducible refine xr ar ao hl ?_;rw[hi])|wp_step)
  show hr
 unfold unpackItems;apply af (ni _ ?_);simp only[dt,kh];have hp:(h.push {cls:=.type "tuple_iterator",data:=.fields #v[.ref x,.int 0 0]}).get? x=some {cls:=.ref G.cM,dict:=dd,data:=.seq ws.toArray n,slots:=#v[]}:=aw _ ab;apply af (cg (RH ar ao hi bb ?_));apply af (cg (wU (xs:=ws.toArray) (k:=n) ag rfl ws.length 0 _ _ #[_,cf _ rfl,rfl,rfl] hp (by simp) λh₁ O Z=>?_));have ai:List.take ws.length (List.drop 0 ws.toArray.toList)=ws:=by simp
 rw[ai,ay (by simp)];have J:h₁.get? x=some {cls:=.ref G.cM,dict:=dd,data:=.seq ws.toArray n,slots:=#v[]}:=by rw[Z.2 x ag];show hp
 apply af (cg (MH (xs:=ws.toArray) (n:=n) hh O J rfl (by simp) λaa B=>?_));simp only[wt,dt,kh];show ah (hQ aa λb o hb e=>B b o hb (Z.extBut b o hb (aw _ e)))
variable {x y:Addr}{ns ms:List Int}{n:Nat}
abbrev jF (ns ms:List Int):Option Fin×Unit:=if ns=ms then (none,()) else (some (.done (.ret (.bool (rt ns ms)))),())
def pF:∀ns:List Int,rt ns ns=false
 | []=>rfl
 |a::as=>(bx rfl).trans (pF as)
section
variable {prog:Program}{w:World}{M:Model}{A:Around}{E:QqV}{h:Heap}{g:Array GenState}{d:Drawn}{t:Nat}{os:OsState}{C N:Addr}{nm q:Str}{k0 k2 k3:Option Value}{mN:Str->Option Value}{dd de:Option Addr}
def N3 {s:Shared}(f:Value×Value->Option Fin×Unit->Sem (ForInStep (Option Fin×Unit)))
  (hf:∀a b st,f (a,b) st=(do let r←eqBool a b;if (!r)=true then (do rule "tuple.compare.by-the-first-pair-that-differs";let v←richCompare .Lt a b;let z←ret v;pure (.done (some z,()))) else pure (.yield (none,())))) :
  ∀{ws us:List Value} {ns ms:List Int} {Q:Option Fin×Unit->Shared->Prop},IntsAre ws ns->IntsAre us ms->ns.length=ms.length->Q (jF ns ms) s->wpAny (model prog w) A (forIn (ws.zip us) (none,()) f) Q E s:=by
 intro ws us ns ms Q h1;induction h1 generalizing us ms Q with
 |nil =>
  intro O hl U;cases O with
  |nil=>rw[List.zip_nil_left,oe];show ah U
  |cons=>simp at hl
 | @cons a ta ws ns h1 ih =>
  intro O hl U;cases O with
  |nil=>simp at hl
  | @cons b tb us ms O =>
   rw[List.zip_cons_cons,pd,hf];apply af (af (wpAny_eqBool_int ?_));by_cases Z:a=b
   ·subst Z;simp -iota only[uj,wg,dt,kh];apply ah (ih O (by simpa using hl) ?_);have e:jF (a::ns) (a::ms)=jF ns ms:=by unfold jF;rw[show rt (a::ns) (a::ms)=rt ns ms from bx rfl];simp
    rw[e]at U;show U
   ·have J:(a==b)=false:=by simpa using Z
    rw[J];simp -iota only[Bool.not_false,ym];have e:jF (a::ns) (b::ms)=(some (.done (.ret (.bool (decide (a<b))))),()):=by unfold jF;rw[show rt (a::ns) (b::ms)=decide (a<b) from ay Z,ay λq=>Z (List.cons.inj q).1]
    rw[e]at U;apply af (tw (af ?_));have B:∀R:Value->Shared->Prop,R (.bool (decide (a<b))) s->wpAny (model prog w) A (richCompare .Lt (.int a ta) (.int b tb)) R E s:=λR hr=>lt_int hr;show B _ (af (ah (ah (ah U))))
def N2 {ox O:Obj}{ws us:List Value}{m:Nat}{P:Fin->Shared->Prop}(hx:h.get? x=some ox)(dx:ox.data=.seq ws.toArray n)(hy:h.get? y=some O)(dy:O.data=.seq us.toArray m)(B:IntsAre ws ns)(J:IntsAre us ms)(hl:ns.length=ms.length)
  (inst:∀R:Bool->Shared->Prop,R true #[h,g,d,t,os]->wpAny (model prog w) A (isInstance (.ref y) (.type "tuple")) R E #[h,g,d,t,os]) (U:P (.done (.ret (.bool (rt ns ms)))) #[h,g,d,t,os]):wpAny (model prog w) A (Builtin.«tuple.__lt__» #[[.ref x,.ref y],[]]) P E #[h,g,d,t,os]:=by
 unfold Builtin.«tuple.__lt__»;apply af (ec (a:=(.ref x,[.ref y])) (by rfl) ?_);dsimp only;apply af (inst _ ?_);simp -iota only[wg,dt,kh];apply af (m:=Builtin.Tuple.tupleItemsOf (.ref x)) (af (mx hx dx (ah ?_)));apply af (m:=Builtin.Tuple.tupleItemsOf (.ref y)) (af (mx hy dy (ah ?_)));apply af (N3 _ (λa b st=>by rfl) (ws:=ws) (us:=us) B J hl ?_);unfold jF;by_cases e:ns=ms
 ·rw[bx e];subst e;rw[pF]at U;have Z:ws.toArray.size=us.toArray.size:=by simp[B.length,J.length]
  have e2:Builtin.Tuple.tupleCompareSizes .Lt ws.toArray.size us.toArray.size=.bool false:=by unfold Builtin.Tuple.tupleCompareSizes;rw[Z];simp
  show wpAny _ _ (ret (Builtin.Tuple.tupleCompareSizes .Lt ws.toArray.size us.toArray.size)) _ _ _;rw[e2];show ah U
 ·rw[ay e];show ah U
def EA {ws us:List Value}{m:Nat}{P:Fin->Shared->Prop}(B:h.get? C=some (iI C N nm q k0 k2 k3))(U:h.get? x=some (dD C dd ws n))(Z:h.get? y=some (dD C de us m))(h1:IntsAre ws ns)(h2:IntsAre us ms)(hl:ns.length=ms.length)
  (J:P (.done (.ret (.bool (rt ns ms)))) #[h,g,d,t,os]):wpAny (model prog w) A (Builtin.«tuple.__lt__» #[[.ref x,.ref y],[]]) P E #[h,g,d,t,os]:=N2 U rfl Z rfl h1 h2 hl (λR O=>by
  unfold isInstance;unfold dD at Z
  repeat (first|(with_reducible refine qu Z ?_)|(with_reducible refine n0 B ?_)|wp_step)
  show O) J
def DF:splitId "tuple.__lt__"=some ("tuple","__lt__"):=by kernel_rfl
def IS:builtinKind "tuple.__lt__"=some .slot:=by kernel_rfl
def N0 {ws us:List Value}{m:Nat}{Q:Bool->Shared->Prop}(hu:A.units<cLine)(hC:h.get? C=some (iI C N nm q k0 k2 k3))(hn:h.Ns N mN)(B:mN "__lt__"=none)(O:h.get? x=some (dD C dd ws n))(hy:h.get? y=some (dD C de us m))(h1:IntsAre ws ns)(h2:IntsAre us ms)(hl:ns.length=ms.length)
  (hQ:Q (rt ns ms) #[h,g,d,t,os]):wpAny (model prog w) A (keyLt' oneType' (.ref x) (.ref y)) Q E #[h,g,d,t,os]:=by
 rw[keyLt'_oneType,oneLt'_eq];simp -iota only[ym];apply af (wpAny_cRoomFor hu ?_);have aa:=PySem.F.slot_tuple_lt.lookup;have Z:typeLookup (.type "tuple") "__lt__"=pure (some (.builtin "tuple.__lt__")):=aa;have hb:=PySem.F.slot_tuple_lt.bind (.ref x);have U:h.get? x=some {cls:=.ref C,dict:=dd,data:=.seq ws.toArray n,slots:=#v[]}:=O;have fin:∀(E:QqV) (R:QqV),R (.bool (rt ns ms)) #[h,g,d,t,os]->wpAny (model prog w) A (call (.builtin "tuple.__lt__") [.ref x,.ref y]) R E #[h,g,d,t,os]:=λE R J =>
  zX hC O DF (.inl IS) PySem.F.slot_tuple_lt.plain PySem.F.entry_tuple_lt (PySem.F.args_tuple_lt_2 _ _) (EA hC O hy h1 h2 hl #[_,rfl,J])
 have sp:∀(R:Option (Value×List Value)->Shared->Prop),R (some (.builtin "tuple.__lt__",[.ref x])) #[h,g,d,t,os]->wpAny (model prog w) A (bindSpecialIfBound? (.ref x) "__lt__") R E #[h,g,d,t,os]:=λR J=>by
  have go:∀(E:QqV),wpAny (model prog w) A (do let r←bindSpecial (Value.builtin "tuple.__lt__") (Value.ref x);pure (some r)) R E #[h,g,d,t,os]:=λE=>af (ec hb (ah J));unfold bindSpecialIfBound? specialOf
  repeat (first|(with_reducible refine qu U ?_)|(with_reducible refine xr hC hn Z ?_;rw[B])|wp_step)
  apply wo ?_;split
  ·show go _
  ·show wpAny_tryCatch (go _)
 unfold callSpecialIfBound?;apply af (cg (af (sp _ ?_)));apply af (fin _ _ (ah ?_));show ur hQ
end
end MP
end
section
namespace MP
open PySem PyProof.Rows PySem.W
variable {α:Type}{p:Array Nat}{k i j m nrem:Nat}
abbrev ends {α:Type}(n:Nat)(lt:Nat->Nat->Bool):KasT α->(α->Prop)->Prop
 |.ret a,Q=>Q a
 |.ask i j k,Q=>i<n/\j<n/\ends n lt (k (lt i j)) Q
def ki {n:Nat}{lt:Nat->Nat->Bool}{Q U:α->Prop}(Z:∀a,Q a->U a):∀{t:KasT α},ends n lt t Q->ends n lt t U
 |.ret a=>λh=>Z a h
 |.ask i j k=>λh=>#[h.1,h.2.1,ki Z (t:=k (lt i j)) h.2.2]
def ya {Z:Type}{n:Nat}{lt:Nat->Nat->Bool}{f:α->KasT Z}{Q:Z->Prop}:∀{t:KasT α},ends n lt t (λa=>ends n lt (f a) Q)->ends n lt (t.bind f) Q
 |.ret a=>λh=>h
 |.ask i j k=>λh=>#[h.1,h.2.1,ya (t:=k (lt i j)) h.2.2]
def CN {n:Nat}{lt:Nat->Nat->Bool}{cmp:Nat->Nat->(Bool->Shared->Prop)->Shared->Prop}{s:Shared}(Z:∀i j (C:Bool->Shared->Prop),i<n->j<n->C (lt i j) s->cmp i j C s){Q:α->Shared->Prop}:∀{t:KasT α},ends n lt t (λa=>Q a s)->t.kasWp cmp Q s
 |.ret a=>λh=>h
 |.ask i j k=>λh=>Z i j _ h.1 h.2.1 (CN Z (t:=k (lt i j)) h.2.2)
structure l0 (lt:Nat->Nat->Bool):Prop where
 asym:∀a b,lt a b=true->lt b a=false
 tr:∀a b c,lt b a=false->lt c b=false->lt c a=false
section
variable {n:Nat}{lt:Nat->Nat->Bool}
public abbrev at0 (p:Array Nat)(i:Nat):Nat:=p.getD i 0
abbrev jM (lt:Nat->Nat->Bool)(p:Array Nat)(k:Nat):Prop:=∀i j,i<j->j<k->lt (at0 p j) (at0 p i)=false
abbrev sI (lt:Nat->Nat->Bool)(p:Array Nat)(k:Nat):Prop:=∀i j,i<j->j<k->lt (at0 p i) (at0 p j)=false
structure wd (n:Nat)(p:Array Nat):Prop where
 perm:p.Perm (List.toArray (List.range n))
def wd.size (h:wd n p):p.size=n:=by have:=h.perm.size_eq;simpa using this
def wd.low (h:wd n p)(U:0<n)(i:Nat):at0 p i<n:=by
 unfold at0;by_cases Z:i<p.size
 ·have e:p.getD i 0=p[i]:=by simp[Array.getD,Z]
  rw[e];have O:p[i]∈p.toList:=by simp
  have:=(gO.mp h.perm).mem_iff.mp O;simpa using this
 ·have e:p.getD i 0=0:=by simp[Array.getD,Z]
  rw[e];show U
def wd.step {q:Array Nat}(h:wd n p)(Z:q.Perm p):wd n q:=#[Z.trans h.perm]
def kT (i:Nat):at0 p i=(p[i]?).getD 0:=by
 unfold at0;by_cases Z:i<p.size<;>simp[Array.getD,Z]
def jM.le (L:l0 lt)(h:jM lt p k)(Z:i<=j)(U:j<k):lt (at0 p j) (at0 p i)=false:=by
 rcases oa Z with O|rfl
 ·show h i j O U
 ·cases hq:lt (at0 p i) (at0 p i) with
  |false=>rfl
  |true=>have:=L.asym _ _ hq;rw[hq]at this;cases this
def l0.irr (L:l0 lt)(a:Nat):lt a a=false:=by
 cases hq:lt a a with
 |false=>rfl
 |true=>have:=L.asym _ _ hq;rw[hq]at this;cases this
def qO (L:l0 lt)(hn:0<n)(J:wd n p):∀(f m:Nat),1<=m->ends n lt (kas_asc p f m) λr=>m<=r/\r<=m+f/\(jM lt p m->jM lt p r)
 |0=>λm h1=>#[az _,by show jf (.k .A .aR) .f,λh=>h]
 |f+1=>λm h1=>by
  apply#[J.low hn _,J.low hn _,?_];cases hc:lt (at0 p m) (at0 p (m-1)) with
  |true=>refine#[az _,by show vi (.k .A .a8) .f,λh=>h]
  |false =>
   show ends n lt (kas_asc p f (m+1)) _;apply ki (λr O=>#[by show bt .A .a .H O.1,by show ek (.k .A .aG) .a .bT O.2.1,λhu=>O.2.2 λi j Z hj=>?_]) (qO L hn J f (m+1) (jf (.k .U .L) .f));rcases oa (iY hj) with h|rfl
   ·show hu i j Z h
   ·show L.tr _ (at0 p (j-1)) _ (hu.le L (fk .A .c .I .bZ Z (ae (ef .D .a .D h1))) (bt .B .a .a2 (ae (ef .D .a .D h1)))) hc
def fK (Z:j<=p.size)(k:Nat):at0 (kas_rev p i j) k=if i<=k/\k<j then at0 p (i+j-1-k) else at0 p k:=by
 unfold kas_rev;rw[kT,getElem?_mirror_all Z];split<;>rw[kT]
def sI.le (L:l0 lt)(h:sI lt p k)(Z:i<=j)(U:j<k):lt (at0 p i) (at0 p j)=false:=by
 rcases oa Z with O|rfl
 ·show h i j O U
 ·show L.irr _
abbrev Flat (lt:Nat->Nat->Bool)(p:Array Nat)(m q:Nat):Prop:=q+1<=m/\∀i j,m-(q+1)<=i->i<m->m-(q+1)<=j->j<m->lt (at0 p i) (at0 p j)=false
def JJ (L:l0 lt){q:Nat}(hm:m<=p.size)(h:sI lt p m)(hq:Flat lt p m q):sI lt (kas_rev p (m-(q+1)) m) m:=λi j aa hj=>by
 rw[fK hm,fK hm];have#[h1,h2]:=hq;split<;>split
 ·show h2 _ _ (Ar.sub _ _ (λJ Z=>(Ar.sub _ _ (λq2 p2=>(fU .A [[1,1,1,-1,-1]] .N .cV (.e .aJ .aI) (.e .Q .G) aa hj Z p2)) λq2 p2=>(fU .A .u .N .cV (.e .aJ .aI) (.k .G .C) aa hj Z q2))) λJ Z=>(fc .A .b .N (.k .Y .U) hj J)) (by(rename_i z2 z1;show Ar.sub _ _ (λJ Z=>(Ar.sub _ _ (λq2 p2=>(my .B .e .aB .cD (.e .a1 .a7) z2.1 Z p2)) λq2 p2=>(my .B .e .O .cD .aT hj Z p2))) λJ Z=>(fk .B .b .O .M hj Z))) (Ar.sub _ _ (λJ Z=>(Ar.sub _ _ (λq2 p2=>(my .A [[1,1,-1,-1]] .N (.e .a1 .Y) (.e .Q .F) hj Z p2)) λq2 p2=>(my .A .q .N (.e .a1 .Y) .cL hj Z q2))) λJ Z=>(fc .A .b .N (.k .Y .U) hj J)) (by(rename_i z2 z1;show Ar.sub _ _ (λJ Z=>(Ar.sub _ _ (λq2 p2=>(fU .B .s .N .cL (.e .Y .G) (.e .aJ (.a .F .B)) aa z2.1 Z p2)) λq2 p2=>(my .B .e .O .cD .aT z2.2 Z p2))) λJ Z=>(fk .B .b .O .M hj Z)))
 ·(rename_i z2 z1;show False.elim ((du.mp z1).elim (λJ=>(mi .ff .h .B .a8 (.j .C .B) aa z2.1 J)) λJ=>(gz .ff .d .B .cX hj J)))
 ·show h _ _ (by(rename_i z2 z1;show Ar.sub _ _ (λJ Z=>((du.mp z2).elim (λq2=>(Ar.sub _ _ (λq3 p3=>(fU .B [[1,1,-1,1,-1]] .N (.e .a1 (.a .G .D)) (.j .G .A) (.e .Q .F) hj Z q2 p3)) λq3 p3=>(fU .B [[0,1,-1,1,1]] .N (.e .a1 (.a .G .D)) (.j .G .A) .cL hj Z q2 q3))) λq2=>(mq .B .h .I .N (.g .A .D) aa hj q2))) λJ Z=>(my .B .h .I .N (.k (.a .F .D) .U) aa hj J))) (by(rename_i z1;show Ar.sub _ _ (λJ Z=>(Ar.sub _ _ (λq2 p2=>(my .B .e .aB .cD (.e .a1 .a7) z1.1 Z p2)) λq2 p2=>(my .B .e (.k .R .B) .cD .aT h1 Z p2))) λJ Z=>(fk .B .b .O .M hj Z)))
 ·show h _ _ aa hj
def iA (L:l0 lt)(hn:0<n):∀(f:Nat) (p:Array Nat) (m q:Nat),wd n p->1<=m->m+f<=n->sI lt p m->Flat lt p m q ->
  ends n lt (kas_desc f p m q) λr=>wd n r.1/\m<=r.2.1/\r.2.1<=m+f/\sI lt r.1 r.2.1/\Flat lt r.1 r.2.1 r.2.2
 |0=>λp m q J h1 hf hd hq=>#[J,az _,by simp,hd,hq]
 |f+1=>λp m q J h1 hf hd hq=>by
  apply#[J.low hn _,J.low hn _,?_];have aa:=J.size;have grow:∀{p:Array Nat},sI lt p m->lt (at0 p (m-1)) (at0 p m)=false->sI lt p (m+1):=λ{p} hd hc i j ab hj=>by
   rcases oa (iY hj) with h|rfl
   ·show hd i j ab h
   ·have:=hd.le L (i:=i) (j:=j-1) (fk .A .c .I .bZ ab (ae (ef .D .a .D h1))) (bt .B .a .a2 (ae (ef .D .a .D h1)));show L.tr _ (at0 p (j-1)) _ hc this
  cases hc:lt (at0 p m) (at0 p (m-1)) with
  |true =>
   have ha:=L.asym _ _ hc;show ends n lt (if q>0 then kas_desc f (kas_rev p (m-(q+1)) m) (m+1) 0 else kas_desc f p (m+1) 0) _;split
   ·have ag:wd n (kas_rev p (m-(q+1)) m):=J.step (mirror_perm _ _ _ _);have ai:=JJ L (fc .A .c (.k .aA .D) .c1 hf aa) hd hq;have e1:at0 (kas_rev p (m-(q+1)) m) m=at0 p m:=by rw[fK (fc .A .c (.k .aA .D) .c1 hf aa),ay (λZ=>(ef .ff .o (.l .A .A) Z.2))]
    have e2:lt (at0 (kas_rev p (m-(q+1)) m) (m-1)) (at0 p m)=false:=by
     have#[g1,g2]:=hq;rw[fK (fc .A .c (.k .aA .D) .c1 hf aa),bx (#[(fc .A .c .d3 .cY (ae (bt .H .a .H g1)) (ae (ef .D .a .D h1))),(bt .B .a .a2 (ae (ef .D .a .D h1)))])];show L.tr _ (at0 p (m-1)) _ ha (g2 _ _ (Ar.sub _ _ (λZ p1=>(Ar.sub _ _ (λq2 p2=>(Ar.sub _ _ (λq3 p3=>(my .A [[1,-1,1,-1]] (.e .R .Y) (.e .a1 .D) (.e .a4 .C) p1 p2 p3)) λq3 p3=>(my .A [[1,-1,1,1]] (.e .R .Y) (.e .a1 .D) (.k .C .F) p1 p2 q3))) λq2 p2=>(fc .A .b .d3 (.k .D .U) (ae (bt .H .a .H g1)) q2))) λZ p1=>(fk .A .b (.k .U .C) (.k .T .U) h1 Z)) (by(rename_i z1;show Ar.sub _ _ (λZ p1=>(Ar.sub _ _ (λq2 p2=>(Ar.sub _ _ (λq3 p3=>(Ar.sub _ _ (λq4 p4=>(fU .B .u .bC (.e .V (.a .F .B)) (.e .R .B) (.e (.a .F .aJ) .B) p1 p2 p3 p4)) λq4 p4=>(my .B .e .bC (.e .V (.a .F .B)) .aT p1 p2 p4))) λq3 p3=>(mi .B .h .aU (.k .R .B) (.k .B .U) z1 g1 q3))) λq2 p2=>(my .B .e (.k .R .B) .cD .aT g1 p1 p2))) λZ p1=>(fk .B .b (.k .R .B) .M g1 p1))) (fc .A .c .d3 .cY (ae (bt .H .a .H g1)) (ae (ef .D .a .D h1))) (bt .B .a .a2 (ae (bt .D .a (.k .M .A) g1))))
    apply ki (λr O=>#[O.1,by show bt .A .a .H O.2.1,by show ek (.k .A .aG) .a .bT O.2.2.1,O.2.2.2]) (iA L hn f _ (m+1) 0 ag (jf (.k .U .L) .f) (ek .b1 .a .T hf) (grow ai (by rw[e1];show e2)) #[by show jf .b2 .f,λi j a b c d=>?_]);have:i=m:=by(show mi .C .r .a8 .a7 .bM a b (ae (jf .b2 .f)))
    have:j=m:=by(show mi .C .r .a8 .a7 .bM c d (ae (jf .b2 .f)))
    subst_vars
    show L.irr _
   ·apply ki (λr O=>#[O.1,by show bt .A .a .H O.2.1,by show ek (.k .A .aG) .a .bT O.2.2.1,O.2.2.2]) (iA L hn f _ (m+1) 0 J (jf (.k .U .L) .f) (ek .b1 .a .T hf) (grow hd ha) #[by show jf .b2 .f,λi j a b c d=>?_]);have:i=m:=by(show mi .C .r .a8 .a7 .bM a b (ae (jf .b2 .f)))
    have:j=m:=by(show mi .C .r .a8 .a7 .bM c d (ae (jf .b2 .f)))
    subst_vars
    show L.irr _
  |false =>
   apply#[J.low hn _,J.low hn _,?_];cases hd2:lt (at0 p (m-1)) (at0 p m) with
   |true=>refine#[J,az _,by simp,hd,hq]
   |false =>
    show ends n lt (kas_desc f p (m+1) (q+1)) _;apply ki (λr O=>#[O.1,by show bt .A .a .H O.2.1,by show ek (.k .A .aG) .a .bT O.2.2.1,O.2.2.2]) (iA L hn f p (m+1) (q+1) J (jf (.k .U .L) .f) (ek .b1 .a .T hf) (grow hd hd2) ?_);have#[g1,g2]:=hq;apply#[by show bt .d5 .a .H g1,λi j a b c d=>?_];by_cases hi:i=m
    ·by_cases hj:j=m
     ·clear grow;subst hi;subst hj;show L.irr _
     ·subst hi;show L.tr _ (at0 p (i-1)) _ (g2 _ _ (fc .A .c .d3 .cY (ae (bt .H .a .H g1)) (ae (ef .D .a .D h1))) (bt .B .a .a2 (ae (ef .D .a .D h1))) (my .A .q .G .bW .aW c (ae (bt .d5 .a .H g1)) (ae (bt .H .a .H g1))) ((ba hj).elim (λZ=>(bt .B .a .B Z)) λZ=>(gz .B .d .a7 .W d Z))) hc
    ·by_cases hj:j=m
     ·clear hc;subst hj;show L.tr _ (at0 p (j-1)) _ hd2 (g2 _ _ (my .A .q .G .bW .aW a (ae (bt .d5 .a .H g1)) (ae (bt .H .a .H g1))) ((ba hi).elim (λZ=>(bt .B .a .B Z)) λZ=>(gz .B .d .a7 .W b Z)) (fc .A .c .d3 .cY (ae (bt .H .a .H g1)) (ae (ef .D .a .D h1))) (bt .B .a .a2 (ae (ef .D .a .D h1))))
     ·show g2 _ _ (my .A .q .G .bW .aW a (ae (bt .d5 .a .H g1)) (ae (bt .H .a .H g1))) ((ba hi).elim (λZ=>(bt .B .a .B Z)) λZ=>(gz .B .d .a7 .W b Z)) (my .A .q .G .bW .aW c (ae (bt .d5 .a .H g1)) (ae (bt .H .a .H g1))) ((ba hi).elim (λZ=>((ba hj).elim (λq2=>(bt .B .a .B q2)) λq2=>(gz .B .d .a7 .W d q2))) λZ=>(fk .B .d (.l .C .M) .aZ b Z))
def o9 (L:l0 lt)(hn:0<n)(hp:wd n p)(h1:1<=m)(hm:m<=nrem)(hr:nrem<=n)(hd:sI lt p m) :
  ends n lt (kas_tail3 m nrem p) λr=>wd n r.2/\m<=r.1/\r.1<=nrem/\jM lt r.2 r.1:=by
 unfold kas_tail3;have aa:=hp.size;have ab:wd n (kas_rev p 0 m):=hp.step (mirror_perm _ _ _ _);apply ya (ki (λr hr=>#[ab,hr.1,by show fc .A .b (.k .A .S) (.e .aD .B) hr.2.1 (ae (bt .A .a .A hm)),hr.2.2 λi j Z hj=>?_]) (qO L hn ab (nrem-m) m h1));rw[fK (by(rename_i z1;show mq .A .v .J .aB .c1 hm z1 aa)),fK (by(rename_i z1;show mq .A .v .J .aB .c1 hm z1 aa)),bx (#[(jf .bF .f),(bt .B .a .B hj)]),bx (#[(jf .bF .f),(fk .B .b .I .O Z hj)])];show hd _ _ (Ar.sub _ _ (λq1 p1=>(Ar.sub _ _ (λq2 p2=>(Ar.sub _ _ (λq3 p3=>(my .B .q .N (.e .Q .F) .cD Z p2 p3)) λq3 p3=>(qP .B [[1,1,1,-1,-1,1]] .N .cV (.e .aJ (.a .O .F)) (.e .Q .G) .M Z hj p1 p2 p3))) λq2 p2=>(fU .B [[0,1,1,-1,1]] .N .cV (.e .aJ (.a .O .F)) (.k .G .C) Z hj p1 q2))) λq1 p1=>(my .B .h .N .cV (.k (.a .O .F) .U) Z hj q1)) (Ar.sub _ _ (λq1 p1=>(Ar.sub _ _ (λq2 p2=>(fc .B .b .bC (.e .V .aU) p1 p2)) λq2 p2=>(my .B .e .O .cD .aT hj p1 p2))) λq1 p1=>(fk .B .b .O .M hj p1))
def iQ (L:l0 lt)(hn:0<n)(hp:wd n p)(O:m+1<=nrem)(Z:nrem<=n)(hd:sI lt p (m+1))(h1:1<=m) :
  ends n lt (kas_descPart m nrem p) λr=>wd n r.2/\1<=r.1/\r.1<=nrem/\jM lt r.2 r.1:=by
 unfold kas_descPart;apply ya (ki (λr Z=>?_) (iA L hn (nrem-(m+1)) p (m+1) 0 hp (jf (.k .U .L) .f) (fc .b1 .b .bL (.e (.a .B .L) .D) Z (ae (bt .H .a .H O))) hd #[by show jf .b2 .f,λi j a b c d=>?_]))
 ·have#[g1,g2,g3,g4,g5]:=Z;have J:=g1.size;split
  ·show ki (λr Z=>#[Z.1,by show fk .D .b (.k .M .C) .a8 g2 Z.2.1,Z.2.2]) (o9 L hn (g1.step (mirror_perm _ _ _ _)) (bt .D .a (.k .M .A) g2) (fc .A .b (.k .A (.a .R .D)) (.e (.a .D .R) .B) g3 (ae (bt .H .a .H O))) (bt .A .a .A Z) (JJ L (fU .A .u .aB (.k .A (.a .a1 .G)) .c1 (.e (.a .G .a1) .C) Z g3 J (ae (bt .H .a .H O))) g4 g5))
  ·show ki (λr Z=>#[Z.1,by show fk .D .b (.k .M .C) .a8 g2 Z.2.1,Z.2.2]) (o9 L hn g1 (bt .D .a (.k .M .A) g2) (fc .A .b (.k .A (.a .R .D)) (.e (.a .D .R) .B) g3 (ae (bt .H .a .H O))) (bt .A .a .A Z) g4)
 ·have:i=m:=by(show mi .C .r .a8 .a7 .bM a b (ae (jf .b2 .f)))
  have:j=m:=by(show mi .C .r .a8 .a7 .bM c d (ae (jf .b2 .f)))
  subst_vars
  show L.irr _
def yK (O:0<n)(U:wd n p){Q:Nat->Prop}:∀(f m:Nat),ends n lt (kas_asc p f m) Q->ends n lt (kas_asc p f m) λr=>Q r/\(r<m+f->lt (at0 p r) (at0 p (r-1))=true)
 |0=>λm h=>#[h,λq=>absurd q (jf (.g .A .aR) .f)]
 |f+1=>λm h=>by
  have#[B,J,h]:=h;apply#[B,J,?_];cases hc:lt (at0 p m) (at0 p (m-1)) with
  |true =>
   have e:lt (p.getD m 0) (p.getD (m-1) 0)=true:=hc;rw[e]at h;apply#[h,λ_=>hc]
  |false =>
   have e:lt (p.getD m 0) (p.getD (m-1) 0)=false:=hc;rw[e]at h;show ends n lt (kas_asc p f (m+1)) _;show ki (λr Z=>#[Z.1,λq=>Z.2 (ek (.l .A (.a .M .C)) .a (.l .A .aG) q)]) (yK O U f (m+1) h)
def AI (L:l0 lt)(hn:0<n)(hp:wd n p)(h1:1<=nrem)(hr:nrem<=n):ends n lt (kas_count nrem p) λr=>wd n r.2/\1<=r.1/\r.1<=nrem/\jM lt r.2 r.1:=by
 unfold kas_count;have ai:=hp.size;apply ya (ki (λm hm=>?_) (yK hn hp _ _ (qO L hn hp (nrem-1) 1 (az _))));have#[#[g1,g2,g3],g4]:=hm;have hu:jM lt p m:=g3 λi j aa hj=>absurd hj (bt (.g .A .U) .a .W aa);by_cases he:m=nrem
 ·rw[bx (by simp[he])];apply#[hp,g1,by show bt .A .a .C he,hu]
 ·rw[ay (by simp[he])];have ab:=g4 ((ba he).elim (λZ=>(fk (.l .A (.a .U .B)) .t .bZ .I (ae (ef .D .a .D h1)) Z)) λZ=>(mi (.l .A (.a .U .B)) .h (.k .A (.a .U .B)) .bZ .cZ g2 (ae (ef .D .a .D h1)) Z));split
  ·apply#[hp.low hn _,hp.low hn _,?_];cases hc:lt (at0 p 0) (at0 p (m-1)) with
   |true=>refine#[hp,g1,by show fk .A .b (.k .A (.a .U .C)) (.e .R .B) g2 (ae (ef .D .a .D h1)),hu]
   |false =>
    show ends n lt (kas_descPart m nrem (kas_rev p 0 m)) _;have ag:∀a b,a<m->b<m->lt (at0 p a) (at0 p b)=false:=λa b ha hb=>by
     have e1:=hu.le L (i:=b) (j:=m-1) (fk .A .c .I .bZ hb (ae (ef .D .a .D g1))) (bt .B .a .a2 (ae (ef .D .a .D g1)));have e2:=hu.le L (i:=0) (j:=a) (jf .bF .f) (bt .B .a .B ha);show L.tr _ _ _ (L.tr _ _ _ e1 hc) e2
    apply iQ L hn (hp.step (mirror_perm _ _ _ _)) ((ba he).elim (λZ=>(bt .H .a .B Z)) λZ=>(mi .H .h (.k .A (.a .U .C)) (.e .R .B) .W g2 (ae (ef .D .a .D h1)) Z)) hr (λi j aa hj=>?_) (ef .D .a .D g1);rw[fK (K9 .A [[1,1,-1,1,1]] .aB .c1 (.k .A (.a .U .F)) (.e .a1 .C) hr ai g2 (ae (ef .D .a .D h1))),fK (K9 .A [[1,1,-1,1,1]] .aB .c1 (.k .A (.a .U .F)) (.e .a1 .C) hr ai g2 (ae (ef .D .a .D h1))),bx (#[(jf .bF .f),(fk .B .b .I (.l .C .M) aa hj)])];split
    ·show ag _ _ (by(rename_i z1;show Ar.sub _ _ (λZ J=>(Ar.sub _ _ (λq2 p2=>(fc .B .b .bC (.e .V .aU) J p2)) λq2 p2=>(my .B .e .O .cD .aT z1.2 J p2))) λZ J=>(fk .B .b .O .M z1.2 J))) (by(rename_i z2 z1;show Ar.sub _ _ (λZ J=>(Ar.sub _ _ (λq2 p2=>(fc .B .b .bC (.e .V .aU) J p2)) λq2 p2=>(gz .B .d (.l .U .B) (.k .aU .U) z2 q2))) λZ J=>(fk .B .b .O .M z1.2 J)))
    ·have:j=m:=by(rename_i z1;show(ba he).elim (λZ=>((Ar.imp g4).elim (λq2=>(eM .C [[0,0,-1,1,1],[1,1,0,0,0]] .a7 .cT .Y (.g .B (.a .U .C)) hj (ae (ef .D .a .D h1)) Z q2)) λq2=>((du.mp z1).elim (λq3=>(gz .C [[0,0,1],[1,1,0]] .a7 (.j .O .A) hj q3)) λq3=>(gz .C .g .a7 .cX hj q3)))) λZ=>(eM .C [[0,1,0,1,1],[1,0,1,0,0]] (.k .B (.a .U .C)) .a7 .cT (.l .D .B) g2 hj (ae (ef .D .a .D h1)) Z))
     clear g4;subst this;show L.tr _ _ _ (L.asym _ _ ab) (ag _ _ (Ar.sub _ _ (λZ J=>(Ar.sub _ _ (λq2 p2=>(fc .B .b .bC (.e .V .aU) J p2)) λq2 p2=>(mq .B .e (.k .U .B) .bC .aS g1 J p2))) λZ J=>(gz .B .b (.k .U .B) .M g1 J)) (bt .B .a .a2 (ae (ef .D .a .D g1))))
  ·have ao:m=1:=by(rename_i z1;show KA (.e .A .U) .z .D (.g .U .A) g1 z1)
   subst ao;apply iQ L hn hp ((ba he).elim (λZ=>(ef (.k (.a .U .U) .A) .a .aD Z)) λZ=>(KA (.k (.a .U .U) .A) .d .D (.l .A .U) h1 Z)) hr (λi j aa hj=>?_) (kY (.k .U .U) .f);have hi:i=0:=by(show gz .M .y .B (.l .B (.a .U .U)) aa hj)
   have hj:j=1:=by(show gz (.e .A .U) .z .W (.l .A (.a .U .U)) aa hj)
   subst hi;subst hj;show L.asym _ _ ab
def jC (L:l0 lt)(hn:0<n)(hp:wd n p)(hu:jM lt p k):∀(f l r:Nat),l<=r->r<=k->r-l<=f->(∀i,i<l->lt (at0 p k) (at0 p i)=false)->(∀i,r<=i->i<k->lt (at0 p i) (at0 p k)=false) ->
  ends n lt (kas_place p k f l r) λm=>m<=k/\(∀i,i<m->lt (at0 p k) (at0 p i)=false)/\∀i,m<=i->i<k->lt (at0 p i) (at0 p k)=false
 |0=>λl r h1 h2 h3 ha hb=>#[by show fk .A .b .J .G h1 h2,ha,λi U=>hb i (mq .A .v (.k .C .O) .cJ (.e .S .A) h3 U (ae (bt .A .a .A h1)))]
 |f+1=>λl r h1 h2 h3 ha hb=>by
  unfold kas_place;split
  ·apply#[by show fk .A .b .J .G h1 h2,ha,λi U=>hb i (by(rename_i Z;show fk .A .b .J .G Z U))]
  ·apply#[hp.low hn _,hp.low hn _,?_];cases hc:lt (at0 p k) (at0 p ((l+r)/2)) with
   |true =>
    show ends n lt (kas_place p k f l ((l+r)/2)) _;apply jC L hn hp hu f l _ (by(rename_i Z;show mq .A [[2,1,1,-1]] (.j .C .A) (.l .D .W) (.e (.a .aH .D) .T) Z (Ar.iG _ 2 (by decide)).1 (Ar.iG _ 2 (by decide)).2)) (by(rename_i Z;show my .A [[2,2,1,1]] .G (.j .C .D) (.e (.a (.m 2 .A) .F) .aD) h2 Z (Ar.iG _ 2 (by decide)).2)) (by(rename_i Z;show K7 .A [[2,1,1,-1,2]] .bH (.e (.a (.m 2 .D) .F) .a6) (.e (.a .C .G) .H) (.e (.a .A .G) .D) h3 (Ar.iG _ 2 (by decide)).2 (ae (bt .A .a .A h1)) (ae (mq .A [[2,1,1,-1]] (.j .C .A) (.l .D .W) (.e (.a .aH .D) .T) Z (Ar.iG _ 2 (by decide)).1 (Ar.iG _ 2 (by decide)).2)))) ha λi U hk=>?_;show L.tr _ _ _ (L.asym _ _ hc) (hu.le L U hk)
   |false =>
    show ends n lt (kas_place p k f ((l+r)/2+1) r) _;apply jC L hn hp hu f _ r (by(rename_i Z;show fc .H [[2,1,1]] (.j .B .C) .d9 Z (Ar.iG _ 2 (by decide)).2)) h2 (by(rename_i Z;show yN .A [[2,1,1,-1,-1,2]] .bH (.l .D .W) (.e (.a (.m 2 .F) .D) .a6) (.e (.a .C .G) .H) (.e (.a .A .a1) .H) h3 (Ar.iG _ 2 (by decide)).1 (Ar.iG _ 2 (by decide)).2 (ae (bt .A .a .A h1)) (ae (fc .H [[2,1,1]] (.j .B .C) .d9 Z (Ar.iG _ 2 (by decide)).2)))) (λi U=>?_) hb;show L.tr _ _ _ (hu.le L (i:=i) (j:=(l+r)/2) (bt .A .a .a7 U) (by(rename_i Z;show my .B [[2,2,1,1]] .G (.j .C .D) (.e (.a (.m 2 .A) .F) .aD) h2 Z (Ar.iG _ 2 (by decide)).2))) hc
def K0 {p:Array Nat}{Z d:Nat}(U:Z<p.size)(hd:d<=Z)(k:Nat):at0 (bubble p Z d) k=if k=Z-d then at0 p Z else if Z-d<k/\k<=Z then at0 p (k-1) else at0 p k:=by
 have e:=λi=>kT (p:=p) i;rw[kT,getElem?_bubble U d hd,e Z,e (k-1),e k];split
 ·rfl
 ·split<;>rfl
def yI (L:l0 lt)(hn:0<n):∀(f:Nat) (p:Array Nat) (k:Nat),wd n p->k+f<=n->jM lt p k->ends n lt (kas_bin f p k) λq=>wd n q/\jM lt q (k+f)
 |0=>λp k hp hk hu=>#[hp,hu]
 |f+1=>λp k hp hk hu=>by
  dsimp only[kas_bin];have ai:=hp.size;apply ya (ki (λl hl=>?_) (jC L hn hp hu k 0 k (bh _) (az _) (bt .A .a (.e .aR .B) (ae (jf .bF .f))) (λi hi=>absurd hi (jf (.g .A .O) .f)) λi hi hk=>absurd hk (bt .cX .a .V hi)));have#[g1,g2,g3]:=hl;apply ki (λq hq=>#[hq.1,by rw[show k+(f+1)=k+1+f by(show vi (.e .a8 .Z) .n)];show hq.2]) (yI L hn f (bubble p k (k-l)) (k+1) (hp.step (bubble_perm _ _ _)) (ek .b1 .a .T hk) λi j U hj=>?_);have e:k-(k-l)=l:=by(show Ar.sub _ _ (λJ p1=>(Ar.sub _ _ (λq2 p2=>(fc .C .l .bC (.e .a7 .D) p1 p2)) λq2 p2=>(eM .C [[1,1,-1,0,1],[1,0,1,1,0]] .cB .cC .G .aS g1 p1 q2 p2))) λJ p1=>(Ar.sub _ _ (λq2 p2=>(mq .C .m .aB .M (.e .aK .C) J p1 p2)) λq2 p2=>(fU .C [[0,1,1,1,1],[0,1,1,1,1]] .N (.l .D .a1) (.k .F .G) .cP U hj J p2)))
  rw[K0 (fc .B .c (.k .aA .D) .c1 hk ai) (ek .A .a (.e .T .B) (ae (bt .A .a .A g1))),K0 (fc .B .c (.k .aA .D) .c1 hk ai) (ek .A .a (.e .T .B) (ae (bt .A .a .A g1))),e];by_cases aa:j=l
  ·rw[bx aa,ay (fk .cM [[-1,1,1]] .I (.e .C .B) U aa),ay (λJ=>(mi .ff .h .B (.e .B .C) .cZ U aa J.1))];show g2 i (fk .B .b .I (.e .C .B) U aa)
  ·rw[ay aa];by_cases ab:l<j/\j<=k
   ·rw[bx ab];by_cases ag:i=l
    ·rw[bx ag];show g3 _ (mq .A [[1,1,-1,-1]] .N .cA .cY U ag (ae (bt .D .a .W U))) (fk .B .b (.l .C .M) .X hj (ae (bt .D .a .W U)))
    ·rw[ay ag];split
     ·show hu _ _ (by(rename_i z1;show mq .B .v .N .X .cY U (ae (bt .D .a .W z1.1)) (ae (bt .D .a .W U)))) (fk .B .b (.l .C .M) .X hj (ae (bt .D .a .W U)))
     ·show hu _ _ (by(rename_i z1;show Ar.sub _ _ (λJ p1=>((ba aa).elim (λq2=>(fc .B .d .N .aC ab.1 q2)) λq2=>((ba ag).elim (λq3=>(mq .B .q .N .cY .I ab.1 (ae (bt .D .a .W U)) q3)) λq3=>((du.mp z1).elim (λq4=>(fk .B .d .cZ (.g .C .A) q3 q4)) λq4=>(mq .B .h .I (.l .C .V) (.j .A .D) U hj q4))))) λJ p1=>(my .B .h (.l .C .V) (.l .F .C) .c9 hj ab.1 J))) (fk .B .b (.l .C .M) .X hj (ae (bt .D .a .W U)))
   ·rw[ay ab,ay (Ar.sub _ _ (λJ p1=>((ba aa).elim (λq2=>(fk .cM [[-1,1,1]] .I .O U q2)) λq2=>((du.mp ab).elim (λq3=>(fk .cM [[-1,1,1]] .I (.g .B .C) U q3)) λq3=>(fc .cM .d (.l .C .V) (.j .C .D) hj q3)))) λJ p1=>(mq .cM [[-1,1,1,1]] .I (.l .C .V) .cJ U hj J)),ay (λJ=>(Ar.sub _ _ (λq2 p2=>((ba aa).elim (λq3=>(mi .ff .h .B .cZ .aZ U J.1 q3)) λq3=>((du.mp ab).elim (λq4=>(mi .ff .h .B .cZ (.g .C .B) U J.1 q4)) λq4=>(gz .ff .d .a7 (.j .A .B) hj q4)))) λq2 p2=>(eM .ff [[0,1,1,1,1]] .B (.l .B .R) (.l .D .A) .aB U hj J.1 q2)))];show hu _ _ U ((ba aa).elim (λJ=>(fk .B .b .G .I g1 J)) λJ=>(Ar.sub _ _ (λq2 p2=>((du.mp ab).elim (λq3=>(fk .B .d .cZ (.g .C .A) J q3)) λq3=>(gz .B .d .a7 (.j .A .B) hj q3))) λq2 p2=>(mi .B .h .a7 .cZ .cB hj J q2)))
def DG (L:l0 lt)(O:0<n):ends n lt (kas_sort n) λq=>wd n q/\jM lt q n:=by
 unfold kas_sort;apply ya (ki (λr hr=>?_) (AI L O (p:=List.toArray (List.range n)) #[Array.Perm.refl _] (ef .D .a .F O) (az _)));have#[g1,g2,g3,g4]:=hr;split
 ·have e:max r.1 1=r.1:=by(show(Ar.eB _ _).2.2.elim (λZ=>(gz .C .z .V .A (Ar.eB _ _).1 Z)) λZ=>(VD .C [[1,0,1,0],[1,1,0,1]] (.k .U .B) .V (.k .A .U) g2 (Ar.eB _ _).1 Z))
  rw[e];show ki (λq J=>#[J.1,by have:=J.2;rwa [show r.1+(n-r.1)=n by(show ek .S .k .b6 (ae (bt .A .a .A g3)))]at this]) (yI L O (n-r.1) r.2 r.1 g1 (ek .K .a .b6 (ae (bt .A .a .A g3))) g4)
 ·have e:r.1=n:=by(rename_i z1;show gz .C .g .A .cX g3 z1)
  apply#[g1,e▸g4]
end
variable {ts:List (Int×Int×Int)}{C:Addr}{h:Heap}
abbrev tl (t:Int×Int×Int):List Int:=[t.1,t.2.1,t.2.2]
def CB (s t:Int×Int×Int):leT s t=!(rt (tl t) (tl s)):=rfl
abbrev LeT (s t:Int×Int×Int):Prop:=s.1<t.1\/(s.1=t.1/\(s.2.1<t.2.1\/(s.2.1=t.2.1/\s.2.2<=t.2.2)))
def yh (s t:Int×Int×Int):leT s t=true↔LeT s t:=by
 rw[CB,fg];unfold LeT;by_cases J:t.1=s.1
 ·rw[show rt (tl t) (tl s)=rt [t.2.1,t.2.2] [s.2.1,s.2.2] from bx J];by_cases h2:t.2.1=s.2.1
  ·rw[show rt [t.2.1,t.2.2] [s.2.1,s.2.2]=rt [t.2.2] [s.2.2] from bx h2];by_cases h3:t.2.2=s.2.2
   ·rw[show rt [t.2.2] [s.2.2]=false from bx h3];apply#[λ_=>.inr #[J.symm,.inr #[h2.symm,fD h3.symm]],λ_=>rfl]
   ·rw[show rt [t.2.2] [s.2.2]=decide (t.2.2<s.2.2) from ay h3,lE]
    (show#[λO=>(.inr #[(ru .aH .i .d6 J),(.inr #[(ru .aH .i .d6 h2),(ru (.ik .A .B) .a (.ig .B .A) O)])]),λO=>((xg h3).elim (λZ=>(O.elim (λU=>(kX .bN .d .c6 (.il .D .C) J U)) λU=>(U.2.elim (λq4=>(kX .bN .d .c6 (.il .D .C) h2 q4)) λq4=>(ru .bN .a (.ik .B .A) q4.2)))) λZ=>(ru .bN .a .c7 Z))])
  ·rw[show rt [t.2.1,t.2.2] [s.2.1,s.2.2]=decide (t.2.1<s.2.1) from ay h2,lE]
   (show#[λO=>(.inr #[(ru .aH .i .d6 J),(.inl ((xg h2).elim (λZ=>(yP .aN .d (.ig .B .A) .c7 O Z)) λZ=>(ru .aN .a .aN Z)))]),λO=>((xg h2).elim (λZ=>(O.elim (λU=>(kX .bN .d .c6 (.il .D .C) J U)) λU=>(U.2.elim (λq4=>(ru .bN .a .c7 q4)) λq4=>(ru .bN .a .d6 q4.1)))) λZ=>(ru .bN .a .c7 Z))])
 ·rw[show rt (tl t) (tl s)=decide (t.1<s.1) from ay J,lE]
  (show#[λO=>(.inl ((xg J).elim (λZ=>(yP .aN .d (.ig .B .A) .c7 O Z)) λZ=>(ru .aN .a .aN Z))),λO=>((xg J).elim (λZ=>(O.elim (λU=>(ru .bN .a .c7 U)) λU=>(ru .bN .a .d6 U.1))) λZ=>(ru .bN .a .c7 Z))])
def LeT.trans {a b c:Int×Int×Int}(J:LeT a b)(O:LeT b c):LeT a c:=by
 unfold LeT at *;rcases J with p|⟨p,U⟩
 ·show .inl (O.elim (λZ=>(tN .aN .b (.il .A .C) (.il .C .B) p Z)) λZ=>(tN .aN .b (.il .A .C) (.ie .C .B) p Z.1))
 ·rcases O with q|⟨q,Z⟩
  ·show .inl (tN .aN .b (.ie .A .C) (.il .C .B) p q)
  ·apply .inr #[p.trans q,?_];rcases U with p|⟨p,U⟩
   ·show .inl (Z.elim (λZ=>(tN .aN .b (.il .A .C) (.il .C .B) p Z)) λZ=>(tN .aN .b (.il .A .C) (.ie .C .B) p Z.1))
   ·rcases Z with q|⟨q,Z⟩
    ·show .inl (tN .aN .b (.ie .A .C) (.il .C .B) p q)
    ·show .inr #[p.trans q,jn U Z]
def LeT.total (a b:Int×Int×Int):LeT a b\/LeT b a:=by
 rcases Int.lt_trichotomy a.1 b.1 with h|h|h
 ·show .inl (.inl h)
 ·rcases Int.lt_trichotomy a.2.1 b.2.1 with g|g|g
  ·show .inl (.inr #[h,.inl g])
  ·show(fC a.2.2 b.2.2).imp (λk=>.inr #[h,.inr #[g,k]]) λk=>.inr #[h.symm,.inr #[g.symm,k]]
  ·show .inr (.inr #[h.symm,.inl g])
 ·show .inr (.inl h)
def LeT.VG {a b:Int×Int×Int}(h1:LeT a b)(h2:LeT b a):a=b:=by
 unfold LeT at *;have e1:a.1=b.1:=by(show h1.elim (λU=>(h2.elim (λZ=>(yP .aH .g .aN .c7 U Z)) λZ=>(ru .aH .i .d6 Z.1))) λU=>(ru .aH .k .aH U.1))
 have e2:a.2.1=b.2.1:=by(show h1.elim (λU=>(kX .aH [[0,-1,1],[0,-1,1]] .c6 (.il .C .D) e1 U)) λU=>(h2.elim (λZ=>(kX .aH .j .c6 (.il .D .C) e1 Z)) λZ=>(U.2.elim (λJ=>(Z.2.elim (λO=>(yP .aH .g .aN .c7 J O)) λO=>(ru .aH .i .d6 O.1))) λJ=>(ru .aH .k .aH J.1))))
 have e3:a.2.2=b.2.2:=by(show h1.elim (λU=>(kX .aH [[0,-1,1],[0,-1,1]] .c6 (.il .C .D) e1 U)) λU=>(h2.elim (λZ=>(kX .aH .j .c6 (.il .D .C) e1 Z)) λZ=>(U.2.elim (λJ=>(kX .aH [[0,-1,1],[0,-1,1]] .c6 (.il .C .D) e2 J)) λJ=>(Z.2.elim (λO=>(kX .aH .j .c6 (.il .D .C) e2 O)) λO=>(yP .aH .g (.ik .A .B) (.ik .B .A) J.2 O.2)))))
 show Prod.ext e1 (Prod.ext e2 e3)
def iM:∀{a b:List (Int×Int×Int)},a.Perm b->a.Pairwise LeT->b.Pairwise LeT->a=b
 | [],b,Z,_,_=>by simpa using Z.nil_eq
 |x::a,[],Z,_,_=>by have:=Z.length_eq;simp at this
 |x::a,y::b,Z,B,hb=>by
  have J:=wu.mp B;have O:=wu.mp hb;have U:x=y:=by
   have h1:LeT y x:=by
    have:x∈y::b:=Z.mem_iff.mp (.head _);rcases cz.mp this with rfl|h
    ·unfold LeT;(show .inr #[(qQ (.ie .A .A) .n),(.inr #[(qQ (.ie .A .A) .n),(qQ (.ik .A .A) .f)])])
    ·show O.1 x h
   have h2:LeT x y:=by
    have:y∈x::a:=Z.mem_iff.mpr (.head _);rcases cz.mp this with rfl|h
    ·unfold LeT;(show .inr #[(qQ (.ie .A .A) .n),(.inr #[(qQ (.ie .A .A) .n),(qQ (.ik .A .A) .f)])])
    ·show J.1 y h
   show h2.VG h1
  subst U;rw[iM (Z.cons_inv) J.2 O.2]
def iP (ts:List (Int×Int×Int)):(ts.mergeSort leT).Pairwise LeT:=by
 have h:=List.pairwise_mergeSort (le:=leT) (λa b c O U=>(yh a c).mpr (((yh a b).mp O).trans ((yh b c).mp U))) (λa b=>by
  rcases LeT.total a b with h|h
  ·rw[(yh a b).mpr h];rfl
  ·rw[(yh b a).mpr h];simp) ts
 show h.imp λZ=>(yh _ _).mp Z
abbrev pG (ts:List (Int×Int×Int))(i j:Nat):Bool:=rt (tl (ts.getD i (0,0,0))) (tl (ts.getD j (0,0,0)))
def eC {i j:Nat}:pG ts j i=false↔LeT (ts.getD i (0,0,0)) (ts.getD j (0,0,0)):=by
 rw[<- yh,CB];unfold pG;cases rt (tl (ts.getD j (0,0,0))) (tl (ts.getD i (0,0,0)))<;>simp
def N4 (ts:List (Int×Int×Int)):l0 (pG ts) where
 asym:=λa b h=>by
  rw[eC];have U:¬LeT (ts.getD b (0,0,0)) (ts.getD a (0,0,0)):=λhl=>by rw[<- eC]at hl;rw[h]at hl;cases hl
  rcases LeT.total (ts.getD a (0,0,0)) (ts.getD b (0,0,0)) with Z|Z
  ·show Z
  ·show absurd Z U
 tr:=λa b c U Z=>by
  rw[eC]at *;show U.trans Z
def wO {p:Array Nat}(J:wd ts.length p)(hu:jM (pG ts) p ts.length):p.toList.map (λi=>ts.getD i (0,0,0))=ts.mergeSort leT:=by
 apply iM ?_ ?_ (iP ts)
 ·have Z:(p.toList.map λi=>ts.getD i (0,0,0)).Perm ((List.range ts.length).map λi=>ts.getD i (0,0,0)):=(gO.mp J.perm).map _;have h2:((List.range ts.length).map λi=>ts.getD i (0,0,0))=ts:=by
   apply List.ext_getElem ?_ ?_
   ·simp
   ·intro i Z h2;simp at Z;simp[List.getD,Z]
  rw[h2]at Z;show Z.trans (List.mergeSort_perm ts leT).symm
 ·rw[uv];intro i j hi U O;simp only[av,iz]at hi U;have hs:=J.size;have:=hu i j O (fk .B .b .I (.e .C .B) U hs);rw[eC]at this;simp only[at0,Array.getD,hi,U,dite_true]at this;simpa using this
abbrev Mts (C:Addr)(h:Heap):List (Int×Int×Int)->List Value->Prop
 | []=>λvs=>vs=[]
 |t::ts=>λvs=>∃x dd ws n us,vs=.ref x::us/\h.get? x=some (dD C dd ws n)/\IntsAre ws (tl t)/\Mts C h ts us
def Mts.length:{ts:List (Int×Int×Int)}->{vs:List Value}->Mts C h ts vs->ts.length=vs.length
 | []=>λe=>e▸rfl
 |_::_=>λZ=>by have#[_,_,_,_,_,e,_,_,r]:=Z;show e▸bz (·+1) r.length
def Mts.at {vs:List Value}(m:Mts C h ts vs)(i:Nat)(Z:i<ts.length):∃x dd ws n,vs.getD i Value.none=.ref x/\h.get? x=some (dD C dd ws n)/\IntsAre ws (tl (ts.getD i (0,0,0))):=by
 induction ts generalizing vs i with
 |nil=>show absurd Z (wj i)
 |cons t ts U =>
  have#[x,dd,ws,n,us,e,g,q,r]:=m;subst e;cases i with
  |zero=>refine#[x,dd,ws,n,rfl,g,q]
  |succ i=>show U r i (Nat.lt_of_succ_lt_succ Z)
def Mts.mono {h':Heap}(hk:gy h h'):{ts:List (Int×Int×Int)}->{vs:List Value}->Mts C h ts vs->Mts C h' ts vs
 | []=>λe=>e
 |_::_=>λZ=>by have#[x,dd,ws,n,us,e,g,q,r]:=Z;apply#[x,dd,ws,n,us,e,hk _ _ g (.inl #[λq=>(nomatch q),_,_,rfl]),q,r.mono hk]
def Mts.of {G:Stc}:{ts:List (Int×Int×Int)}->{vs:List Value}->VRs G h (ts.map mtV) vs->Mts G.cM h ts vs
 | []=>λe=>e
 |t::_=>λZ=>by have#[_,us,e,#[a,ws,n,dd,U,g,r],rest]:=Z;apply#[a,dd,ws,n,us,U▸e,g,zc (ns:=tl t) r,Mts.of rest]
def Mts.vr {G:Stc}:{ts:List (Int×Int×Int)}->{vs:List Value}->Mts G.cM h ts vs->VRs G h (ts.map mtV) vs
 | []=>λe=>e
 |t::_=>λZ=>by have#[x,_,_,_,us,e,g,q,r]:=Z;apply#[.ref x,us,e,.mt g (VRs.ints (ns:=tl t) q),r.vr]
def Mts.pick {vs:List Value}(m:Mts C h ts vs):(l:List Nat)->(∀i∈l,i<ts.length)->Mts C h (l.map λi=>ts.getD i (0,0,0)) (l.map λi=>vs.getD i Value.none)
 | []=>λ_=>rfl
 |i::l=>λhl=>by
  have#[x,dd,ws,n,e,g,U]:=m.at i (hl i (.head _));apply#[x,dd,ws,n,l.map λi=>vs.getD i Value.none,bz (·::_) e,g,U,m.pick l λj Z=>hl j (.tail _ Z)]
section
variable {G:Stc}{A:Around}{E:QqV}{s:Shared}{σ:St}
def xK (K:td G){a:Addr}{vs:List Value}{n:Nat}{P:Fin->Shared->Prop}(hu:A.units<cLine)(aa:∀b o,G.hb.get? b=some o->s.heap.get? b=some o)(bn:G.hb.get? a=none)(ho:IsL s.heap a vs.toArray n)(m:Mts G.cM s.heap ts vs)(O:ts.length<64)
  (h:∀h' bb k,At a s.heap h'->IsL h' a bb.toArray k->Mts G.cM s.heap (ts.mergeSort leT) bb->P (.done (.ret .none)) {s with heap:=h'}):wpAny G.M A (Builtin.«list.sort» #[[.ref a],[]]) P E s:=by
 have#[N,mN,nm,q,k0,k2,k3,hC,hN,hi,ca,_]:=K.here;have Z:=m.length;have ha:a<s.heap.objs.size:=fj ho;have s1:=gr s.heap a (Obj.mapSeq λ_=>(#v[]:Array Value));have ag:s.heap.get? a=some (seqObj "list" vs.toArray n):=ho;have#[e1,ar]:∃e1,(s.heap.update a (Obj.mapSeq λ_=>(#v[]:Array Value))).get? a=some (seqObj "list" #v[] e1):=#[_,get?_update_seq ag λ_=>#v[]];rw[list_sort_plain];apply af (listItems_at ag rfl ?_);apply af (listUpdate_at ag rfl ?_ (by rw[cy,sizeLine_eq];(show gz .b8 .c .aM .bK O Z)) (bh _));apply af (seqEpoch_at ar rfl ?_);apply af (wpAny_newTuple ?_ (by show vs.length<=_;rw[sizeLine_eq];(show gz .b8 .c .aM .bK O Z)));apply af (wpAny_newList ?_ (bh _));apply cg ?_;show wpAny G.M A _ P E {s with heap:=((s.heap.update a (Obj.mapSeq λ_=>(#v[]:Array Value))).push (seqObj "tuple" vs.toArray 0)).push (seqObj "list" #v[] 0)};dsimp only;have other:∀b o,b≠a->s.heap.get? b=some o->(((s.heap.update a (Obj.mapSeq λ_=>(#v[]:Array Value))).push (seqObj "tuple" vs.toArray 0)).push (seqObj "list" #v[] 0)).get? b=some o:=λb o hb e =>
  aw _ (aw _ (by rw[s1.2 b hb];show e))
 have J:(((s.heap.update a (Obj.mapSeq λ_=>(#v[]:Array Value))).push (seqObj "tuple" vs.toArray 0)).push (seqObj "list" #v[] 0)).get? a=some (seqObj "list" #v[] e1):=aw _ (aw _ ar);generalize hH:((s.heap.update a (Obj.mapSeq λ_=>(#v[]:Array Value))).push (seqObj "tuple" vs.toArray 0)).push (seqObj "list" #v[] 0)=H at *;have frz:gy s.heap H:=λb o e f=>other b o (λq=>by subst q;rw[show s.heap.get? b=_ from ho]at e;cases e;show yz rfl rfl f) e;have mH:=m.mono frz;have cd:H.get? G.cM=some (iI G.cM N nm q k0 k2 k3):=other _ _ (λq=>by subst q;rw[bn]at hC;cases hC) (aa _ _ hC);have cc:H.Ns N mN:=by
  have#[o,es,ep,ao,r]:=hN;apply#[o,es,ep,other _ _ (λq=>by subst q;rw[bn]at ao;cases ao) (aa _ _ ao),r]
 have fin:∀(out:List Value) (hz:out.length<64),Mts G.cM s.heap (ts.mergeSort leT) out->P (.done (.ret .none)) {s with heap:=H.update a (Obj.mapSeq λ_=>out.toArray)}:=λout hz mo=>by
  have#[c2,bl]:∃c2,(H.update a (Obj.mapSeq λ_=>out.toArray)).get? a=some (seqObj "list" out.toArray c2):=#[_,get?_update_seq J λ_=>out.toArray];have s2:=gr H a (Obj.mapSeq λ_=>out.toArray);show h _ out c2 #[λb o hb e=>by rw[s2.2 b hb];show other b o hb e,#[_,bl],λo e=>by have rfl:=ak (e.symm.trans ho);show yz rfl rfl] bl mo
 by_cases h2:vs.toArray.size<2
 ·rw[bx h2,bx h2];apply af (ah ?_);rw[StateT.run_pure];apply af (ah ?_);dsimp only;have e:(arrOf (SortSt.mk' general' (vs.toArray.zip vs.toArray) #v[] 7 none)).map (·.2)=vs.toArray:=by
   show(vs.toArray.zip vs.toArray).map (·.2)=vs.toArray;have e0:vs.toArray.zip vs.toArray=(vs.zip vs).toArray:=by simp
   rw[e0,List.map_toArray,List.map_snd_zip (az _)]
  rw[e];apply af (seqEpoch_at J rfl ?_);apply af (listUpdate_at J rfl ?_ (bh _) (by rw[cy,sizeLine_eq];(show gz (.k .A (.a (.n 16777216) .U)) .c .aM .bK O Z)));simp only[yn,dt,kh];apply ah (fin vs (gz .bG .c .aM .bK O Z) ?_);have:ts.mergeSort leT=ts:=by
   simp only[cy]at h2;cases ts with
   |nil=>simp
   |cons t r =>
    cases r with
    |nil=>simp
    |cons u r=>simp at Z;(show False.elim (gz .ff .d (.l .A .W) (.e (.a .M .U) .A) h2 Z))
  rw[this];show m
 ·rw[ay h2,ay h2];simp only[cy]at h2;apply af (kas_kind (T:=.ref G.cM) (ef (.k .W .A) .a (.g .A .W) h2) (λv hv=>?_) (by rfl) (by simp) ?_)
  ·clear h other hH ar ag;have#[i,hi,rfl]:=iv.mp hv;have#[x,dd,ws,k,e,g,_]:=mH.at i (fk .B .t (.e .B .C) .I Z hi);have e':vs[i]=.ref x:=by rw[<- e];simp[List.getD,hi]
   rw[e'];intro A Q E s' hk hq;unfold typeOf;apply af (lC (hk _ _ g) ?_);show ah hq
  have run:=CN (n:=ts.length) (lt:=pG ts) (cmp:=kas_ask G.prog G.w A oneType' vs) (s:={s with heap:=H}) (Q:=λp s'=>s'={s with heap:=H}/\wd ts.length p/\jM (pG ts) p ts.length) (t:=kas_sort vs.length) (λi j C hi hj hc=>by
   have#[x,dd,ws,k,e,g,hx]:=mH.at i hi;have#[y,de,us,k',e',g',hy]:=mH.at j hj;unfold kas_ask;rw[e,e'];show N0 hu cd cc ca g g' hx hy rfl hc) (by rw[<- Z];show ki (λq hq=>#[rfl,hq.1,hq.2]) (DG (N4 ts) (gz .F .t .C (.g .B .W) Z h2)))
  apply af (bg (kat_run (ks:=vs) (vs:=vs) (Q:=λab s'=>s'={s with heap:=H}/\∃p:Array Nat,arrOf ab=p.map (kas_item (vs.toArray.zip vs.toArray))/\failedOf ab=none/\wd ts.length p/\jM (pG ts) p ts.length)
   rfl (ef (.k .W .A) .a (.g .A .W) h2) (gz .bG .c .aM .bK O Z) (λp ab s' a1 a2 a3 a4=>#[a4.1,p,a2,a3,a4.2.1,a4.2.2]) run) ?_ λ_ _ e=>e)
  rintro ⟨⟨⟩,ab⟩ s' ⟨rfl,p,cb,hf,ai,bu⟩;dsimp only;have bd:=kat_snds rfl cb;rw[bd];have bv:=ai.size;have be:(p.toList.map λi=>vs.getD i Value.none).length<64:=by rw[av,iz];(show gz .bG .b .aM .C O bv)
  apply af (seqEpoch_at J rfl ?_);apply af (listUpdate_at J rfl ?_ (bh _) (by rw[cy,sizeLine_eq];(show ef (.k .A (.a (.n 16777216) .U)) .a .bG be)));rw[hf];simp only[yn,dt,kh];apply ah (fin _ be ?_);rw[<- wO ai bu];apply m.pick p.toList λi hi=>?_;have:=(gO.mp ai.perm).mem_iff.mp hi;simpa using this
def G9 {C:Cal}{sc:Scope}{d:Nat}{a:Ex}{o:Expr}{apos pos:Pos}(K:td G)(ha:dw G C sc d a o)(hb:lu o=true)(J:(apos.endLine==pos.line)=true) :
  dw G C sc d (.bm .sort a .nil) (.Call (.Attribute o "sort" apos) [] [] pos):=λA E env ρ σ Q s c h =>
 mr hb rfl (by decide) J (nr (ha c h) λv σ₁ s₁ w q vr r x pl =>
  sO (k:=.sort) r vr q.1 (pe rfl km (c.go r x) q.2 λvs σ₂ s₂ ws aa ai r₂ U=>by
   have O:=vr.mono U.frz;have#[b,rfl,Z]:=e9 (v:=v) aa;have#[rfl,ts,e,ab,Z]:=C5 (vs:=vs) Z;have rfl:=ai;have rfl:=O;have#[us,n,hl,hv]:=r₂.L _ _ e;have ar:=r₂.new b (.inl (by rw[e];rfl));apply gj PySem.F.slot_list_sort #[_,hl,rfl] PyProof.Rows.entry_list_sort (xK K (by have:=c.ao.units;show A.units+1<_;(show ek .a1 .a (.l (.a (.a .A (.m 30 .C)) .aC) .B) this)) r₂.base ar hl (Mts.of hv) ab λh' bd k ag bb m'=>#[_,rfl,?_]) (PyProof.Rows.args_list_sort _);have hz:((ts.mergeSort leT).map mtV).length<=bq:=by
    have:=(List.mergeSort_perm ts leT).length_eq;rw[av,this];unfold bq;(show ef .bQ .a .bG ab)
   have R':=r₂.putL ag (λq=>by rw[e]at q;cases q) bb m'.vr hz;apply#[.none,_,Z,.none,R',x.trans (U.to (Evo.putL ag (λq=>by rw[e]at q;cases q) _))]))
end
structure qa (G:Stc)(fN fM:Addr):Prop where
 made:Looks G.M G.hb (Bind.madeBy (.ref G.cM)) none
 here:Looks G.M G.hb (Bind.madeHere "tuple.__new__" (.ref G.cM)) ()
 chk:∀x,Looks G.M G.hb (checkBuiltinCall "tuple.__new__" #[[.ref G.cM,x],[]]) ()
 mro:Looks G.M G.hb (mroOf (.ref G.cM)) [.ref G.cM,.type "tuple",.type "object"]
 self:Looks G.M G.hb (isSubtype (.ref G.cM) (.ref G.cM)) true
 tup:Looks G.M G.hb (isSubtype (.ref G.cM) (.type "tuple")) true
 init:Looks G.M G.hb (typeLookup (.ref G.cM) "__init__") (some (.builtin "object.__init__"))
 call:Looks G.M G.hb (specialOf (.ref G.cM) "__call__") (some (.builtin "type.__call__"))
 typ:Looks G.M G.hb (isInstance (.ref G.cM) (.type "type")) true
 isT:Looks G.M G.hb (isType (.ref G.cM)) true
 del:Looks G.M G.hb (classHasDel G.cM) false
 new:∀(A:Around) (E:QqV) (s:Shared) (Q:QqV),(∀b o,G.hb.get? b=some o->s.heap.get? b=some o)->Q (.ref fN) {s with toks:=s.toks+1}->wpAny G.M A (getAttr (.ref G.cM) "__new__") Q E s
 make:∀(A:Around) (E:QqV) (s:Shared) (expr:Bool) (Q:QqV),(∀b o,G.hb.get? b=some o->s.heap.get? b=some o)->Q (.ref s.heap.objs.size) {s with heap:=s.heap.push {cls:=.type "method",data:=.fields #v[.ref fM,.ref G.cM]},toks:=s.toks+1}->wpAny G.M A (getAttr (.ref G.cM) "_make" expr) Q E s
 typNew:∀(A:Around) (E:QqV) (s:Shared) (expr:Bool) (Q:QqV),Q (.builtin "tuple.__new__") {s with toks:=s.toks+1}->wpAny G.M A (getAttr (.type "tuple") "__new__" expr) Q E s
def zJ:plainId "tuple.__new__"=true:=by decide +kernel
def AE:entryFor table "tuple.__new__"=some Builtin.«tuple.__new__»:=fB (by kernel_rfl)
section
variable {G:Stc}{A:Around}{E:QqV}{s:Shared}{fN fM:Addr}
public abbrev eN (G:Stc)(h:Heap):Prop:=∀b o,G.hb.get? b=some o->h.get? b=some o
def DD (K:qa G fN fM){x:Addr}{ws:List Value}{n:Nat}{Q:QqV}(hb:eN G s.heap)(O:IsT s.heap x ws.toArray n)(hz:ws.length<=bq)
  (h:∀h' y dd,(∀b o,s.heap.get? b=some o->h'.get? b=some o)->s.heap.get? y=none->h'.get? y=some (dD G.cM dd ws 0)->Q (.ref y) {s with heap:=h'}) :
  wpAny G.M A (call (.builtin "tuple.__new__") [.ref G.cM,.ref x]) Q E s:=by
 apply nh (gG zJ AE ((K.chk (.ref x)) _ _ _ _ hb ?_));unfold Builtin.«tuple.__new__»;dsimp only;apply af (K.isT _ _ _ _ hb ?_);simp -iota only[wg,dt,kh];apply af (K.tup _ _ _ _ hb ?_);simp -iota only[wg,dt,kh];apply af (K.here _ _ _ _ hb ?_);apply af (K.init _ _ _ _ hb ?_);rw[bx (by decide)];have U:ws.toArray.size<=sizeLine:=by rw[cy];show qi hz
 apply af (ec (a:=()) rfl ?_);apply af (ec (a:=()) rfl ?_);apply af ?_;apply wpAny_collect_seq x (.inr rfl) O rfl rfl (λh₁ Z=>af (ah ?_)) U;apply af (wpAny_alloc ?_);unfold newObj newObjAsIs;dsimp only;rw[ay (by simp only[cy]at U ⊢;(show bt .cX .a .V U))];apply af (af (wpAny_alloc ?_));have hk:∀b o,s.heap.get? b=some o->((h₁.push {cls:=.type "dict",data:=.dict #v[]}).push (dD G.cM (some h₁.objs.size) ws 0)).get? b=some o:=λb o e=>aw _ (aw _ (Z b o e));have e:ws.toArray.toList.toArray=ws.toArray:=by simp
 apply af (K.del _ _ _ _ (λb o e=>hk b o (hb b o e)) ?_);simp -iota only[dt,kh];apply ah (ah ?_);have e2:(h₁.push {cls:=.type "dict",data:=.dict #v[]}).objs.size=h₁.objs.size+1:=gb ..;show Q (.ref (h₁.push {cls:=.type "dict",data:=.dict #v[]}).objs.size) _;apply h _ _ (some h₁.objs.size) hk ?_ (cf _ rfl);rw[e2];cases hq:s.heap.get? (h₁.objs.size+1) with
 |none=>rfl
 |some o=>show absurd (fj (Z _ _ hq)) (rz.mpr (xj _))
abbrev uI (p0 p1 p2 p3 p4 p5 p6 p7 p8 p9 p10:Pos)(doc:Str)(c0 c1:Nat):List Stmt:=
 [.Expr (.Constant (.str doc) c0 p0) p1,.Return (some (.Call (.Attribute (.Name "tuple" p2) "__new__" p3) [.Name "_cls" p4,.Tuple [.Name "a" p5,.Name "b" p6,.Name "size" p7] c1 p8] [] p9)) p10]
abbrev cO (more:List (Str×Const)):Scope:=
 {kind:=.function,names:=[("_cls",.local),("a",.local),("b",.local),("size",.local),("tuple",.globalImplicit)],isGenerator:=false,isCoroutine:=false,more:=more}
def u6 {C:Cal}{sc:Scope}{d:Nat}{x:Str}{k:Nat}{p pos:Pos}:yr G C sc d .pass (.Expr (.Constant (.str x) k p) pos):=λA E env ρ σ K s c h =>
 wpAny_Expr (by
  show wpAny _ _ (mkText x) _ _ s;apply wpAny_mkText ?_;show qt.here .next h c.F c.R) (by unfold interactive;rw[c.eo.kind];rfl) (fH rfl _ _ _)
def EM (K:qa G fN fM){pl:Sem Bool}{Q:Value×List Value->Shared->Prop}(h:Q (.builtin "tuple.__new__",[]) {s with toks:=s.toks+1}):wpAny G.M A (getMethod (.type "tuple") "__new__" pl) Q E s:=by
 unfold getMethod specialOf;have Z:typeOf (.type "tuple")=pure (.type "type"):=by first|rfl|kernel_rfl
 apply af (af (ec Z (ec KF.slot_tga.lookup ?_)));dsimp only;rw[bx canon_tga];show af (K.typNew _ _ _ _ _ (ah h))
variable {σ:St}
def t9 {C:Cal}{sc:Scope}{d:Nat}{env:Env}{ρ:Fr}{c e:Ex}{xc B:Expr}{p apos pos:Pos}{vs:List V}{τ:St->Prop}{Q:QqV}(Kg:GOk G)(K:qa G fN fM)(hc:dw G C sc d c xc)(he:dw G C sc d e B)(Z:noStar [xc,B]=true)(U:(apos.endLine==pos.line)=true)
  (hx:sc.names.lookup ("tuple":Str)=some .globalImplicit) (hg:G.gl "tuple"=some (.type "tuple")) (z:Cx G sc d A env ρ σ s)
  (hw:wpE C c ρ σ λv σ'=>wpE C e ρ σ' λu O=>v=.obj G.cM/\u=.T vs/\vs.length<=bq/\τ O)
  (k:∀σ₁ s₁ y,τ σ₁->VR G s₁.heap (.mt vs) (.ref y)->Rel G σ₁ s₁.heap->Go [] σ s σ₁ s₁->Q (.ref y) s₁) :
  wpAny G.M A (eval (.Call (.Attribute (.Name "tuple" p) "__new__" apos) [xc,B] [] pos) env) Q E s:=by
 apply mr rfl Z (by simp) U (kr Kg z.eo z.R (by rw[z.es];show hx) (by decide) hg λpl=>?_);apply EM K ?_;have aa:ou G C sc d %[c,e|0] [xc,B]:=jc hc (jc he km (fb (fb Z).2).1) (fb Z).1;apply pe (P:=λus σ=>on2 us λv u=>v=.obj G.cM/\u=.T vs/\vs.length<=bq/\τ σ) Z aa (z.at (s₁:={s with toks:=s.toks+1}) z.F z.R) hw λus σ₁ s₁ ws q vr r J=>?_;have#[v,u,rfl,rfl,rfl,hz,q]:=oT (vs:=us) q;have#[w1,w2,rfl,rfl,a,us,n,rfl,g,rr]:=vr.two;apply DD K r.base g (by rw[<- rr.length];show hz) λh' y dd hk hy hm=>?_;show k σ₁ _ y q (.mt hm (rr.mono λb o e _=>hk b o e)) (r.keeps hk) ((Go.refl.tok.trans J).to (Evo.keeps hk))
def dH {n:Nat}{dflt:List V}{b:jo}{vs:List V}{i:Nat}{v:V}(h:vs[i]?=some v):frameOf #[n,dflt,b] vs i=some v:=by
 unfold frameOf fT;rw[uw (bw.mp h).1];show h
def rZ {d:Nat}{p0 p1 p2 p3 p4 p5 p6 p7 p8 p9 O:Pos}{doc:Str}{c0 c1:Nat}{more:List (Str×Const)}{x y z:V}{wx wy wz:Value}{Q:V->St->Prop}(Kg:GOk G)(K:qa G fN fM)(Kf:FnAt G fN 4 [] (cO more) (uI p0 p1 p2 p3 p4 p5 p6 p7 p8 p9 O doc c0 c1))(U:(p3.endLine==p9.line)=true)(hg:G.gl "tuple"=some (.type "tuple"))
  (ao:AOk A (d+1)) (R:Rel G σ s.heap) (vx:VR G s.heap x wx) (vy:VR G s.heap y wy) (vz:VR G s.heap z wz) (h:Q (.mt [x,y,z]) σ):wpAny G.M A (call (.ref fN) [.ref G.cM,wx,wy,wz]) (jl G [] σ s Q) E s:=by
 apply tL (b:=.nil) (vs:=[.obj G.cM,x,y,z]) (d:=d) Kf (λA' E' env s' c=>?_) ao R %[.obj _,vx,vy,vz|0] (by simp) (by simp);have C0:Cal:=λ_ _ _ _=>False;have l:∀(i:Nat) (nm:Str) (p:Pos),(cO more).names[i]?=some (nm,.local)->jg nm=true->dw G C0 (cO more) d (.l i) (.Name nm p):=λi nm p hi hn=>nU hi rfl hn;apply mj (bg (u6 (C:=C0) (K:=λfl ρ' σ'=>fl=.next/\ρ'=frameOf #[4,[],.nil] [.obj G.cM,x,y,z]/\σ'=σ) c #[rfl,rfl,rfl]) (λf aa lf=>?_) λ_ _ x=>x);have#[fl,ρ',σ',fr,#[rfl,rfl,J],B,R2,x2]:=lf;rw[J]at B R2 x2;cases fr;apply mj (nG ?_);have ht:dw G C0 (cO more) d (.T %[.l 1,.l 2,.l 3|0]) (.Tuple [.Name "a" p5,.Name "b" p6,.Name "size" p7] c1 p8):=
  BL (jc (l 1 _ _ rfl (by decide)) (jc (l 2 _ _ rfl (by decide)) (jc (l 3 _ _ rfl (by decide)) km λ_=>rfl) λ_=>rfl) λ_=>rfl)
 apply t9 (vs:=[x,y,z]) (τ:=λσ'=>σ'=σ) Kg K (l 0 _ _ rfl (by decide)) ht rfl U rfl hg (c.at B R2) ?_ λσ₁ s₁ yy q vr r Z=>?_
 ·apply#[.obj G.cM,dH rfl,x,dH rfl,y,dH rfl,z,dH rfl,bc rfl,rfl,rfl,bc rfl,rfl]
 ·rw[q]at r Z;apply#[.ret (.mt [x,y,z]),_,σ,.ret vr,h,B.evo Z.e,r,x2.trans Z.wide]
end
variable {y:Addr}{dd:Option Addr}{ws:List Value}{n:Nat}
def oX:Slot "object" "__init__" "object.__init__":=
 Slot.of (owner:="object") (n:="__init__") (by rw[ew,dh];kernel_rfl) (by decide +kernel) (by decide +kernel) (by decide +kernel) (.inl (by decide +kernel)) (by rw[jm];kernel_rfl)
def xD:entryFor table "object.__init__"=some Builtin.«object.__init__»:=fB (by kernel_rfl)
def zN:builtinKind "object.__init__"=some .slot:=by kernel_rfl
def xC:splitId "object.__init__"=some ("object","__init__"):=by kernel_rfl
def zO (a:Value)(rest:List Value):argsOk "object.__init__" #[a::rest,[]]:=by unfold argsOk;kernel_rfl
section
variable {G:Stc}{A:Around}{E:QqV}{s:Shared}{fN fM:Addr}{σ:St}
def pI (K:qa G fN fM){h:Heap}{base:Value}{r:Bool}(hb:eN G h)(Z:h.get? y=some (dD G.cM dd ws n))(U:Looks G.M G.hb (isSubtype (.ref G.cM) base) r):Looks G.M h (isInstance (.ref y) base) r:=λA Q E s hk O=>by
 unfold isInstance typeOf;apply af (af (lC (hk _ _ Z) (ah ?_)));show U _ _ _ _ (λb o e=>hk _ _ (hb _ _ e)) O
def EK (K:qa G fN fM){rest:List Value}{P:Fin->Shared->Prop}(hb:eN G s.heap)(J:s.heap.get? y=some (dD G.cM dd ws n))(O:P (.done (.ret .none)) s) :
  wpAny G.M A (Builtin.«object.__init__» #[.ref y::rest,[]]) P E s:=by
 have U:∀{R:QqV},R (.ref G.cM) s->wpAny G.M A (typeOf (.ref y)) R E s:=λ{R} Z=>by
  unfold typeOf;show af (lC J (ah Z))
 unfold Builtin.«object.__init__»;dsimp only;by_cases Z:(!rest.isEmpty||!([]:List (Str×Value)).isEmpty)=true
 ·rw[bx Z];apply af (U (af (K.init _ _ _ _ hb (af (K.made _ _ _ _ hb ?_)))));have e1:(some (Value.builtin "object.__init__") != some (Value.builtin "object.__init__"))=false:=yn _;have e2:((none:Option String) != some "object.__new__")=true:=rfl;rw[e1,e2];show ah O
 ·rw[ay Z];show ah O
def EL (K:qa G fN fM)(Z:Looks G.M G.hb (isSubtype (.ref G.cM) (.type "object")) true){n:Nat}{rest:List Value}{Q:QqV}(hb:eN G s.heap)(U:s.heap.get? y=some (dD G.cM dd ws n))(J:Q .none s) :
  wpAny G.M A (call (.builtin "object.__init__") (.ref y::rest)) Q E s:=by
 have B:∀(A:Around) (E:QqV) (R:Unit->Shared->Prop),R () s->wpAny G.M A (checkBuiltinCall "object.__init__" #[.ref y::rest,[]]) R E s:=λA E R O =>
  check_slot (M:=G.M) (i:="object.__init__") (owner:="object") (n:="__init__") (self:=.ref y) (rest:=rest) (kw:=[]) zN xC (pI K hb U Z) (zO (.ref y) rest) O
 apply nh ?_;apply gG (id:="object.__init__") (b:=Builtin.«object.__init__») oX.plain xD ?_;apply B _ _ _ ?_;show EK K hb U J
def u4 (K:qa G fN fM)(Z:Looks G.M G.hb (isSubtype (.ref G.cM) (.type "object")) true){rest:List Value}{Q:Option Value->Shared->Prop}(hb:eN G s.heap)(B:s.heap.get? y=some (dD G.cM dd ws n))(hq:Q (some .none) s) :
  wpAny G.M A (callSpecial? (.ref y) "__init__" rest []) Q E s:=by
 have U:∀{R:QqV},R (.ref G.cM) s->wpAny G.M A (typeOf (.ref y)) R E s:=λ{R} J=>by
  unfold typeOf;show af (lC B (ah J))
 have O:∀{R:Option Value->Shared->Prop},R (some (.builtin "object.__init__")) s->wpAny G.M A (specialOf (.ref y) "__init__") R E s:=λ{R} J=>by
  unfold specialOf;show af (U (K.init _ _ _ _ hb J))
 unfold callSpecial?;apply af (O ?_);dsimp only;apply cg ?_;apply af (ec (oX.bind (.ref y)) ?_);apply af ?_;show EL K Z hb B (ah hq)
structure tP (G:Stc)(fN:Addr):Prop where
 fn:∃p0 p1 p2 p3 p4 p5 p6 p7 p8 p9 p10 doc c0 c1 more,FnAt G fN 4 [] (cO more) (uI p0 p1 p2 p3 p4 p5 p6 p7 p8 p9 p10 doc c0 c1)/\(p3.endLine==p9.line)=true
 tup:G.gl "tuple"=some (.type "tuple")
 obj:Looks G.M G.hb (isSubtype (.ref G.cM) (.type "object")) true
def o7 {d:Nat}{x y z:V}{wx wy B:Value}{Q:V->St->Prop}{P:Fin->Shared->Prop}(Kg:GOk G)(K:qa G fN fM)(J:tP G fN)(ao:AOk A (d+1))(R:Rel G σ s.heap)(vx:VR G s.heap x wx)(vy:VR G s.heap y wy)(vz:VR G s.heap z B)(h:Q (.mt [x,y,z]) σ)
  (hP:∀w s',jl G [] σ s Q w s'->P (.done (.ret w)) s'):wpAny G.M A (Builtin.«type.__call__» #[[.ref G.cM,wx,wy,B],[]]) P E s:=by
 have#[p0,p1,p2,p3,p4,p5,p6,p7,p8,p9,aa,doc,c0,c1,more,Kf,Z]:=J.fn;have hb:eN G s.heap:=R.base;unfold Builtin.«type.__call__»;dsimp only;rw[ay (show ¬((Value.ref G.cM==Value.type "type")=true) from sf)];apply af (K.mro _ _ _ _ hb ?_);rw[ay (by simp)];apply af (K.made _ _ _ _ hb ?_);dsimp only;apply af (K.new _ _ _ _ hb ?_);apply af (cg ?_);apply bg (rZ (Q:=λv σ'=>v=.mt [x,y,z]/\σ'=σ) Kg K Kf Z J.tup ao R vx vy vz #[rfl,rfl]) (λw s' l=>?_) λ_ _ e=>e;have#[v,σ',#[rfl,O],vr,r,x']:=l;rw[O]at r x';have#[yy,ws,n,dd,rfl,g,rr]:=vr;have U:eN G s'.heap:=r.base;apply af ((pI K U g K.self) _ _ _ s' (λ_ _ e=>e) ?_);simp only[wg,dt,kh];apply af (cg (u4 K J.obj U g ?_));simp only[yn,dt,kh];show ah (hP _ _ #[_,σ,h,.mt g rr,r,Go.refl.tok.trans x'])
def AP {d:Nat}{x y z:V}{O U Z:Value}{Q:V->St->Prop}(Kg:GOk G)(K:qa G fN fM)(Kn:tP G fN)(Km:td G)(ao:AOk A (d+2))(R:Rel G σ s.heap)(vx:VR G s.heap x O)(vy:VR G s.heap y U)(B:VR G s.heap z Z)(h:Q (.mt [x,y,z]) σ) :
  wpAny G.M A (call (.ref G.cM) [O,U,Z]) (jl G [] σ s Q) E s:=by
 have#[N,mN,nm,q,k0,k2,k3,hC,hN,_]:=Km.here;have J:=R.base _ _ hC;apply nh (ue ?_);show wpAny _ A.in1 (callAny (.ref G.cM) #[[O,U,Z],[]]) _ _ s;unfold callAny;apply af (we J ?_);show wpAny _ _ (callAny.viaDunder (.ref G.cM) #[[O,U,Z],[]]) _ _ s;unfold callAny.viaDunder;apply af (K.call _ _ _ _ R.base ?_);dsimp only;apply af (ec (tc_bind (.ref G.cM)) ?_);dsimp only;apply af (ec (a:=true) (by rfl) ?_);rw[bx rfl];apply ah #[rfl,?_];apply codeAny_call_builtin_at (lI _ (by decide +kernel)) entry_typeCall ?_;apply check_slot (M:=G.M) (i:="type.__call__") (owner:="type") (n:="__call__") tc_kind tc_split (K.typ.keeps R.base) (tc_args _ _ _) ?_;apply o7 (d:=d) Kg K Kn (ao.make _ _) R vx vy B h λw s' l=>?_;show l
end
end MP
end
section
namespace MP
open PySem PyProof.Rows PySem.W
section
variable {G:Stc}{A:Around}{E:QqV}{s:Shared}{fN fM:Addr}{σ:St}
def qM (K:qa G fN fM)(B:td G){pos:Pos}{args:List (Bool×Sem Value)}{Q:QqV}(Z:args.any (·.1)=false)
  (h:wpAny G.M A (evalArgs (.ref G.cM) true args []) (λx s₁=>eN G s₁.heap/\wpAny G.M A (call (.ref G.cM) x.pos x.kw) Q E s₁) E s):wpAny G.M A (callWith pos (.ref G.cM) [] args []) Q E s:=by
 have#[N,mN,nm,q,k0,k2,k3,J,hN,_]:=B.here;unfold callWith;apply af (cg (bg h (λx s₁ h₁=>af (fw ?_)) λ_ _ x=>x));have#[hb,U]:=h₁;simp -iota only[Z,List.any_nil,jP];apply af (m:=keeperOf (.ref G.cM)) ?_;unfold keeperOf;apply af (we (hb _ _ J) ?_);apply af (K.call _ _ _ _ hb ?_);rw[bx (by decide)];apply ah ?_;show af (bg U (λr s₂ O=>af (cg (wpAny_point (ah O)))) λ_ _ x=>x)
def u5 {C:Cal}{sc:Scope}{d:Nat}{a b c:Ex}{x:Str}{B J O:Expr}{p pos:Pos}(Kg:GOk G)(K:qa G fN fM)(Kn:tP G fN)(Km:td G)(hd:2<=d)(ha:dw G C sc d a B)(hb:dw G C sc d b J)(hc:dw G C sc d c O)(Z:noStar [B,J,O]=true)
  (hx:sc.names.lookup x=some .globalImplicit) (hn:jg x=true) (hv:G.gl x=some (.ref G.cM)):dw G C sc d (.N a b c) (.Call (.Name x p) [B,J,O] [] pos):=λA E env ρ σ Q s z h=>by
 have aa:ou G C sc d %[a,b,c|0] [B,J,O]:=jc ha (jc hb (jc hc km (fb (fb (fb Z).2).2).1) (fb (fb Z).2).1) (fb Z).1;have ab:AOk A (d-2+2):=by rw[ae hd];show z.ao
 apply Call_ (kr Kg z.eo z.R (by rw[z.es];show hx) hn hv (qM K Km (ji Z pos env) (mv (ji Z pos env) (rQ (P:=λvs σ=>on3 vs λx y z=>Q (.mt [x,y,z]) σ) (aa z h) λvs σ₁ s₁ ws q vr r U=>#[r.base,?_]))));have#[u1,u2,u3,rfl,q]:=TU q;have#[w1,w2,w3,rfl,va,vb,vc]:=vr.three;show U.back (AP Kg K Kn Km ab r va vb vc q)
def z8:splitId "tuple.__len__"=some ("tuple","__len__"):=by kernel_rfl
def EH:builtinKind "tuple.__len__"=some .slot:=by kernel_rfl
end
section
variable {prog:Program}{w:World}{A:Around}{E:QqV}{h:Heap}{g:Array GenState}{d:Drawn}{t:Nat}{os:OsState}{C N:Addr}{nm q:Str}{k0 k2 k3:Option Value}{mN:Str->Option Value}{dd:Option Addr}
def U1 {x:Addr}{ws:List Value}{n:Nat}{Q:QqV}(J:h.get? C=some (iI C N nm q k0 k2 k3))(B:h.Ns N mN)(hl:mN "__len__"=none)(O:h.get? x=some (dD C dd ws n))(hz:ws.length<=bq)
  (hQ:∀u tk,Q (.int ws.length u) #[h,g,d,tk,os]):wpAny (model prog w) A (call (.builtin "len") [.ref x]) Q E #[h,g,d,t,os]:=by
 apply Calls.call_function_entry kind_len plain_len entry_len (args_len1 _) ?_;unfold Builtin.«len»;have U:=PySem.F.slot_tuple_len.lookup;have Z:h.get? x=some {cls:=.ref C,dict:=dd,data:=.seq ws.toArray n,slots:=#v[]}:=O;unfold bq at hz
 repeat (first|(with_reducible refine qu Z ?_)|(with_reducible refine xr J B U ?_;rw[hl])|wp_step)
 apply ec (PySem.F.slot_tuple_len.bind (.ref x)) ?_;dsimp only;apply af (zX J O z8 (.inl EH) PySem.F.slot_tuple_len.plain PySem.F.entry_tuple_len (PySem.F.args_tuple_len_1 _) ?_);unfold Builtin.«tuple.__len__»;apply af (ec (a:=(.ref x,[])) (by rfl) ?_);dsimp only;apply af (m:=Builtin.Tuple.tupleItemsOf (.ref x)) (af (mx Z rfl (ah ?_)));apply af (wpAny_mkInt (ah #[_,rfl,ah ?_]));dsimp only;apply af (cg ?_);apply ec (a:=((ws.toArray.size:Nat):Int)) (by rfl) ?_;apply af (wpAny_letGo ?_);rw[ay (by simp),ay (by simp only[cy];(show ef (.ij .P .L) .a .bQ hz))];apply af (wpAny_mkInt (ah #[_,rfl,?_]));simpa using hQ _ _
end
section
variable {G:Stc}{A:Around}{E:QqV}{s:Shared}{fN fM:Addr}{σ:St}
abbrev pE (p:Fin 20->Pos)(doc:Str)(c0 c1:Nat)(rest:List Stmt):List Stmt:=
 [.Expr (.Constant (.str doc) c0 (p 0)) (p 1),.Assign [.Name "result" (p 2)] (.Call (.Attribute (.Name "tuple" (p 3)) "__new__" (p 4)) [.Name "cls" (p 5),.Name "iterable" (p 6)] [] (p 7)) (p 8),
  .If (.Compare (.Call (.Name "len" (p 9)) [.Name "result" (p 10)] [] (p 11)) [.NotEq] [.Constant (.int 3) c1 (p 12)] (p 13)) rest [] (p 14),.Return (some (.Name "result" (p 15))) (p 16)]
abbrev pv (ns:List (Str×NameKind))(more:List (Str×Const)):Scope:=
 {kind:=.function,names:=("cls",.local)::("iterable",.local)::("result",.local)::ns,isGenerator:=false,isCoroutine:=false,more:=more}
def EX {d:Nat}{p:Fin 20->Pos}{doc:Str}{c0 c1:Nat}{rest:List Stmt}{ns:List (Str×NameKind)}{more:List (Str×Const)}{x y z:V}{w:Value}{Q:V->St->Prop}(Kg:GOk G)(K:qa G fN fM)(Km:td G)(Kf:FnAt G fM 2 [] (pv ns more) (pE p doc c0 c1 rest))(J:((p 4).endLine==(p 7).line)=true)(hg:G.gl "tuple"=some (.type "tuple"))(ab:G.gl "len"=some (.builtin "len"))
  (ht:(pv ns more).names.lookup ("tuple":Str)=some .globalImplicit) (hl:(pv ns more).names.lookup ("len":Str)=some .globalImplicit)
  (ao:AOk A (d+1)) (R:Rel G σ s.heap) (vx:VR G s.heap (.T [x,y,z]) w) (h:Q (.mt [x,y,z]) σ):codeAny G.M A (.call (.ref fM) #[[.ref G.cM,w],[]]) (wants (jl G [] σ s Q) E) s:=by
 have#[N,mN,nm,q,k0,k2,k3,hC,hN,_,_,bl,_]:=Km.here;apply tJ (b:=.nil) (vs:=[.obj G.cM,.T [x,y,z]]) (d:=d) Kf (λA' E' env s' c=>?_) ao R %[.obj _,vx|0] (by simp) (by simp);have C0:Cal:=λ_ _ _ _=>False;have l:∀(i:Nat) (nm:Str) (p:Pos),(pv ns more).names[i]?=some (nm,.local)->jg nm=true->dw G C0 (pv ns more) d (.l i) (.Name nm p):=λi nm p hi hn=>nU hi rfl hn;apply mj (bg (u6 (C:=C0) (K:=λfl ρ' σ'=>fl=.next/\ρ'=frameOf #[2,[],.nil] [.obj G.cM,.T [x,y,z]]/\σ'=σ) c #[rfl,rfl,rfl]) (λf ca lf=>?_) λ_ _ x=>x);have#[fl,ρ',σ',fr,#[rfl,rfl,be],F2,R2,x2]:=lf;rw[be]at F2 R2 x2;cases fr;apply mj ?_;rw[exec_Assign];apply af (fw ?_);rw[sv rfl];apply af (ah ?_);rw[ay (by decide)];apply af (t9 (vs:=[x,y,z]) (τ:=λσ'=>σ'=σ) Kg K (l 0 _ _ rfl (by decide)) (l 1 _ _ rfl (by decide)) rfl J ht hg (c.at F2 R2) #[.obj G.cM,dH rfl,.T [x,y,z],dH rfl,rfl,rfl,bc rfl,rfl] λσ₁ s₁ yy B vr r U=>?_);rw[B]at r U;rw[oA (sc:=pv ns more) (r:=none) rfl c.es (by unfold Env.blockKind;rw[c.eo.kind];rfl)];apply af (ah ?_);show wpAny G.M A' (do assignAll (.ref yy) [assign (.Name "result" (p 2)) env];pure Flow.next) _ _ _;apply af ?_;show wpAny G.M A' (assign (.Name "result" (p 2)) env (.ref yy)) _ _ _;apply assign_Name (j6 (X:=envX env) (i:=2) (k:=.local) c.eo (F2.evo U.e) r (by rw[c.es];rfl) rfl (λ_ _ e=>nomatch e) vr (.head _) (λ_ _ e=>nomatch e) λZ F3 R3 x3=>ah ?_);dsimp only;have#[_,ws,n,dd,ey,g,rr]:=vr.mono x3.frz;cases ey;have cb:=rr.length;have aa:upd (frameOf #[2,[],.nil] [.obj G.cM,.T [x,y,z]]) 2 (V.mt [x,y,z]) 2=some (.mt [x,y,z]):=br _ _ _;apply mj (wpAny_If ?_);apply eV ?_ rfl;have ai:eN G Z.heap:=R3.base;have ag:∀(E:QqV) (Q:QqV) (tk:Nat) (pp:Pos),(∀w,VR G Z.heap (.mt [x,y,z]) w->Q w {Z with toks:=tk})->wpAny G.M A' (eval (.Name "result" pp) env) Q E {Z with toks:=tk}:=λE Q tk pp hq =>
  wpAny_Name (jW (s:={Z with toks:=tk}) (i:=2) (k:=.local) c.eo F3 (by rw[c.es];rfl) rfl (by decide) aa hq) (by decide)
 apply Call_ (kr Kg c.eo R3 (by rw[c.es];show hl) (by decide) ab ?_);apply Calls.callWith_builtin rfl (Calls.evalArgs_plain (Calls.spliced_cons (ag _ _ _ _ λw ar=>dX ?_)));have#[bn,bu,n',cc,rfl,g',bd]:=ar;have O:=bd.length;apply U1 (ai _ _ hC) (hN.keeps ai) bl g' (by rw[<- O];simp[bq]) λu bv=>?_;apply wpAny_Constant_int ?_;rw[<- O];apply ne_int (ur ?_);have e:((([x,y,z]:List V).length:Int) != 3)=false:=rfl;rw[e];apply wpAny_execs_nil ?_;dsimp only;apply mj (nG (ag _ _ _ _ λw2 bb=>?_));apply#[.ret (.mt [x,y,z]),_,σ,.ret bb,h,F3,R3,x2.trans (U.wide.trans x3.tok)]
end
end MP
end
section
namespace MP
open PySem PyProof.Rows PySem.W
def sT:Manifest.owners.lookup (String.ofList ['p','a','m'].reverse)=some Manifest.sig_map:=by kernel_rfl
def zk:Slot "map" "__next__" "map.__next__":=
 .of (owner:="map") (n:="__next__") (by rw[ew,dh];kernel_rfl) (by decide +kernel) (by decide +kernel) (by decide +kernel)
  (by first|show .inl (by decide +kernel)|show .inr (by decide +kernel)) (by rw[jm];kernel_rfl)
def iN:Slot "map" "__iter__" "map.__iter__":=
 .of (owner:="map") (n:="__iter__") (by rw[ew,dh];kernel_rfl) (by decide +kernel) (by decide +kernel) (by decide +kernel)
  (by first|show .inl (by decide +kernel)|show .inr (by decide +kernel)) (by rw[jm];kernel_rfl)
def rP:Slot "map" "__init__" "object.__init__":=
 .of (owner:="object") (n:="__init__") (by rw[ew,dh];kernel_rfl) (by decide +kernel) (by decide +kernel) (by decide +kernel)
  (by first|show .inl (by decide +kernel)|show .inr (by decide +kernel)) (by rw[jm];kernel_rfl)
def qA:entryFor table "map.__next__"=some Builtin.«map.__next__»:=fB (by kernel_rfl)
def rY:entryFor table "map.__new__"=some Builtin.«map.__new__»:=fB (by kernel_rfl)
def qB:entryFor table "map.__iter__"=some Builtin.«dict_keyiterator.__iter__»:=
 entryFor_alias (id':="dict_keyiterator.__iter__") (by kernel_rfl) (by first|rfl|decide +kernel|(unfold String.splitOn;simp +decide [String.splitOnAux])) (by decide +kernel) (by kernel_rfl)
def sE (a:Value):argsOk "map.__next__" #[[a],[]]:=by
 unfold argsOk;rw[nS (id:="map.__next__") (n:=['_','_','t','x','e','n','_','_']) (o:=['p','a','m']) (by kernel_rfl) sT];kernel_rfl
def sF (a:Value):argsOk "map.__iter__" #[[a],[]]:=by
 unfold argsOk;rw[nS (id:="map.__iter__") (n:=['_','_','r','e','t','i','_','_']) (o:=['p','a','m']) (by kernel_rfl) sT];kernel_rfl
def yM (a b c:Value):argsOk "object.__init__" #[[a,b,c],[]]:=by
 unfold argsOk;rw[nS (id:="object.__init__") (n:=['_','_','t','i','n','i','_','_']) (o:=['t','c','e','j','b','o']) (by kernel_rfl) F.owner_object];kernel_rfl
def C7:mroOf (.type "map")=pure [.type "map",.type "object"]:=by rw[mroOf_type];kernel_rfl
def pH:typeLookup (.type "map") "__new__"=pure (some (.builtin "map.__new__")):=by rw[ew,dh];kernel_rfl
def AM:TypeCalled "map" "map.__new__" "object.__init__":=
 #[by decide +kernel,by decide +kernel,#[_,_,C7],madeBy_type C7 pH (by decide +kernel),by decide +kernel,by rw[jm];kernel_rfl,rP]
def tX (a b:Value):checkTypeCall "map" #[[a,b],[]]=pure ():=by kernel_rfl
def xF (a b:Value):checkBuiltinCall "map.__new__" #[[.type "map",a,b],[]]=pure ():=by kernel_rfl
def zS:typeLookup (.type "map") "__len__"=pure none:=by rw[ew,dh];kernel_rfl
def xH:typeLookup (.type "map") "__length_hint__"=pure none:=by rw[ew,dh];kernel_rfl
def LP:isSubtype (.type "map") (.type "map")=pure true:=by rw[jm];kernel_rfl
variable {f:Value}
public abbrev nB (h:Heap)(m t it:Addr)(f:Value):Prop:=h.get? m=some {cls:=.type "map",data:=.fields #v[.ref t,f]}/\h.get? t=some {cls:=.type "tuple",data:=.seq #v[.ref it]}
section
variable {prog:Program}{w:World}{A:Around}{E:QqV}{s:Shared}
def MY (f:Value)(l:Addr)(items:Array Value) :
  Meets (Builtin.«map.__new__» #[[.type "map",f,.ref l],[]]) (λ_ R s=>s.heap.IsList l items /\
   R (.ok (.ret (.ref (s.heap.objs.size+2)))) {s with heap:=((s.heap.push {cls:=.type "list_iterator",data:=.fields #v[.ref l,.int 0 0]}).push {cls:=.type "tuple",data:=.seq #v[.ref s.heap.objs.size]}).push {cls:=.type "map",data:=.fields #v[.ref (s.heap.objs.size+1),f]}}):=
 .of_wp λprog w A R s h=>by
  have#[Z,h]:=h;have e1:(s.heap.push {cls:=.type "list_iterator",data:=.fields #v[.ref l,.int 0 0]}).objs.size=s.heap.objs.size+1:=gb ..;unfold Builtin.«map.__new__» Builtin.SmallTypes.newClass;apply af ?_;dsimp only;apply af (ec (a:=true) (by rfl) ?_);rw[ay (by decide)];apply af (ec (a:=true) LP ?_);rw[ay (by decide)];apply ah ?_;dsimp only;apply af (ec (a:=()) (by rfl) ?_);rw[ay (by simp)];unfold Builtin.SmallTypes.iterAll;apply af ?_;simp only[List.drop_succ_cons,gN,pd,oe];apply af (af (af (cg (nE Z (ah ?_)))));dsimp only;apply ah (ah ?_);show wpAny _ _ (newTuple [Value.ref s.heap.objs.size]>>=_) _ _ _;apply af (m:=newTuple _) (jq ?_ (by first|size_fits|rfl));apply af ?_;show wpAny _ _ (newObj (.type "map") (.fields [_,_].toArray)) _ _ _;apply jq ?_ (by first|size_fits|rfl);apply ah #[_,rfl,?_];have e2:((s.heap.push {cls:=.type "list_iterator",data:=.fields #v[.ref l,.int 0 0]}).push {cls:=.type "tuple",data:=.seq #v[.ref s.heap.objs.size]}).objs.size=s.heap.objs.size+2:=by rw[gb,e1]
  simp only[j4,eO,e1,e2,List.headD];show h
def JW {l:Addr}{items:Array Value}{Q:QqV}(O:s.heap.IsList l items)
  (h:∀h',nB h' (s.heap.objs.size+2) (s.heap.objs.size+1) s.heap.objs.size f->h'.IsListIter s.heap.objs.size l 0->h'.objs.size=s.heap.objs.size+3->(∀b o,s.heap.get? b=some o->h'.get? b=some o)->Q (.ref (s.heap.objs.size+2)) {s with heap:=h'}) :
  wpAny (model prog w) A (call (.type "map") [f,.ref l]) Q E s:=by
 apply callType_new AM (by decide) (tX _ _) (xF _ _) (λobj=>yM obj _ _) rY (MY f l items) #[O,?_];have e1:(s.heap.push {cls:=.type "list_iterator",data:=.fields #v[.ref l,.int 0 0]}).objs.size=s.heap.objs.size+1:=gb ..;have e2:((s.heap.push {cls:=.type "list_iterator",data:=.fields #v[.ref l,.int 0 0]}).push {cls:=.type "tuple",data:=.seq #v[.ref s.heap.objs.size]}).objs.size=s.heap.objs.size+2:=by rw[gb,e1]
 have Z:=cf ((s.heap.push {cls:=.type "list_iterator",data:=.fields #v[.ref l,.int 0 0]}).push {cls:=.type "tuple",data:=.seq #v[.ref s.heap.objs.size]}) (o:={cls:=.type "map",data:=.fields #v[.ref (s.heap.objs.size+1),f]}) rfl;have U:=cf (s.heap.push {cls:=.type "list_iterator",data:=.fields #v[.ref l,.int 0 0]}) (o:={cls:=.type "tuple",data:=.seq #v[.ref s.heap.objs.size]}) rfl;rw[e2]at Z;rw[e1]at U;apply#[#[_,Z,rfl],h _ #[Z,aw _ U] #[_,aw _ (aw _ (cf _ rfl)),rfl,rfl] (by rw[gb,e2]) λb o x=>aw _ (aw _ (aw _ x))]
def yD {Z f:Addr}{v:Value}{args:List Value}{R:Result->Shared->Prop}(U:s.heap.get? Z=some {cls:=.type "method",data:=.fields #v[.ref f,v]})(h:codeAny (model prog w) A (.call (.ref f) #[v::args,[]]) R s):codeAny (model prog w) A (.call (.ref Z) #[args,[]]) R s:=by
 apply ue ?_;show wpAny _ _ (callAny (.ref Z) #[args,[]]) _ _ _;unfold callAny;apply af (we U ?_);dsimp only;rw[bx (by decide)];show ah #[rfl,h]
def zG {m t it:Addr}{Q:QqV}(U:nB s.heap m t it f)(h:Q (.ref m) s):wpAny (model prog w) A (pyIter (.ref m)) Q E s:=by
 have Z:s.TypeIs (.ref m) "map":=#[_,U.1,rfl];apply nD Z iN (gj iN Z qB ?_ (sF _));show wpAny _ _ (ret (.ref m)) _ _ s;show ah #[_,rfl,"map",_,Z,zk.lookup,h]
def oQ {m t it:Addr}{Q:Option Value->Shared->Prop}(O:nB s.heap m t it f)
  (h:wpAny (model prog w) A.in1 (Builtin.SmallTypes.nextOf (.ref it)) (λx s₁=>nB s₁.heap m t it f/\wpAny (model prog w) A.in1 (call f [x]) (λv s'=>Q (some v) s') (λ_ _=>False) s₁) (λe s'=>s'.TypeIs e "StopIteration"/\Q none s') s):wpAny (model prog w) A (pyNext (.ref m)) Q E s:=by
 have J:s.TypeIs (.ref m) "map":=#[_,O.1,rfl];unfold pyNext;apply af (fE (jt (name:=Str.ofString "__next__") J zk (gj zk J qA ?_ (sE _))));show wpAny _ _ (field (.ref m) 0>>=_) _ _ s;apply af (nF O.1 rfl (x:=.ref t) rfl ?_);apply af (mx O.2 rfl ?_);dsimp only;apply af ?_;simp only[List.forIn_toArray,pd,oe];apply af (af (cg (bg h (λx s₁ h₁=>ah ?_) λe s₁ h₁=>?_)))
 ·dsimp only;apply ah ?_;have#[Z,h₁]:=h₁;apply af (nF Z.1 rfl (x:=f) rfl ?_);apply af (cg (bg h₁ (λv s₂ U=>?_) λ_ _ x=>x.elim));show af (wpAny_letGo (ah #[_,rfl,ah U]))
 ·show af (rJ (T:="StopIteration") (b:=true) h₁.1 isSubtype_stop (ah h₁.2))
end
end MP
end
section
namespace MP
open PySem PyProof.Rows PySem.W
structure qW (G:Stc)(fM:Addr):Prop where
 here:∃(p:Fin 20->Pos) (doc:Str) (c0 c1:Nat) (rest:List Stmt) (ns:List (Str×NameKind)) (more:List (Str×Const)),FnAt G fM 2 [] (pv ns more) (pE p doc c0 c1 rest)/\((p 4).endLine==(p 7).line)=true /\
  (pv ns more).names.lookup ("tuple":Str)=some .globalImplicit/\(pv ns more).names.lookup ("len":Str)=some .globalImplicit
 tup:G.gl "tuple"=some (.type "tuple")
 len:G.gl "len"=some (.builtin "len")
def gX (σ:St)(a:Addr)(xs ys:List V):(σ.cw a xs).cw a ys=σ.cw a ys:=by
 unfold St.cw
 congr 1
 funext j
 simp only[upd];split<;>rfl
def AOk.ins {A:Around}{d k:Nat}(h:AOk A (d+1))(hk:k<=30):AOk {A with units:=A.units+k} d:=#[h.handled,by have:=h.depth;dsimp only;(show ek (.l (.a (.a .A (.m 3 .B)) (.n 20)) .C) .a .aF this),by have:=h.units;dsimp only;(show fc (.l (.a (.a .P (.m 30 .C)) .aC) .D) .b (.k .B (.n 30)) (.l (.a (.a .A (.m 30 .R)) .aC) .D) hk this)]
def BW {G:Stc}{σ:St}{h h':Heap}{it:Addr}(R:Rel G σ h)(hd:¬σ.dom it)(hb:G.hb.get? it=none)(Z:∀o,h.get? it=some o->¬Frz o)(hk:∀b o,b≠it->h.get? b=some o->h'.get? b=some o):Rel G σ h':=
 R.same (λb o e U=>hk b o (λq=>hd (q▸U)) e) (λb o e f=>hk b o (λq=>Z o (q▸e) f) e) λb o e=>hk b o (λq=>by rw[q,hb]at e;cases e) (R.base b o e)
section
variable {G:Stc}{A:Around}{E:QqV}{s:Shared}{fN fM:Addr}{σ₀ σ:St}
def QA {α:Type}{l:List α}(h:l.length=2):∃a b,l=[a,b]:=by
 have#[a,r,rfl]:=mn h;have#[b,r,rfl]:=mn (um h);have rfl:=lG.mp (um (um h));apply#[a,b,rfl]
def FX {α:Type}{l:List α}(h:l.length=3):∃a b c,l=[a,b,c]:=by
 have#[a,r,rfl]:=mn h;have#[b,c,rfl]:=QA (um h);apply#[a,b,c,rfl]
def E9 {d:Nat}{l S it m t q:Addr}{ts:List (List V)}{res:Value}{R:Result->Shared->Prop}(Kg:GOk G)(K:qa G fN fM)(Km:td G)(Mk:qW G fM)(ao:AOk A (d+2))(dn:∀t∈ts,t.length=3)(ea:l≠S)(dc:σ.L l=some (ts.map V.T))(hz:ts.length<=bq)
  (own:∀b∈[it,m,t,q],s.heap.get? b=none/\¬σ.dom b/\b≠S/\G.hb.get? b=none) (dL:m≠it) (dv:t≠it) (dx:q≠it)
  (hR:∀s',Rel G (σ.cw S (ts.map V.mt)) s'.heap->Go [] σ₀ s (σ.cw S (ts.map V.mt)) s'->R (.ok (.ret res)) s') :
  ∀(k i:Nat) (s':Shared),ts.length-i=k->i<=ts.length->Rel G (σ.cw S ((ts.take i).map V.mt)) s'.heap->Go [] σ₀ s (σ.cw S ((ts.take i).map V.mt)) s'->nB s'.heap m t it (.ref q)->s'.heap.get? q=some {cls:=.type "method",data:=.fields #v[.ref fM,.ref G.cM]}->s'.heap.IsListIter it l i ->
   codeAny G.M A (.builtin "list.extend.loop" #[[.ref S,.ref m,res],[]]) R s':=by
 have#[p,doc,c0,c1,rest,ns,more,Kf,ck,ct,dV]:=Mk.here;have nd:∀(xs:List V),∀b∈[it,m,t,q],¬(σ.cw S xs).dom b:=λxs b hb dm=>(dJ dm).elim (own b hb).2.1 (own b hb).2.2.1;have J:it∈[it,m,t,q]:=.head _;have mm:m∈[it,m,t,q]:=.tail _ (.head _);have tm:t∈[it,m,t,q]:=.tail _ (.tail _ (.head _));have qm:q∈[it,m,t,q]:=.tail _ (.tail _ (.tail _ (.head _)));have nf:∀{h:Heap} {i:Nat},h.IsListIter it l i->∀o,h.get? it=some o->¬Frz o:=λ{h i} da o e=>by
  have#[o',dz,ei,eg]:=da;have rfl:=ak (dz.symm.trans e);show kg ei eg (by decide) (by decide)
 have hL:∀(xs:List V),(σ.cw S xs).L l=some (ts.map V.T):=λxs=>by simp only[St.cw,cv ea];show dc
 have cp:∀b∈[it],s.heap.get? b=none:=λb hb=>by have rfl:=au.mp hb;show(own _ J).1
 intro k;induction k with
 |zero =>
  intro i s' hk hi Rr x hm hq hit;have eb:i=ts.length:=by(show fk .C [[1,1,-1],[1,0,1]] .a0 .cR hk (ae (bt .A .a .A hi)))
  subst eb;apply uf F.entry_extend_loop ?_;rw[wh F.plain_extend_loop _];show wpAny _ A.in1 (pyNext (.ref m)>>=_) _ _ _;have#[ws,n,hl,cc]:=Rr.L l _ (hL _);have bn:=cc.length;apply af (oQ hm (wpAny_nextOf_list_end (A:=A.in1.in1) ao.handled hit hl.isList (by rw[List.getElem?_toArray,<- pa.symm];simp at bn;(show bt .A .C .bK bn)) λh' e he df=>#[df,?_]));have O:∀b o,b≠it->s'.heap.get? b=some o->h'.get? b=some o:=he;have R':=BW Rr (nd _ _ J) (own _ J).2.2.2 (nf hit) O;have x':=x.but (s':={s' with heap:=h'}) (λb o hb e=>O b o (λq=>hb (q▸.head _)) e) .rfl cp;rw[lj]at R' x';show ah (hR _ R' x')
 |succ k ih =>
  intro i s' hk hi Rr x hm hq hit;have ab:i<ts.length:=by(show fc .B .t (.e .C .V) .cR hk (ae (bt .A .a .A hi)))
  apply uf F.entry_extend_loop ?_;rw[wh F.plain_extend_loop _];show wpAny _ A.in1 (pyNext (.ref m)>>=_) _ _ _;have#[ws,n,hl,cc]:=Rr.L l _ (hL _);have#[w,hw,vr]:=cc.get (i:=i) (v:=.T ts[i]) (by simp[ab]);apply af (oQ hm (wpAny_nextOf_list_item hit hl.isList (by simpa using hw) λh₁ bd cd=>?_));have O:∀b o,b≠it->s'.heap.get? b=some o->h₁.get? b=some o:=λb o hb e=>by rw[cd.2 b hb];show e
  have cx:=BW Rr (nd _ _ J) (own _ J).2.2.2 (nf hit) O;have cl:=x.but (s':={s' with heap:=h₁}) (λb o hb e=>O b o (λq=>hb (q▸.head _)) e) .rfl cp;have aa:nB h₁ m t it (.ref q):=#[O _ _ dL hm.1,O _ _ dv hm.2];have ai:=O _ _ dx hq;apply#[aa,nh (yD ai ?_)];have hf:gy s'.heap h₁:=λb o e f=>O b o (λq=>nf hit o (q▸e) f) e;have h3:=dn ts[i] (jj ab);have#[a,b,c,bu]:=FX h3;rw[bu]at vr;apply codeAny_mono (EX (s:={s' with heap:=h₁}) (A:=A.in1.in1) (d:=d) (Q:=λv σ'=>v=.mt [a,b,c]/\σ'=σ.cw S ((ts.take i).map V.mt)) (E:=λ_ _=>False) Kg K Km Kf ck Mk.tup Mk.len ct dV (ao.ins (k:=2) (kY (.k .W (.n 30)) .f)) cx (vr.mono hf) #[rfl,rfl]) λr s₂ hr=>?_;cases r with
  |error e=>show hr.elim
  |ok fl =>
   cases fl with
   |ret w' =>
    have#[v,σ',#[rfl,rfl],cb,ca,bl]:=hr;have U:∀b∈[it,m,t,q],∀o,h₁.get? b=some o->s₂.heap.get? b=some o:=λb hb o e=>bl.keep b o e (nd _ b hb) (λh=>nomatch h);have hS:(σ.cw S ((ts.take i).map V.mt)).L S=some ((ts.take i).map V.mt):=br _ _ _;have#[us,n',ar,ag]:=ca.L S _ hS;have bb:=ag.length;have ed:us.length=i:=by rw[<- bb];simp;(show(Ar.kx _ _).2.2.elim (λq1=>(gz .C .g .A .V (Ar.kx _ _).1 q1)) λq1=>(mi .C .m .cB .A .a8 hi (Ar.kx _ _).1 q1))
    have dr:(ts.take (i+1)).map V.mt=(ts.take i).map V.mt++[.mt [a,b,c]]:=by rw[fe ab,bu];simp
    have cn:us.length+1<=sizeLine:=by rw[ed];show qi (fk .H .b .G .I hz ab)
    have#[bv,be]:=FQ (f:=λx=>x.push w') ca hS ar (ag.append %[cb|0]) (by simp;(show mq .H .e .G .aC .aA hz ab (Ar.kx _ _).1)) (by simp);rw[gX,<- dr]at bv be;show wpAny _ A.in1 (updateSeq S (·.push w')>>=_) _ _ _;have ne:∀z∈[it,m,t,q],S≠z:=λz hz e=>(own z hz).2.2.1 e.symm;have Z:∀z∈[it,m,t,q],∀o,s₂.heap.get? z=some o->(s₂.heap.update S (Obj.mapSeq (·.push w'))).get? z=some o:=λz hz o e=>(gv _ _ (ne z hz)).trans e;apply af (qg ar rfl (ah #[nT F.plain_extend_loop _,?_]) (by simp only[cy];(show bt .A .a .H cn)) (by simp only[Array.size_push,cy];(show bt .aK .a .H cn)));have#[o1,dy,r1]:=bd;show ih (i+1) _ (my .C .p (.e .C .M) .b5 .aW hk (ae (bt .A .a .A hi)) (ae (bt .H .a .B ab))) (bt .H .a .B ab) bv ((cl.trans bl).to be) #[Z _ mm _ (U _ mm _ aa.1),Z _ tm _ (U _ tm _ aa.2)] (Z _ qm _ (U _ qm _ ai)) #[o1,Z _ J _ (U _ J _ dy),r1]
   |_=>show hr.elim
end
section
variable {prog:Program}{w:World}{A:Around}{E:QqV}{s:Shared}
def sC {m t it:Addr}{f:Value}{Q:QqV}(hm:nB s.heap m t it f)
  (h:∀h' n',(∀b o,s.heap.get? b=some o->h'.get? b=some o)->IsL h' s.heap.objs.size #v[] n'->codeAny (model prog w) A.in1 (.builtin "list.extend.loop" #[[.ref s.heap.objs.size,.ref m,.none],[]]) (wants (λr s₂=>r=.none/\Q (.ref s.heap.objs.size) s₂) E) {s with heap:=h'}) :
  wpAny (model prog w) A (call (.type "list") [.ref m]) Q E s:=by
 apply callType_codes (Q₁:=λobj s₁=>obj=.ref s.heap.objs.size/\s₁={s with heap:=s.heap.push {cls:=.type "list",data:=.seq #v[]}}) F.called_list (F.typeCall_list_1 _) F.entry_list_init
  (code_list_new _ #[rfl,rfl]) λobj s₁ h₁=>?_
 have#[rfl,rfl]:=h₁;have hS:(s.heap.push {cls:=.type "list",data:=.seq #v[]}).get? s.heap.objs.size=some {cls:=.type "list",data:=.seq #v[]}:=cf _ rfl;apply#[#[_,hS,rfl],F.args_list_init_2 _ _,?_];generalize ab:s.heap.objs.size=S at hS h;have lt:∀{b:Addr} {o:Obj},s.heap.get? b=some o->S≠b:=λ{b o} e q=>by have:=fj e;rw[ab,q]at this;show gp _ this
 have aa:S≠m:=lt hm.1;show wpAny _ _ (do let old←Builtin.List.listItems (.ref S);Builtin.List.listUpdate (.ref S) (λ_=>#v[]);letGo old.toList.reverse;Builtin.List.listExtendWith (.ref S) (.ref m) .none) _ _ _;apply af ?_;unfold Builtin.List.listItems;apply af (mx hS rfl (ah ?_));show wpAny _ _ (updateSeq S (λ_=>#v[])>>=λ_=>letGo (#v[]:Array Value).toList.reverse>>=λ_=>Builtin.List.listExtendWith (.ref S) (.ref m) .none) _ _ _;apply af (qg hS rfl ?_);have O:=gk (Obj.mapSeq (λ_=>(#v[]:Array Value))) hS rfl;apply af (wpAny_letGo ?_);have J:∀b o,s.heap.get? b=some o->((s.heap.push {cls:=.type "list",data:=.seq #v[]}).update S (Obj.mapSeq (λ_=>(#v[]:Array Value)))).get? b=some o:=
  λb o e=>(gv _ _ (lt e)).trans (aw _ e)
 have Z:nB ((s.heap.push {cls:=.type "list",data:=.seq #v[]}).update S (Obj.mapSeq (λ_=>(#v[]:Array Value)))) m t it f:=#[J _ _ hm.1,J _ _ hm.2];unfold Builtin.List.listExtendWith;apply af (dT (T:="map") #[_,Z.1,rfl] ?_);have h1:Builtin.List.listSameRef (.ref S) (.ref m)=false:=by simp[Builtin.List.listSameRef,aa]
 have h2:(Value.type "map" == Value.type "list")=false:=by decide
 have h3:(Value.type "map" == Value.type "tuple")=false:=by decide
 simp only[h1,h2,h3,jP,dt,kh];apply af (zG Z ?_);apply af (cg ?_);unfold Builtin.List.listLengthHint;apply af (ud (T:="map") #[_,Z.1,rfl] zS ?_);show wpAny _ _ (specialOf (Value.ref m) (Str.ofString "__length_hint__")>>=_) _ _ _;apply af (ud (T:="map") #[_,Z.1,rfl] xH ?_);apply ah ?_;show wpAny _ _ (rule "list.extend.makes-room" >>= λ_=>Builtin.List.listTouch (.ref S)>>=λ_=>again (.builtin "list.extend.loop" #[[.ref S,.ref m,.none],[]])) _ _ _;apply af (tw ?_);apply af ?_;show wpAny _ _ (updateSeq S (·.push .none)>>=λ_=>updateSeq S (·.pop)) _ _ _;apply af (qg O rfl ?_);have U:=gk (Obj.mapSeq (·.push Value.none)) O rfl;apply qg (hz:=by seq_fits) U rfl ?_;have B:=gk (Obj.mapSeq (·.pop)) U rfl;apply ah #[nT F.plain_extend_loop _,h _ _ (λb o e=>?_) B];have hb:S≠b:=lt e;show(gv _ _ hb).trans ((gv _ _ hb).trans (J b o e))
end
end MP
end
section
namespace MP
open PySem PyProof.Rows PySem.W
section
variable {G:Stc}{fN fM:Addr}{C:Cal}{sc:Scope}{d:Nat}
def rN {e:Ex}{xl xm xM:Str}{y:Expr}{p p' be ap pos aa:Pos}(Kg:GOk G)(K:qa G fN fM)(Km:td G)(Mk:qW G fM)(hd:3<=d)(he:dw G C sc d e y)(cb:noStar [y]=true)
  (hl:sc.names.lookup xl=some .globalImplicit) (dy:jg xl=true) (dx:G.gl xl=some (.type "list"))
  (hm:sc.names.lookup xm=some .globalImplicit) (dv:jg xm=true) (dr:G.gl xm=some (.type "map"))
  (hM:sc.names.lookup xM=some .globalImplicit) (dV:jg xM=true) (dL:G.gl xM=some (.ref G.cM)) :
  dw G C sc d (.M e) (.Call (.Name xl p) [.Call (.Name xm p') [.Attribute (.Name xM be) "_make" ap,y] [] aa] [] pos):=λA E env ρ σ Q s c h=>by
 have R:=c.R;have bn:noStar [.Attribute (.Name xM be) "_make" ap,y]=true:=cb;apply Call_ (kr Kg c.eo R (by rw[c.es];show hl) dy dx (ug (ji (args:=[.Call (.Name xm p') [.Attribute (.Name xM be) "_make" ap,y] [] aa]) rfl pos env) (mv (ji (args:=[.Call (.Name xm p') [.Attribute (.Name xM be) "_make" ap,y] [] aa]) rfl pos env) (spliced_more ?_ rfl))));apply Call_ (kr Kg c.eo R (by rw[c.es];show hm) dv dr (ug (ji bn aa env) (mv (ji bn aa env) (spliced_more ?_ rfl))));apply Attribute_name (kr Kg c.eo R (by rw[c.es];show hM) dV dL (K.make _ _ _ _ _ R.base ?_));have R0:=R.push {cls:=.type "method",data:=.fields #v[.ref fM,.ref G.cM]};have x0:Go [] σ s σ {s with heap:=s.heap.push {cls:=.type "method",data:=.fields #v[.ref fM,.ref G.cM]},toks:=s.toks+1}:=Go.refl.to (Evo.push _ _ _ _);apply spliced_more (nr (he (c.go R0 x0) h) λv σ₁ s₁ w q vr r ag=>?_) ((fb cb).1 env);have#[l,ts,rfl,ai,h3,q]:=q;have rfl:=vr;apply dX ?_;have#[us,n,hL,ea]:=r.L _ _ ai;have hz:=r.Ll _ _ ai;simp only[av]at hz;have ar:s.heap.get? s.heap.objs.size=none:=none_at_size _;have cd:¬σ.dom s.heap.objs.size:=λdm=>by have#[o,e]:=R.ky dm;rw[ar]at e;cases e
 have cl:(s.heap.push {cls:=.type "method",data:=.fields #v[.ref fM,.ref G.cM]}).get? s.heap.objs.size=some {cls:=.type "method",data:=.fields #v[.ref fM,.ref G.cM]}:=cf _ rfl;have ck:=ag.keep _ _ cl cd (λh=>nomatch h);have cc:¬σ₁.dom s.heap.objs.size:=λdm=>(ag.dom _ dm).elim cd λe=>by rw[cl]at e;cases e
 apply JW hL.isList λZ bb hit ab hk=>?_;have r₂:=r.keeps hk;have ca:Go [] σ s σ₁ {s₁ with heap:=Z}:=(x0.trans ag).to (Evo.keeps hk);apply dX ?_;apply sC bb λbl n' O bd=>?_;have hS:Z.get? Z.objs.size=none:=none_at_size _;have ct:At Z.objs.size Z bl:=At.grow hS O bd;have cp:σ₁.L Z.objs.size=none:=by
  cases hq:σ₁.L Z.objs.size with
  |none=>rfl
  |some ys=>have#[o,ho,_]:=r₂.yE hq;rw[hS]at ho;cases ho
 have cx:=r₂.putL (ws:=[]) (xs:=[]) ct (λ_=>hS) bd .nil (bc rfl);have bv:Evo [] σ₁ Z (σ₁.cw Z.objs.size []) bl:=Evo.putL ct (λ_=>hS) [];have old:∀b,s₁.heap.objs.size<=b->s.heap.get? b=none/\¬σ₁.dom b/\G.hb.get? b=none:=λb hb=>by
  have e1:s₁.heap.get? b=none:=rj hb;apply#[(x0.trans ag).new e1,λdm=>?_,?_]
  ·have#[o,e]:=r.ky dm;rw[e1]at e;cases e
  ·cases hq:G.hb.get? b with
   |none=>rfl
   |some o=>have:=r.base _ _ hq;rw[e1]at this;cases this
 have bu:s.heap.objs.size<s₁.heap.objs.size:=fj ck;have own:∀b∈[s₁.heap.objs.size,s₁.heap.objs.size+2,s₁.heap.objs.size+1,s.heap.objs.size],s.heap.get? b=none/\¬σ₁.dom b/\b≠Z.objs.size/\G.hb.get? b=none:=λb hb=>by
  have cn:b<Z.objs.size:=by
   simp only[cz,zw,or_false]at hb;rcases hb with rfl|rfl|rfl|rfl<;>(first|show bt .B .C .b3 ab Ar.y|show bt (.l .aS .B) .C .b3 ab Ar.y|show bt .a1 .C .b3 ab Ar.y|show fk .B .t (.e .B (.a .C (.n 3))) .I ab bu Ar.y|omega)
  by_cases J:s₁.heap.objs.size<=b
  ·have#[o1,o2,o3]:=old b J;apply#[o1,o2,gm cn,o3]
  ·simp only[cz,zw,or_false]at hb;rcases hb with rfl|rfl|rfl|rfl
   ·(show#[(False.elim (ef .ff .o (.j .A .A) J)),#[(λq1=>(ef .ff .o (.j .A .A) J)),#[(bt .cM [[-1,-1]] .b3 ab),(False.elim (ef .ff .o (.j .A .A) J))]]])
   ·(show#[(False.elim (ef .ff .o (.j .A .aS) J)),#[(λq1=>(ef .ff .o (.j .A .aS) J)),#[(bt (.u .aS .B) [[-1,-1]] .b3 ab),(False.elim (ef .ff .o (.j .A .aS) J))]]])
   ·(show#[(False.elim (ef .ff .o (.j .A .L) J)),#[(λq1=>(ef .ff .o (.j .A .L) J)),#[(bt (.u .L .B) [[-1,-1]] .b3 ab),(False.elim (ef .ff .o (.j .A .L) J))]]])
   ·apply#[ar,cc,gm cn,?_];cases hq:G.hb.get? s.heap.objs.size with
    |none=>rfl
    |some o=>have:=R.base _ _ hq;rw[ar]at this;cases this
 have dz:l≠Z.objs.size:=λe=>by rw[e,cp]at ai;cases ai
 have#[oi,dn,ri]:=hit;have df:(s₁.heap.objs.size+2:Nat)≠s₁.heap.objs.size:=by(show jf (.u .aS .A) .f)
 have dc:(s₁.heap.objs.size+1:Nat)≠s₁.heap.objs.size:=by(show jf (.u .L .A) .f)
 have da:(s.heap.objs.size:Nat)≠s₁.heap.objs.size:=by(show bt .cM [[-1,1]] .B bu)
 apply E9 (it:=s₁.heap.objs.size) (m:=s₁.heap.objs.size+2) (t:=s₁.heap.objs.size+1) (q:=s.heap.objs.size) (S:=Z.objs.size) (l:=l) (σ₀:=σ) (σ:=σ₁) (s:=s) (d:=d-3) (A:=A.in1) Kg K Km Mk ((AOk.less c.ao (d':=d-3+2+1) (bt (.k (.a .aS .U) .B) .a (.e (.a .A (.n 3)) .B) (ae (ef (.k (.n 3) .A) .a (.k (.n 3) .A) hd)))).ins (k:=1) (kY (.k .U (.n 30)) .f)) h3 dz ai hz own df dc da
  (λs' R' x'=>#[rfl,_,_,q _ cp,.L _,R',x']) ts.length 0 _ rfl (bh _) (by simpa using cx) (by simpa using ca.to bv) #[O _ _ bb.1,O _ _ bb.2] (O _ _ (hk _ _ ck)) #[oi,O _ _ dn,ri]
end
end MP
end
section
namespace MP
open PySem PyProof.Rows
section
variable {G:Stc}{C:Cal}{sc:Scope}{d:Nat}
end
section
variable {tupled:Bool}
variable {G:Stc}{C:Cal}{sc:Scope}{d:Nat}
def NB {name:Str}{id:String}{e:Ex}{o:Expr}{apos pos:Pos}{it:It}{W:V->St->(List V->(St->Prop)->St->Prop)->Prop}(K:GOk G)(he:dw G C sc d e o)(hb:lu o=true)(Z:(apos.endLine==pos.line)=true)(slot:Slot "dict" name id)(ty:typeOf (.builtin id)=pure (.type "method_descriptor"))
  (hit:∀ρ σ P,lL C it ρ σ P->wpE C e ρ σ λv σ=>W v σ P) (hW:∀v σ P,W v σ P->∃a,v=.dct a/\(σ.D a).isSome=true)
  (hc:∀{A E a σ s P},AOk A d->Rel G σ s.heap->W (.dct a) σ P ->
   wpAny G.M A (call (.builtin id) [.ref a]) (λv s₁=>wpAny G.M A (pyIter v) (tR G σ s tupled P) E s₁) E s):xh G C sc d tupled it (.Call (.Attribute o name apos) [] [] pos):=λA E env ρ σ P s c h=>by
 apply mr hb rfl (by decide) Z (nr (he c (hit ρ σ P h)) λv σ₁ s₁ w q vr r x pl=>?_);have#[a,rfl,hD]:=hW v σ₁ P q;have rfl:=vr;have#[xs,e1]:=bp.mp hD;have#[ds,hd,_]:=r.D _ _ e1;apply nH hd.typeIs lF slot ty hd.mapOf.noDict ?_;apply pe (C:=C) (P:=λvs σ'=>vs=[]/\σ'=σ₁) rfl km (c.go r x) #[rfl,rfl] λvs σ₂ s₂ ws O J r₂ U=>?_;have#[rfl,rfl]:=O;have rfl:=J;apply bg (hc c.ao r₂ q) (λv _ l=>bg l (λaa _ l=>?_) λ_ _ x=>x) λ_ _ x=>x;have#[I,σ',e,ht,p,hp,r',x',hn,B]:=l;have x3:=x.trans U;apply#[I,σ',e,ht,p,hp,r',x3.trans x',λb hb=>x3.new (hn b hb),B]
def O1 {σ:St}{h:Heap}{a:Addr}{es:List (Key×V)}(r:Rel G σ h)(e:σ.D a=some es):∃o ds ep,h.get? a=some o/\DRs G h es ds/\h.DictAt G.kk a ds ep/\∀h':Heap,h'.get? a=some o->h'.DictAt G.kk a ds ep:=by
 have#[ds,hd,B]:=r.D _ _ e;have#[ep,o,Z,J,O]:=hd.dictAt;apply#[o,ds,ep,J,B,#[o,Z,J,O],λh' U=>#[o,Z,U,O]]
def EB {σ:St}{s:Shared}{h:Heap}{a:Addr}{o:Obj}{P:List V->(St->Prop)->St->Prop}{es:List (Key×V)}(I:Itr G)(hI:I.it=h.objs.size)(U:I.own=[h.objs.size])(B:Obj)(Z:∀b o,s.heap.get? b=some o->h.get? b=some o)(R:Rel G σ s.heap)(e:σ.D a=some es)(ho:s.heap.get? a=some o)(ht:I.tup=true->tupled=true)(hp:P I.vs I.Gd (σ.iE a o))(pos:I.pos 0 (h.push B)) :
  tR G σ s tupled P (.ref h.objs.size) {s with heap:=h.push B}:=by
 have dm:(σ.D a).isSome\/(σ.S a).isSome:=.inl (by rw[e];rfl);have J:Rel G (σ.iE a o) h:=(R.keeps Z).zH (Z _ _ ho) dm;have O:s.heap.get? h.objs.size=none:=by
  cases hq:s.heap.get? h.objs.size with
  |none=>rfl
  |some o=>have:=Z _ _ hq;rw[none_at_size h]at this;cases this
 apply#[I,σ.iE a o,by rw[hI],ht,hp,pos,J.push _,Go.refl.to (((Evo.keeps Z).trans (Evo.zH dm)).trans (Evo.push _ _ _ _)),λb hb=>?_,λb hb=>?_]
 ·rw[U]at hb;have rfl:=au.mp hb;show O
 ·rw[U]at hb;have rfl:=au.mp hb;intro dz;have#[o',e']:=J.ky dz;rw[none_at_size h]at e';cases e'
def NF {e:Ex}{o:Expr}{apos pos:Pos}(K:GOk G)(he:dw G C sc d e o)(hb:lu o=true)(Z:(apos.endLine==pos.line)=true):xh G C sc d tupled (.keys e) (.Call (.Attribute o "keys" apos) [] [] pos):=
 NB (it:=.keys e) (W:=FL) K he hb Z PySem.F.slot_dict_keys PySem.F.type_dict_keys (λρ σ P h=>h) (λv σ P q=>by
  have#[a,rfl,es,e,q]:=eA (v:=v) q;apply#[a,rfl,by rw[e];rfl]) @λA E a σ s P ao R q=>by
 have#[es,e,q]:=q;have#[o,ds,ep,B,dr,U,J]:=O1 R e;have O:=kB K R (.inr (.inl (by rw[e];rfl)):σ.dom a);apply call_meetsIn PySem.F.slot_dict_keys U.dictOf.typeIs PySem.F.entry_dict_keys (PySem.F.args_dict_keys_1 _) (PySem.W.kdl_meets_keys G.kk a O) #[#[ds,U.dictOf],?_];apply PySem.W.kdl_pyIter_keys #[_,cf _ rfl,rfl,rfl] (U.push _) ?_;show EB (N9 G _ a o es ds ep (pairs_at dr).1 J) rfl rfl _ (λb o e=>aw _ e) R e B (λh=>nomatch h) (q o) #[_,cf _ rfl,rfl,rfl]
end
section
variable {G:Stc}{C:Cal}{sc:Scope}{d:Nat}
def DRs.without {h:Heap}(k:Key):{es:List (Key×V)}->{ds:List (Key×Value)}->DRs G h es ds->DRs G h (delD es k) (PySem.without ds k)
 | [],ds=>λr=>by have rfl:=r;show .nil
 |(k',v)::es,ds=>λr=>by
  have#[w,us,rfl,a,r]:=r;have Z:=DRs.without k r;unfold delD PySem.without at Z ⊢;rw[ll,ll];by_cases c:k'=k
  ·subst c;rw[ay (by simp),ay (by simp)];show Z
  ·rw[bx (by simpa using c),bx (by simpa using c)];show .cons a Z
def M6 {o i:Ex}{x y:Expr}{p pos:Pos}(ho:dw G C sc d o x)(hi:dw G C sc d i y):yr G C sc d (.delD o i) (.Delete [.Subscript x y p] pos):=λA E env ρ σ K s c h=>by
 rw[arm_exec_Delete];apply af (fw (af ?_));rw[arm_deleteEach_cons];apply af (wpAny_delete_Subscript (nr (ho c h) λv σ₁ s₁ w q vr r Z=>nr (hi (c.go r Z) q) λai σ₂ s₂ ag J O r₂ U=>?_));have#[a,rfl,ds,kk,e,aa,ab,q]:=eA (v:=v) J;have rfl:=vr;have#[vs,hd,dr]:=r₂.D _ _ e;have hl:=dr.look kk;have B:=dr.length;unfold delItem
 try with_reducible refine cg ?_
 apply af (wpAny_sequenceKey hd.typeIs (by decide) ?_);apply af (jt (name:=Str.ofString "__delitem__") hd.typeIs PySem.F.slot_dict_delitem
  (call_meetsIn PySem.F.slot_dict_delitem hd.typeIs PySem.F.entry_dict_delitem (PySem.F.args_dict_delitem_2 _ _) (meets_dict_delitem_pairs G.kk a (key_is aa O)) #[vs,hd,by rw[<- B];show qi (r₂.Dl _ _ e),?_,λh' hm hs=>?_]))
 ·cases hq:valueAt vs kk with
  |some _=>rfl
  |none =>
   have#[u,hu]:=bp.mp ab;rw[hu,hq]at hl;show hl.elim
 ·have hz:(delD ds kk).length<=bq:=fm (ix _ _) (r₂.Dl _ _ e);have#[r',x']:=Q9 r₂ e hs hm (dr.without kk) hz;apply ah ?_;rw[arm_deleteEach_nil];apply ah (ah ?_);apply#[.next,ρ,_,.next,q,c.F.evo ((Z.trans U).e.trans x'),r',((Z.trans U).to x').wide]
end
end MP
end
section
set_option genInjectivity false
set_option genSizeOf false
set_option backward.match.sparseCases false
namespace MP
open PySem PyProof.Rows PySem.W
section
variable {pos:Pos}{b:Ex}{y:Expr}
variable {G:Stc}{C:Cal}{sc:Scope}{d:Nat}
def GX:dw G C sc d .dct0 (.Dict [] [] pos):=λ_ _ _ _ _ _ _ c h =>
 wpAny_Dict_empty #[.dct _,_,h _ c.R.freshD,.dct _,c.R.putD (At.push _) (λ_=>none_at_size _) (λb f e=>c.R.I8 (none_at_size _) e rfl) (Heap.DictOf.new _) .nil (by simp[bq]),Go.refl.to (Evo.putD (At.push _) (λ_=>none_at_size _) _)]
def LY {op:BoolOp}(h:dw G C sc d b y):dw G C sc d b (.BoolOp op [y] pos):=λ_ _ _ _ _ _ _ c q=>BoolOp_one (h c q)
def DO (h:oq G C sc d b y):oq G C sc d b (.BoolOp .And [y] pos):=λ_ _ _ _ _ _ _ c q =>
 isTrue_and (nN (h c q) λt σ₁ s₁ q r x=>by
  cases t with
  |true=>show isTrue_and_nil (kz.back x (kz.here q r))
  |false=>show kz.back x (kz.here q r))
def DN (h:oq G C sc d b y):oq G C sc d b (.BoolOp .Or [y] pos):=λ_ _ _ _ _ _ _ c q =>
 isTrue_or (nN (h c q) λt σ₁ s₁ q r x=>by
  cases t with
  |false=>show isTrue_or_nil (kz.back x (kz.here q r))
  |true=>show kz.back x (kz.here q r))
end
structure Tab where
 cap:Str->Bool
 gl:List (Str×Value)
 attrs:List Str
 meths:List (Nat×Str)
 fns:List (Nat×Addr)
 cM:Addr
 cS:Addr
structure TabOk (G:Stc)(T:Tab)(C:Cal)(d:Nat):Prop where
 g:GOk G
 gl:∀x v,T.gl.lookup x=some v->G.gl x=some v
 attrs:G.attrs=T.attrs
 cap:G.cap=T.cap
 cal:iW G (λk=>T.fns.lookup k) C (d-1)
 lam:qX G C (d-1)
 meth:∀k name,T.meths.lookup k=some name->∃f,T.fns.lookup k=some f/\MethAt G name f
 init:∃f,T.fns.lookup 0=some f/\rE G f
 cM:G.cM=T.cM
 cS:G.cS=T.cS
 mt:∃fN fM,qa G fN fM/\tP G fN/\qW G fM
 ma:td G
 unp:FE G
 d3:3<=d
abbrev i3 (i:Nat)(x:Expr):Option Expr:=match i with|0=>(vw x).b.1|_=>(vw x).b.2
abbrev jz (x:Expr):List Comprehension×Scope:=(vw x).g
abbrev hdG:List Comprehension->Expr×Expr×List Expr
 |g::_=>(g.target,g.iter,g.ifs)
 | []=>(default,default,[])
abbrev RR (x:Expr):Bool:=fA 0 x&&!(kids x).isEmpty
abbrev dF (x:Expr):BoolOp×List Expr×Pos:=((vw x).op,kids x,x.pos)
def V1 {x:Expr}(h:RR x=true):∃z r,(dF x).2.1=z::r/\x=.BoolOp (dF x).1 (z::r) (dF x).2.2:=by
 have#[h0,Z]:=band h
 revert Z
 apply Expr.BoolOp.elim (motive_1:=λx=>(!(kids x).isEmpty)=true->∃z r,(dF x).2.1=z::r/\x=.BoolOp (dF x).1 (z::r) (dF x).2.2) x (ze h0) λop values p Z=>?_;cases values with
 |nil=>cases Z
 |cons z r=>refine#[z,r,rfl,rfl]
abbrev many (x:Expr):Bool:=!(kids x).tail.tail.isEmpty
abbrev bo (op:BoolOp)(a b:Expr)(p:Pos)(m:Bool):Expr:=.BoolOp op (a::bif m then (dF b).2.1 else [b]) p
abbrev I4 (op:BoolOp)(b:Expr)(p:Pos)(m:Bool):Bool:=!m||(RR b&&(decide ((dF b).1=op)&&decide ((dF b).2.2=p)))
abbrev hint (op:BoolOp)(x:Expr):Expr:=bif many x then .BoolOp op (kids x).tail x.pos else kid 1 x
def yH {op:BoolOp}{b:Expr}{p:Pos}:(m:Bool)->I4 op b p m=true->m=false\/∃z r,b=.BoolOp op (z::r) p/\∀a,bo op a b p m=.BoolOp op (a::z::r) p
 |false,_=>.inl rfl
 |true,h=>by
  have#[h0,Z]:=band (show(RR b&&(decide ((dF b).1=op)&&decide ((dF b).2.2=p)))=true from h);have#[Z,O]:=band Z;have U:=aq Z;clear Z;have rfl:=U;have rfl:=aq O;have#[z,r,e,J]:=V1 h0;show .inr #[z,r,J,λa=>bz (λl=>Expr.BoolOp (dF b).1 (a::l) (dF b).2.2) e]
abbrev glob (T:Tab)(sc:Scope)(x:Str)(v:Value):Bool:=decide (sc.names.lookup x=some .globalImplicit)&&(jg x&&decide (T.gl.lookup x=some v))
abbrev oZ (x:Expr):Bool:=!(fA 7 x)
abbrev rR (sc:Scope):Tg->Expr->Expr
 |.v i=>λx=>.Name (yf sc i) x.pos
 |.T is=>λx=>.Tuple (sy sc is (kids x)) (exK x) x.pos
abbrev E6 (T:Tab)(sc:Scope):Tg->Expr->Bool
 |.v i=>λ_=>ownAt T.cap sc i
 |.T is=>λx=>uD T.cap sc is
abbrev Exs.isNil:Exs->Bool
 |.nil=>true
 |_=>false
abbrev K5:BF->Nat
 |.len=>1
 |.min=>2
 |.max=>2
 |.set=>0
 |.abs=>1
abbrev Exs.len:Exs->Nat
 |.nil=>0
 |.cons _ es=>es.len+1
abbrev CW:BF->Value
 |.len=>.builtin "len"
 |.min=>.builtin "min"
 |.max=>.builtin "max"
 |.abs=>.builtin "abs"
 |.set=>.type "set"
abbrev NH:BF->Bool
 |_=>false
abbrev isSort:BM->Bool
 |.sort=>true
 |_=>false
abbrev nm (x:Expr):Expr:=.Name (md x) x.pos
abbrev Ex.isNone:Ex->Bool
 |.none=>true
 |_=>false
mutual
noncomputable def reE (T:Tab):Ex->Scope->Expr->Expr
 |.none=>λ_ x=>.Constant .none (exK x) x.pos
 |.bool b=>λ_ x=>.Constant (.bool b) (exK x) x.pos
 |.int i=>λ_ x=>.Constant (.int i) (exK x) x.pos
 |.str t=>λ_ x=>.Constant (.str t) (exK x) x.pos
 |.l i=>λsc x=>.Name (yf sc i) x.pos
 |.b op a b=>λsc x=>.BinOp (reE T a sc (kid 0 x)) (binOp op) (reE T b sc (kid 1 x)) x.pos
 |.neg a=>λsc x=>.UnaryOp .USub (reE T a sc (kid 0 x)) x.pos
 |.not a=>λsc x=>.UnaryOp .Not (reE T a sc (kid 0 x)) x.pos
 |.and a b=>λsc x=>bo .And (reE T a sc (kid 0 x)) (reE T b sc (hint .And x)) x.pos (many x)
 |.or a b=>λsc x=>bo .Or (reE T a sc (kid 0 x)) (reE T b sc (hint .Or x)) x.pos (many x)
 |.c op a b=>λsc x=>.Compare (reE T a sc (kid 0 x)) [dM op] [reE T b sc (kid 1 x)] x.pos
 |.I c a b=>λsc x=>.IfExp (reE T c sc (kid 0 x)) (reE T a sc (kid 1 x)) (reE T b sc (kid 2 x)) x.pos
 |.L es=>λsc x=>.List (uz T es sc (kids x)) x.pos
 |.T es=>λsc x=>.Tuple (uz T es sc (kids x)) (exK x) x.pos
 |.dct0=>λ_ x=>.Dict [] [] x.pos
 |.call _ es=>λsc x=>.Call (nm (kid 0 x)) (uz T es sc (kids x).tail) [] x.pos
 |.meth e m es=>λsc x=>.Call (.Attribute (reE T e sc (kid 0 (kid 0 x))) ((T.meths.lookup m).getD "") (kid 0 x).pos) (uz T es sc (kids x).tail) [] x.pos
 |.attr e i=>λsc x=>.Attribute (reE T e sc (kid 0 x)) ((T.attrs[i]?).getD "") x.pos
 |.g e=>λsc x=>.Attribute (reE T e sc (kid 0 x)) "get" x.pos
 |.h e=>λsc x=>.Attribute (reE T e sc (kid 0 x)) "__contains__" x.pos
 |.bm k e es=>λsc x=>.Call (.Attribute (reE T e sc (kid 0 (kid 0 x))) (vM k) (kid 0 x).pos) (uz T es sc (kids x).tail) [] x.pos
 |.bf k es=>λsc x=>.Call (nm (kid 0 x)) (uz T es sc (kids x).tail) [] x.pos
 |.w f es=>λsc x=>.Call (.Name (yf sc f) (kid 0 x).pos) (uz T es sc (kids x).tail) [] x.pos
 |.sub e i=>λsc x=>.Subscript (reE T e sc (kid 0 x)) (reE T i sc (kid 1 x)) x.pos
 |.slc e lo hi=>λsc x=>.Subscript (reE T e sc (kid 0 x)) (.Slice ((i3 0 (kid 1 x)).map (reE T lo sc)) ((i3 1 (kid 1 x)).map (reE T hi sc)) none (kid 1 x).pos) x.pos
 |.K _ it t cs more=>λsc x=>.ListComp (BY T more (qb (jz x).2 sc) (kid 0 x))
   (#[rR (qb (jz x).2 sc) t (hdG (jz x).1).1,uB T it sc (hdG (jz x).1).2.1,uz T cs (qb (jz x).2 sc) (hdG (jz x).1).2.2,0]::HR T more (qb (jz x).2 sc) (jz x).1.tail) (jz x).2 x.pos
 |.n es=>λsc x=>.Call (nm (kid 0 x)) (uz T es sc (kids x).tail) [] x.pos
 |.N a b c=>λsc x=>.Call (nm (kid 0 x)) [reE T a sc (kid 1 x),reE T b sc (kid 2 x),reE T c sc (kid 3 x)] [] x.pos
 |.M e=>λsc x=>.Call (nm (kid 0 x)) [.Call (nm (kid 0 (kid 1 x))) [.Attribute (nm (kid 0 (kid 1 (kid 1 x)))) "_make" (kid 1 (kid 1 x)).pos,reE T e sc (kid 2 (kid 1 x))] [] (kid 1 x).pos] [] x.pos
 |.dead=>λ_ x=>x
noncomputable def uz (T:Tab):Exs->Scope->List Expr->List Expr
 |.nil=>λ_ _=>[]
 |.cons e es=>λsc l=>reE T e sc (l.headD default)::uz T es sc l.tail
noncomputable def uB (T:Tab):It->Scope->Expr->Expr
 |.rng1 e=>λsc x=>.Call (nm (kid 0 x)) [reE T e sc (kid 1 x)] [] x.pos
 |.rng2 e f=>λsc x=>.Call (nm (kid 0 x)) [reE T e sc (kid 1 x),reE T f sc (kid 2 x)] [] x.pos
 |.enum e=>λsc x=>.Call (nm (kid 0 x)) [reE T e sc (kid 1 x)] [] x.pos
 |.seq e=>λsc x=>reE T e sc x
 |.keys e=>λsc x=>.Call (.Attribute (reE T e sc (kid 0 (kid 0 x))) "keys" (kid 0 x).pos) [] [] x.pos
noncomputable def HR (T:Tab):Gens->Scope->List Comprehension->List Comprehension
 |.elt _=>λ_ _=>[]
 |.cons it t cs more=>λsc l=>#[rR sc t (hdG l).1,uB T it sc (hdG l).2.1,uz T cs sc (hdG l).2.2,0]::HR T more sc l.tail
noncomputable def BY (T:Tab):Gens->Scope->Expr->Expr
 |.elt e=>λsc x=>reE T e sc x
 |.cons _ _ _ more=>λsc x=>BY T more sc x
end
abbrev tOk:Ex->Bool
 |.not a=>tOk a
 |.and a b=>tOk a&&tOk b
 |.or a b=>tOk a&&tOk b
 |.I _ a b=>tOk a&&tOk b
 |.c _ _ _=>true
 |.l _=>true
 |.attr _ _=>true
 |.w _ _=>true
 |.sub _ _=>true
 |.b _ _ _=>true
 |.dead=>true
 |_=>false
mutual
noncomputable def okE (T:Tab):Ex->Scope->Expr->Bool
 |.none=>λ_ _=>true
 |.bool _=>λ_ _=>true
 |.int _=>λ_ _=>true
 |.str _=>λ_ _=>true
 |.l i=>λsc _=>kindAt isVar sc i
 |.b _ a b=>λsc x=>okE T a sc (kid 0 x)&&okE T b sc (kid 1 x)
 |.neg a=>λsc x=>okE T a sc (kid 0 x)
 |.not a=>λsc x=>okE T a sc (kid 0 x)
 |.and a b=>λsc x=>okE T a sc (kid 0 x)&&(okE T b sc (hint .And x)&&I4 .And (reE T b sc (hint .And x)) x.pos (many x))
 |.or a b=>λsc x=>okE T a sc (kid 0 x)&&(okE T b sc (hint .Or x)&&I4 .Or (reE T b sc (hint .Or x)) x.pos (many x))
 |.c op a b=>λsc x=>okE T a sc (kid 0 x)&&(okE T b sc (kid 1 x)&&!(behindInMarks (dM op) (reE T b sc (kid 1 x))))
 |.I c a b=>λsc x=>tOk c&&(okE T c sc (kid 0 x)&&(okE T a sc (kid 1 x)&&okE T b sc (kid 2 x)))
 |.L es=>λsc x=>noStar (uz T es sc (kids x))&&rT T es sc (kids x)
 |.T es=>λsc x=>noStar (uz T es sc (kids x))&&rT T es sc (kids x)
 |.dct0=>λ_ _=>true
 |.call f es=>λsc x=>(T.fns.lookup f).any (λa=>glob T sc (md (kid 0 x)) (.ref a))&&(noStar (uz T es sc (kids x).tail)&&rT T es sc (kids x).tail)
 |.meth e m es=>λsc x=>(T.meths.lookup m).isSome&&(okE T e sc (kid 0 (kid 0 x))&&(lu (reE T e sc (kid 0 (kid 0 x)))&&(((kid 0 x).pos.endLine==x.pos.line)&&(decide ((uz T es sc (kids x).tail).length<30) &&
   (noStar (uz T es sc (kids x).tail)&&rT T es sc (kids x).tail)))))
 |.attr e i=>λsc x=>(T.attrs[i]?).isSome&&(lu (reE T e sc (kid 0 x))&&okE T e sc (kid 0 x))
 |.g e=>λsc x=>lu (reE T e sc (kid 0 x))&&okE T e sc (kid 0 x)
 |.h e=>λsc x=>lu (reE T e sc (kid 0 x))&&okE T e sc (kid 0 x)
 |.bm k e es=>λsc x=>(!isSort k||es.isNil)&&(okE T e sc (kid 0 (kid 0 x))&&(lu (reE T e sc (kid 0 (kid 0 x)))&&(((kid 0 x).pos.endLine==x.pos.line)&&(decide ((uz T es sc (kids x).tail).length<30) &&
   (noStar (uz T es sc (kids x).tail)&&rT T es sc (kids x).tail)))))
 |.bf k es=>λsc x=>Nat.beq es.len (K5 k)&&(glob T sc (md (kid 0 x)) (CW k)&&(noStar (uz T es sc (kids x).tail)&&rT T es sc (kids x).tail))
 |.w f es=>λsc x=>kindAt isVar sc f&&(noStar (uz T es sc (kids x).tail)&&rT T es sc (kids x).tail)
 |.sub e i=>λsc x=>!(isSlice (reE T i sc (kid 1 x)))&&(okE T e sc (kid 0 x)&&okE T i sc (kid 1 x))
 |.slc e lo hi=>λsc x=>okE T e sc (kid 0 x)&&((match i3 0 (kid 1 x) with|none=>lo.isNone|some l=>okE T lo sc l)&&(match i3 1 (kid 1 x) with|none=>hi.isNone|some l=>okE T hi sc l))
 |.K fv it t cs more=>λsc x=>I3 T it sc (isTup (rR (qb (jz x).2 sc) t (hdG (jz x).1).1)) (hdG (jz x).1).2.1&&(E6 T (qb (jz x).2 sc) t (hdG (jz x).1).1&&(MR T cs (qb (jz x).2 sc) (hdG (jz x).1).2.2 &&
   (QW T more (qb (jz x).2 sc) (jz x).1.tail (kid 0 x)&&(oZ (uB T it sc (hdG (jz x).1).2.1)&&(decide ((jz x).2.kind=.function)&&(decide (((jz x).2.names.map (·.1)).Nodup) &&
   (rS sc fv 0 (jz x).2.names&&oW (jz x).2 (#[rR (qb (jz x).2 sc) t (hdG (jz x).1).1,uB T it sc (hdG (jz x).1).2.1,uz T cs (qb (jz x).2 sc) (hdG (jz x).1).2.2,0]::HR T more (qb (jz x).2 sc) (jz x).1.tail))))))))
 |.n es=>λsc x=>!es.isNil&&(glob T sc (md (kid 0 x)) (.ref T.cS)&&(noStar (uz T es sc (kids x).tail)&&rT T es sc (kids x).tail))
 |.N a b c=>λsc x=>glob T sc (md (kid 0 x)) (.ref T.cM)&&(noStar [reE T a sc (kid 1 x),reE T b sc (kid 2 x),reE T c sc (kid 3 x)]&&(okE T a sc (kid 1 x)&&(okE T b sc (kid 2 x)&&okE T c sc (kid 3 x))))
 |.M e=>λsc x=>glob T sc (md (kid 0 x)) (.type "list")&&(glob T sc (md (kid 0 (kid 1 x))) (.type "map")&&(glob T sc (md (kid 0 (kid 1 (kid 1 x)))) (.ref T.cM)&&(noStar [reE T e sc (kid 2 (kid 1 x))]&&okE T e sc (kid 2 (kid 1 x)))))
 |.dead=>λ_ _=>true
noncomputable def rT (T:Tab):Exs->Scope->List Expr->Bool
 |.nil=>λ_ _=>true
 |.cons e es=>λsc l=>okE T e sc (l.headD default)&&rT T es sc l.tail
noncomputable def MR (T:Tab):Exs->Scope->List Expr->Bool
 |.nil=>λ_ _=>true
 |.cons e es=>λsc l=>tOk e&&(okE T e sc (l.headD default)&&MR T es sc l.tail)
noncomputable def I3 (T:Tab):It->Scope->Bool->Expr->Bool
 |.rng1 e=>λsc _ x=>glob T sc (md (kid 0 x)) (.type "range")&&(noStar [reE T e sc (kid 1 x)]&&okE T e sc (kid 1 x))
 |.rng2 e f=>λsc _ x=>glob T sc (md (kid 0 x)) (.type "range")&&(noStar [reE T e sc (kid 1 x),reE T f sc (kid 2 x)]&&(okE T e sc (kid 1 x)&&okE T f sc (kid 2 x)))
 |.enum e=>λsc tp x=>tp&&(glob T sc (md (kid 0 x)) (.type "enumerate")&&(noStar [reE T e sc (kid 1 x)]&&okE T e sc (kid 1 x)))
 |.seq e=>λsc _ x=>okE T e sc x
 |.keys e=>λsc _ x=>lu (reE T e sc (kid 0 (kid 0 x)))&&(((kid 0 x).pos.endLine==x.pos.line)&&okE T e sc (kid 0 (kid 0 x)))
noncomputable def QW (T:Tab):Gens->Scope->List Comprehension->Expr->Bool
 |.elt e=>λsc _ x=>okE T e sc x
 |.cons it t cs more=>λsc l x=>I3 T it sc (isTup (rR sc t (hdG l).1)) (hdG l).2.1&&(E6 T sc t (hdG l).1&&(MR T cs sc (hdG l).2.2&&(QW T more sc l.tail x&&oZ (uB T it sc (hdG l).2.1))))
end
abbrev BX (T:Tab)(sc:Scope):Tgt->Expr->Expr
 |.v i=>λx=>.Name (yf sc i) x.pos
 |.attr o i=>λx=>.Attribute (reE T o sc (kid 0 x)) ((T.attrs[i]?).getD "") x.pos
 |.sub o i=>λx=>.Subscript (reE T o sc (kid 0 x)) (reE T i sc (kid 1 x)) x.pos
 |.T is=>λx=>.Tuple (sy sc is (kids x)) (exK x) x.pos
abbrev PC (T:Tab)(sc:Scope):Tgt->Expr->Bool
 |.v i=>λ_=>ownAt T.cap sc i
 |.attr o i=>λx=>okE T o sc (kid 0 x)&&(T.attrs[i]?).isSome
 |.sub o i=>λx=>okE T o sc (kid 0 x)&&okE T i sc (kid 1 x)
 |.T is=>λx=>uD T.cap sc is
abbrev zm (T:Tab)(sc:Scope):List Tgt->List Expr->List Expr
 | []=>λ_=>[]
 |t::ts=>λl=>BX T sc t (l.headD default)::zm T sc ts l.tail
abbrev oU (T:Tab)(sc:Scope):List Tgt->List Expr->Bool
 | []=>λ_=>true
 |t::ts=>λl=>PC T sc t (l.headD default)&&oU T sc ts l.tail
abbrev stB (x:Stmt):List Stmt×List Stmt:=((sw x).b,(sw x).c)
abbrev A1:List Tgt->Bool
 | [.v _]=>true
 |_=>false
abbrev A2:Ex->Bool
 |.K _ _ _ _ _=>true
 |_=>false
abbrev IZ:List Tgt->Option (List Nat)
 | [.T is]=>some is
 |_=>none
abbrev PD (T:Tab)(sc:Scope)(ts:List Tgt)(e:Ex)(xs hs:List Expr)(y:Expr):Option (Option (List Str))->Bool
 |none=>false
 |some none=>oU T sc ts hs&&(zo y||(A1 ts&&A2 e))
 |some (some names)=>(IZ ts).any λis=>zo y&&(TV T.cap sc is names&&decide is.Nodup)
abbrev UC:Bop->Bool
 |.add=>true
 |.sub=>true
 |_=>false
mutual
noncomputable def reS (T:Tab)(sc:Scope):Stm->Stmt->Stmt
 |.a ts e=>λx=>.Assign (zm T sc ts (zj x).tail) (reE T e sc (st0 x)) x.pos
 |.aug i op e=>λx=>.AugAssign (.Name (yf sc i) ((zj x).getD 1 default).pos) (binOp op) (reE T e sc (st0 x)) x.pos
 |.delD o i=>λx=>.Delete [.Subscript (reE T o sc (kid 0 (st0 x))) (reE T i sc (kid 1 (st0 x))) (st0 x).pos] x.pos
 |.expr e=>λx=>.Expr (reE T e sc (st0 x)) x.pos
 |.C c t e=>λx=>.If (reE T c sc (st0 x)) (f9 T sc t (stB x).1) (f9 T sc e (stB x).2) x.pos
 |.loop c b=>λx=>.While (reE T c sc (st0 x)) (f9 T sc b (stB x).1) [] x.pos
 |.each t it b=>λx=>.For (rR sc t ((zj x).getD 1 default)) (uB T it sc (st0 x)) (f9 T sc b (stB x).1) [] x.pos
 |.ret e=>λx=>.Return ((zj x).head?.map (reE T e sc)) x.pos
 |.brk=>λx=>.Break x.pos
 |.cont=>λx=>.Continue x.pos
 |.pass=>λx=>bif (zj x).isEmpty then .Pass x.pos else .Expr (.Constant (.str (CL (st0 x))) (exK (st0 x)) (st0 x).pos) x.pos
 |.dead=>λx=>x
noncomputable def f9 (T:Tab)(sc:Scope):jo->List Stmt->List Stmt
 |.nil=>λ_=>[]
 |.cons s ss=>λl=>reS T sc s (l.headD default)::f9 T sc ss l.tail
end
mutual
noncomputable def okS (T:Tab)(sc:Scope):Stm->Stmt->Bool
 |.a ts e=>λx=>okE T e sc (st0 x)&&PD T sc ts e (zm T sc ts (zj x).tail) (zj x).tail (reE T e sc (st0 x)) (swp sc (zm T sc ts (zj x).tail) (reE T e sc (st0 x)))
 |.aug i op e=>λx=>UC op&&(ownAt T.cap sc i&&okE T e sc (st0 x))
 |.delD o i=>λx=>okE T o sc (kid 0 (st0 x))&&okE T i sc (kid 1 (st0 x))
 |.expr e=>λx=>zo (reE T e sc (st0 x))&&okE T e sc (st0 x)
 |.C c t e=>λx=>tOk c&&(okE T c sc (st0 x)&&(iF T sc t (stB x).1&&iF T sc e (stB x).2))
 |.loop c b=>λx=>tOk c&&(okE T c sc (st0 x)&&iF T sc b (stB x).1)
 |.each t it b=>λx=>E6 T sc t ((zj x).getD 1 default)&&(I3 T it sc (isTup (rR sc t ((zj x).getD 1 default))) (st0 x)&&(iF T sc b (stB x).1&&oZ (uB T it sc (st0 x))))
 |.ret e=>λx=>match (zj x).head? with
  |some y=>okE T e sc y
  |none=>e.isNone
 |.brk=>λ_=>true
 |.cont=>λ_=>true
 |.pass=>λ_=>true
 |.dead=>λ_=>true
noncomputable def iF (T:Tab)(sc:Scope):jo->List Stmt->Bool
 |.nil=>λ_=>true
 |.cons s ss=>λl=>okS T sc s (l.headD default)&&iF T sc ss l.tail
end
end MP
end
section
namespace MP
open PySem PyProof.Rows PySem.W
section
variable {sc:Scope}{x y u:Expr}{α:Type}{e a b:Ex}{p pos:Pos}{es:Exs}{args:List Expr}{n:Nat}
variable {G:Stc}{T:Tab}{C:Cal}{d:Nat}
def qc (K:TabOk G T C d){x:Str}{v:Value}(h:glob T sc x v=true):sc.names.lookup x=some .globalImplicit/\jg x=true/\G.gl x=some v:=
 #[aq (band h).1,(band (band h).2).1,K.gl _ _ (aq (band (band h).2).2)]
def bO (h:oZ x=true):∀env v,foldedSetIterable x env v=pure v:=by
 intro env v;cases x<;>first|rfl|show Bool.noConfusion (show false=true from h)
def TabOk.own (K:TabOk G T C d){i:Nat}(h:ownAt T.cap sc i=true):∃k,sc.names[i]?=some (yf sc i,k)/\Own G (yf sc i) k/\jg (yf sc i)=true:=zL (by rw[K.cap];show h)
def tY (K:TabOk G T C d):(t:Tg)->(x:Expr)->E6 T sc t x=true->vl G C sc d t (rR sc t x)
 |.v i,x,h=>by have#[k,U,Z,O]:=K.own h;show LI (C:=C) U Z
 |.T is,x,h=>LJ (C:=C) K.unp (by rw[K.cap];show h)
def pR {a:Option α}{d:α}(h:a.isSome=true):a=some (a.getD d):=by
 cases a with
 |none=>cases h
 |some x=>rfl
def vO (K:TabOk G T C d){i:Nat}(h:(T.attrs[i]?).isSome=true):G.attrs[i]?=some ((T.attrs[i]?).getD ""):=by
 rw[K.attrs];show pR h
def V3 {op:BoolOp}{m:Bool}(H:∀z r,dw G C sc d a x->dw G C sc d b (.BoolOp op (z::r) p)->dw G C sc d e (.BoolOp op (x::z::r) p))(Z:dw G C sc d a x)(hb:dw G C sc d b y)(h:I4 op y p m=true) :
  dw G C sc d e (bo op x y p m):=by
 rcases yH m h with rfl|⟨z,r,rfl,e1⟩
 ·show H y [] Z (LY hb)
 ·rw[e1];show H z r Z hb
def V2 {op:BoolOp}{m:Bool}(H:∀z r,oq G C sc d a x->oq G C sc d b (.BoolOp op (z::r) p)->oq G C sc d e (.BoolOp op (x::z::r) p))(Z:oq G C sc d a x)(hb:oq G C sc d b y)(h:I4 op y p m=true) :
  oq G C sc d e (bo op x y p m):=by
 rcases yH m h with rfl|⟨z,r,rfl,e1⟩
 ·show H y [] Z (by cases op;show DO hb;show DN hb)
 ·rw[e1];show H z r Z hb
def DM (K:TabOk G T C d){f:Nat}(h:((T.fns.lookup f).any λa=>glob T sc (md x) (.ref a))=true)(Z:ou G C sc d es args)(U:noStar args=true):dw G C sc d (.call f es) (.Call (nm x) args [] pos):=by
 have#[a,e,h]:=any_some h;have#[g1,g2,g3]:=qc K h;show H5 K.g (K.cal.more (nz _ _)) e Z U g1 g2 g3
def DJ (K:TabOk G T C d){m:Nat}{o:Expr}{ap:Pos}(h:(T.meths.lookup m).isSome=true)(J:dw G C sc d e o)(h2:lu o=true)(h3:(ap.endLine==pos.line)=true)(B:decide (args.length<30)=true)(U:noStar args=true)(Z:ou G C sc d es args) :
  dw G C sc d (.meth e m es) (.Call (.Attribute o ((T.meths.lookup m).getD "") ap) args [] pos):=by
 have#[f,O,M]:=K.meth _ _ (pR h);show GO (K.cal.more (nz _ _)) O M J Z h2 U (aq B) h3
def M9 (K:TabOk G T C d){k:BM}{o:Expr}{ap:Pos}(h:(!isSort k||es.isNil)=true)(ha:es.isNil=true->args=[])(U:dw G C sc d e o)(J:lu o=true)(O:(ap.endLine==pos.line)=true)(h4:decide (args.length<30)=true)(B:noStar args=true)(Z:ou G C sc d es args) :
  dw G C sc d (.bm k e es) (.Call (.Attribute o (vM k) ap) args [] pos):=by
 by_cases hk:k=.sort
 ·subst hk;have rfl:=ha h;cases es with
  |nil=>show G9 K.ma U J O
  |cons _ _=>cases h
 ·show QK K.g hk U Z J B (aq h4) O
def HS {l:List Expr}:(es:Exs)->es.isNil=true->uz T es sc l=[]
 |.nil,_=>rfl
def MM {l:List Expr}:(es:Exs)->(!es.isNil)=true->uz T es sc l≠[]
 |.cons _ _,_=>lp _ _
def DI (K:TabOk G T C d)(Z:args≠[])(h:glob T sc (md x) (.ref T.cS)=true)(O:noStar args=true)(U:ou G C sc d es args):dw G C sc d (.n es) (.Call (nm x) args [] pos):=by
 have#[g1,g2,g3]:=qc K h;have#[f,J,M]:=K.init;show GK K.g K.cal (fm (by decide) K.d3) J M U O Z g1 g2 (K.cS▸g3)
def rM (K:TabOk G T C d){c:Ex}{v w:Expr}(h:glob T sc (md x) (.ref T.cM)=true)(Z:noStar [u,v,w]=true)(O:dw G C sc d a u)(hb:dw G C sc d b v)(U:dw G C sc d c w):dw G C sc d (.N a b c) (.Call (nm x) [u,v,w] [] pos):=by
 have#[g1,g2,g3]:=qc K h;have#[fN,fM,B,J,Mm]:=K.mt;show u5 K.g B J K.ma (fm (by decide) K.d3) O hb U Z g1 g2 (K.cM▸g3)
def oC (K:TabOk G T C d){z:Expr}{q:Pos}(h1:glob T sc (md x) (.type "list")=true)(h2:glob T sc (md y) (.type "map")=true)(h3:glob T sc (md z) (.ref T.cM)=true)(B:noStar [u]=true)(he:dw G C sc d e u) :
  dw G C sc d (.M e) (.Call (nm x) [.Call (nm y) [.Attribute (nm z) "_make" q,u] [] p] [] pos):=by
 have#[g1,g2,g3]:=qc K h1;have#[J,k2,k3]:=qc K h2;have#[O,U,Z]:=qc K h3;have#[fN,fM,Mk,Mn,Mm]:=K.mt;show rN K.g Mk K.ma Mm K.d3 he B g1 g2 g3 J k2 k3 O U (K.cM▸Z)
def lZ (h:e.isNone=true):e=.none:=by
 cases e<;>first|rfl|show Bool.noConfusion h
def NY {l m:List α}{a:α}(h:l.drop n=a::m):l[n]?=some a:=by
 have:=bz (λl=>l[0]?) h;simpa using this
def NX {l m:List α}{a:α}(h:l.drop n=a::m):l.drop (n+1)=m:=by
 have:=bz (λl=>l.drop 1) h;simpa using this
def fL:(gs:Gens)->(l:List Comprehension)->∀g∈HR T gs sc l,g.is_async=0
 |.elt _,_,_,h=>nomatch h
 |.cons _ _ _ more,l,g,h=>(cz.mp h).elim (λe=>e▸rfl) (fL more l.tail g)
def ft {p:Prop}(h:false=true):p:=Bool.noConfusion h
def MB (K:TabOk G T C d):(k:BF)->Nat.beq 1 (K5 k)=true->NH k=false->glob T sc (md x) (CW k)=true->noStar [u]=true->dw G C sc d e u->dw G C sc d (.bf k %[e|0]) (.Call (nm x) [u] [] pos)
 |.len=>λ_ _ h Z U=>by have#[g1,g2,g3]:=qc K h;show M3 K.g U Z g1 g2 g3
 |.abs=>λ_ _ h Z U=>by have#[g1,g2,g3]:=qc K h;show ME K.g U Z g1 g2 g3
 |.min=>λh=>ft h
 |.max=>λh=>ft h
 |.set=>λh=>ft h
def MA (K:TabOk G T C d){f:Ex}{v:Expr}:(k:BF)->Nat.beq 2 (K5 k)=true->glob T sc (md x) (CW k)=true->noStar [u,v]=true->dw G C sc d e u->dw G C sc d f v->dw G C sc d (.bf k %[e,f|0]) (.Call (nm x) [u,v] [] pos)
 |.min=>λ_ h Z O U=>by have#[g1,g2,g3]:=qc K h;show GN K.g O U Z g1 g2 g3
 |.max=>λ_ h Z O U=>by have#[g1,g2,g3]:=qc K h;show GP K.g O U Z g1 g2 g3
 |.len=>λh=>ft h
 |.set=>λh=>ft h
 |.abs=>λh=>ft h
def MC (K:TabOk G T C d):(k:BF)->Nat.beq 0 (K5 k)=true->glob T sc (md x) (CW k)=true->dw G C sc d (.bf k .nil) (.Call (nm x) [] [] pos)
 |.set=>λ_ h=>by have#[g1,g2,g3]:=qc K h;show GD K.g g1 g2 g3
 |.len=>λh=>ft h
 |.min=>λh=>ft h
 |.max=>λh=>ft h
 |.abs=>λh=>ft h
def bf3 (k:BF)(h:Nat.beq (n+3) (K5 k)=true):False:=by
 cases k<;>first|show nomatch (show Nat.beq (n+2) 0=true from h)|show nomatch (show Nat.beq (n+3) 0=true from h)|show nomatch (show Nat.beq (n+1) 0=true from h)
mutual
theorem jv (K:TabOk G T C d):(e:Ex)->(sc:Scope)->(x:Expr)->okE T e sc x=true->dw G C sc d e (reE T e sc x)
 |.none=>λsc x h=>GJ
 |.bool b=>λsc x h=>H6
 |.int i=>λsc x h=>M5
 |.str t=>λsc x h=>LR
 |.l i=>λsc x h=>by have#[k,h1,Z,U]:=hV h;show nU h1 Z U
 |.b op a b=>λsc x h=>BP (jv K a sc _ (band h).1) (jv K b sc _ (band h).2)
 |.neg a=>λsc x h=>M0 (jv K a sc _ h)
 |.not a=>λsc x h=>LZ (jv K a sc _ h)
 |.and a b=>λsc x h=>let Z:=band (band h).2;V3 (λ_ _=>snd_and) (jv K a sc _ (band h).1) (jv K b sc _ Z.1) Z.2
 |.or a b=>λsc x h=>let Z:=band (band h).2;V3 (λ_ _=>QG) (jv K a sc _ (band h).1) (jv K b sc _ Z.1) Z.2
 |.c op a b=>λsc x h=>let Z:=band (band h).2;M7 (jv K a sc _ (band h).1) (jv K b sc _ Z.1) ((fg _).mp Z.2)
 |.I c a b=>λsc x h=>let Z:=band (band h).2;let U:=band Z.2;M4 (iD K c sc _ (band h).1 Z.1) (jv K a sc _ U.1) (jv K b sc _ U.2)
 |.L es=>λsc x h=>M1 (jX K es sc _ (band h).1 (band h).2)
 |.T es=>λsc x h=>BL (jX K es sc _ (band h).1 (band h).2)
 |.dct0=>λsc x h=>GX
 |.call f es=>λsc x h=>let Z:=band (band h).2;DM K (band h).1 (jX K es sc _ Z.1 Z.2) Z.1
 |.meth e m es=>λsc x h=>let Z:=band (band h).2;let U:=band Z.2;let O:=band U.2;let J:=band O.2;let B:=band J.2
  DJ K (band h).1 (jv K e sc _ Z.1) U.1 O.1 J.1 B.1 (jX K es sc _ B.1 B.2)
 |.attr e i=>λsc x h=>let Z:=band (band h).2;wL K.g (jv K e sc _ Z.2) Z.1 (vO K (band h).1)
 |.g e=>λsc x h=>zA (jv K e sc _ (band h).2) (band h).1
 |.h e=>λsc x h=>z9 (jv K e sc _ (band h).2) (band h).1
 |.bm k e es=>λsc x h=>let Z:=band (band h).2;let U:=band Z.2;let O:=band U.2;let J:=band O.2;let B:=band J.2
  M9 K (band h).1 (HS es) (jv K e sc _ Z.1) U.1 O.1 J.1 B.1 (jX K es sc _ B.1 B.2)
 |.bf k .nil=>λsc x h=>MC K k (band h).1 (band (band h).2).1
 |.bf k %[e|0]=>λsc x h=>let Z:=band (band h).2;let O:=band Z.2
  MB K k (band h).1 rfl Z.1 O.1 (jv K e sc _ (band O.2).1)
 |.bf k %[e,f|0]=>λsc x h=>let Z:=band (band h).2;let O:=band Z.2;let J:=band O.2
  MA K k (band h).1 Z.1 O.1 (jv K e sc _ J.1) (jv K f sc _ (band J.2).1)
 |.bf k (.cons e (.cons f (.cons g r)))=>λsc x h=>(bf3 k (band h).1).elim
 |.w f es=>λsc x h=>let Z:=band (band h).2;by have#[k,e1,e2,e3]:=hV (band h).1;show sP K.g (K.lam.more (nz _ _)) e1 e2 e3 (jX K es sc _ Z.1 Z.2) Z.1
 |.sub e i=>λsc x h=>let Z:=band (band h).2;BN (jv K e sc _ Z.1) (jv K i sc _ Z.2) ((fg _).mp (band h).1)
 |.slc e lo hi=>λsc x h=>let Z:=band (band h).2;LS (jv K e sc _ (band h).1)
   (by
    cases e0:i3 0 (kid 1 x) with
    |none=>show .inl #[lZ (by have:=Z.1;rw[e0]at this;show this),rfl]
    |some y=>show .inr #[_,rfl,jv K lo sc y (by have:=Z.1;rw[e0]at this;show this)])
   (by
    cases e0:i3 1 (kid 1 x) with
    |none=>show .inl #[lZ (by have:=Z.2;rw[e0]at this;show this),rfl]
    |some y=>show .inr #[_,rfl,jv K hi sc y (by have:=Z.2;rw[e0]at this;show this)])
 |.K fv it t cs more=>λsc x h=>let Z:=band (band h).2;let U:=band Z.2;let O:=band U.2;let J:=band O.2;let B:=band J.2;let h7:=band B.2;let h8:=band h7.2
  wK (wM K it sc _ _ (band h).1) (tY K t _ Z.1) (BS K cs _ _ U.1) (HD K more _ _ _ _ _ 0 vE rfl (λg hg=>(cz.mp hg).elim (λe=>e▸rfl) (fL more _ g)) O.1) (bO J.1) (aq B.1) (aq h7.1) h8.1 h8.2 (fL more _)
 |.n es=>λsc x h=>let Z:=band (band h).2;let U:=band Z.2;DI K (MM es (band h).1) Z.1 U.1 (jX K es sc _ U.1 U.2)
 |.N a b c=>λsc x h=>let Z:=band (band h).2;let U:=band Z.2;let O:=band U.2;rM K (band h).1 Z.1 (jv K a sc _ U.1) (jv K b sc _ O.1) (jv K c sc _ O.2)
 |.M e=>λsc x h=>let Z:=band (band h).2;let U:=band Z.2;let O:=band U.2;oC K (band h).1 Z.1 U.1 O.1 (jv K e sc _ O.2)
 |.dead=>λsc x h=>DL
theorem iD (K:TabOk G T C d):(e:Ex)->(sc:Scope)->(x:Expr)->tOk e=true->okE T e sc x=true->oq G C sc d e (reE T e sc x)
 |.not a=>λsc x t h=>H9 (iD K a sc _ t h)
 |.and a b=>λsc x t h=>let Z:=band (band h).2;V2 (λ_ _=>HC) (iD K a sc _ (band t).1 (band h).1) (iD K b sc _ (band t).2 Z.1) Z.2
 |.or a b=>λsc x t h=>let Z:=band (band h).2;V2 (λ_ _=>MF) (iD K a sc _ (band t).1 (band h).1) (iD K b sc _ (band t).2 Z.1) Z.2
 |.c op a b=>λsc x t h=>let Z:=band (band h).2;HB (jv K a sc _ (band h).1) (jv K b sc _ Z.1) ((fg _).mp Z.2)
 |.I c a b=>λsc x t h=>let Z:=band (band h).2;let U:=band Z.2;HA (iD K c sc _ (band h).1 Z.1) (iD K a sc _ (band t).1 U.1) (iD K b sc _ (band t).2 U.2)
 |.l i=>λsc x t h=>by have#[k,O,Z,U]:=hV h;show ye (nU O Z U) (λ_ _=>rfl) λρ σ Q q=>q
 |.attr e i=>λsc x t h=>let Z:=band (band h).2;ye (wL K.g (jv K e sc _ Z.2) Z.1 (vO K (band h).1)) (λ_ _=>rfl) λρ σ Q q=>q
 |.w f es=>λsc x t h=>let Z:=band (band h).2;by have#[k,e1,e2,e3]:=hV (band h).1;show ye (sP K.g (K.lam.more (nz _ _)) e1 e2 e3 (jX K es sc _ Z.1 Z.2) Z.1) (λ_ _=>rfl) λρ σ Q q=>q
 |.sub e i=>λsc x t h=>let Z:=band (band h).2;ye (BN (jv K e sc _ Z.1) (jv K i sc _ Z.2) ((fg _).mp (band h).1)) (λ_ _=>rfl) λρ σ Q q=>q
 |.b op a b=>λsc x t h=>ye (BP (jv K a sc _ (band h).1) (jv K b sc _ (band h).2)) (λ_ _=>rfl) λρ σ Q q=>q
 |.dead=>λsc x t h=>DK
 |.none=>λ_ _ t _=>ft t
 |.bool _=>λ_ _ t _=>ft t
 |.int _=>λ_ _ t _=>ft t
 |.str _=>λ_ _ t _=>ft t
 |.neg _=>λ_ _ t _=>ft t
 |.L _=>λ_ _ t _=>ft t
 |.T _=>λ_ _ t _=>ft t
 |.dct0=>λ_ _ t _=>ft t
 |.call _ _=>λ_ _ t _=>ft t
 |.meth _ _ _=>λ_ _ t _=>ft t
 |.g _=>λ_ _ t _=>ft t
 |.h _=>λ_ _ t _=>ft t
 |.bm _ _ _=>λ_ _ t _=>ft t
 |.bf _ _=>λ_ _ t _=>ft t
 |.slc _ _ _=>λ_ _ t _=>ft t
 |.K _ _ _ _ _=>λ_ _ t _=>ft t
 |.n _=>λ_ _ t _=>ft t
 |.N _ _ _=>λ_ _ t _=>ft t
 |.M _=>λ_ _ t _=>ft t
theorem jX (K:TabOk G T C d):(es:Exs)->(sc:Scope)->(l:List Expr)->noStar (uz T es sc l)=true->rT T es sc l=true->ou G C sc d es (uz T es sc l)
 |.nil=>λsc l Z h=>km
 |.cons e es=>λsc l Z h=>jc (jv K e sc _ (band h).1) (jX K es sc _ (fb Z).2 (band h).2) (fb Z).1
theorem BS (K:TabOk G T C d):(es:Exs)->(sc:Scope)->(l:List Expr)->MR T es sc l=true->qq G C sc d es (uz T es sc l)
 |.nil=>λsc l h=>EW
 |.cons e es=>λsc l h=>let Z:=band (band h).2;AK (iD K e sc _ (band h).1 Z.1) (BS K es sc _ Z.2)
theorem wM (K:TabOk G T C d):(it:It)->(sc:Scope)->(U:Bool)->(x:Expr)->I3 T it sc U x=true->xh G C sc d U it (uB T it sc x)
 |.rng1 e,sc,U,x,h=>let Z:=band (band h).2;by have#[g1,g2,g3]:=qc K (band h).1;show ND K.g (jv K e sc _ Z.2) Z.1 g1 g2 g3
 |.rng2 e f,sc,U,x,h=>let Z:=band (band h).2;let O:=band Z.2;by have#[g1,g2,g3]:=qc K (band h).1;show NC K.g (jv K e sc _ O.1) (jv K f sc _ O.2) Z.1 g1 g2 g3
 |.enum e,sc,true,x,h=>let Z:=band h;let O:=band Z.2;by have#[g1,g2,g3]:=qc K Z.1;show NG K.g (jv K e sc _ O.2) O.1 g1 g2 g3
 |.enum e,sc,false,x,h=>nomatch h
 |.seq e,sc,U,x,h=>RP (jv K e sc _ h)
 |.keys e,sc,U,x,h=>let Z:=band (band h).2;NF K.g (jv K e sc _ Z.2) (band h).1 Z.1
theorem HD (K:TabOk G T C d):(gs:Gens)->(sc:Scope)->(x:Expr)->(l:List Comprehension)->(gens:List Comprehension)->(ce:Expr)->(depth:Nat)->rH ce gens (A7 (BY T gs sc x))->gens.drop (depth+1)=HR T gs sc l->(∀g∈gens,g.is_async=0)->QW T gs sc l x=true->so G (FD G) C sc d gs ce gens (A7 (BY T gs sc x)) depth
 |.elt e=>λsc x l gens ce depth U hd Z h=>FC (jv K e sc _ h) (pa.mpr (dW.mp hd))
 |.cons it t cs more=>λsc x l gens ce depth U hd Z h =>
  let B:=band (band h).2;let J:=band B.2;let O:=band J.2
  AZ U (wM K it sc _ _ (band h).1) (tY K t _ B.1) (BS K cs _ _ J.1) (HD K more sc x _ gens ce (depth+1) U (NX hd) Z O.1) (NY hd) (λg' hg=>Z g' (dq hg)) (bO O.2)
end
end
section
variable {e:Ex}
variable {G:Stc}{T:Tab}{C:Cal}{d:Nat}{sc:Scope}
def QL (K:TabOk G T C d):(t:Tgt)->(x:Expr)->PC T sc t x=true->mJ G C sc d t (BX T sc t x)
 |.v i,x,h=>by have#[k,U,Z,O]:=K.own h;show BE U Z
 |.attr o i,x,h=>FZ K.g (jv K o sc _ (band h).1) (vO K (band h).2)
 |.sub o i,x,h=>LH (jv K o sc _ (band h).1) (jv K i sc _ (band h).2)
 |.T is,x,h=>LG K.unp (by rw[K.cap];show h)
def JI (t:Tgt)(x:Expr)(xs:List Expr)(env:Env):assignEach (BX T sc t x::xs) env=(false,assign (BX T sc t x) env)::assignEach xs env:=by
 cases t<;>rfl
def BR (K:TabOk G T C d):(ts:List Tgt)->(l:List Expr)->oU T sc ts l=true->iC G C sc d ts (zm T sc ts l)
 | [],_,_=>.nil
 |t::ts,l,h=>.cons (QL K t _ (band h).1) (JI t _ _) (BR K ts _ (band h).2)
def FY:(ts:List Tgt)->(l:List Expr)->A1 ts=true->oU T sc ts l=true->∃i x p,ts=[.v i]/\zm T sc ts l=[.Name x p]/\x=yf sc i/\ownAt T.cap sc i=true
 | []=>λl q h=>ft q
 |t::r=>λl q h=>by
  cases t<;>cases r<;>first|refine⟨_,_,_,rfl,rfl,rfl,(band h).1⟩|show ft q
def VU:(ts:List Tgt)->(is:List Nat)->IZ ts=some is->ts=[.T is]
 | []=>λis h=>je h
 |t::r=>λis h=>by
  cases t<;>cases r<;>first|show je h|(have rfl:=ak h;rfl)
def OY (K:TabOk G T C d)(t:Tg)(x:Expr)(h:E6 T sc t x=true):n9 G C sc d t (rR sc t x):=vl.plain (C:=C) (tY K t x h)
def V7 {op:Bop}(h:UC op=true):op=.add\/op=.sub:=by
 cases op<;>first|show .inl rfl|show .inr rfl|show Bool.noConfusion h
def O4 (h:A2 e=true):∃fv it t cs more,e=.K fv it t cs more:=by
 cases e<;>first|refine⟨_,_,_,_,_,rfl⟩|show Bool.noConfusion h
def MG (K:TabOk G T C d){ts:List Tgt}{pos:Pos}{l:List Expr}{y:Expr}(hc:A2 e=true)(hv:A1 ts=true)(ht:oU T sc ts l=true)(h:okE T e sc y=true):yr G C sc d (.a ts e) (.Assign (zm T sc ts l) (reE T e sc y) pos):=by
  have#[fv,it,t,cs,more,rfl]:=O4 hc;have#[i,x',p',rfl,e2,rfl,hk]:=FY ts l hv ht;have#[kd,o1,o2,o3]:=K.own hk;rw[e2];have h2:=band (band h).2;have h3:=band h2.2;have B:=band h3.2;have J:=band B.2;have O:=band J.2;have U:=band O.2;have Z:=band U.2;show oF o1 o2 (wM K it sc _ _ (band h).1) (tY K t _ h2.1) (BS K cs _ _ h3.1) (HD K more _ _ _ _ _ 0 vE rfl (λg hg=>(cz.mp hg).elim (λe=>e▸rfl) (fL more _ g)) B.1) (bO J.1) (aq O.1) (aq U.1) Z.1 Z.2 (fL more _)
def DQ (K:TabOk G T C d){ts:List Tgt}{pos:Pos}{l:List Expr}{y:Expr}(h:okE T e sc y=true):(o:Option (Option (List Str)))->swp sc (zm T sc ts l) (reE T e sc y)=o->PD T sc ts e (zm T sc ts l) l (reE T e sc y) o=true->yr G C sc d (.a ts e) (.Assign (zm T sc ts l) (reE T e sc y) pos)
 |none,_,U=>nomatch U
 |some none,O,U=>(Classical.em (zo (reE T e sc y)=true)).elim (λJ=>zC (BR K ts l (band U).1) (jv K e sc y h) J O) λJ =>
  ((sr ..).mp (band U).2).elim (λZ=>absurd Z J) λZ=>MG K (band Z).2 (band Z).1 (band U).1 h
 |some (some names),O,U=>by
  have#[is,e1,Z]:=any_some U;have rfl:=VU ts is e1;show snd_swap K.unp (jv K e sc y h) (band Z).1 O (by rw[K.cap];show(band (band Z).2).1) (aq (band (band Z).2).2)
mutual
theorem VV (K:TabOk G T C d):(s:Stm)->(x:Stmt)->okS T sc s x=true->yr G C sc d s (reS T sc s x)
 |.a ts e=>λx h=>DQ K (band h).1 _ rfl (band h).2
 |.aug i op e=>λx h=>by
  have#[k,B,J,O]:=K.own (band (band h).2).1;show MD (V7 (band h).1) (jv K e sc _ (band (band h).2).2) B J O
 |.delD o i=>λx h=>M6 (jv K o sc _ (band h).1) (jv K i sc _ (band h).2)
 |.expr e=>λx h=>GS (jv K e sc _ (band h).2) (band h).1
 |.C c t e=>λx h=>let Z:=band (band h).2;let U:=band Z.2;GZ (iD K c sc _ (band h).1 Z.1) (eP K t _ U.1) (eP K e _ U.2)
 |.loop c b=>λx h=>let Z:=band (band h).2;GQ (iD K c sc _ (band h).1 Z.1) (eP K b _ Z.2)
 |.each t it b=>λx h=>let Z:=band (band h).2;let U:=band Z.2;GU (OY K t _ (band h).1) (wM K it sc _ _ Z.1) (eP K b _ U.1) (bO U.2)
 |.ret e=>λx h=>by
  show yr G C sc d _ (.Return ((zj x).head?.map (reE T e sc)) x.pos);have h:(match (zj x).head? with|some y=>okE T e sc y|none=>e.isNone)=true:=h;cases q:(zj x).head? with
  |some y=>rw[q]at h;show LV (jv K e sc y h)
  |none=>rw[q]at h;have rfl:=lZ h;show GF
 |.brk=>λx h=>M8
 |.cont=>λx h=>GY
 |.pass=>λx h=>by
  show yr G C sc d _ (bif (zj x).isEmpty then _ else _);cases (zj x).isEmpty
  ·show u6
  ·show GI
 |.dead=>λx h=>GV
theorem eP (K:TabOk G T C d):(b:jo)->(l:List Stmt)->iF T sc b l=true->nv G C sc d b (f9 T sc b l)
 |.nil=>λl h=>DP
 |.cons s ss=>λl h=>zD (VV K s _ (band h).1) (eP K ss _ (band h).2)
end
end
structure vW (G:Stc)(T:Tab):Prop where
 g:GOk G
 gl:∀x v,T.gl.lookup x=some v->G.gl x=some v
 attrs:G.attrs=T.attrs
 cap:G.cap=T.cap
 meth:∀k name,T.meths.lookup k=some name->∃f,T.fns.lookup k=some f/\MethAt G name f
 init:∃f,T.fns.lookup 0=some f/\rE G f
 cM:G.cM=T.cM
 cS:G.cS=T.cS
 mt:∃fN fM,qa G fN fM/\tP G fN/\qW G fM
 ma:td G
structure qU (G:Stc)(T:Tab)(P:Nat->Option Fn):Prop where
 base:vW G T
 lam:∀k cs a,G.clo k cs a->∃n sc e b,P (1000+k)=some #[n+cs.length,[],.cons (.ret b) .nil]/\tS G a n cs sc e/\okE T b sc e=true/\reE T b sc e=e
 fn:∀k a,T.fns.lookup k=some a->∃fn sc body,P k=some fn/\FnAt G a fn.n fn.dflt sc body/\iF T sc fn.body body=true/\f9 T sc fn.body body=body
section
variable {G:Stc}{T:Tab}{P:Nat->Option Fn}
def vW.tab (B:vW G T){C:Cal}{d:Nat}(Z:iW G (λk=>T.fns.lookup k) C (d-1))(hl:qX G C (d-1))(hd:3<=d):TabOk G T C d:=
 #[B.g,B.gl,B.attrs,B.cap,Z,hl,B.meth,B.init,B.cM,B.cS,B.mt,B.ma,VT B.ma,hd]
def nZ (K:qU G T P):∀n,iW G (λk=>T.fns.lookup k) (fq P n) (2*n+2)/\qX G (fq P n) (2*n+2)
 |0=>⟨λk a hk=>by
  have#[fn,sc,body,hp,Z,hc]:=K.fn k a hk;have#[o,fd,B,J,_]:=Z.here;apply#[#[o,fd,B,J],λao R vr h=>h.elim],λk cs a hk=>by
  have#[m,sc,e,b,hp,Z,hc]:=K.lam k cs a hk;have#[o,fd,B,J,_]:=Z.here;apply#[#[o,fd,B,J],λao R vr h=>h.elim]⟩
 |n+1=>by
  have#[ar,aa]:=nZ K n;have tb:TabOk G T (fq P n) (2*n+3):=K.base.tab ar aa (jf (.k (.n 3) (.a (.m 2 .A) (.n 3))) .f);apply#[λk a hk=>?_,λk cs a hk=>?_]
  ·have#[fn,sc,body,hp,Z,hc]:=K.fn k a hk;have#[o,fd,B,J,_]:=Z.here;apply#[#[o,fd,B,J],@λA E vs ws σ Q s ao R vr h=>?_];have#[bb,U,l1,l2,h]:=h;have rfl:=ak (hp.symm.trans U);show OA (b:=fn.body) (d:=2*n+3) Z (hc.2▸eP tb fn.body body hc.1) ao R vr l1 l2 h
  ·have#[m,sc,e,b,hp,Z,ag,ab]:=K.lam k cs a hk;have#[o,fd,B,J,_]:=Z.here;apply#[#[o,fd,B,J],@λA E vs ws σ Q s ao R vr h=>?_];have#[bb,U,l1,l2,h]:=h;have rfl:=ak (hp.symm.trans U);have ai:frameOf #[m+cs.length,[],.cons (.ret b) .nil] (vs++cs)=λi=>(vs++cs)[i]?:=by
    funext i
    unfold frameOf fT;dsimp only;rw[List.drop_nil,cq]
   rw[ai]at h;have hl:vs.length=m:=by
    rw[ax]at l1 l2;dsimp only[List.length_nil]at l1 l2
    (show fk .C .g (.k .T .Q) (.k .Q (.a .T .O)) l1 l2)
   show JX (d:=2*n+3) Z (ab▸jv tb b sc e ag) ao R vr hl h
end
end MP
end
section
set_option backward.match.sparseCases false
namespace MP
open PySem PyProof.Rows PySem.W
variable {G:Stc}{h h₀:Heap}{d:Data}{a:Addr}{T:Tab}{fn:Fn}
abbrev D9:Value->Tok
 |.int _ t=>t
 |.str _ t=>t
 |_=>0
abbrev BA:Value->Addr
 |.ref a=>a
 |_=>0
abbrev AJ:V->Value->Bool
 |.none=>λw=>decide (w=.none)
 |.bool a=>λw=>decide (w=.bool a)
 |.int a=>λw=>decide (w=.int a (D9 w))
 |.str a=>λw=>decide (w=.str a (D9 w))
 |_=>λ_=>false
abbrev nY:List V->List Value->Bool
 | []=>λws=>ws.isEmpty
 |v::vs=>λws=>!ws.isEmpty&&(AJ v (ws.headD .none)&&nY vs ws.tail)
def EU {v:V}{w:Value}(e:AJ v w=true):VR G h v w:=by
 cases v<;>first|show aq e▸.none|show aq e▸.bool _|show aq e▸.int _ _|show aq e▸.str _ _|show Bool.noConfusion e
def jJ:(vs:List V)->(ws:List Value)->nY vs ws=true->VRs G h vs ws
 | []=>λws e=>by
  cases ws with
  |nil=>show .nil
  |cons w ws=>show Bool.noConfusion (show false=true from e)
 |v::vs=>λws e=>by
  cases ws with
  |nil=>show Bool.noConfusion (show false=true from e)
  |cons w ws =>
   have e:=band (show(AJ v w&&nY vs ws)=true from e);show .cons (EU e.1) (jJ vs ws e.2)
abbrev mC:Data->Option FuncData
 |.func f=>some f
 |_=>none
abbrev jI:Data->Option (Array Value)
 |.fields vs=>some vs
 |_=>none
abbrev CR:Data->Option (Array Value×Nat)
 |.seq vs n=>some (vs,n)
 |_=>none
def yb {f:FuncData}(h:mC d=some f):d=.func f:=by
 cases d<;>first|show bz _ (ak h)|show je h
def iR {f:Array Value}(h:jI d=some f):d=.fields f:=by
 cases d<;>first|show bz _ (ak h)|show je h
def qF {f:Array Value×Nat}(h:CR d=some f):d=.seq f.1 f.2:=by
 cases d<;>first|show ak h▸rfl|show je h
abbrev CU:FuncBody->Option (List Stmt)
 |.stmts b=>some b
 |.expr _=>none
def yG {d:FuncBody}{f:List Stmt}(h:CU d=some f):d=.stmts f:=by
 cases d
 ·show bz _ (ak h)
 ·show je h
abbrev told {α:Type}(f:Data->Option α)(h:Heap)(a:Addr):Option α:=(h.get? a).bind λo=>f o.data
def gS {α:Type}{f:Data->Option α}{x:α}(e:told f h a=some x):∃o,h.get? a=some o/\f o.data=some x:=eh.mp e
abbrev vD (h:Heap)(cd:Value)(q:Str):Bool:=decide (cd=.ref (BA cd))&&(told jI h (BA cd)).any λvs=>(vs[1]?:Option Value).any λw=>decide (w=.str q (D9 w))
abbrev CP (h:Heap)(dflt:List V)(v:Value):Bool:=(decide (v=.none)&&dflt.isEmpty)||(decide (v=.ref (BA v))&&(told CR h (BA v)).any λds=>nY dflt ds.1.toList)
abbrev UL (T:Tab)(h:Heap)(fn:Fn)(fd:FuncData)(body:List Stmt):Bool:=
 decide (fd.scope.kind=.function)&&(!fd.scope.isCoroutine&&(!fd.scope.isGenerator&&(decide ((fd.scope.names.map (·.1)).Nodup)&&(fd.scope.names.all (λp=>p.2 != .free)&&(fd.closure.isEmpty&&(decide (fd.globals=mainGlobals)&&(decide (fd.builtins=builtinsNs) &&
 (vD h fd.code fd.qualname&&(rl fd.params&&(pf (fd.params.args.map (·.arg)) fd.scope.names&&(decide (fd.params.args.length=fn.n)&&(CP h fn.dflt fd.defaults&&(decide (fn.dflt.length<=fn.n)&&iF T fd.scope fn.body body)))))))))))))
abbrev S6 (fd:FuncData):Option (Scope×List Stmt):=(CU fd.body).map λb=>(fd.scope,b)
abbrev bodyOf (h:Heap)(a:Addr):Option (Scope×List Stmt):=(told mC h a).bind S6
abbrev pU (T:Tab)(h:Heap)(fn:Fn)(a:Addr):Bool:=(told mC h a).any λfd=>(CU fd.body).any λb=>UL T h fn fd b
def qH {cd:Value}{q:Str}(e:vD h cd q=true):h.CodeRec cd q:=by
 have#[vs,U,e2]:=any_some (band e).2;have#[o,O,hd]:=gS U;have#[w,Z,e3]:=any_some e2;apply#[_,o,vs,_,aq (band e).1,O,iR hd,Z.trans (bz some (aq e3))]
def fQ {l:List (Str×NameKind)}(h:l.all (λp=>p.2 != .free)=true)(i:Nat)(x:Str):l[i]?≠some (x,.free):=λe =>
 absurd (kl.mp h _ (dq e)) (by simp)
def JC (hk:∀b o,h₀.get? b=some o->G.hb.get? b=some o)(aa:G.hb.NoLimit)(e:pU T h₀ fn a=true):∃x,bodyOf h₀ a=some x/\FnAt G a fn.n fn.dflt x.1 x.2/\iF T x.1 fn.body x.2=true:=by
 have#[fd,h1,e]:=any_some e;have#[b,h2,e]:=any_some e;have#[o,ho,hd]:=gS h1;have g1:=band e;have g2:=band g1.2;have g3:=band g2.2;have g4:=band g3.2;have g5:=band g4.2;have g6:=band g5.2;have g7:=band g6.2;have g8:=band g7.2;have g9:=band g8.2;have B:=band g9.2;have J:=band B.2;have O:=band J.2;have U:=band O.2;have Z:=band U.2;apply#[(fd.scope,b),(eh.mpr #[fd,h1,bz (Option.map λb=>(fd.scope,b)) h2]),#[aa,aq g1.1,(fg _).mp g2.1,(fg _).mp g3.1,aq g4.1,fQ g5.1,o,fd,hk _ _ ho,yb hd,rfl,yG h2,nk.mp g6.1,aq g7.1,aq g8.1,(qH g9.1).keeps hk,B.1,J.1,aq O.1,?_,aq Z.1],Z.2];apply((sr ..).mp U.1).imp (λq=>#[aq (band q).1,nk.mp (band q).2]) λq=>?_;have#[ds,h3,q2]:=any_some (band q).2;have#[ot,ab,ag]:=gS h3;apply#[_,ot,ds.1.toList,ds.2,aq (band q).1,hk _ _ ab,qF ag,jJ _ _ q2]
abbrev QR (T:Tab)(fn:Fn)(x:Scope×List Stmt):Scope×List Stmt:=(x.1,f9 T x.1 fn.body x.2)
def UK (hk:∀b o,h₀.get? b=some o->G.hb.get? b=some o)(Z:G.hb.NoLimit)(e:pU T h₀ fn a=true)(U:bodyOf h₀ a=(bodyOf h₀ a).map (QR T fn)) :
  ∃sc body,FnAt G a fn.n fn.dflt sc body/\iF T sc fn.body body=true/\f9 T sc fn.body body=body:=by
 have#[x,O,B,J]:=JC hk Z e;rw[O]at U;apply#[x.1,x.2,B,J,(bz Prod.snd (ak U)).symm]
def CJ (hk:∀b o,h₀.get? b=some o->G.hb.get? b=some o)(Z:G.hb.NoLimit)(e:pU T h₀ fn a=true){f:Scope×List Stmt->Scope×List Stmt}(O:bodyOf h₀ a=(bodyOf h₀ a).map f):∃x,bodyOf h₀ a=some x/\FnAt G a fn.n fn.dflt (f x).1 (f x).2:=by
 have#[x,U,J,_]:=JC hk Z e;rw[U]at O;apply#[x,U,ak O▸J]
end MP
end
section
namespace MP
namespace SM
abbrev fn0:Fn:=⟨5,[.none,.str "",.str "",.bool true],(.cons .pass
 (.cons (.a [(.attr (.l 0) 0)] (.l 1))
 (.cons (.a [(.attr (.l 0) 1),(.attr (.l 0) 2)] .none)
 (.cons (.a [(.attr (.l 0) 3)] (.l 4))
 (.cons (.expr (.meth (.l 0) 1 %[.l 2,.l 3|0]))
 .nil)))))⟩
abbrev fn1:Fn:=⟨3,[],(.cons .pass
 (.cons (.expr (.meth (.l 0) 2 %[.l 1|0]))
 (.cons (.expr (.meth (.l 0) 3 %[.l 2|0]))
 .nil)))⟩
abbrev fn2:Fn:=⟨2,[],(.cons .pass
 (.cons (.C (.c .is (.l 1) (.attr (.l 0) 1)) (.cons (.ret .none)
 .nil) .nil)
 (.cons (.a [(.attr (.l 0) 1)] (.l 1))
 (.cons (.a [(.attr (.l 0) 4),(.attr (.l 0) 5)] .none)
 .nil))))⟩
abbrev fn3:Fn:=⟨2,[],(.cons .pass
 (.cons (.C (.c .is (.l 1) (.attr (.l 0) 2)) (.cons (.ret .none)
 .nil) .nil)
 (.cons (.a [(.attr (.l 0) 2)] (.l 1))
 (.cons (.a [(.attr (.l 0) 4),(.attr (.l 0) 5)] .none)
 (.cons (.a [(.attr (.l 0) 6)] .none)
 (.cons (.expr (.meth (.l 0) 4 .nil))
 .nil))))))⟩
abbrev fn5:Fn:=⟨5,[.int 0,.none,.int 0,.none],(.cons .pass
 (.cons (.a [(.T [5,6,7,8])] (.T %[.attr (.l 0) 1,.attr (.l 0) 2,.attr (.l 0) 7,.h (.attr (.l 0) 8)|0]))
 (.cons (.C (.c .is (.l 2) .none) (.cons (.a [(.v 2)] (.bf .len %[.l 5|0]))
 .nil) .nil)
 (.cons (.C (.c .is (.l 4) .none) (.cons (.a [(.v 4)] (.bf .len %[.l 6|0]))
 .nil) .nil)
 (.cons (.a [.T [9,10,11]] (.T %[.l 1,.l 3,.int 0|0]))
 (.cons (.a [(.v 12)] .dct0)
 (.cons (.a [(.v 13)] (.L .nil))
 (.cons (.each (.v 14) (.rng2 (.l 1) (.l 2)) (.cons (.a [(.v 15)] (.g (.l 12)))
 (.cons (.a [(.v 16)] .dct0)
 (.cons (.each (.v 17) (.seq (.bm .get (.l 7) %[.sub (.l 5) (.l 14),.l 13|0])) (.cons (.C (.c .lt (.l 17) (.l 3)) (.cons .cont
 .nil) .nil)
 (.cons (.C (.c .ge (.l 17) (.l 4)) (.cons .brk
 .nil) .nil)
 (.cons (.a [(.v 18),(.sub (.l 16) (.l 17))] (.b .add (.w 15 %[.b .sub (.l 17) (.int 1),.int 0|0]) (.int 1)))
 (.cons (.C (.c .gt (.l 18) (.l 11)) (.cons (.a [.T [9,10,11]] (.T %[.b .add (.b .sub (.l 14) (.l 18)) (.int 1),.b .add (.b .sub (.l 17) (.l 18)) (.int 1),.l 18|0]))
 .nil) .nil)
 .nil)))))
 (.cons (.a [(.v 12)] (.l 16))
 .nil)))))
 (.cons (.loop (.and (.c .gt (.l 9) (.l 1)) (.and (.c .gt (.l 10) (.l 3)) (.and (.not (.w 8 %[.sub (.l 6) (.b .sub (.l 10) (.int 1))|0])) (.c .eq (.sub (.l 5) (.b .sub (.l 9) (.int 1))) (.sub (.l 6) (.b .sub (.l 10) (.int 1))))))) (.cons (.a [.T [9,10,11]] (.T %[.b .sub (.l 9) (.int 1),.b .sub (.l 10) (.int 1),.b .add (.l 11) (.int 1)|0]))
 .nil))
 (.cons (.loop (.and (.c .lt (.b .add (.l 9) (.l 11)) (.l 2)) (.and (.c .lt (.b .add (.l 10) (.l 11)) (.l 4)) (.and (.not (.w 8 %[.sub (.l 6) (.b .add (.l 10) (.l 11))|0])) (.c .eq (.sub (.l 5) (.b .add (.l 9) (.l 11))) (.sub (.l 6) (.b .add (.l 10) (.l 11))))))) (.cons (.aug 11 .add (.int 1))
 .nil))
 (.cons (.loop (.and (.c .gt (.l 9) (.l 1)) (.and (.c .gt (.l 10) (.l 3)) (.and (.w 8 %[.sub (.l 6) (.b .sub (.l 10) (.int 1))|0]) (.c .eq (.sub (.l 5) (.b .sub (.l 9) (.int 1))) (.sub (.l 6) (.b .sub (.l 10) (.int 1))))))) (.cons (.a [.T [9,10,11]] (.T %[.b .sub (.l 9) (.int 1),.b .sub (.l 10) (.int 1),.b .add (.l 11) (.int 1)|0]))
 .nil))
 (.cons (.loop (.and (.c .lt (.b .add (.l 9) (.l 11)) (.l 2)) (.and (.c .lt (.b .add (.l 10) (.l 11)) (.l 4)) (.and (.w 8 %[.sub (.l 6) (.b .add (.l 10) (.l 11))|0]) (.c .eq (.sub (.l 5) (.b .add (.l 9) (.l 11))) (.sub (.l 6) (.b .add (.l 10) (.l 11))))))) (.cons (.a [(.v 11)] (.b .add (.l 11) (.int 1)))
 .nil))
 (.cons (.ret (.N (.l 9) (.l 10) (.l 11)))
 .nil)))))))))))))⟩
abbrev fn6:Fn:=⟨1,[],(.cons .pass
 (.cons (.C (.c .isNot (.attr (.l 0) 4) .none) (.cons (.ret (.attr (.l 0) 4))
 .nil) .nil)
 (.cons (.a [.T [1,2]] (.T %[.bf .len %[.attr (.l 0) 1|0],.bf .len %[.attr (.l 0) 2|0]|0]))
 (.cons (.a [(.v 3)] (.L %[.T %[.int 0,.l 1,.int 0,.l 2|0]|0]))
 (.cons (.a [(.v 4)] (.L .nil))
 (.cons (.loop (.l 3) (.cons (.a [(.T [5,6,7,8])] (.bm .pop (.l 3) .nil))
 (.cons (.a [(.T [9,10,11]),(.v 12)] (.meth (.l 0) 5 %[.l 5,.l 6,.l 7,.l 8|0]))
 (.cons (.C (.l 11) (.cons (.expr (.bm .append (.l 4) %[.l 12|0]))
 (.cons (.C (.and (.c .lt (.l 5) (.l 9)) (.c .lt (.l 7) (.l 10))) (.cons (.expr (.bm .append (.l 3) %[.T %[.l 5,.l 9,.l 7,.l 10|0]|0]))
 .nil) .nil)
 (.cons (.C (.and (.c .lt (.b .add (.l 9) (.l 11)) (.l 6)) (.c .lt (.b .add (.l 10) (.l 11)) (.l 8))) (.cons (.expr (.bm .append (.l 3) %[.T %[.b .add (.l 9) (.l 11),.l 6,.b .add (.l 10) (.l 11),.l 8|0]|0]))
 .nil) .nil)
 .nil))) .nil)
 .nil))))
 (.cons (.expr (.bm .sort (.l 4) .nil))
 (.cons (.a [(.v 13),(.v 14),(.v 15)] (.int 0))
 (.cons (.a [(.v 16)] (.L .nil))
 (.cons (.each (.T [17,18,19]) (.seq (.l 4)) (.cons (.C (.and (.c .eq (.b .add (.l 13) (.l 15)) (.l 17)) (.c .eq (.b .add (.l 14) (.l 15)) (.l 18))) (.cons (.aug 15 .add (.l 19))
 .nil) (.cons (.C (.l 15) (.cons (.expr (.bm .append (.l 16) %[.T %[.l 13,.l 14,.l 15|0]|0]))
 .nil) .nil)
 (.cons (.a [.T [13,14,15]] (.T %[.l 17,.l 18,.l 19|0]))
 .nil)))
 .nil))
 (.cons (.C (.l 15) (.cons (.expr (.bm .append (.l 16) %[.T %[.l 13,.l 14,.l 15|0]|0]))
 .nil) .nil)
 (.cons (.expr (.bm .append (.l 16) %[.T %[.l 1,.l 2,.int 0|0]|0]))
 (.cons (.a [(.attr (.l 0) 4)] (.M (.l 16)))
 (.cons (.ret (.attr (.l 0) 4))
 .nil))))))))))))))⟩
end SM
namespace SM
abbrev fn7:Fn:=⟨1,[],(.cons .pass
 (.cons (.C (.c .isNot (.attr (.l 0) 5) .none) (.cons (.ret (.attr (.l 0) 5))
 .nil) .nil)
 (.cons (.a [(.v 1),(.v 2)] (.int 0))
 (.cons (.a [(.attr (.l 0) 5),(.v 3)] (.L .nil))
 (.cons (.each (.T [4,5,6]) (.seq (.meth (.l 0) 6 .nil)) (.cons (.a [(.v 7)] (.str ""))
 (.cons (.C (.and (.c .lt (.l 1) (.l 4)) (.c .lt (.l 2) (.l 5))) (.cons (.a [(.v 7)] (.str "replace"))
 .nil) (.cons (.C (.c .lt (.l 1) (.l 4)) (.cons (.a [(.v 7)] (.str "delete"))
 .nil) (.cons (.C (.c .lt (.l 2) (.l 5)) (.cons (.a [(.v 7)] (.str "insert"))
 .nil) .nil)
 .nil))
 .nil))
 (.cons (.C (.l 7) (.cons (.expr (.bm .append (.l 3) %[.T %[.l 7,.l 1,.l 4,.l 2,.l 5|0]|0]))
 .nil) .nil)
 (.cons (.a [.T [1,2]] (.T %[.b .add (.l 4) (.l 6),.b .add (.l 5) (.l 6)|0]))
 (.cons (.C (.l 6) (.cons (.expr (.bm .append (.l 3) %[.T %[.str "equal",.l 4,.l 1,.l 5,.l 2|0]|0]))
 .nil) .nil)
 .nil))))))
 (.cons (.ret (.l 3))
 .nil))))))⟩
end SM
namespace R5
open SM
abbrev xZ:Fn:=⟨1,[],(.cons (.a [(.v 1)] (.attr (.l 0) 2))
 (.cons (.a [(.attr (.l 0) 7),(.v 2)] .dct0)
 (.cons (.each (.T [3,4]) (.enum (.l 1)) (.cons (.a [(.v 5)] (.bm .setdefault (.l 2) %[.l 4,.L .nil|0]))
 (.cons (.expr (.bm .append (.l 5) %[.l 3|0]))
 .nil)))
 (.cons (.a [(.attr (.l 0) 8),(.v 6)] (.bf .set .nil))
 (.cons (.a [(.v 7)] (.attr (.l 0) 0))
 (.cons (.C (.l 7) (.cons (.each (.v 4) (.keys (.l 2)) (.cons (.C (.w 7 %[.l 4|0]) (.cons (.expr (.bm .add (.l 6) %[.l 4|0]))
 .nil) .nil)
 .nil))
 (.cons (.each (.v 4) (.seq (.l 6)) (.cons (.delD (.l 2) (.l 4))
 .nil))
 .nil)) .nil)
 (.cons (.a [(.attr (.l 0) 9),(.v 8)] (.bf .set .nil))
 (.cons (.a [(.v 9)] (.bf .len %[.l 1|0]))
 (.cons (.C (.and (.attr (.l 0) 3) (.c .ge (.l 9) (.int 200))) %[.dead,.dead,.dead|0] .nil)
 .nil)))))))))⟩
abbrev G6:Ex:=(.K [(2,3),(3,5),(4,2)] (.rng1 (.b .sub (.l 4) (.l 3))) (.v 1) .nil (.elt (.T %[.l 4,.b .add (.l 2) (.l 1),.b .add (.b .add (.l 2) (.l 1)) (.int 1),.b .add (.l 3) (.l 1),.b .add (.b .add (.l 3) (.l 1)) (.int 1)|0])))
abbrev fnS:Fn:=⟨1,[],(.cons (.a [(.v 1)] (.L .nil))
 (.cons (.each (.T [2,3,4,5,6]) (.seq (.l 0)) (.cons (.C (.c .eq (.l 2) (.str "equal")) (.cons (.aug 1 .add G6)
 .nil) (.cons (.expr (.bm .append (.l 1) %[.T %[.l 2,.l 3,.l 4,.l 5,.l 6|0]|0]))
 .nil))
 .nil))
 (.cons (.ret (.l 1))
 .nil)))⟩
abbrev BD:jo:=(.cons (.a [(.T [6,7,8,9,10])] (.sub (.l 0) (.l 2)))
 (.cons (.C (.c .notIn (.b .sub (.l 2) (.int 1)) (.l 4)) (.cons (.expr (.bm .append (.l 5) %[.I (.c .gt (.l 2) (.int 0)) (.L %[.T %[.str "equal",.l 7,.l 7,.l 9,.l 9|0]|0]) (.L .nil)|0]))
 .nil) .nil)
 (.cons (.C (.and (.c .eq (.l 6) (.str "equal")) (.and (.c .ne (.sub (.l 5) (.neg (.int 1))) (.L .nil)) (.c .eq (.sub (.sub (.sub (.l 5) (.neg (.int 1))) (.neg (.int 1))) (.int 0)) (.str "equal")))) (.cons (.a [(.T [6,7,11,9,12])] (.bm .pop (.sub (.l 5) (.neg (.int 1))) .nil))
 .nil) .nil)
 (.cons (.expr (.bm .append (.sub (.l 5) (.neg (.int 1))) %[.T %[.l 6,.l 7,.l 8,.l 9,.l 10|0]|0]))
 (.cons (.C (.and (.c .ne (.l 6) (.str "equal")) (.and (.c .lt (.b .add (.l 2) (.int 1)) (.bf .len %[.l 0|0])) (.c .notIn (.b .add (.l 2) (.int 1)) (.l 4)))) (.cons (.expr (.bm .append (.sub (.l 5) (.neg (.int 1))) %[.T %[.str "equal",.l 8,.l 8,.l 10,.l 10|0]|0]))
 .nil) .nil)
 .nil)))))
abbrev fnG:Fn:=⟨2,[],(.cons (.a [(.v 3)] (.K [(2,0)] (.rng1 (.bf .len %[.l 0|0])) (.v 1) %[.c .ne (.sub (.sub (.l 2) (.l 1)) (.int 0)) (.str "equal")|0] (.elt (.l 1))))
 (.cons (.a [(.v 4)] (.K [(2,3),(3,1)] (.rng1 (.bf .len %[.l 0|0])) (.v 1) %[.c .ne (.K [(3,3),(4,1)] (.seq (.l 2)) (.v 1) %[.c .le (.bf .abs %[.b .sub (.l 1) (.l 4)|0]) (.l 3)|0] (.elt (.l 1))) (.L .nil)|0] (.elt (.l 1))))
 (.cons (.a [(.v 5)] (.L .nil))
 (.cons (.each (.v 2) (.seq (.l 4)) BD)
 (.cons (.ret (.l 5))
 .nil)))))⟩
abbrev JN:jo:=(.cons (.a [(.T [3,4,5,6,7])] (.sub (.l 2) (.int 0)))
 (.cons (.a [(.sub (.l 2) (.int 0))] (.T %[.l 3,.bf .max %[.l 4,.b .sub (.l 5) (.l 1)|0],.l 5,.bf .max %[.l 6,.b .sub (.l 7) (.l 1)|0],.l 7|0]))
 .nil))
abbrev JM:jo:=(.cons (.a [(.T [3,4,5,6,7])] (.sub (.l 2) (.neg (.int 1))))
 (.cons (.a [(.sub (.l 2) (.neg (.int 1)))] (.T %[.l 3,.l 4,.bf .min %[.l 5,.b .add (.l 4) (.l 1)|0],.l 6,.bf .min %[.l 7,.b .add (.l 6) (.l 1)|0]|0]))
 .nil))
abbrev g0:jo:=(.cons .pass
 (.cons (.a [(.v 2)] (.meth (.l 0) 7 .nil))
 (.cons (.C (.not (.l 2)) (.cons (.a [(.v 2)] (.L %[.T %[.str "equal",.int 0,.int 1,.int 0,.int 1|0]|0]))
 .nil) .nil)
 (.cons (.C (.c .eq (.sub (.sub (.l 2) (.int 0)) (.int 0)) (.str "equal")) JN .nil)
 (.cons (.C (.c .eq (.sub (.sub (.l 2) (.neg (.int 1))) (.int 0)) (.str "equal")) JM .nil)
 (.cons (.a [(.v 8)] (.b .add (.l 1) (.l 1)))
 (.cons (.a [(.v 9)] (.L .nil))
 .nil)))))))
abbrev gT:Tg:=.T [3,4,5,6,7]
abbrev gI:It:=.seq (.l 2)
abbrev gC:Ex:=(.and (.c .eq (.l 3) (.str "equal")) (.c .gt (.b .sub (.l 5) (.l 4)) (.l 8)))
abbrev g1:jo:=(.cons (.expr (.bm .append (.l 9) %[.T %[.l 3,.l 4,.bf .min %[.l 5,.b .add (.l 4) (.l 1)|0],.l 6,.bf .min %[.l 7,.b .add (.l 6) (.l 1)|0]|0]|0]))
 .nil)
abbrev g2:jo:=(.cons (.a [(.v 9)] (.L .nil))
 (.cons (.a [.T [4,6]] (.T %[.bf .max %[.l 4,.b .sub (.l 5) (.l 1)|0],.bf .max %[.l 6,.b .sub (.l 7) (.l 1)|0]|0]))
 .nil))
abbrev g3:jo:=(.cons (.expr (.bm .append (.l 9) %[.T %[.l 3,.l 4,.l 5,.l 6,.l 7|0]|0]))
 .nil)
abbrev gL:Ex:=(.and (.l 9) (.not (.and (.c .eq (.bf .len %[.l 9|0]) (.int 1)) (.c .eq (.sub (.sub (.l 9) (.int 0)) (.int 0)) (.str "equal")))))
abbrev oR:jo:=(.cons (.a [(.v 0)] (.slc (.l 0) .none (.int 63)))
 (.cons (.a [(.T [1,2])] (.slc (.b .add (.l 0) (.L %[.int 0,.int 0|0])) .none (.int 2)))
 (.cons (.a [(.v 1)] (.I (.c .lt (.l 1) (.int 0)) (.neg (.l 1)) (.b .mod (.l 1) (.int 6))))
 (.cons (.a [(.v 3)] (.sub (.L %[.int 0,.int 2,.int 3,.int 7|0]) (.b .mod (.l 2) (.int 4))))
 .nil))))
abbrev CQ:jo:=(.cons (.a [(.v 8)] (.b .mod (.l 7) (.int 16)))
 (.cons (.a [(.v 9)] (.I (.c .gt (.l 3) (.int 0)) (.b .mod (.b .fdiv (.l 7) (.int 16)) (.l 3)) (.b .fdiv (.l 7) (.int 16))))
 (.cons (.C (.c .ne (.l 8) (.int 1)) (.cons (.expr (.bm .append (.l 5) %[.l 9|0]))
 .nil) .nil)
 (.cons (.C (.c .ne (.l 8) (.int 0)) (.cons (.expr (.bm .append (.l 6) %[.I (.c .eq (.l 8) (.int 2)) (.b .add (.l 9) (.int 1)) (.l 9)|0]))
 .nil) .nil)
 .nil))))
abbrev iH:jo:=(.cons (.a [.T [5,6]] (.T %[.L .nil,.L .nil|0]))
 (.cons (.each (.v 7) (.seq (.slc (.l 0) (.int 2) .none)) CQ)
 (.cons (.a [(.v 10)] (.call 11 %[.call 10 %[.meth (.n %[.l 4,.l 5,.l 6|0]) 7 .nil|0],.l 1|0]))
 (.cons (.a [(.v 11)] (.n %[.l 4,.l 5,.l 6|0]))
 .nil))))
abbrev cT:Ex:=.c .eq (.b .mod (.l 2) (.int 3)) (.int 1)
abbrev cR:Ex:=.c .eq (.l 1) (.int 3)
abbrev xP:Ex:=.c .eq (.b .mod (.l 0) (.int 3)) (.int 0)
abbrev fnL:Fn:=#[1,[],.cons (.ret xP) .nil]
abbrev P (k:Nat):Option Fn:=match k with
 |0=>some fn0|1=>some fn1|2=>some fn2|3=>some fn3|4=>some xZ|5=>some fn5|6=>some fn6|7=>some fn7|10=>some fnS|11=>some fnG|1000=>some fnL|_=>none
abbrev tab:Tab where
 cap:=λ_=>false
 gl:=[("len",.builtin "len"),("abs",.builtin "abs"),("min",.builtin "min"),("max",.builtin "max"),("set",.type "set"),("list",.type "list"),("range",.type "range"),("map",.type "map"),("enumerate",.type "enumerate"),("tuple",.type "tuple"),("Match",.ref 135),("SequenceMatcher",.ref 242),("_law_steps",.ref 251),("_law_groups",.ref 256),("law",.ref 263)]
 attrs:=["isjunk","a","b","autojunk","matching_blocks","opcodes","fullbcount","b2j","bjunk","bpopular"]
 meths:=[(0,"__init__"),(1,"set_seqs"),(2,"set_seq1"),(3,"set_seq2"),(4,"_SequenceMatcher__chain_b"),(5,"find_longest_match"),(6,"get_matching_blocks"),(7,"get_opcodes")]
 fns:=[(0,160),(1,167),(2,174),(3,181),(4,188),(5,196),(6,203),(7,210),(10,251),(11,256)]
 cM:=135
 cS:=242
end R5
end MP
end
section
namespace MP
open PySem PyProof.Rows PySem.W
variable {G2:Stc}
abbrev jD (h:Heap)(p:Addr->Bool):Heap:=#[h.objs.mapIdx λi o=>bif p i then o else {cls:=.none,data:=.freed},h.life]
def e8 (h:Heap)(p:Addr->Bool)(a:Addr):(jD h p).get? a=bif p a then h.get? a else none:=by
 unfold jD Heap.get?;dsimp only;rw[Array.getElem?_mapIdx];cases p a
 ·cases h.objs[a]?<;>rfl
 ·cases h.objs[a]?<;>rfl
mutual
theorem VR.turn {G:Stc}{h:Heap}(e:G2.cM=G.cM)(hb:∀a o,G.hb.get? a=some o->G2.hb.get? a=some o)(U:∀k cs a,G.clo k cs a->G2.clo k cs a):{v:V}->{w:Value}->VR G h v w->VR G2 h v w
 |.none=>λx=>x
 |.bool _=>λx=>x
 |.int _=>λx=>x
 |.str _=>λx=>x
 |.L _=>λx=>x
 |.dct _=>λx=>x
 |.set _=>λx=>x
 |.obj _=>λx=>x
 |.T _=>λZ=>by have#[a,ws,n,e1,g,r]:=Z;apply#[a,ws,n,e1,g,VRs.turn e hb U r]
 |.mt _=>λZ=>by have#[a,ws,n,dd,e1,g,r]:=Z;apply#[a,ws,n,dd,e1,by rw[e];show g,VRs.turn e hb U r]
 |.iL _=>λx=>x
 |.j9 _=>λx=>x
 |.clo _ _=>λZ=>by have#[a,o,e1,q,g,r]:=Z;apply#[a,o,e1,U _ _ _ q,hb _ _ g,r]
 |.ro _=>λZ=>by have#[a,ws,n,e1,g,r]:=Z;apply#[a,ws,n,e1,hb _ _ g,r]
theorem VRs.turn {G:Stc}{h:Heap}(e:G2.cM=G.cM)(hb:∀a o,G.hb.get? a=some o->G2.hb.get? a=some o)(Z:∀k cs a,G.clo k cs a->G2.clo k cs a):{vs:List V}->{ws:List Value}->VRs G h vs ws->VRs G2 h vs ws
 | []=>λx=>x
 |_::_=>λU=>by have#[w,us,e1,a,r]:=U;apply#[w,us,e1,VR.turn e hb Z a,VRs.turn e hb Z r]
end
def DRs.turn {G:Stc}{h:Heap}(e:G2.cM=G.cM)(hb:∀a o,G.hb.get? a=some o->G2.hb.get? a=some o)(Z:∀k cs a,G.clo k cs a->G2.clo k cs a):{es:List (Key×V)}->{ds:List (Key×Value)}->DRs G h es ds->DRs G2 h es ds
 | []=>λx=>x
 |_::_=>λU=>by have#[w,us,e1,a,r]:=U;apply#[w,us,e1,a.turn e hb Z,DRs.turn e hb Z r]
def OV.turn {G:Stc}{h:Heap}(e:G2.cM=G.cM)(hb:∀a o,G.hb.get? a=some o->G2.hb.get? a=some o)(Z:∀k cs a,G.clo k cs a->G2.clo k cs a){v:Option V}{w:Option Value}(x:OV G h v w):OV G2 h v w:=by
 cases v<;>cases w<;>first|show x|show VR.turn e hb Z x
section
variable {G:Stc}{σ:St}{env:Env}{ρ:Fr}{h₀ h:Heap}{f c d:Addr}{cap:Str->Bool}{kk:Nat}{v:V}
end
abbrev xNm:Str:="x"
def ES {ps:Arguments}{env:Env}(U:ps.defaults=[])(Z:ps.kw_defaults=[]):defaultsOf ps env=([],[]):=by
 have#[a,b,c,d,e,f,g]:=ps;subst U Z;rfl
section
variable {G:Stc}{A:Around}{E:QqV}{s:Shared}{env:Env}{ρ:Fr}{σ:St}
structure KR (G:Stc)(σ:St)(env:Env)(h:Heap)(mg:Str->Option Value)(c P:Addr)(ps:Array Value):Prop where
 g:h.Ns mainGlobals mg
 code:env.code=.ref c
 hd:CodeHd h c P
 tab:h.get? P=some (tabObj ps)
 ne:mainGlobals≠P
 bu:h.BuiltinsAt mg P
 Pb:G.hb.get? P=none
 Pd:¬σ.dom P
 PX:P∉envX env
end
end MP
end
section
set_option tactic.hygienic true
namespace MP
open PySem
section
variable {M:Model}{A:Around}{R:GenEnd}{Y:Protocol}{n:Nat}{s₀:Shared}{c:Code}{fs:List Frame}{s:Shared}{env:Env}
 {K:Flow->Sem Fin} {H:Value->Sem Fin} {gd:Bool->Bool} {lv:List Value->List Value}
abbrev uS (env:Env)(K:Flow->Sem Fin)(H:Value->Sem Fin)(gd:Bool->Bool)(lv:List Value->List Value)(r:Result):Sem Fin:=
 ((match r with|.ok f=>(.pure f:Sem Flow)|.error e=>.raise e).onRaise λ(x:Value)=>do
  if (← field x 1)==Value.none then unsupported "frame.own-activation:exception-without-traceback"
  setFlight x env.frame).wrap K H gd lv
def MI {x y:Expr}{body Z:List Stmt}{pos:Pos}(O:∀v,foldedSetIterable y env v=pure v)
  (h:wpAny M (A.over c fs) (eval y env) (λv s₁=>wpAny M (A.over c fs) (pyIter v) (λit s₂=>∀p,Seg M A R Y n s₀ (.forLoop x it body Z env) (M.den (.forLoop x it body Z env)) (.ret (uS env K H gd lv) none (gd false) (lv []) c p []::fs) s₂)
   (λe s'=>Seg M A R Y n s₀ c (H e) fs s') s₁) (λe s'=>Seg M A R Y n s₀ c (H e) fs s') s) :
  Seg M A R Y n s₀ c ((exec (.For x y body Z pos) env).wrap K H gd lv) fs s:=by
 rw[arm_exec_For];show Seg M A R Y n s₀ c (.at pos λ_=>((eval y env>>=λv=>foldedSetIterable y env v>>=λu=>(standAt y.pos>>=λ_=>(holding [u] (pyIter u)>>=λit=>runOwn (.forLoop x it body Z env) env)))).wrap K H gd lv) fs s;apply seg_at ?_;rw[qy,yo];apply seg_wrap (bg h (λv s₁ h₁=>?_) λ_ _ x=>x);rw[O];apply seg_at ?_;show Seg M A R Y n s₀ c ((holding [v] (pyIter v)>>=λit=>runOwn (.forLoop x it body Z env) env).wrap K H gd lv) fs s₁;rw[qy,yo];show seg_wrap (cg (bg h₁ (λit s₂ U=>seg_call U) λ_ _ x=>x))
end
section
variable {prog:Program}{w:World}{A:Around}{R:GenEnd}{Y:Protocol}{n:Nat}{s₀:Shared}{fs:List Frame}{s:Shared}{env:Env}
abbrev sW (env:Env)(e:Value):Sem Fin:=(do noteFrame e env;theTreesLotGoes e:Sem Unit).wrap (λ_=>.raise e) .raise id id
abbrev UJ (x:Expr)(it:Value)(body orelse:List Stmt)(env:Env):Flow->Sem Fin
 |.next|.cont=>.pure (.again (.forLoop x it body orelse env))
 |.brk=>.pure (.done .next)
 |.ret v=>.pure (.done (.ret v))
def fO {c:Code}{e:Value}(h:Seg (model prog w) A R Y n s₀ c (sW env e) fs s):Seg (model prog w) A R Y n s₀ c ((do noteFrame e env;theTreesLotGoes e:Sem Unit).bind λ_=>.raise e) fs s:=by rw[Sem.bind_eq_wrap];show h
def mU {x:Expr}{it:Value}{body Z:List Stmt}
  (h:wpAny (model prog w) (A.over (.forLoop x it body Z env) fs) (pyNext it) (λr s₁=>match r with
   |none=>Seg (model prog w) A R Y n s₀ (.block Z env) ((model prog w).den (.block Z env)) fs s₁
   |some v=>wpAny (model prog w) (A.over (.forLoop x it body Z env) fs) (letOwnedTupleGo x it v) (λ_ s₂=>wpAny (model prog w) (A.over (.forLoop x it body Z env) fs) (assign x env v) (λ_ U =>
     Seg (model prog w) A R Y n s₀ (.forLoop x it body Z env) ((execs body env).wrap (UJ x it body Z env) (sW env) id id) fs U)
     (λe s'=>Seg (model prog w) A R Y n s₀ (.forLoop x it body Z env) (sW env e) fs s') s₂) (λe s'=>Seg (model prog w) A R Y n s₀ (.forLoop x it body Z env) (sW env e) fs s') s₁)
   (λe s'=>Seg (model prog w) A R Y n s₀ (.forLoop x it body Z env) (sW env e) fs s') s) :
  Seg (model prog w) A R Y n s₀ (.forLoop x it body Z env) ((model prog w).den (.forLoop x it body Z env)) fs s:=by
 show Seg _ A R Y n s₀ _ ((forTurn x it body Z env).onRaise (λx=>do noteFrame x env;theTreesLotGoes x)) fs s;unfold forTurn;rw[Sem.onRaise_eq_wrap];show Seg _ A R Y n s₀ _ (.at x.pos λ_=>Sem.wrap _ _ _ _ (((pyNext it).onRaise λ_=>standAt {x.pos with line:=0})>>=_)) fs s;apply seg_at ?_;rw[qy,yo];apply seg_wrap (wpAny_onRaise (bg h (λr s₁ h₁=>?_) λe s' B=>fw (fO B)));cases r with
 |none=>show seg_again rfl h₁
 |some v =>
  show Seg _ A R Y n s₀ _ (Sem.wrap _ _ _ _ (letOwnedTupleGo x it v>>=λ_=>assign x env v>>=λ_=>execs body env>>=_)) fs s₁;rw[qy,yo];apply seg_wrap (bg h₁ (λ_ s₂ J=>?_) λe s' B=>fO B);rw[qy,yo];apply seg_wrap (bg J (λ_ U O=>?_) λe s' B=>fO B);rw[qy,yo];show Seg _ A R Y n s₀ _ ((execs body env).wrap _ (λe=>((do noteFrame e env;theTreesLotGoes e:Sem Unit).bind λ_=>.raise e)) id id) fs U;rw[Sem.wrap_congr (execs body env) _ _ (K':=UJ x it body Z env) (H':=sW env) (λf=>by cases f<;>rfl) (λe=>Sem.bind_eq_wrap _ _)];show O
end
end MP
end
section
set_option tactic.hygienic true
namespace MP
open PySem
abbrev zq (acc:Array Value)(c:Nat):Obj:={cls:=.type "list",dict:=none,data:=.seq acc c,slots:=#v[]}
section
variable {prog:Program}{w:World}{A:Around}{R:Result->Shared->Prop}{S I:Addr}{Inv:Nat->Shared->Array Value->Prop}{Fin':Shared->Array Value->Prop}
abbrev CZ (prog:Program)(w:World)(A:Around)(S I:Addr)(Inv:Nat->Shared->Array Value->Prop)(Fin':Shared->Array Value->Prop):Prop:=
 ∀(n:Nat) (s:Shared) (acc:Array Value) (c:Nat) (Q:Option Value->Shared->Prop) (E:QqV),Inv n s acc->s.heap.get? S=some (zq acc c) ->
  (∀v s',s'.heap.get? S=some (zq acc c)->acc.size<sizeLine->(∀h',(∀b o,b≠S->s'.heap.get? b=some o->h'.get? b=some o)->(∃c',h'.get? S=some (zq (acc.push v) c'))->∃m,m<n/\Inv m {s' with heap:=h'} (acc.push v))->Q (some v) s') ->
  (∀s',s'.heap.get? S=some (zq acc c)->Fin' s' acc->Q none s')->wpAny (model prog w) A (pyNext (.ref I)) Q E s
def EN {res:Value}(step:CZ prog w A.in1 S I Inv Fin')(hR:∀s acc c,s.heap.get? S=some (zq acc c)->Fin' s acc->R (.ok (.ret res)) s) :
  ∀(n:Nat) (s:Shared) (acc:Array Value) (c:Nat),Inv n s acc->s.heap.get? S=some (zq acc c)->codeAny (model prog w) A (.builtin "list.extend.loop" #[[.ref S,.ref I,res],[]]) R s:=by
 intro n;induction n using Nat.strongRecOn with
 |ind n J =>
  intro s acc c hI hS;apply uf F.entry_extend_loop ?_;rw[wh F.plain_extend_loop _];show wpAny _ A.in1 (pyNext (.ref I)>>=_) _ _ s;apply af (step n s acc c _ _ hI hS (λv s' Z hz k=>?_) λs' Z hf=>?_)
  ·show wpAny _ A.in1 (updateSeq S (·.push v)>>=_) _ _ _;apply af ?_;apply qg Z rfl (ah ?_) (iy hz) (by show(acc.push v).size<=sizeLine+1;rw[Array.size_push];(show bt .aK .a .B hz));have O:=gk (Obj.mapSeq (·.push v)) Z rfl;have#[m,hm,U]:=k (s'.heap.update S (Obj.mapSeq (·.push v))) (λb o hb e=>(gv _ _ (wi hb)).trans e) #[_,O];apply#[nT F.plain_extend_loop _,J m hm _ _ _ U O]
  ·show ah (hR s' acc c Z hf)
end
section
variable {prog:Program}{w:World}{A:Around}{E:QqV}{s:Shared}{R:Result->Shared->Prop}{S I g:Nat}{Inv:Nat->Shared->Array Value->Prop}{Fin':Shared->Array Value->Prop}
def JE {res:Value}{c:Nat}{n:Nat}(O:s.heap.IsGen I g)(step:CZ prog w A.in1 S I Inv Fin')(hS:s.heap.get? S=some (zq #v[] c))(B:S≠I)
  (hI:∀h',(∀b o,b≠S->s.heap.get? b=some o->h'.get? b=some o)->(∃J,h'.get? S=some (zq #v[] J))->Inv n {s with heap:=h'} #v[])
  (hR:∀s acc c,s.heap.get? S=some (zq acc c)->Fin' s acc->R (.ok (.ret res)) s) :
  wpAny (model prog w) A.in1 (Builtin.List.listExtendWith (.ref S) (.ref I) res)
   (λfin s'=>match fin with|.done f=>R (.ok f) s'|.again J=>J.quiet=true/\codeAny (model prog w) A J R s') (λe s'=>R (.error e) s') s:=by
 unfold Builtin.List.listExtendWith;apply af (dT O.typeIs ?_);have h1:Builtin.List.listSameRef (.ref S) (.ref I)=false:=by simp[Builtin.List.listSameRef,B]
 rw[ay (by rw[h1];decide)];apply af (wpAny_pyIter_gen O ?_);apply af (cg ?_);unfold Builtin.List.listLengthHint;apply af (ud O.typeIs F.gen_no_len ?_);show wpAny _ A.in1 (specialOf (Value.ref I) (Str.ofString "__length_hint__")>>=_) _ _ _;apply af (ud O.typeIs F.gen_no_hint ?_);apply ah ?_;show wpAny _ A.in1 (rule "list.extend.makes-room" >>= λ_=>Builtin.List.listTouch (.ref S)>>=λ_ =>
  again (.builtin "list.extend.loop" #[[.ref S,.ref I,res],[]])) _ _ _
 apply af (tw (af ?_));show wpAny _ A.in1 (updateSeq S (·.push .none)>>=λ_=>updateSeq S (·.pop)) _ _ _;apply af (qg hS rfl ?_);have U:=gk (Obj.mapSeq (·.push Value.none)) hS rfl;apply qg (hz:=by seq_fits) U rfl ?_;have Z:=gk (Obj.mapSeq (·.pop)) U rfl;show ah #[nT F.plain_extend_loop _,EN step hR n _ _ _ (hI _ (λb o hb e=>(gv _ _ (wi hb)).trans ((gv _ _ (wi hb)).trans e)) #[_,Z]) Z]
def qL {Q:QqV}{n:Nat}(B:s.heap.IsGen I g)(step:CZ prog w A.in1.in1 s.heap.objs.size I Inv Fin')
  (hI:∀h',(∀b o,s.heap.get? b=some o->h'.get? b=some o)->(∃c',h'.get? s.heap.objs.size=some (zq #v[] c'))->Inv n {s with heap:=h'} #v[])
  (hQ:∀s' acc c,s'.heap.get? s.heap.objs.size=some (zq acc c)->Fin' s' acc->Q (.ref s.heap.objs.size) s'):wpAny (model prog w) A (call (.type "list") [.ref I]) Q E s:=by
 have J:I<s.heap.objs.size:=by have#[o,_,_,ho,_]:=id B;show fj ho
 apply callType_codes (Q₁:=λobj s₁=>obj=.ref s.heap.objs.size/\s₁={s with heap:=s.heap.push {cls:=.type "list",data:=.seq #v[]}}) F.called_list (F.typeCall_list_1 _) F.entry_list_init
  (code_list_new _ #[rfl,rfl]) λobj s₁ h₁=>?_
 have#[rfl,rfl]:=h₁;have O:(s.heap.push {cls:=.type "list",data:=.seq #v[]}).get? s.heap.objs.size=some (zq #v[] 0):=cf _ rfl;apply#[#[_,O,rfl],F.args_list_init_2 _ _,?_];show wpAny _ A.in1.in1 (do let old←Builtin.List.listItems (.ref s.heap.objs.size);Builtin.List.listUpdate (.ref s.heap.objs.size) (λ_=>#v[]);letGo old.toList.reverse;Builtin.List.listExtendWith (.ref s.heap.objs.size) (.ref I) .none) _ _ _;apply af ?_;unfold Builtin.List.listItems;apply af (mx O rfl (ah ?_));show wpAny _ A.in1.in1 (updateSeq s.heap.objs.size (λ_=>#v[])>>=λ_=>letGo (#v[]:Array Value).toList.reverse>>=λ_=>Builtin.List.listExtendWith (.ref s.heap.objs.size) (.ref I) .none) _ _ _;apply af (qg O rfl ?_);have Z:=gk (Obj.mapSeq (λ_=>(#v[]:Array Value))) O rfl;apply af (wpAny_letGo ?_);have keep:∀b o,s.heap.get? b=some o->((s.heap.push {cls:=.type "list",data:=.seq #v[]}).update s.heap.objs.size (Obj.mapSeq λ_=>(#v[]:Array Value))).get? b=some o:=λb o e =>
  (gv _ _ (Nat.ne_of_gt (fj e))).trans (aw _ e)
 show JE (B.keeps keep) step Z (Nat.ne_of_gt J) (λh' hk U=>hI h' (λb o e=>hk b o (gm (fj e)) (keep b o e)) U) λs' acc c U hf=>#[rfl,hQ s' acc c U hf]
end
end MP
end
section
namespace MP
open PySem PyProof.Rows
section
variable {prog:Program}{w:World}{A:Around}{R:GenEnd}{Y:Protocol}{n:Nat}{s₀:Shared}{c:Code}{fs:List Frame}{s:Shared}{env:Env}{K:Flow->Sem Fin}{H:Value->Sem Fin}{gd:Bool->Bool}{lv:List Value->List Value}
abbrev nextK (K:Flow->Sem Fin)(m:Sem Fin):Flow->Sem Fin
 |.next=>m
 |f=>K f
def execs_app_wrap:(xs ys:List Stmt)->(execs (xs++ys) env).wrap K H gd lv=(execs xs env).wrap (nextK K ((execs ys env).wrap K H gd lv)) H gd lv
 | [],ys=>rfl
 |x::xs,ys=>by
  rw[zx,execs_cons_wrap,execs_cons_wrap];show Sem.wrap_congr _ _ _ (λf=>by
   cases f with
   |next=>show execs_app_wrap xs ys
   |_=>rfl) λ_=>rfl
def QM {x:Expr}{xs ys:List Stmt}{pos:Pos}{M:Model}(h:wpAny M (A.over c fs) (isTrue x env (eval x env)) (λb s'=>Seg M A R Y n s₀ c ((execs (if b=true then xs else ys) env).wrap K H gd lv) fs s') (λe s'=>Seg M A R Y n s₀ c (H e) fs s') s) :
  Seg M A R Y n s₀ c ((exec (.If x xs ys pos) env).wrap K H gd lv) fs s:=by
 rw[arm_exec_If];apply seg_at ?_;show Seg M A R Y n s₀ c ((isTrue x env (eval x env)>>=λb=>if b=true then execs xs env else execs ys env).wrap K H gd lv) fs s;rw[qy,yo];apply seg_wrap (bg h (λb s' h'=>?_) λ_ _ x=>x);cases b<;>show h'
end
section
variable {env:Env}{ρ:Fr}{σ:St}{out:List V}{s₀ s s':Shared}
variable {G:Stc}{C:Cal}{sc:Scope}{d:Nat}{S:Addr}{Ps:List Addr}{W:sH}{Kf:List V->St->Prop}
structure sH where
 X:List Addr
 σ:St
 h:Heap
abbrev Yg (G:Stc)(S:Addr)(Ps:List Addr):Protocol:=λ_ s₀ v s' kap=>(∀b∈Ps,s'.heap.get? b=s₀.heap.get? b)/\∃acc c,s'.heap.get? S=some (zq acc c)/\acc.size<1000/\s'.heap.NoLimit/\s'.gens=s₀.gens/\s'.os=s₀.os /\
 ∀s'' c',(∀b o,b≠S->s'.heap.get? b=some o->s''.heap.get? b=some o)->s''.heap.get? S=some (zq (acc.push v) c')->s''.os=s'.os->kap (.send .none) s''
abbrev Pg (G:Stc)(S:Addr)(Ps:List Addr)(W:sH)(Kf:List V->St->Prop)(s₀ s':Shared):Prop:=(∀b∈Ps,s'.heap.get? b=s₀.heap.get? b)/\∃out σ' acc c,s'.heap.get? S=some (zq acc c)/\VRs G s'.heap out acc.toList/\Rel G σ' s'.heap/\Kf out σ'/\Evo W.X W.σ W.h σ' s'.heap/\¬σ'.dom S/\s'.gens=s₀.gens/\s'.os=s₀.os
abbrev Rg (G:Stc)(S:Addr)(Ps:List Addr)(W:sH)(Kf:List V->St->Prop):GenEnd:=λ_ s₀ r s'=>r=.ok (.ret .none)/\Pg G S Ps W Kf s₀ s'
structure GSt (G:Stc)(S:Addr)(Ps:List Addr)(W:sH)(env:Env)(ρ:Fr)(σ:St)(out:List V)(s₀ s:Shared):Prop where
 F:FR G σ env ρ s.heap
 R:Rel G σ s.heap
 acc:∃acc c,s.heap.get? S=some (zq acc c)/\VRs G s.heap out acc.toList
 dom:¬σ.dom S
 off:S∉envX env
 base:G.hb.get? S=none
 prot:∀b∈Ps,¬σ.dom b/\b∉envX env/\(∃o,s.heap.get? b=some o)/\s.heap.get? b=s₀.heap.get? b
 orig:Evo W.X W.σ W.h σ s.heap
 sIn:S∈W.X
 xIn:∀b∈envX env,b∈W.X
 gens:s.gens=s₀.gens
 os:s.os=s₀.os
def GSt.go {ρ':Fr}{σ':St}(g:GSt G S Ps W env ρ σ out s₀ s)(F:FR G σ' env ρ' s'.heap)(R:Rel G σ' s'.heap)(x:Go (envX env) σ s σ' s'):GSt G S Ps W env ρ' σ' out s₀ s':=by
 have#[acc,c,U,vr]:=g.acc;apply⟨F,R,#[acc,c,x.e.keep _ _ U g.dom g.off,vr.mono x.e.frz],λq=>(x.e.dom _ q).elim g.dom (λq=>by rw[U]at q;cases q),g.off,g.base,λb hb=>by
  have#[B,J,#[o,Z],h4]:=g.prot b hb;have O:=x.e.keep _ _ Z B J;apply#[λq=>(x.e.dom _ q).elim B (λq=>by rw[Z]at q;cases q),J,#[o,O],O.trans (Z.symm.trans h4)],g.orig.trans (x.e.more g.xIn),g.sIn,g.xIn,x.g.trans g.gens,x.o.trans g.os⟩
def GSt.go0 {σ':St}(g:GSt G S Ps W env ρ σ out s₀ s)(R:Rel G σ' s'.heap)(x:Go [] σ s σ' s'):GSt G S Ps W env ρ σ' out s₀ s':=g.go (g.F.evo x.e) R x.wide
def GSt.but {own:List Addr}(g:GSt G S Ps W env ρ σ out s₀ s)(hk:∀b o,b∉own->s.heap.get? b=some o->s'.heap.get? b=some o)(hS:S∉own)(hP:∀b∈Ps,b∉own)(B:∀b∈own,W.h.get? b=none)(J:∀b∈own,b∉envX env)(Z:gy s.heap s'.heap)(R:Rel G σ s'.heap)(m:fW s s'):GSt G S Ps W env ρ σ out s₀ s':=by
 have#[acc,c,h,vr]:=g.acc;apply⟨g.F.but hk Z J,R,#[acc,c,hk _ _ hS h,vr.mono Z],g.dom,g.off,g.base,λb hb=>by
  have#[h1,h2,#[o,O],h4]:=g.prot b hb;have U:=hk _ _ (hP b hb) O;apply#[h1,h2,#[o,U],U.trans (O.symm.trans h4)],g.orig.but hk B,g.sIn,g.xIn,m.1.trans g.gens,m.2.trans g.os⟩
def GSt.wake {Z:Shared}{acc:Array Value}{c B:Nat}{v:V}{w:Value}(g:GSt G S Ps W env ρ σ out s₀ s)(hS:s.heap.get? S=some (zq acc c))(J:VRs G s.heap out acc.toList)(vr:VR G s.heap v w)
  (hk:∀b o,b≠S->s.heap.get? b=some o->Z.heap.get? b=some o) (U:Z.heap.get? S=some (zq (acc.push w) B)):GSt G S Ps W env ρ σ (out++[v]) Z Z/\gy s.heap Z.heap:=by
 have O:gy s.heap Z.heap:=λb o e f=>by
  by_cases q:b=S
  ·subst q;have rfl:=ak (hS.symm.trans e);rcases f with ⟨f,_⟩|⟨f|f,_⟩|⟨fd,f⟩
   ·show absurd rfl f
   ·show absurd (show Value.type "list"=Value.type "builtin_function_or_method" from f) (by decide)
   ·show absurd (show Value.type "list"=Value.type "method-wrapper" from f) (by decide)
   ·cases f
  ·show hk b o q e
 have R:Rel G σ Z.heap:=g.R.same (λb o e dm=>hk b o (λq=>g.dom (q▸dm)) e) O λb o e=>hk b o (λq=>by rw[q,g.base]at e;cases e) (g.R.base b o e);apply#[#[g.F.but (own:=[S]) (λb o hb e=>hk b o (λq=>hb (q▸.head _)) e) O λb hb=>by have rfl:=au.mp hb;show g.off,R,#[_,B,U,?_],g.dom,g.off,g.base,λb hb=>?_,g.orig.trans #[λb o e nd nx=>hk b o (λq=>nx (q▸g.sIn)) e,O,λb d=>.inl d,λb o e=>(Classical.em (b=S)).elim (λq=>#[_,q▸U]) λq=>#[o,hk b o q e]],g.sIn,g.xIn,rfl,rfl],O]
 rotate_left
 ·have#[h1,h2,#[o,h3],h4]:=g.prot b hb;apply#[h1,h2,?_,rfl];by_cases q:b=S
  ·apply#[_,q▸U]
  ·apply#[o,hk b o q h3]
 rw[j4];show(J.mono O).append %[vr.mono O|0]
end
end MP
end
section
namespace MP
open PySem PyProof.Rows
section
variable {xs:List Stmt}
variable {G:Stc}{C:Cal}{sc:Scope}{d:Nat}{S:Addr}{Ps:List Addr}{W:sH}{A:Around}{R:GenEnd}{Y:Protocol}{n:Nat}{s₀:Shared}{c:Code}{fs:List Frame}{s:Shared}{env:Env}{K:Flow->Sem Fin}{H:Value->Sem Fin}{gd:Bool->Bool}{lv:List Value->List Value}{ρ:Fr}{σ:St}{out:List V}
def u9 {b:jo}{ys:List Stmt}{P:Fr->St->Prop}(hb:nv G C sc d b xs)(Z:AOk (A.over c fs) d)(es:env.scope=sc)(eo:rv env)(g:GSt G S Ps W env ρ σ out s₀ s)(h:dk C b ρ σ λfl ρ σ=>fl=.next/\P ρ σ)
  (k:∀ρ' σ' s',P ρ' σ'->GSt G S Ps W env ρ' σ' out s₀ s'->Go (envX env) σ s σ' s'->Seg G.M A R Y n s₀ c ((execs ys env).wrap K H gd lv) fs s'):Seg G.M A R Y n s₀ c ((execs (xs++ys) env).wrap K H gd lv) fs s:=by
 rw[execs_app_wrap];apply seg_wrap (bg (hb #[Z,es,eo,g.F,g.R] h) (λf s' l=>?_) λ_ _ x=>x);have#[fl,ρ',σ',a,#[rfl,p],O,U,x']:=l;cases a;show k ρ' σ' s' p (g.go O U x') x'
def oM {b:jo}{P:Fr->St->Prop}(hb:nv G C sc d b xs)(O:AOk (A.over c fs) d)(es:env.scope=sc)(eo:rv env)(g:GSt G S Ps W env ρ σ out s₀ s)(h:dk C b ρ σ λU ρ σ=>U=.next/\P ρ σ)
  (k:∀ρ' σ' s',P ρ' σ'->GSt G S Ps W env ρ' σ' out s₀ s'->Go (envX env) σ s σ' s'->Seg G.M A R Y n s₀ c (K .next) fs s'):Seg G.M A R Y n s₀ c ((execs xs env).wrap K H gd lv) fs s:=by
 have:=u9 (ys:=[]) (K:=K) (H:=H) (gd:=gd) (lv:=lv) (R:=R) (Y:=Y) (n:=n) hb O es eo g h λρ' σ' s' p Z x=>fF (k ρ' σ' s' p Z x)
 rwa [cq]at this
def wX {e:Ex}{x:Expr}{ys:List Stmt}{pos:Pos}{P:Bool->St->Prop}(Z:oq G C sc d e x)(U:AOk (A.over c fs) d)(es:env.scope=sc)(eo:rv env)(g:GSt G S Ps W env ρ σ out s₀ s)(h:wpT C e ρ σ P)
  (k:∀b σ' s',P b σ'->GSt G S Ps W env ρ σ' out s₀ s'->Go [] σ s σ' s'->Seg G.M A R Y n s₀ c ((execs (if b=true then xs else ys) env).wrap K H gd lv) fs s'):Seg G.M A R Y n s₀ c ((exec (.If x xs ys pos) env).wrap K H gd lv) fs s:=by
 apply QM (bg (Z #[U,es,eo,g.F,g.R] h) (λb s' l=>?_) λ_ _ x=>x);have#[σ',q,O,x']:=l;show k b σ' s' q (g.go0 O x') x'
def oL {e:Ex}{x:Expr}{yp pos:Pos}{P:V->St->Prop}(he:dw G C sc d e x)(ag:splitAtGen fs=none)(ab:gd false=false)(ai:fs.any Frame.guarded=false)(aa:G.hb.NoLimit)(ar:env.scope.isCoroutine=false)(ao:AOk (A.over c fs) d)(es:env.scope=sc)(eo:rv env)
  (g:GSt G S Ps W env ρ σ out s₀ s) (hz:out.length<1000) (h:wpE C e ρ σ P)
  (k:∀v σ' s' Z,P v σ'->GSt G S Ps W env ρ σ' (out++[v]) Z Z->Go [] σ s σ' s'->(∀b o,b≠S->s'.heap.get? b=some o->Z.heap.get? b=some o)->gy s'.heap Z.heap->Seg G.M A R (Yg G S Ps) n Z c (K .next) fs Z):Seg G.M A R (Yg G S Ps) (n+1) s₀ c ((exec (.Expr (.Yield (some x) yp) pos) env).wrap K H gd lv) fs s:=by
 apply seg_Expr_Yield ag ab ai (bg (he #[ao,es,eo,g.F,g.R] h) (λu s' l bb hk=>?_) λ_ _ x=>x) ar (by unfold interactive;rw[eo.kind];rfl);have#[v,σ',q,vr,R',x']:=l;have B:=g.go0 R' x';have#[acc,cc,hS,U]:=B.acc;apply#[λb hb=>(B.prot b hb).2.2.2,acc,cc,hS,?_,aa.keeps R'.base,B.gens,B.os,λZ c' O J ho=>hk .none Z ?_]
 ·have e:acc.size=out.length:=by rw[<- iz];show U.length.symm
  rw[e];show hz
 ·have#[g2,hf]:=B.wake hS U vr O J;show k v σ' s' Z q g2 x' O hf
end
abbrev GT (C:Cal)(t:Tg)(cE:Ex)(b1:jo)(y:Ex)(b2 b3:jo)(v:V)(ρ:Fr)(σ:St)(out:List V)(k:Fr->St->List V->Prop):Prop:=
 nu t v σ ρ λρ=>wpT C cE ρ σ λb σ=>(b=true->dk C b1 ρ σ λfl ρ σ=>fl=.next/\out.length<1000/\wpE C y ρ σ λv σ=>dk C b2 ρ σ λfl ρ σ=>fl=.next/\dk C b3 ρ σ λfl ρ σ=>fl=.next/\k ρ σ (out++[v])) /\
  (b=false->dk C b3 ρ σ λfl ρ σ=>fl=.next/\k ρ σ out)
abbrev GL (T:V->Fr->St->List V->(Fr->St->List V->Prop)->Prop)(Gd:St->Prop)(k:Fr->St->List V->Prop):List V->Fr->St->List V->Prop
 | [],ρ,σ,out=>Gd σ/\k ρ σ out
 |v::vs,ρ,σ,out=>Gd σ/\T v ρ σ out (GL T Gd k vs)
section
variable {G:Stc}{C:Cal}{sc:Scope}{d:Nat}{S:Addr}{Ps:List Addr}{W:sH}{A:Around}{R:GenEnd}{c:Code}{env:Env}{K:Flow->Sem Fin}{H:Value->Sem Fin}{gd:Bool->Bool}{lv:List Value->List Value}
def DW {t:Tg}{cE y:Ex}{b1 b2 b3:jo}{x xc xy:Expr}{aa J O:List Stmt}{yp ep ip p:Pos}{kE:Fr->St->List V->Prop}(ht:n9 G C sc d t x)(hc:oq G C sc d cE xc)(h1:nv G C sc d b1 aa)(hy:dw G C sc d y xy)(h2:nv G C sc d b2 J)(h3:nv G C sc d b3 O)
  (cc:G.hb.NoLimit) (dv:env.scope.isCoroutine=false) (es:env.scope=sc) (eo:rv env) (I:Itr G) (bn:I.tup=true->isTup x=true)
  (ao:AOk (A.over (.forLoop x (.ref I.it) (.If xc (aa++(.Expr (.Yield (some xy) yp) ep::J)) [] ip::O) [] env) [.ret (uS env K H gd lv) none (gd false) (lv []) c p []]) d) (da:gd false=false)
  (hX:∀b∈I.own,b∉envX env) (be:S∉I.own) (cb:∀b∈Ps,b∉I.own) (ca:∀b∈I.own,W.h.get? b=none) (Z:∀b∈I.own,G.hb.get? b=none)
  (bl:∀n ρ σ out s₀ s,1<=n->GSt G S Ps W env ρ σ out s₀ s->kE ρ σ out->Seg G.M A R (Yg G S Ps) n s₀ c (K .next) [] s) :
  ∀(k i:Nat) (ρ:Fr) (σ:St) (out:List V) (s₀ s:Shared) (n:Nat),I.vs.length-i=k->k+1<=n->I.pos i s.heap->GSt G S Ps W env ρ σ out s₀ s->(∀b∈I.own,¬σ.dom b)->GL (GT C t cE b1 y b2 b3) I.Gd kE (I.vs.drop i) ρ σ out ->
   Seg G.M A R (Yg G S Ps) n s₀ (.forLoop x (.ref I.it) (.If xc (aa++(.Expr (.Yield (some xy) yp) ep::J)) [] ip::O) [] env) (G.M.den (.forLoop x (.ref I.it) (.If xc (aa++(.Expr (.Yield (some xy) yp) ep::J)) [] ip::O) [] env)) [.ret (uS env K H gd lv) none (gd false) (lv []) c p []] s:=by
 intro k;induction k with
 |zero =>
  intro i ρ σ out s₀ s n hk hn hp g hd hf;have hq:I.vs[i]?=none:=oh (fk .A .b .a0 (.k .A .a7) hk (Ar.G5 _ _));rw[sd (fk .A .b .a0 (.k .A .a7) hk (Ar.G5 _ _))]at hf;apply mU (I.stop _ _ s σ i _ ao.handled g.R hf.1 hp hq λs2 m=>?_);show Seg _ _ _ _ _ _ _ (leafOf (.ok (.next))) _ _;apply seg_leaf (.ok .next) ?_;show bl n ρ σ out s₀ s2 (ef .D .a (.k .a2 .A) hn) (g.but m.1 be cb ca hX (I.frz hp m.1) (I.rel hp g.R hd Z m.1) m.2) hf.2
 |succ k ih =>
  intro i ρ σ out s₀ s n hk hn hp g hd hf;cases hq:I.vs[i]? with
  |none=>have:=pa.mp hq;(show False.elim (gz .ff [[0,-1,1]] .a9 .M hk (zd (bt .A .a .A this))))
  |some v =>
   have#[ab,bd]:=vA hq;rw[bd]at hf;have#[hg,hf]:=hf;have#[n,rfl]:∃m,n=m+1:=#[n-1,by show bt .a9 .i .bI (ae (bt .D .a (.k (.a .M .U) .A) hn))];apply mU (bg (I.next _ _ s σ i v x ?Q ao.handled g.R hg hp hq (λq=>pN (bn q)) ?k) (λr s₁ hr=>?m) λ_ _ x=>x)
   case m =>
    cases r with
    |none=>show hr.elim
    |some w=>show hr
   case k =>
    intro w s2 m z;have#[vr,ct]:=z (I.frz hp m.1);have g2:=g.but m.1 be cb ca hX (I.frz hp m.1) (I.rel hp g.R hd Z m.1) m.2;apply bg (ht #[ao,es,eo,g2.F,g2.R] vr hf) (λ_ s3 l=>?_) λ_ _ x=>x;have#[eb,q3,F3,R3,x3]:=l;have g3:=g2.go F3 R3 x3;have#[cp,dr]:=I.nM hX ct hd x3.e;apply lD (wX hc ao es eo g3 q3 λb dL s4 q4 g4 x4=>?_);have ⟨bu,bv⟩:=I.nM (Y:=[]) (λ_ _ q=>nomatch q) cp dr x4.e;cases b with
    |true =>
     apply u9 h1 ao es eo g4 (q4.1 rfl) λea dz s5 q5 g5 x5=>?_;have#[cn,dn]:=I.nM hX bu bv x5.e;apply lD ?_;apply oL hy rfl rfl (by show(gd false||false)=false;rw[da];rfl) cc dv ao es eo g5 q5.1 q5.2 λv6 dy s6 s7 q6 g7 x6 cx dc=>?_;have#[cl,dm]:=I.nM (Y:=[]) (λ_ _ q=>nomatch q) cn dn x6.e;have ck:=I.keep i.succ _ _ cl (λb hb o e=>cx b o (λq=>be (q▸hb)) e) dc;apply oM h2 ao es eo g7 q6 λdV dx s8 q8 g8 x8=>?_;have#[cd,df]:=I.nM hX ck dm x8.e;apply oM h3 ao es eo g8 q8 λai ag s9 q9 g9 x9=>?_;have#[ar,bb]:=I.nM hX cd df x9.e;show seg_again rfl (ih (i+1) ai ag _ _ _ n (my .C .p (.e .C .M) .b5 .aW hk (ae (bt .A .a .B ab)) (ae (bt .H .a .B ab))) (bt .H .a .d5 hn) ar g9 bb q9)
    |false =>
     apply fF ?_;apply oM h3 ao es eo g4 (q4.2 rfl) λai ag s9 q9 g9 x9=>?_;have#[ar,bb]:=I.nM hX bu bv x9.e;show seg_again rfl (ih (i+1) ai ag _ _ _ (n+1) (my .C .p (.e .C .M) .b5 .aW hk (ae (bt .A .a .B ab)) (ae (bt .H .a .B ab))) (bt .aK .a .d5 hn) ar g9 bb q9)
end
section
variable {A:Around}{d:Nat}
def OE {b:List Stmt}{env:Env}(h:AOk A (d+1)):AOk (A.over (.func b env) []) d:=
 #[h.handled,by have:=h.depth;show A.depth+0+1+3*d+20<_;(show ek (.l (.a (.a (.a .aR .U) (.m 3 .B)) (.n 20)) .C) .a .aF this),by have:=h.units;show A.units+0+3+30*d+300<_;(show ek (.l (.a (.a (.a .aR (.n 3)) (.m 30 .B)) .aC) .C) .a .c4 this)]
def SN {b bb:List Stmt}{env:Env}{x:Expr}{it:Value}{k:Result->Sem Fin}{g:Bool}{l:List Value}{p:Pos}(h:AOk A (d+2)):AOk (A.over (.forLoop x it bb [] env) [.ret k none g l (.func b env) p []]) d:=by
 apply#[?_,?_,?_]
 ·show(markOver none A.handled A.handled)=none;rw[h.handled];rfl
 ·have:=h.depth;show A.depth+(1+0)+0+3*d+20<_
  (show ek (.l (.a (.a (.a (.a .A (.a .U .O)) .O) (.m 3 .B)) (.n 20)) .C) .a .bB this)
 ·have:=h.units;show A.units+(3+0)+0+30*d+300<_
  (show ek (.l (.a (.a (.a (.a .A (.a (.n 3) .O)) .O) (.m 30 .B)) .aC) .C) .a (.l (.a (.a .A (.m 30 (.a .B .W))) .aC) .C) this)
end
abbrev GW (C:Cal)(b0:jo)(it:It)(t:Tg)(cE:Ex)(b1:jo)(y:Ex)(b2 b3:jo)(cL yL:Ex)(N:Nat)(Kf:List V->St->Prop)(ρ:Fr)(σ:St):Prop:=
 dk C b0 ρ σ λfl ρ σ=>fl=.next/\lL C it ρ σ λvs Gd σ=>vs.length+1<=N/\GL (GT C t cE b1 y b2 b3) Gd (λρ σ out=>wpT C cL ρ σ λb σ=>(b=true->out.length<1000/\wpE C yL ρ σ λv σ=>Kf (out++[v]) σ)/\(b=false->Kf out σ)) vs ρ σ []
section
variable {G:Stc}{C:Cal}{sc:Scope}{d:Nat}{S:Addr}{Ps:List Addr}{W:sH}{A:Around}{env:Env}{Kf:List V->St->Prop}
def GSt.fin {ρ:Fr}{σ:St}{out:List V}{s₀ s:Shared}(g:GSt G S Ps W env ρ σ out s₀ s)(h:Kf out σ):Pg G S Ps W Kf s₀ s:=by
 have#[acc,c,Z,vr]:=g.acc;apply#[λb hb=>(g.prot b hb).2.2.2,out,σ,acc,c,Z,vr,g.R,h,g.orig,g.dom,g.gens,g.os]
def DX {it:It}{t:Tg}{cE y cL yL:Ex}{b0 b1 b2 b3:jo}{x xi xc xy xL aa:Expr}{ab J O U:List Stmt}{fp yp ep ip ag ar ai:Pos}{N:Nat}(h0:nv G C sc d b0 ab)(hi:xh G C sc d (isTup x) it xi)(hs:∀v,foldedSetIterable xi env v=pure v)
  (ht:n9 G C sc d t x) (hc:oq G C sc d cE xc) (h1:nv G C sc d b1 J) (hy:dw G C sc d y xy) (h2:nv G C sc d b2 O) (h3:nv G C sc d b3 U) (ck:oq G C sc d cL xL) (ca:dw G C sc d yL aa)
  (lim:G.hb.NoLimit) (bl:env.scope.isCoroutine=false) (es:env.scope=sc) (eo:rv env) (ao:AOk A (d+2)) {ρ:Fr} {σ:St} {s:Shared} (g:GSt G S Ps W env ρ σ [] s s) (h:GW C b0 it t cE b1 y b2 b3 cL yL N Kf ρ σ) :
  Seg G.M A (Rg G S Ps W Kf) (Yg G S Ps) N s (.func (ab++[.For x xi (.If xc (J++(.Expr (.Yield (some xy) yp) ep::O)) [] ip::U) [] fp,.If xL [.Expr (.Yield (some aa) ag) ar] [] ai]) env)
   (G.M.den (.func (ab++[.For x xi (.If xc (J++(.Expr (.Yield (some xy) yp) ep::O)) [] ip::U) [] fp,.If xL [.Expr (.Yield (some aa) ag) ar] [] ai]) env)) [] s:=by
 have bd:AOk (A.over (.func (ab++[.For x xi (.If xc (J++(.Expr (.Yield (some xy) yp) ep::O)) [] ip::U) [] fp,.If xL [.Expr (.Yield (some aa) ag) ar] [] ai]) env) []) d:=
  OE #[ao.handled,by have:=ao.depth;(show ek .aF .a .bB this),by have:=ao.units;(show ek .c4 .a (.l (.a (.a .A (.m 30 (.a .B .W))) .aC) .C) this)]
 have bn:=λ(z:Value) (k:Result->Sem Fin) (gg:Bool) (l:List Value) (p:Pos)=>SN (b:=ab++[.For x xi (.If xc (J++(.Expr (.Yield (some xy) yp) ep::O)) [] ip::U) [] fp,.If xL [.Expr (.Yield (some aa) ag) ar] [] ai]) (bb:=.If xc (J++(.Expr (.Yield (some xy) yp) ep::O)) [] ip::U) (env:=env) (x:=x) (it:=z) (k:=k) (g:=gg) (l:=l) (p:=p) ao;apply seg_func ?_;generalize Code.func (ab++[.For x xi (.If xc (J++(.Expr (.Yield (some xy) yp) ep::O)) [] ip::U) [] fp,.If xL [.Expr (.Yield (some aa) ag) ar] [] ai]) env=c at bd bn;apply u9 h0 bd es eo g h λbv σ1 s1 q1 g1 x1=>?_;apply lD (MI hs (bg (hi #[bd,es,eo,g1.F,g1.R] q1) (λv s2 cb=>bg cb (λitv s3 l p=>?_) λ_ _ x=>x) λ_ _ x=>x));have#[I,bu,rfl,be,#[hN,hf],hp,R3,x3,Z,cd]:=l;have g3:=g1.go0 R3 x3;apply DW ht hc h1 hy h2 h3 lim bl es eo I be (bn _ _ _ _ _) rfl (hO g1.F Z) (λq=>?_) (λb hb q=>by have#[_,_,#[o,h3],_]:=g1.prot b hb;rw[Z _ q]at h3;cases h3) (λb hb=>by
  cases q:W.h.get? b with
  |none=>rfl
  |some o=>have#[o',e]:=g1.orig.there _ _ q;rw[Z _ hb]at e;cases e) (aO g1.R Z) (λn ρ σ out s₀ s hn g q=>?_) _ 0 bv bu [] _ s3 N rfl hN hp g3 cd hf
 ·have#[acc,cc,hS,_]:=g1.acc;rw[Z _ q]at hS;cases hS
 ·have#[n,rfl]:∃m,n=m+1:=#[n-1,by show bt .a9 .i .bI (ae (ef .D .a .D hn))];apply lD (wX ck bd es eo g q λb cn s4 q4 g4 x4=>?_);cases b with
  |true =>
   apply lD (oL ca rfl rfl rfl lim bl bd es eo g4 (q4.1 rfl).1 (q4.1 rfl).2 λv6 cl s6 s7 q6 g7 x6 cp ct=>?_);show fF (fF (seg_end (.ok (.ret .none)) #[rfl,g7.fin q6]))
  |false=>show fF (fF (seg_end (.ok (.ret .none)) #[rfl,g4.fin (q4.2 rfl)]))
end
end MP
end
section
namespace MP
open PySem PyProof.Rows
section
variable {G:Stc}{S I g:Nat}{W:sH}{A:Around}{Kf:List V->St->Prop}
structure VK (G:Stc)(A:Around)(S I g:Nat)(W:sH)(Kf:List V->St->Prop)(os:OsState)(gs₁:Array GenState)(n:Nat)(s:Shared)(acc:Array Value):Prop where
 isGen:s.heap.IsGen I g
 lim:s.heap.NoLimit
 os_:s.os=os
 only:∀k,k≠g->s.gens[k]?=gs₁[k]?
 goes:∃gs,s.gens[g]?=some gs/\gs.Goes G.M A (Rg G S [S,I] W Kf) (Yg G S [S,I]) n (.send .none) (s.setGen g .running)
abbrev VL (G:Stc)(S g:Nat)(W:sH)(Kf:List V->St->Prop)(os:OsState)(gs₁:Array GenState)(s:Shared)(acc:Array Value):Prop:=∃out σ',VRs G s.heap out acc.toList/\Rel G σ' s.heap/\Kf out σ'/\Evo W.X W.σ W.h σ' s.heap/\¬σ'.dom S/\s.os=os/\(∀k,k≠g->s.gens[k]?=gs₁[k]?)/\∀y,s.gens[g]?=some y->y.bare=true
def gZ {s:Shared}{g k:Nat}{gs:GenState}(h:k≠g):(s.setGen g gs).gens[k]?=s.gens[k]?:=by
 unfold Shared.setGen;simp[wi h]
def h9 {s:Shared}{g:Nat}{gs Z:GenState}(h:s.gens[g]?=some gs):(s.setGen g Z).gens[g]?=some Z:=by
 have#[hl,_]:=ku.mp h;unfold Shared.setGen;simp[hl]
def xQ {a b:Array Value}{c d:Nat}(e:some (zq a c)=some (zq b d)):a=b/\c=d:=by
 unfold zq at e;injection e with e
 injection e with _ _ e _
 injection e with e1 e2
 apply#[e1,e2]
def J8 {os:OsState}{O:Array GenState}(hh:A.handled=none)(B:A.depth<recursionLimit)(bu:I≠S)(bl:cStatics≠S):CZ G.prog G.w A S I (VK G A.in1 S I g W Kf os O) (VL G S g W Kf os O):=by
 intro n s acc c Q E hI hS kv kn;have#[hG,hl,ho,ao,gs,ab,be]:=hI;apply wpAny_pyNext_gen (P:=λ_ s₀ s₁=>Pg G S [S,I] W Kf s₀ s₁) (Y:=Yg G S [S,I]) hh hl B hG ab be (λv s₁ J hy=>?_) λs₁ hp h' hk=>?_
 ·have#[hP,ar,c',U,hz,bd,Z,aa,hy]:=hy;have e1:s₁.heap.get? S=s.heap.get? S:=hP S (.head _);rw[U,hS]at e1;have#[rfl,rfl]:=xQ e1;apply kv v (s₁.setGen g J) U (gf hz (by decide)) λh' hk ag=>?_;have#[c2,ag]:=ag;have ai:=hy (({s₁.setGen g J with heap:=h'}:Shared).setGen g .running) c2 hk ag rfl;cases n with
  |zero=>show ai.elim
  |succ n =>
   have bn:(s₁.setGen g J).gens[g]?=some J:=h9 (gs:=.running) (by rw[Z];show h9 ab);have#[o,a,b,bb,r]:=hG;have e2:s₁.heap.get? I=s.heap.get? I:=hP I (.tail _ (.head _));apply#[n,nj n,#[o,a,b,hk I _ bu (e2.trans bb),r],bd.at (λo e=>hk _ o bl e),aa.trans ho,λk q=>(gZ q).trans ((bz (λa:Array GenState=>a[k]?) Z).trans ((gZ q).trans (ao k q))),J,bn,ai]
 ·have#[hP,out,σ',ar,c',U,vr,R,hK,hE,hd,Z,aa]:=hp;have e1:s₁.heap.get? S=s.heap.get? S:=hP S (.head _);rw[U,hS]at e1;have#[rfl,rfl]:=xQ e1;show kn _ (hk _ _ U) ⟨out,σ',vr.mono (λb o e _=>hk b o e),R.keeps hk,hK,hE.trans (Evo.keeps hk),hd,aa.trans ho,λk q=>(gZ q).trans ((bz (λa:Array GenState=>a[k]?) Z).trans ((gZ q).trans (ao k q))),λy e=>by
   have e2:(s₁.setGen g .finished).gens[g]?=some .finished:=h9 (gs:=.running) (by rw[Z];show h9 ab);have rfl:=ak (e2.symm.trans e);rfl⟩
end
section
variable {G:Stc}{C:Cal}{sc:Scope}{d:Nat}{I g:Nat}{A:Around}{E:QqV}{env:Env}{Kf:List V->St->Prop}
def IH {it:It}{t:Tg}{cE y cL yL:Ex}{b0 b1 b2 b3:jo}{x xi xc xy xL J:Expr}{ai ag ab aa:List Stmt}{fp yp ep ip be cn bl:Pos}{N:Nat}(h0:nv G C sc d b0 ai)(hi:xh G C sc d (isTup x) it xi)(hs:∀v,foldedSetIterable xi env v=pure v)
  (ht:n9 G C sc d t x) (hc:oq G C sc d cE xc) (h1:nv G C sc d b1 ag) (hy:dw G C sc d y xy) (h2:nv G C sc d b2 ab) (h3:nv G C sc d b3 aa) (cc:oq G C sc d cL xL) (bn:dw G C sc d yL J)
  (lim:G.hb.NoLimit) (cb:env.scope.isCoroutine=false) (es:env.scope=sc) (eo:rv env) (ao:AOk A (d+5)) {ρ:Fr} {σ:St} {s:Shared} (F:FR G σ env ρ s.heap) (R:Rel G σ s.heap) (hG:s.heap.IsGen I g) (hI:¬σ.dom I) (ck:I∉envX env) (cd:∀out σ,Kf out σ->out.length<=bq) (h:GW C b0 it t cE b1 y b2 b3 cL yL N Kf ρ σ)
  (hg:s.gens[g]?=some (.fresh (.func (ai++[.For x xi (.If xc (ag++(.Expr (.Yield (some xy) yp) ep::ab)) [] ip::aa) [] fp,.If xL [.Expr (.Yield (some J) be) cn] [] bl]) env))) :
  wpAny G.M A (call (.type "list") [.ref I]) (λw s'=>w=.ref s.heap.objs.size/\∃out σ',Rel G (σ'.cw s.heap.objs.size out) s'.heap/\Kf out σ'/\Evo (s.heap.objs.size::envX env) σ s.heap σ' s'.heap/\¬σ'.dom s.heap.objs.size/\s'.os=s.os/\(∀k,k≠g->s'.gens[k]?=s.gens[k]?)/\∀y,s'.gens[g]?=some y->y.bare=true) E s:=by
 have out:∀b o,s.heap.get? b=some o->b≠s.heap.objs.size:=λb o e=>gm (fj e);have cl:I≠s.heap.objs.size:=by have#[o,_,_,e,_]:=hG;show out _ _ e
 have O:s.heap.get? s.heap.objs.size=none:=none_at_size _;have bb:G.hb.get? s.heap.objs.size=none:=by
  cases q:G.hb.get? s.heap.objs.size with
  |none=>rfl
  |some o=>rw[R.base _ _ q]at O;cases O
 have ar:¬σ.dom s.heap.objs.size:=λq=>by have#[o,e]:=R.ky q;rw[O]at e;cases e
 have bd:s.heap.objs.size∉envX env:=hO (own:=[s.heap.objs.size]) F (λb hb=>by rw[au.mp hb];show O) _ (.head _);have ca:cStatics≠s.heap.objs.size:=by
  have#[mc,#[o,_,_,e,_],_]:=lim;show out _ _ (R.base _ _ e)
 apply qL (n:=N) (Inv:=VK G A.in1.in1.in1 s.heap.objs.size I g #[s.heap.objs.size::envX env,σ,s.heap] Kf s.os s.gens) (Fin':=VL G s.heap.objs.size g #[s.heap.objs.size::envX env,σ,s.heap] Kf s.os s.gens) hG (J8 ao.handled (by have:=ao.depth;show A.depth<_;(show ek .B .a (.l (.a (.a .A (.m 3 (.a .C (.n 5)))) (.n 20)) .B) this)) cl ca) (λh' hk Z=>?_) λs' acc c Z hf=>?_
 ·have#[c',Z]:=Z;apply#[hG.keeps hk,(lim.keeps R.base).keeps hk,rfl,λ_ _=>rfl,_,hg,rfl,?_];have gs:GSt G s.heap.objs.size [s.heap.objs.size,I] #[s.heap.objs.size::envX env,σ,s.heap] env ρ σ [] (({s with heap:=h'}:Shared).setGen g .running) (({s with heap:=h'}:Shared).setGen g .running):=by
   apply#[F.evo (Evo.keeps hk),R.keeps hk,#[#v[],c',Z,.nil],ar,bd,bb,λb hb=>?_,Evo.keeps hk,.head _,λb hb=>.tail _ hb,rfl,rfl];rcases cz.mp hb with rfl|hb
   ·apply#[ar,bd,#[_,Z],rfl]
   ·have rfl:=au.mp hb;have#[o,_,_,e,_]:=hG;apply#[hI,ck,#[o,hk _ _ e],rfl]
  show DX (A:=A.in1.in1.in1) h0 hi hs ht hc h1 hy h2 h3 cc bn lim cb es eo #[ao.handled,by have:=ao.depth;show A.depth+3*(d+2)+20<_;(show ek .bB .a (.l (.a (.a .A (.m 3 (.a .B (.n 5)))) (.n 20)) .C) this),by have:=ao.units;show A.units+1+1+1+30*(d+2)+300<_;(show ek (.l (.a (.a (.a .a5 .U) (.m 30 (.a .B .W))) .aC) .C) .a (.l (.a (.a .A (.m 30 (.a .B (.n 5)))) .aC) .C) this)] gs h
 ·have#[out,σ',vr,R',hK,hE,hd,ho,bv,bu]:=hf;apply#[rfl,out,σ',R'.KD hd bb Z vr (cd _ _ hK),hK,hE,hd,ho,bv,bu]
end
end MP
end
section
namespace MP
open PySem PyProof.Rows
structure GenAt (G:Stc)(a:Addr)(n:Nat)(dflt:List V)(sc:Scope)(body:List Stmt):Prop where
 lim:G.hb.NoLimit
 kind:sc.kind=.function
 co:sc.isCoroutine=false
 gen:sc.isGenerator=true
 nd:(sc.names.map (·.1)).Nodup
 fQ:∀(i:Nat) (x:Str),sc.names[i]?≠some (x,.free)
 here:∃o fd,G.hb.get? a=some o/\o.data=.func fd/\fd.scope=sc/\fd.body=.stmts body/\fd.closure=[]/\fd.globals=mainGlobals/\fd.builtins=builtinsNs/\G.hb.CodeRec fd.code fd.qualname /\
  rl fd.params=true/\pf (fd.params.args.map (·.arg)) sc.names=true/\fd.params.args.length=n /\
  ((fd.defaults=.none/\dflt=[])\/∃t ot ds m,fd.defaults=.ref t/\G.hb.get? t=some ot/\ot.data=.seq (ds.toArray) m/\VRs G G.hb dflt ds)/\dflt.length<=n
section
variable {G:Stc}{A:Around}{E:QqV}{s:Shared}{σ:St}
structure KS (G:Stc)(σ:St)(sc:Scope)(body:List Stmt)(ρ:Fr)(I g:Nat)(env:Env)(h:Heap)(gs₁:Array GenState)(s':Shared):Prop where
 only:∀k,k≠g->s'.gens[k]?=gs₁[k]?
 isGen:s'.heap.IsGen I g
 fresh:s'.gens[g]?=some (.fresh (.func body env))
 es:env.scope=sc
 eo:rv env
 F:FR G σ env ρ s'.heap
 R:Rel G σ s'.heap
 dom:¬σ.dom I
 off:I∉envX env
 new:∀b∈envX env,h.get? b=none
def J9 {a:Addr}{n d:Nat}{dflt:List V}{sc:Scope}{body:List Stmt}{b:jo}{vs:List V}{ws:List Value}{Q:QqV}(K:GenAt G a n dflt sc body)(ao:AOk A (d+1))(R:Rel G σ s.heap)(vr:VRs G s.heap vs ws)(h1:vs.length<=n)(h2:n<=vs.length+dflt.length)
  (k:∀I g env s',KS G σ sc body (frameOf #[n,dflt,b] vs) I g env s.heap s.gens s'->Evo [] σ s.heap σ s'.heap->s'.os=s.os->Q (.ref I) s'):wpAny G.M A (call (.ref a) ws) Q E s:=by
 have#[o,fd,ho,hd,ar,O,ag,bd,bv,U,bb,aa,hn,bn,bl]:=K.here;subst ar;have#[ds,be,ai]:∃ds,(∀(A:Around) (E:QqV) (Q:Option (Array Value)->Shared->Prop),(∀o,(o.getD #v[]).toList=ds->Q o s)->wpAny G.M A (seqItems? fd.defaults) Q E s)/\VRs G s.heap dflt ds:=by
  rcases bn with ⟨e1,e2⟩|⟨t,ot,ds,m,e1,e2,e3,e4⟩
  ·apply#[[],λA E Q q=>?_,by subst e2;show .nil];rw[e1];show wpAny G.M A (do notAStandIn .none;pure none) Q E s;show ec (by rfl) (q none rfl)
  ·apply#[ds,λA E Q q=>?_,e4.mono λb o e _=>R.base b o e];rw[e1];show wpAny G.M A (do match (← load t).data with|.seq xs _=>pure (some xs)|_=>pure none) Q E s;apply af (we (R.base _ _ e2) ?_);rw[e3];show ah (q _ (by simp))
 apply nh ?_;apply jK (Pst:=λenv s₂=>wants Q E (.ok (.ret (.ref s₂.heap.objs.size))) {s₂ with gens:=s₂.gens.push (.fresh (.func body env)),toks:=s₂.toks+1+1,heap:=s₂.heap.push {cls:=.type "generator",data:=.fields #v[.int s₂.gens.size 0,.str fd.name s₂.toks,.str fd.qualname (s₂.toks+1)]}}) (ρf:=λ_=>none) (ρ':=frameOf #[n,dflt,b] vs) ho hd K.lim K.kind K.nd ag bd bv bb aa hn be ai bl
  (λh=>codeAny_call_generator (by have:=ao.depth;(show ek .B .a .c2 this)) (R.base _ _ ho) hd K.co K.gen O (U.keeps R.base) h)
  #[λi x e=>absurd e (K.fQ i x),λi j x y c e=>absurd e (K.fQ i x),λp hp=>(nomatch hp),λ_ _ _ _ _=>rfl] R vr h1 h2 (λi=>?_) λenv s' X e1 e2 eo F' R' x' hX ca bu=>?_
 ·split
  ·rfl
  ·unfold frameOf fT;dsimp only;rw[oh];rw[ax,ja];(rename_i z1;show Ar.sub _ _ (λq1 J=>(Ar.sub _ _ (λq2 p2=>(Ar.sub _ _ (λq3 Z=>(K7 .K .u .bR .c5 .cH .dC z1 J p2 Z)) λq3 Z=>(yN .K [[1,1,1,1,-1,1]] .aA .bR .c5 .cH .d0 h1 z1 J p2 Z))) λq2 p2=>(Ar.sub _ _ (λq3 Z=>(K7 .K .s .bR .c5 (.k .G .H) .dC z1 J q2 Z)) λq3 Z=>(yN .K [[1,1,1,1,1,1]] .aA .bR .c5 (.k .G .H) .d0 h1 z1 J q2 Z)))) λq1 J=>(mq .K .e .aA .bR .aJ h1 z1 J))
 ·have hk:∀b o,s'.heap.get? b=some o->(s'.heap.push {cls:=.type "generator",data:=.fields #v[.int s'.gens.size 0,.str fd.name s'.toks,.str fd.qualname (s'.toks+1)]}).get? b=some o:=λb o e=>aw _ e;have ab:s'.heap.get? s'.heap.objs.size=none:=none_at_size _;have gn:KS G σ fd.scope body (frameOf #[n,dflt,b] vs) s'.heap.objs.size s'.gens.size env s.heap s.gens {s' with gens:=s'.gens.push (.fresh (.func body env)),toks:=s'.toks+1+1,heap:=s'.heap.push {cls:=.type "generator",data:=.fields #v[.int s'.gens.size 0,.str fd.name s'.toks,.str fd.qualname (s'.toks+1)]}}:=
   ⟨λk q=>by
    show(s'.gens.push _)[k]?=s.gens[k]?;rw[Array.getElem?_push,ay q,x'.g],#[_,_,_,cf _ rfl,rfl,rfl,rfl],by simp,e1,eo,F'.evo (Evo.keeps hk),R'.keeps hk,(λq=>by have#[o,e]:=R'.ky q;rw[ab]at e;cases e),
    hO (own:=[s'.heap.objs.size]) F' (λb hb=>by rw[au.mp hb];show ab) _ (.head _),λz hz=>(bu z hz).elim (hX z) λ⟨_,hp,_⟩=>nomatch hp⟩
  have x2:Evo [] σ s.heap σ (s'.heap.push {cls:=.type "generator",data:=.fields #v[.int s'.gens.size 0,.str fd.name s'.toks,.str fd.qualname (s'.toks+1)]}):=
   (x'.e.trans (Evo.keeps hk)).less λz hz=>.inr (hX z hz)
  show k _ _ _ _ gn x2 x'.o
end
end MP
end
section
namespace MP
open PySem PyProof.Rows PySem.W
abbrev UH (h:Heap)(n:Nat)(dflt:List V)(fd:FuncData):Bool:=
 decide (fd.scope.kind=.function)&&(!fd.scope.isCoroutine&&(fd.scope.isGenerator&&(decide ((fd.scope.names.map (·.1)).Nodup)&&(fd.scope.names.all (λp=>p.2 != .free)&&(fd.closure.isEmpty&&(decide (fd.globals=mainGlobals)&&(decide (fd.builtins=builtinsNs) &&
 (vD h fd.code fd.qualname&&(rl fd.params&&(pf (fd.params.args.map (·.arg)) fd.scope.names&&(decide (fd.params.args.length=n)&&(CP h dflt fd.defaults&&decide (dflt.length<=n)))))))))))))
abbrev JB (h:Heap)(n:Nat)(dflt:List V)(a:Addr):Bool:=(told mC h a).any λfd=>(CU fd.body).isSome&&UH h n dflt fd
def RU {G:Stc}{n:Nat}{dflt:List V}{a:Addr}{h₀:Heap}(hk:∀b o,h₀.get? b=some o->G.hb.get? b=some o)(B:G.hb.NoLimit)(e:JB h₀ n dflt a=true):∃x,bodyOf h₀ a=some x/\GenAt G a n dflt x.1 x.2:=by
 have#[fd,h1,e]:=any_some e;have#[e0,e]:=band e;have#[b,h2]:=bp.mp e0;have#[o,ho,hd]:=gS h1;have g1:=band e;have g2:=band g1.2;have g3:=band g2.2;have g4:=band g3.2;have g5:=band g4.2;have g6:=band g5.2;have g7:=band g6.2;have g8:=band g7.2;have g9:=band g8.2;have J:=band g9.2;have O:=band J.2;have U:=band O.2;have Z:=band U.2;apply#[(fd.scope,b),(eh.mpr #[fd,h1,bz (Option.map λb=>(fd.scope,b)) h2]),#[B,aq g1.1,(fg _).mp g2.1,g3.1,aq g4.1,fQ g5.1,o,fd,hk _ _ ho,yb hd,rfl,yG h2,nk.mp g6.1,aq g7.1,aq g8.1,(qH g9.1).keeps hk,J.1,O.1,aq U.1,?_,aq Z.2]];apply((sr ..).mp Z.1).imp (λq=>#[aq (band q).1,nk.mp (band q).2]) λq=>?_;have#[ds,h3,q2]:=any_some (band q).2;have#[ot,aa,ab]:=gS h3;apply#[_,ot,ds.1.toList,ds.2,aq (band q).1,hk _ _ aa,qF ab,jJ _ _ q2]
abbrev newOf (b:List Stmt):List Stmt:=
 let s0:=b.getD 0 default;let s1:=b.getD 1 default;let d:=st0 s0;let c:=st0 s1;let f:=kid 0 c;let t:=kid 2 c
 uI d.pos s0.pos (kid 0 f).pos f.pos (kid 1 c).pos (kid 0 t).pos (kid 1 t).pos (kid 2 t).pos t.pos c.pos s1.pos (CL d) (exK d) (exK t)
abbrev MS (b:List Stmt):Bool:=(kid 0 (st0 (b.getD 1 default))).pos.endLine==(st0 (b.getD 1 default)).pos.line
abbrev uL (b:List Stmt):List Pos:=
 let s0:=b.getD 0 default;let s1:=b.getD 1 default;let s2:=b.getD 2 default;let s3:=b.getD 3 default;let c:=st0 s1;let q:=st0 s2;let l:=kid 0 q
 [(st0 s0).pos,s0.pos,((zj s1).getD 1 default).pos,(kid 0 (kid 0 c)).pos,(kid 0 c).pos,(kid 1 c).pos,(kid 2 c).pos,c.pos,s1.pos,(kid 0 l).pos,(kid 1 l).pos,l.pos,(kid 1 q).pos,q.pos,s2.pos,(st0 s3).pos,s3.pos]
abbrev HZ (l:List Pos):Fin 20->Pos:=λi=>l.getD i.1 #[0,0,0,0]
abbrev RF (b:List Stmt):List Stmt:=pE (HZ (uL b)) (CL (st0 (b.getD 0 default))) (exK (st0 (b.getD 0 default))) (exK (kid 1 (st0 (b.getD 2 default)))) (sw (b.getD 2 default)).b
abbrev IG (b:List Stmt):Bool:=(HZ (uL b) 4).endLine==(HZ (uL b) 7).line
end MP
end
section
set_option backward.match.sparseCases false
open PySem PySem.W PyProof.Rows
set_option maxHeartbeats 0
namespace Mine
open MP
abbrev tB (w:World)(os:OsState):Thread:=#[QY (fT (tA w os)),(tA w os).code,(tA w os).pos,(tA w os).stack]
abbrev XB (w:World)(os:OsState):Option (Flow×SharedT×Code×Pos):=TP TB pw w 11 an 1 400 (sA w os) (tB w os)
abbrev s3 (w:World)(os:OsState):SharedT:=(XB w os).elim (S4 w os) (·.2.1)
abbrev F (w:World)(os:OsState):Shared:=(s3 w os).abs
abbrev viewOf (p:Program):Program:={p with main:={p.main with body:=[0,2,3,4,5,7,8,9].filterMap λi=>p.main.body[i]?}}
abbrev qv:Program:=viewOf pw
public abbrev loose:List Str:=[Str.ofString "_tuplegetter",Str.ofString "Match",Str.ofString "SequenceMatcher"]
@[reducible] def rw5:=PySem.Challenge.rw_dm0056_05
public abbrev Xt:Shared->Bool:=λs=>xlAt qv [] s&&recOk (RowW.records rw5.row.toRowW) s
abbrev CA (w:World)(s:Shared):Bool:=staticsOk (importedModules pw.main.body) (boot_heap w.params) s.heap&&namesBound pw s.heap&&gensDone s&&laidKept (boot_heap w.params) s.heap
abbrev NK (h:Heap)(x:Str):Option Value:=(h.nsMap mainGlobals x).or (h.nsMap builtinsNs x)
abbrev lT (h:Heap)(a:Addr)(xs:List Str):Bool:=xs.all λx=>(h.nsMap a x).isNone
abbrev isFn (h:Heap)(a:Addr):Bool:=(h.get? a).any λo=>decide (o.cls=.type "function")&&(mC o.data).isSome
abbrev fragOf (h:Heap)(as:List Addr):Frag:=as.filterMap λa=>(h.get? a).map λo=>(a,o)
public abbrev K8 (h:Heap):Frag:=fragOf h [135,134,136,91,2,82,89]
abbrev V0:jo:=.cons .dead %[.dead|0]
abbrev UZ:jo:=.cons .dead %[.dead,.dead,.dead|0]
abbrev IF:List (Str×NameKind):=[("tuple",.globalImplicit),("len",.globalImplicit),("TypeError",.globalImplicit)]
abbrev I5 (h:Heap):Bool:=h.isNs mainGlobals&&h.isNs builtinsNs&&h.isNs 241&&h.isNs 134&&h.isNs cStatics&&(h.nsMap cStatics "sys.recursionlimit").isNone&&(h.get? sysModules).isSome
abbrev J6 (h:Heap):Bool:=R5.tab.gl.all λp=>decide (NK h p.1=some p.2)
abbrev uK (h:Heap):Bool:=R5.tab.meths.all λp=>decide ((h.nsMap 241 p.2)=(R5.tab.fns.lookup p.1).map Value.ref)
abbrev CI (h:Heap):Bool:=R5.tab.fns.all λp=>isFn h p.2&&match R5.P p.1 with|some fn=>pU R5.tab h fn p.2|none=>false
abbrev newOk (h:Heap):Bool:=pU R5.tab h #[4,[],V0] 82&&(bodyOf h 82).any λx=>MS x.2
abbrev zV (h:Heap):Bool:=pU R5.tab h #[2,[],UZ] 89&&(bodyOf h 89).any λx=>IG x.2
abbrev TX (x:Scope×List Stmt):Scope×List Stmt:=(cO [],newOf x.2)
abbrev PG (x:Scope×List Stmt):Scope×List Stmt:=(pv IF [],RF x.2)
abbrev QQ (k:Nat)(x:Scope×List Stmt):Scope×List Stmt:=match R5.P k with
 |some fn=>QR R5.tab fn x
 |none=>x
abbrev vL (h:Heap):List (Option (Scope×List Stmt)):=R5.tab.fns.map λp=>bodyOf h p.2
abbrev CV (h:Heap):List (Option (Scope×List Stmt)):=R5.tab.fns.map λp=>(bodyOf h p.2).map (QQ p.1)
abbrev frees (h:Heap):Heap:=h.update 258 λ_=>{cls:=.none,data:=.freed}
abbrev W5:Expr->Option (Arguments×Expr×Scope×Pos)
 |.Lambda a e s p=>some (a,e,s,p)
 |_=>none
abbrev sX (x:Expr):Arguments×Expr×Scope×Pos:=(W5 x).getD (#[[],[],none,[],[],none,[]],default,default,default)
abbrev W6 (x:Expr):Expr:=.Lambda (sX x).1 (reE R5.tab R5.xP (sX x).2.2.1 (sX x).2.1) (sX x).2.2.1 (sX x).2.2.2
abbrev UG (sc:Scope)(st:Stmt):Stmt:=.Assign [.Name "isjunk" ((zj st).getD 1 default).pos] (.IfExp (reE R5.tab R5.cT sc (kid 0 (st0 st))) (W6 (kid 1 (st0 st))) (reE R5.tab .none sc (kid 2 (st0 st))) (st0 st).pos) st.pos
abbrev rC (st:Stmt):Expr:=kid 0 (st0 st)
abbrev rI (st:Stmt):Expr:=kid 1 (rC st)
abbrev rA (i:Nat)(st:Stmt):Expr:=kid i (rI st)
abbrev rO (sc:Scope)(i:Nat)(st:Stmt):Expr:=reE R5.tab (.l 11) sc (kid 0 (kid 0 (rA i st)))
abbrev rX (sc:Scope)(st:Stmt):Expr:=reE R5.tab (.l 1) sc (kid 1 (rA 2 st))
abbrev rD (sc:Scope)(st:Stmt):Expr:=reE R5.tab (.l 10) sc (kid 1 (st0 st))
abbrev BV (sc:Scope)(st:Stmt):Stmt:=.Return (some (.Compare (.Call (nm (kid 0 (rC st))) [.IfExp (reE R5.tab R5.cR sc (kid 0 (rI st))) (.Call (.Attribute (rO sc 1 st) "get_grouped_opcodes" (kid 0 (rA 1 st)).pos) [] [] (rA 1 st).pos) (.Call (.Attribute (rO sc 2 st) "get_grouped_opcodes" (kid 0 (rA 2 st)).pos) [rX sc st] [] (rA 2 st).pos) (rI st).pos] [] (rC st).pos) [dM .eq] [rD sc st] (st0 st).pos)) st.pos
abbrev at4 (x:Scope×List Stmt):Stmt:=x.2.getD 4 default
abbrev at9 (x:Scope×List Stmt):Stmt:=x.2.getD 9 default
abbrev U7 (x:Scope×List Stmt):Scope×List Stmt:=(x.1,f9 R5.tab x.1 R5.oR x.2++UG x.1 (at4 x)::(f9 R5.tab x.1 R5.iH (x.2.drop 5)++[BV x.1 (at9 x)]))
abbrev vS:Value->Str
 |.str s _=>s
 |_=>""
abbrev vI:Value->Int
 |.int i _=>i
 |_=>0
abbrev vB:Value->Bool
 |.bool b=>b
 |_=>false
abbrev U8:List (Str×NameKind):=[(xNm,.«local»)]
abbrev W7:Str×NameKind:=("isjunk",.«local»)
abbrev RL (l:Arguments×Expr×Scope×Pos):Bool:=decide (l.2.2.1.kind=.function)&&(!l.2.2.1.isCoroutine&&(!l.2.2.1.isGenerator&&(decide (l.2.2.1.names=U8)&&(rl l.1&&(decide (l.1.args.map (·.arg)=[xNm])&&(l.1.defaults.isEmpty&&(l.1.kw_defaults.isEmpty&&okE R5.tab R5.xP l.2.2.1 l.2.1)))))))
abbrev QP (sc:Scope)(st:Stmt):Bool:=glob R5.tab sc (md (kid 0 (rC st))) (.type "list")&&(okE R5.tab R5.cR sc (kid 0 (rI st))&&(okE R5.tab (.l 11) sc (kid 0 (kid 0 (rA 1 st)))&&(okE R5.tab (.l 1) sc (kid 1 (rA 2 st))&&(okE R5.tab (.l 10) sc (kid 1 (st0 st))&&(lu (rO sc 1 st)&&(lu (rO sc 2 st) &&
 (((kid 0 (rA 1 st)).pos.endLine==(rA 1 st).pos.line)&&(((kid 0 (rA 2 st)).pos.endLine==(rA 2 st).pos.line)&&(noStar [rX sc st]&&!behindInMarks (dM .eq) (rD sc st))))))))))
abbrev RK (x:Scope×List Stmt):Bool:=iF R5.tab x.1 R5.iH (x.2.drop 5)&&(decide (x.1.names[4]?=some W7)&&(RL (sX (kid 1 (st0 (at4 x))))&&(okE R5.tab R5.cT x.1 (kid 0 (st0 (at4 x)))&&QP x.1 (at9 x))))
abbrev PW (vs:Array Value):Bool:=decide (vs[11]?=some (.ref 258))&&(decide (vs.getD 11 .none=.ref 258)&&(decide (vs.getD 18 .none=.str (vS (vs.getD 18 .none)) (D9 (vs.getD 18 .none)))&&(decide (vs.getD 7 .none=.int (vI (vs.getD 7 .none)) (D9 (vs.getD 7 .none)))&&(decide (vs.getD 9 .none=.bool (vB (vs.getD 9 .none)))&&decide (vs.getD 10 .none=.int (vI (vs.getD 10 .none)) (D9 (vs.getD 10 .none)))))))
abbrev codeOk (h:Heap):Bool:=(told mC h 263).any (λfd=>decide (fd.code=.ref 262))&&(h.get? 262).any λo=>decide (o.cls=.type "code")&&(jI o.data).any PW
abbrev isPlain:Data->Bool
 |.plain=>true
 |_=>false
abbrev vK (h:Heap):Bool:=decide (h.nsMap mainGlobals "__builtins__"=some (.ref 4))&&(h.get? 4).any λo=>decide (o.cls=.type "module")&&(decide (o.dict=some builtinsNs)&&isPlain o.data)
abbrev IP (h:Heap):Bool:=pU R5.tab h #[1,[],R5.oR] 263&&((bodyOf h 263).any RK&&(codeOk h&&vK h))
abbrev ydP:Expr->Option Expr
 |.Yield e _=>e
 |_=>none
abbrev yd (st:Stmt):Expr:=(ydP (st0 st)).getD default
abbrev xX (x:Scope×List Stmt):Stmt:=x.2.getD 7 default
abbrev gIf (x:Scope×List Stmt):Stmt:=(stB (xX x)).1.headD default
abbrev gB (x:Scope×List Stmt):List Stmt:=(stB (gIf x)).1
abbrev gY (x:Scope×List Stmt):Stmt:=(gB x).getD 1 default
abbrev gE (x:Scope×List Stmt):Stmt:=x.2.getD 8 default
abbrev gEY (x:Scope×List Stmt):Stmt:=(stB (gE x)).1.headD default
abbrev gTx (x:Scope×List Stmt):Expr:=rR x.1 R5.gT ((zj (xX x)).getD 1 default)
abbrev gIx (x:Scope×List Stmt):Expr:=uB R5.tab R5.gI x.1 (st0 (xX x))
abbrev TF (sc:Scope)(st:Stmt):Stmt:=.Expr (.Yield (some (reE R5.tab (.l 9) sc (yd st))) (st0 st).pos) st.pos
abbrev UI (x:Scope×List Stmt):Scope×List Stmt:=(x.1,f9 R5.tab x.1 R5.g0 x.2++[.For (gTx x) (gIx x) (.If (reE R5.tab R5.gC x.1 (st0 (gIf x))) (f9 R5.tab x.1 R5.g1 (gB x)++(TF x.1 (gY x)::f9 R5.tab x.1 R5.g2 ((gB x).drop 2))) [] (gIf x).pos::f9 R5.tab x.1 R5.g3 ((stB (xX x)).1.drop 1)) [] (xX x).pos,
 .If (reE R5.tab R5.gL x.1 (st0 (gE x))) [TF x.1 (gEY x)] [] (gE x).pos])
abbrev RV (x:Scope×List Stmt):Bool:=iF R5.tab x.1 R5.g0 x.2&&(E6 R5.tab x.1 R5.gT ((zj (xX x)).getD 1 default)&&(I3 R5.tab R5.gI x.1 (isTup (gTx x)) (st0 (xX x))&&(oZ (gIx x)&&(okE R5.tab R5.gC x.1 (st0 (gIf x))&&(iF R5.tab x.1 R5.g1 (gB x)&&(okE R5.tab (.l 9) x.1 (yd (gY x))&&(iF R5.tab x.1 R5.g2 ((gB x).drop 2)&&(iF R5.tab x.1 R5.g3 ((stB (xX x)).1.drop 1)&&okE R5.tab R5.gL x.1 (st0 (gE x))))))))))
abbrev CF (h:Heap):Bool:=JB h 2 [.int 3] 218&&((bodyOf h 218).any RV&&(decide (h.nsMap 241 "get_grouped_opcodes"=some (.ref 218))&&isFn h 218))
structure Obs (P:Params)(h:Heap):Prop where
 nss:I5 h=true
 no241:lT h 241 ("__getattribute__" :: "__getattr__" :: "__setattr__" :: R5.tab.attrs)=true
 no134:lT h 134 ["__iter__","__lt__","__len__","__init__"]=true
 gls:J6 h=true
 meths:uK h=true
 fns:CI h=true
 new:newOk h=true
 make:zV h=true
 vL:vL h=CV h
 newB:bodyOf h 82=(bodyOf h 82).map TX
 makeB:bodyOf h 89=(bodyOf h 89).map PG
 law:IP h=true
 gen:CF h=true
 lawB:bodyOf h 263=(bodyOf h 263).map U7
 genB:bodyOf h 218=(bodyOf h 218).map UI
 g242:h.get? 242=some (excClassObj "SequenceMatcher" "SequenceMatcher" 242 241 [.type "object"] [.type "object"] true [] [] false none none none none (some (.str "SequenceMatcher" 389)) (some (.str "SequenceMatcher" 397)) (some (.bool true)) "object.__new__")
 g135:h.get? 135=some (iI 135 134 "Match" "Match" (some (.ref 65)) (some (.str "Match" 253)) (some (.str "Match" 261)))
 l1:peek (K8 h) #[pw,P] (mroOf (.ref 135))=some [.ref 135,.type "tuple",.type "object"]
 l2:peek (K8 h) #[pw,P] (isType (.ref 135))=some true
 l3:peek (K8 h) #[pw,P] (isSubtype (.ref 135) (.ref 135))=some true
 l4:peek (K8 h) #[pw,P] (isSubtype (.ref 135) (.type "tuple"))=some true
 l5:peek (K8 h) #[pw,P] (isSubtype (.ref 135) (.type "object"))=some true
 l6:peek (K8 h) #[pw,P] (classHasDel 135)=some false
 l7:peek (K8 h) #[pw,P] (typeLookup (.ref 135) "__init__")=some (some (.builtin "object.__init__"))
 l8:peek (K8 h) #[pw,P] (specialOf (.ref 135) "__call__")=some (some (.builtin "type.__call__"))
 l9:peek (K8 h) #[pw,P] (isInstance (.ref 135) (.type "type"))=some true
 l10:peek (K8 h) #[pw,P] (Bind.madeBy (.ref 135))=some none
 l11:peek (K8 h) #[pw,P] (Bind.madeHere "tuple.__new__" (.ref 135))=some ()
 l12:(λx:Value=>peek (K8 h) #[pw,P] (checkBuiltinCall "tuple.__new__" #[[.ref 135,x],[]]))=λx=>some ()
 m1:readsIn (K8 h) 135 (.type "type")=true
 m2:findCls (K8 h) (.ref 135) (.type "type") "__new__"=some (.get (.builtin "staticmethod.__get__") (.ref 136) .none (.ref 135))
 m3:findCls (K8 h) (.ref 135) (.type "type") "_make"=some (.get (.builtin "classmethod.__get__") (.ref 91) .none (.ref 135))
 m4:recIn (K8 h) 136 "staticmethod"=some [.ref 82]
 m5:recIn (K8 h) 91 "classmethod"=some [.ref 89,.bool false]
abbrev asked (w:World)(s:Shared)(h:Heap)(P:Params):=
 ((CA w s,openSeen qv loose (importedModules pw.main.body) Xt true s),
  (I5 h&&lT h 241 ("__getattribute__" :: "__getattr__" :: "__setattr__" :: R5.tab.attrs)&&lT h 134 ["__iter__","__lt__","__len__","__init__"]&&J6 h&&uK h&&CI h&&newOk h&&zV h&&IP h&&CF h),
  (vL h,bodyOf h 82,bodyOf h 89,h.get? 242,h.get? 135,bodyOf h 263,bodyOf h 218,s.heap.get? 258),
  (peek (K8 h) #[pw,P] (mroOf (.ref 135)),peek (K8 h) #[pw,P] (isType (.ref 135)),peek (K8 h) #[pw,P] (isSubtype (.ref 135) (.ref 135)),peek (K8 h) #[pw,P] (isSubtype (.ref 135) (.type "tuple")),peek (K8 h) #[pw,P] (isSubtype (.ref 135) (.type "object")),
  peek (K8 h) #[pw,P] (classHasDel 135),peek (K8 h) #[pw,P] (typeLookup (.ref 135) "__init__"),peek (K8 h) #[pw,P] (specialOf (.ref 135) "__call__"),peek (K8 h) #[pw,P] (isInstance (.ref 135) (.type "type")),peek (K8 h) #[pw,P] (Bind.madeBy (.ref 135)),
  peek (K8 h) #[pw,P] (Bind.madeHere "tuple.__new__" (.ref 135)),λx:Value=>peek (K8 h) #[pw,P] (checkBuiltinCall "tuple.__new__" #[[.ref 135,x],[]])),
  (readsIn (K8 h) 135 (.type "type"),findCls (K8 h) (.ref 135) (.type "type") "__new__",findCls (K8 h) (.ref 135) (.type "type") "_make",recIn (K8 h) 136 "staticmethod",recIn (K8 h) 91 "classmethod"))
def atB:(λw os=>((XB w os).map λr=>(r.1,r.2.2.1),asked w (F w os) (frees (F w os).heap) w.params))=λw os=>(some (.next,cE),((true,openGood qv loose),true,
  (CV (frees (F w os).heap),(bodyOf (frees (F w os).heap) 82).map TX,(bodyOf (frees (F w os).heap) 89).map PG,some (excClassObj "SequenceMatcher" "SequenceMatcher" 242 241 [.type "object"] [.type "object"] true [] [] false none none none none (some (.str "SequenceMatcher" 389)) (some (.str "SequenceMatcher" 397)) (some (.bool true)) "object.__new__"),
   some (iI 135 134 "Match" "Match" (some (.ref 65)) (some (.str "Match" 253)) (some (.str "Match" 261))),(bodyOf (frees (F w os).heap) 263).map U7,(bodyOf (frees (F w os).heap) 218).map UI,some (tabObj #v[])),
  (some [.ref 135,.type "tuple",.type "object"],some true,some true,some true,some true,some false,some (some (.builtin "object.__init__")),some (some (.builtin "type.__call__")),some true,some none,some (),λ_=>some ()),
  (true,some (.get (.builtin "staticmethod.__get__") (.ref 136) .none (.ref 135)),some (.get (.builtin "classmethod.__get__") (.ref 91) .none (.ref 135)),some [.ref 82],some [.ref 89,.bool false]))):=by
 delta F s3 XB tB QY PySem.W.Fast.tw4202317264376624991
 rw[A8]
 kernel_rfl
end Mine
end
section
open PySem PySem.W PyProof.Rows
set_option maxHeartbeats 0
namespace Mine
open MP
def EF {p q:Program}{loose:List Str}{Xt:Shared->Bool}{N:Nat}{g0:Bool}{Z:Params->Heap}{U:Array GenState}{J:Drawn}{O B:Nat}{ab:Option Value}{M:Nat}{F:World->OsState->Shared}
  (aa:∀w:World,(fencedOpening treeTable p w N).map (λs=>(s.heap,s.gens,s.drawn,s.toks))=some (Z w.params,U,J,O))
  (size:∀w:World,((Z w.params).isNs mainGlobals&&U.size==0,(Z w.params).objs.size,(Z w.params).nsMap mainGlobals "__annotations__")=(true,B,ab))
  (run:∀(w:World) (os:OsState),topRun treeTable p w B ab M #[Z w.params,U,J,O,os] (topStub p)=some (F w os)) (le:Nat.ble M N=true)
  (CA:∀(w:World) (os:OsState),(staticsOk (importedModules p.main.body) (Z w.params) (F w os).heap&&namesBound p (F w os).heap&&gensDone (F w os)&&laidKept (Z w.params) (F w os).heap)=true)
  (seen:∀(w:World) (os:OsState),openSeen q loose (importedModules p.main.body) Xt g0 (F w os)=openGood q loose) :
  LeftO p q loose Xt (λs=>s.heap) (λw=>(F w ((fencedOpening treeTable p w N).elim {} (·.os))).heap) N g0:=λw=>by
 have#[#[h,gs,d,k,os],e,e']:=jh.mp (aa w);have zz:=by simpa using e'
 clear e';have#[rfl,rfl,rfl,rfl]:h=Z w.params/\gs=U/\d=J/\k=O:=zz;have#[z1,z2,z3]:_/\_/\_:=by simpa only[te] using size w
 have r:=topRun_mono (N-M) _ _ _ _ (run w os);rw[show M+(N-M)=N by have:=bc le;(show ek .S .k .b6 (ae (bt .A .a .A this)))]at r;have t:topFrom treeTable p w N #[Z w.params,gs,d,k,os]=some (F w os):=by
  unfold topFrom;dsimp only;rw[z1,z2,z3,r];show(match staticsOk (importedModules p.main.body) (Z w.params) (F w os).heap&&namesBound p (F w os).heap&&gensDone (F w os)&&laidKept (Z w.params) (F w os).heap with|true=>_|false=>_)=_;rw[CA w os]
 unfold openEnds;rw[e];show(topFrom treeTable p w N _).map _=_;rw[t];apply bz some (Prod.ext (seen w os) ?_);show(F w os).heap=_;dsimp only;rw[e];rfl
def ju {α Z:Type}{a c:α}{b d:Z}(h:(a,b)=(c,d)):a=c:=bz (·.1) h
def gw {α Z:Type}{a c:α}{b d:Z}(h:(a,b)=(c,d)):b=d:=bz (·.2) h
def U4 {w:World}{os:OsState}:CA w (F w os)=true:=ju (ju (gw (ic (ic atB w) os)))
def VZ (w:World)(os:OsState):Obs w.params (frees (F w os).heap)/\(F w os).heap.get? 258=some (tabObj #v[]):=by
 have v:=gw (gw (ic (ic atB w) os));generalize frees (F w os).heap=h at v ⊢;generalize w.params=P at v ⊢;have e1:=ju v;have e2:=ju (gw v);have e3:=ju (gw (gw v));have e4:=gw (gw (gw v));simp only[dg]at e1;have#[#[#[#[#[#[#[#[#[a1,a2],a3],a4],a5],a6],a7],a8],a9],Z]:=e1;have z:=gw (gw (gw (gw e2)));have b:=gw e3;have c:=gw b;have d:=gw c;have e:=gw d;have f:=gw e;have g:=gw f;have i:=gw g;have j:=gw i;have k:=gw j;have l:=gw k;have m:=gw e4;have n:=gw m;have o:=gw n;apply#[#[a1,a2,a3,a4,a5,a6,a7,a8,ju e2,ju (gw e2),ju (gw (gw e2)),a9,Z,ju (gw z),ju (gw (gw z)),ju (gw (gw (gw e2))),ju z,ju e3,ju b,ju c,ju d,ju e,ju f,ju g,ju i,ju j,ju k,ju l,gw l,ju e4,ju m,ju n,ju o,gw o],gw (gw (gw z))]
def QO (w:World)(os:OsState):topRun treeTable pw w 11 an 2390 (S0 w os) (topStub pw)=some (F w os):=by
 have hp:=ic (ic pre w) os;have hb:=ic (ic blk w) os;have hA:=ic (ic atA w) os;have hv:=ju (ic (ic atB w) os);have hf:=λc q s=>ic (ic (ic (ic fin w) c) q) s;have#[#[fl,J,c3,q3],U,e]:=jh.mp hv;have aa:fl=.next:=ju e
 have ab:c3=cE:=gw e;subst aa;subst ab;have hF:F w os=J.abs:=by
  unfold F s3;rw[U];rfl
 have Z:XA w os=some (sA w os,tA w os):=by
  have O:=ju hA;unfold sA tA;cases q:XA w os with
  |none=>rw[q]at O;cases O
  |some x=>rfl
 have B:tB w os=tA w os:=by
  unfold tB;rw[<- gw hA]
 unfold XB at U;rw[B]at U;rw[hF];generalize sA w os=sa at Z U;generalize tA w os=ta at Z U;unfold XA at Z;unfold th0 at Z;rw[V6]at Z;have e3:TB=treeTable:=PySem.W.Fast.te14364793385576792824.symm;have e1:goT=@segGoT:=PySem.W.Fast.te10295753902157049106.symm;have e2:TP=@segRunT:=PySem.W.Fast.te10110043849684766642.symm;rw[e1,e3]at Z;rw[e2,e3]at U;rw[e3]at hp hb hf;have hs:=seg_go (n:=1975) (N:=400) (segGo_of Z) (segRun_of U);apply go_top (n:=12) (N:=2378) hp (piece_block (n:=1) (N:=2377) hb ?_);have:=piece_app (n:=2375) (N:=2) (l:=bE) (rest:=[]) (env:=NV) hs (piece_nil (hf _ _ _));rw[cq]at this;show this
end Mine
end
section
open PySem PySem.W PyProof.Rows
set_option maxHeartbeats 0
namespace Mine
open MP
def U3:∀w:World,((boot_heap w.params).isNs mainGlobals&&(#[[]]:Array GenState).size==0,(boot_heap w.params).objs.size,(boot_heap w.params).nsMap mainGlobals "__annotations__")=(true,11,an):=by
 have h:(λw:World=>((boot_heap w.params).isNs mainGlobals&&(#[[]]:Array GenState).size==0,(boot_heap w.params).objs.size,(boot_heap w.params).nsMap mainGlobals "__annotations__"))=λw=>(true,11,an):=by kernel_rfl
 show λw=>ic h w
abbrev H1 (w:World):Heap:=(F w ((fencedOpening treeTable pw w 4418).elim {} (·.os))).heap
abbrev hook:Hook where
 α:=Heap
 obs:=λs=>s.heap
 val:=H1
 says:=λw h=>∀a o,(H1 w).get? a=some o->h.get? a=some o
 of:=λw s e a o h=>by rw[e];show h
 keeps:=λw h h' x k a o e=>k a o (x a o e)
def left:LeftO pw qv loose Xt (λs=>s.heap) H1 4418 true:=EF (boot_open (by kernel_rfl) (by decide +kernel) (λs=>by kernel_rfl)) U3 QO (by decide +kernel) (λw os=>U4) λw os=>gw (ju (gw (ic (ic atB w) os)))
def head (U:∀(d:DefRec) (Z:List (Str×Expr)),defOf qv rw5.row.name=some (d,Z)->WalkO qv loose (XL qv []) hook.says rw5.row.toRowW d Z λf vs=>PySem.call f vs):rw5.Holds:=by
 w_on
 apply holds_law (by decide +kernel) λO=>?_;apply holds_open (q:=qv) (loose:=loose) (Xt:=Xt) (XP:=XL qv []) (Yf:=hook.obs) (Ya:=hook.val) (YP:=hook.says) (N:=4418) left hook.of hook.keeps (λs e=>xl_of s (rK.mp e).1) XL.keeps (by rfl) (by rfl) (by rfl) (λs e=>recFacts_of (rK.mp e).2) (by first|rfl|fail "no head") (by first|assumption|decide +kernel) (by decide +kernel) #[rfl,rfl,rfl,rfl,rfl,by decide +kernel] ?hw ?U
 case hw=>w_witness2
 case U=>show U _ _ (by rfl)
def W0 (w:World):Obs w.params (frees (H1 w))/\(H1 w).get? 258=some (tabObj #v[]):=VZ w _
end Mine
end
section
set_option tactic.hygienic true
open PySem PySem.W PyProof.Rows
set_option maxHeartbeats 0
namespace Mine
open MP
def FW (x:Str)(Z:x∈R5.tab.attrs):typeLookup (.type "object") x=pure none:=by
 simp only[R5.tab,cz,zw,or_false]at Z;rcases Z with rfl|rfl|rfl|rfl|rfl|rfl|rfl|rfl|rfl|rfl<;>(rw[ew,dh];kernel_rfl)
abbrev GG (w:World)(h0 hb:Heap)(clo:Nat->List V->Addr->Prop):Stc:={prog:=pw,w:=w,hb:=hb,cM:=135,cS:=242,attrs:=R5.tab.attrs,gl:=NK h0,cap:=λ_=>false,clo:=clo}
section
variable {w:World}{h0 hb:Heap}{clo:Nat->List V->Addr->Prop}(ob:Obs w.params h0)
include ob
def xE:h0.isNs mainGlobals=true/\h0.isNs builtinsNs=true/\h0.isNs 241=true/\h0.isNs 134=true/\h0.isNs cStatics=true/\h0.nsMap cStatics "sys.recursionlimit"=none/\∃o,h0.get? sysModules=some o:=by
 have h:=ob.nss;unfold I5 at h;simp only[dg,uu]at h;have#[#[#[#[#[#[h1,h2],B],J],O],U],Z]:=h;apply#[h1,h2,B,J,O,U,bp.mp Z]
omit ob in
def mu {h:Heap}{a:Addr}{xs:List Str}(e:lT h a xs=true){x:Str}(Z:x∈xs):h.nsMap a x=none:=by
 unfold lT at e;rw[kl]at e;show uu.mp (e x Z)
variable (hk:∀a o,h0.get? a=some o->hb.get? a=some o)
include hk
def IJ:hb.NoLimit:=by
 have#[h1,h2,B,J,U,Z,O]:=xE ob;apply#[_,(ui U).keeps hk,Z]
def SF:ClsAt hb 242 241 (h0.nsMap 241):=by
 have#[h1,h2,Z,B,J,O,U]:=xE ob;apply#[#[_,_,_,_,_,_,_,_,_,_,_,_,hk _ _ (ob.g242)],(ui Z).keeps hk]
def W9:GOk (GG w h0 hb clo):=by
 have#[J,O,h3,h4,h5,B,o,U]:=xE ob;have no:=ob.no241;apply#[#[241,_,SF ob hk,mu no (.head _),mu no (.tail _ (.head _)),mu no (.tail _ (.tail _ (.head _))),λx Z=>#[mu no (.tail _ (.tail _ (.tail _ Z))),FW x Z]],by show R5.tab.attrs.length<=100;decide,by show R5.tab.attrs.Nodup;decide +kernel,#[o,hk _ _ U],#[_,_,(ui J).keeps hk,(ui O).keeps hk,λx=>rfl]]
omit hk in
def gl8 (x:Str)(v:Value)(e:R5.tab.gl.lookup x=some v):NK h0 x=some v:=by
 have h:=ob.gls;unfold J6 at h;rw[kl]at h;show aq (h (x,v) (MP.mem_of_lookup e))
def RZ {k:Nat}{a:Addr}(e:R5.tab.fns.lookup k=some a):∃o fd,hb.get? a=some o/\o.cls=.type "function"/\o.data=.func fd:=by
 have h:=ob.fns;unfold CI at h;rw[kl]at h;have:=h (k,a) (MP.mem_of_lookup e);rw[dg]at this;have:=this.1;have#[o,Z,h]:=MP.any_some this;have#[O,U]:=MP.band h;have#[fd,hd]:=bp.mp U;apply#[o,fd,hk _ _ Z,aq O,yb hd]
omit hk in
def RC {k:Nat}{name:Str}(e:R5.tab.meths.lookup k=some name):h0.nsMap 241 name=(R5.tab.fns.lookup k).map Value.ref:=by
 have h:=ob.meths;unfold uK at h;rw[kl]at h;show aq (h (k,name) (MP.mem_of_lookup e))
def PE (k:Nat)(name:Str)(e:R5.tab.meths.lookup k=some name):∃f,R5.tab.fns.lookup k=some f/\MethAt (GG w h0 hb clo) name f:=by
 have no:=ob.no241;have U:∃f,R5.tab.fns.lookup k=some f:=by
  have h:R5.tab.meths.all (λp=>(R5.tab.fns.lookup p.1).isSome)=true:=by decide +kernel
  show bp.mp (kl.mp h _ (MP.mem_of_lookup e))
 have Z:name∉R5.tab.attrs:=by
  have h:R5.tab.meths.all (λp=>decide (p.2∉R5.tab.attrs))=true:=by decide +kernel
  show aq (kl.mp h _ (MP.mem_of_lookup e))
 have#[f,O]:=U;have#[o,fd,J,B,hd]:=RZ ob hk O;apply#[f,O,#[#[241,_,o,fd,SF ob hk,mu no (.head _),mu no (.tail _ (.head _)),?_,J,B,hd],Z,#[_,ew _ _]]];have:=RC ob e;rw[O]at this;show this
def TZ:∃o fd,MethAt (GG w h0 hb clo) "get_grouped_opcodes" 218/\(GG w h0 hb clo).hb.get? 218=some o/\o.data=.func fd:=by
 have no:=ob.no241;have h:=ob.gen;unfold CF at h;have#[_,h]:=MP.band h;have#[_,h]:=MP.band h;have#[h3,U]:=MP.band h;have#[o,O,U]:=MP.any_some U;have#[B,J]:=MP.band U;have#[fd,hd]:=bp.mp J;have Z:hb.get? 218=some o:=hk _ _ O;apply#[o,fd,#[#[241,_,o,fd,SF ob hk,mu no (.head _),mu no (.tail _ (.head _)),aq h3,Z,aq B,yb hd],by show("get_grouped_opcodes":Str)∉R5.tab.attrs;decide +kernel,#[_,ew _ _]],Z,yb hd]
def UD:∃f,R5.tab.fns.lookup 0=some f/\rE (GG w h0 hb clo) f:=by
 have#[f,Z,M]:=PE ob hk 0 "__init__" rfl;have#[N,mN,of,fd,B,h2,h3,J,O,U,h7]:=M.here;apply#[f,Z,#[N,mN,of,B,J,O,U]]
def RE:td (GG w h0 hb clo):=by
 have#[h1,h2,B,Z,J,O,U]:=xE ob;have no:=ob.no134;apply#[#[134,_,_,_,_,_,_,hk _ _ (ob.g135),(ui Z).keeps hk,mu no (.head _),mu no (.tail _ (.head _)),mu no (.tail _ (.tail _ (.head _))),mu no (.tail _ (.tail _ (.tail _ (.head _))))]]
omit ob hk in
def uT (h:Heap):∀l:List Addr,Frag.In (fragOf h l) h
 | [],a,o,e=>by cases e
 |b::l,a,o,e=>by
  unfold fragOf at e;simp only[eZ]at e;cases Z:h.get? b with
  |none=>rw[Z]at e;show uT h l a o e
  |some ob =>
   rw[Z]at e;simp only[Option.map_some,List.lookup]at e;split at e
   ·rename_i q;cases e;rw[wq.mp q];show Z
   ·show uT h l a o e
omit ob hk in
def m6:findCls [] (.type "tuple") (.type "type") "__new__"=some (.val (.builtin "tuple.__new__")):=by kernel_rfl
omit ob hk in
def m7:findIn [] (.type "type") "__getattribute__"=some (some (.builtin "type.__getattribute__")):=by kernel_rfl
omit ob hk in
def m8:subIn [] (.type "type") (.type "type")=some true:=by kernel_rfl
omit ob hk in
def m9:opaqueClassAbove (.type "tuple")=pure none:=by kernel_rfl
omit ob hk in
def m10:hookBefore (.type "type")=pure none:=by kernel_rfl
omit ob hk in
def m11:typeOf (.type "tuple")=pure (.type "type"):=by kernel_rfl
def IU:(K8 h0).In hb:=(uT h0 _).keeps hk
def eR {α:Type}{t:Sem α}{r:α}(e:peek (K8 h0) #[pw,w.params] t=some r):Looks (GG w h0 hb clo).M (GG w h0 hb clo).hb t r:=Looks.of_peek (K:=K8 h0) (IU ob hk) e
def MX:qa (GG w h0 hb clo) 82 89 where
 made:=eR ob hk (ob.l10)
 here:=eR ob hk (ob.l11)
 chk:=λx=>eR ob hk (ic ob.l12 x)
 mro:=eR ob hk (ob.l1)
 self:=eR ob hk (ob.l3)
 tup:=eR ob hk (ob.l4)
 init:=eR ob hk (ob.l7)
 call:=eR ob hk (ob.l8)
 typ:=eR ob hk (ob.l9)
 isT:=eR ob hk (ob.l2)
 del:=eR ob hk (ob.l6)
 new:=λA E s Q k h=>cls_bind (K:=K8 h0) (mc:=.type "type") ((IU ob hk).keeps k) (ob.m1) (ob.m2) (nh (sm_get (s:={s with toks:=s.toks+1}) (K:=K8 h0) ((IU ob hk).keeps k) (ob.m4) (handed_on rfl h)))
 make:=λA E s expr Q k h=>cls_bind (K:=K8 h0) (mc:=.type "type") ((IU ob hk).keeps k) (ob.m1) (ob.m3) (nh (cm_get (s:={s with toks:=s.toks+1}) (K:=K8 h0) ((IU ob hk).keeps k) (ob.m5) (handed_on rfl h)))
 typNew:=λA E s expr Q h=>cls_open (K:=[]) (λ_ _ e=>nomatch e) (Looks.of_pure m9) (Looks.of_pure m11) m7 (Looks.of_pure m10) m8 m6 (ah (handed_on rfl h))
def W2:tP (GG w h0 hb clo) 82:=by
 apply#[?_,gl8 ob "tuple" _ (by decide +kernel),eR ob hk ob.l5];have h:=ob.new;unfold newOk at h;rw[dg]at h;have#[x,Z,U]:=CJ (G:=GG w h0 hb clo) hk (IJ ob hk) h.1 ob.newB;have hl:=h.2;rw[Z]at hl;apply#[_,_,_,_,_,_,_,_,_,_,_,_,_,_,[],U,hl]
def U0:qW (GG w h0 hb clo) 89:=by
 apply#[?_,gl8 ob "tuple" _ (by decide +kernel),gl8 ob "len" _ (by decide +kernel)];have h:=ob.make;unfold zV at h;rw[dg]at h;have#[x,Z,U]:=CJ (G:=GG w h0 hb clo) hk (IJ ob hk) h.1 ob.makeB;have hl:=h.2;rw[Z]at hl;apply#[_,_,_,_,_,IF,[],U,hl,by decide +kernel,by decide +kernel]
def V5:vW (GG w h0 hb clo) R5.tab:=
 #[W9 ob hk,gl8 ob,rfl,rfl,PE ob hk,UD ob hk,rfl,rfl,#[82,89,MX ob hk,W2 ob hk,U0 ob hk],RE ob hk]
def PA (hl:∀k cs a,clo k cs a->∃n sc e b,R5.P (1000+k)=some #[n+cs.length,[],.cons (.ret b) .nil]/\tS (GG w h0 hb clo) a n cs sc e/\okE R5.tab b sc e=true/\reE R5.tab b sc e=e):qU (GG w h0 hb clo) R5.tab R5.P:=by
 apply#[V5 ob hk,hl,λk a e=>?_];have h:=ob.fns;unfold CI at h;rw[kl]at h;have:=h (k,a) (MP.mem_of_lookup e);rw[dg]at this;have Z:=this.2;split at Z
 ·rename_i fn U;have#[sc,body,x,y]:=UK (G:=GG w h0 hb clo) hk (IJ ob hk) Z (by
   have J:=List.map_inj_left.mp ob.vL (k,a) (MP.mem_of_lookup e);have O:QQ k=QR R5.tab fn:=by funext x;unfold QQ;rw[U]
   rw[<- O];show J)
  apply#[fn,sc,body,U,x,y]
 ·cases Z
end
end Mine
end
section
namespace MP
open PySem PyProof.Rows PySem.W
abbrev zb (G:Stc)(h:Heap)(f c:Addr)(kk:Nat):Stc:=
 {G with hb:=jD h λa=>(G.hb.get? a).isSome||(decide (a=f)||decide (a=c)),clo:=λk cs a=>G.clo k cs a\/(k=kk/\cs=[]/\a=f)}
section
variable {G:Stc}{σ:St}{env:Env}{ρ:Fr}{h₀ h:Heap}{f c:Addr}{kk:Nat}
def lV (R:Rel G σ h)(a:Addr)(o:Obj)(e:G.hb.get? a=some o):(zb G h f c kk).hb.get? a=some o:=by
 show(jD h _).get? a=_;rw[e8,e];show R.base a o e
def kD (fn:h₀.objs.size<=f)(J:h₀.objs.size<=c){a:Addr}(O:G.hb.get? a=none)(U:(h₀.get? a).isSome=true):(zb G h f c kk).hb.get? a=none:=by
 have Z:a<h₀.objs.size:=by have#[o,e]:=bp.mp U;show fj e
 show(jD h _).get? a=_;rw[e8,O,iq (gm (gf Z fn)),iq (gm (gf Z J))];rfl
def IQ (fn:h₀.objs.size<=f)(cn:h₀.objs.size<=c)(O:Rel G σ h₀)(R:Rel G σ h):Rel (zb G h f c kk) σ h:=by
 have hb:=lV (f:=f) (c:=c) (kk:=kk) R;have U:∀k cs a,G.clo k cs a->(zb G h f c kk).clo k cs a:=λ_ _ _ q=>.inl q;apply#[λa xs e=>?_,λa es e=>?_,R.S,λa dd g e=>?_,R.Z,R.Ll,R.Dl,R.inj,R.apart,R.sep,λb J=>?_,λb o e=>?_]
 ·have#[ws,n,hl,vs]:=R.L a xs e;apply#[ws,n,hl,VRs.turn (G:=G) (G2:=zb G h f c kk) rfl hb U vs]
 ·have#[ds,hd,dr]:=R.D a es e;apply#[ds,hd,DRs.turn (G:=G) (G2:=zb G h f c kk) rfl hb U dr]
 ·have#[x,#[m,hm,h1,h2],y]:=R.I a dd g e;apply#[x,#[m,hm,λi x q=>OV.turn (G:=G) (G2:=zb G h f c kk) rfl hb U (h1 i x q),h2],y]
 ·have#[o,B]:=O.ky J;show kD fn cn (R.new b J) (by rw[B];rfl)
 ·have e:(jD h _).get? b=some o:=e;rw[e8]at e;cases q:((G.hb.get? b).isSome||(decide (b=f)||decide (b=c))) with
  |true=>rw[q]at e;show e
  |false=>rw[q]at e;cases e
def N7 (fn:h₀.objs.size<=f)(J:h₀.objs.size<=c)(Z:FR G σ env ρ h₀)(R:Rel G σ h)(F:FR G σ env ρ h):FR (zb G h f c kk) σ env ρ h:=by
 have hb:=lV (f:=f) (c:=c) (kk:=kk) R;have U:∀k cs a,G.clo k cs a->(zb G h f c kk).clo k cs a:=λ_ _ _ q=>.inl q;have#[m,hm,B]:=F.ns;apply#[#[m,hm,λi x e=>OV.turn (G:=G) (G2:=zb G h f c kk) rfl hb U (B i x e)],λi x k e hk=>?_,F.inj,F.loc,F.notfrz,?_,F.allc]
 ·have#[cc,w,O,h2,h3,h4,h5,h6]:=F.cells i x k e hk;apply#[cc,w,O,h2,OV.turn (G:=G) (G2:=zb G h f c kk) rfl hb U h3,h4,h5,λq=>?_];have#[aa,w',g1,#[o,g2,_],_]:=Z.cells i x k e hk;have rfl:=ak (O.symm.trans g1);show kD fn J (h6 q) (by rw[g2];rfl)
 ·have#[m,#[o,es,ep,ho,_],_]:=Z.ns;show kD fn J F.new (by rw[ho];rfl)
end
structure B4 (ps:Arguments)(lsc:Scope):Prop where
 kind:lsc.kind=.function
 co:lsc.isCoroutine=false
 gen:lsc.isGenerator=false
 names:lsc.names=[(xNm,NameKind.«local»)]
 plain:rl ps=true
 args:ps.args.map (·.arg)=[xNm]
 dflt:ps.defaults=[]
 kwd:ps.kw_defaults=[]
section
variable {G:Stc}{A:Around}{E:QqV}{s:Shared}{env:Env}{ρ:Fr}{σ:St}
structure D5 (G G2:Stc)(kk:Nat)(f:Addr):Prop where
 prog:G2.prog=G.prog
 w:G2.w=G.w
 cM:G2.cM=G.cM
 cS:G2.cS=G.cS
 attrs:G2.attrs=G.attrs
 gl:G2.gl=G.gl
 cap:G2.cap=G.cap
 clo:∀k cs a,G2.clo k cs a↔G.clo k cs a\/(k=kk/\cs=[]/\a=f)
 hb:∀a o,G.hb.get? a=some o->G2.hb.get? a=some o
def EO {ps:Arguments}{e:Expr}{Z:Scope}{p2:Pos}{c P:Addr}{mg:Str->Option Value}{kk:Nat}{pl:Array Value}{Q:QqV}(L:B4 ps Z)(eo:rv env)(F:FR G σ env ρ s.heap)(R:Rel G σ s.heap)(bb:G.hb.NoLimit)
  (I:KR G σ env s.heap mg c P pl) (ht:TriplesOk pl.toList) (cl:codeAmong p2 pl.toList=none)
  (k:∀G2 f s' J,D5 G G2 kk f->tS G2 f 1 [] Z e->FR G2 σ env ρ s'.heap->Rel G2 σ s'.heap->VR G2 s'.heap (.clo kk []) (.ref f)->s'.heap.get? P=some (tabObj (pl++#v[rawInt p2.line,rawInt p2.col,.ref J]))->G2.hb.get? P=none->(∀a o,a≠P->s.heap.get? a=some o->s'.heap.get? a=some o)->fW s s'->Q (.ref f) s') :
  wpAny G.M A (eval (.Lambda ps e Z p2) env) Q E s:=by
 have#[hg,ai,C,hP,cp,hB,bv,da,dc]:=I;have ct:closureFor Z env=pure []:=by
  have bu:∀n,(n,NameKind.free)∈Z.names->(env.cells.lookup n).isSome=true:=λn hn=>by
   rw[L.names]at hn;cases au.mp hn
  rw[iS bu,L.names];rfl
 apply kla_eval (ES L.dflt L.kwd) (kla_makeFunction (clos:=[]) ct eo.globals hg ai C hP ht cl cp hB λJ ca h' tk bl B cn ar aa=>?_);generalize ag:kla_obj "<lambda>" (env.qual ++ "<lambda>") ps e Z [] ((mg "__name__").getD .none) J ca=U;have bn:U.cls=.type "function":=by rw[<- ag]
 have be:U.data=.func (kla_fn "<lambda>" (env.qual ++ "<lambda>") ps e Z [] ((mg "__name__").getD .none) (.ref J) ca):=by rw[<- ag]
 have O:∀a o,a≠P->s.heap.get? a=some o->(h'.push U).get? a=some o:=λa o hn e=>aw _ (bl a o hn e);have cx:¬Frz (tabObj pl):=by
  rintro (⟨_,_,_,h⟩|⟨h|h,_⟩|⟨_,h⟩)<;>cases h
 have ab:gy s.heap (h'.push U):=λa o e f=>O a o (λhm=>cx (ak (e.symm.trans ((bz s.heap.get? hm).trans hP))▸f)) e;have F1:FR G σ env ρ (h'.push U):=F.but (show ∀a o,a∉[P]->s.heap.get? a=some o->(h'.push U).get? a=some o from λa o hn e=>O a o (λq=>hn (au.mpr q)) e) ab λa ha=>by have rfl:=au.mp ha;show dc
 have R1:Rel G σ (h'.push U):=R.same (λa o e dm=>O a o (λhm=>da (hm▸dm)) e) (λa o e f=>ab a o e f) λa o e=>O a o (λhm=>by
  rw[hm,bv]at e;cases e) (R.base a o e)
 have fn:s.heap.objs.size<=h'.objs.size:=fm B (iy cn);have R2:=IQ (kk:=kk) fn B R R1;have F2:=N7 (kk:=kk) fn B F R1 F1;have ao:=lV (f:=h'.objs.size) (c:=J) (kk:=kk) R1;have cb:∀a o,(a=h'.objs.size\/a=J)->(h'.push U).get? a=some o->(zb G (h'.push U) h'.objs.size J kk).hb.get? a=some o:=λa o hq e=>by
  show(jD _ _).get? a=_;rw[e8,e];rcases hq with rfl|rfl<;>simp
 have bd:(zb G (h'.push U) h'.objs.size J kk).hb.get? h'.objs.size=some U:=cb _ _ (.inl rfl) (cf _ (by rw[<- ag];rfl));apply k (zb G (h'.push U) h'.objs.size J kk) h'.objs.size _ J #[rfl,rfl,rfl,rfl,rfl,rfl,rfl,λ_ _ _=>Iff.rfl,ao] ?_ F2 R2 #[h'.objs.size,U,rfl,.inr #[rfl,rfl,rfl],bd,bn] (aw _ aa) (kD (kk:=kk) fn B bv (by rw[hP];rfl)) O .rfl;apply#[bb.keeps ao,L.kind,L.co,L.gen,?_,U,_,bd,be,rfl,rfl,rfl,rfl,?_,L.plain,?_,?_,rfl,λi x q=>?_,λi j x y cc q1 q2 _ _=>?_,λp hp=>?_,λi x kk q hk=>?_]
 ·rw[L.names];simp
 ·have#[df,oc,vs,tt,e2,ck,hd,cd]:=ar;clear k O ao F2 aa R2 be;cases e2;apply#[J,oc,vs,tt,rfl,cb _ _ (.inr rfl) (aw _ ck),hd,cd]
 ·rw[L.args,L.names];rfl
 ·have:=bz List.length L.args;simpa using this
 ·rw[L.names]at q
  match i with
  |0=>cases q
  |i+1=>cases q
 ·rw[L.names]at q1
  match i with
  |0=>cases q1
  |i+1=>cases q1
 ·cases hp
 ·rw[L.names]at q
  match i with
  |0=>show Nat.zero_lt_one
  |i+1=>cases q
end
section
variable {G:Stc}{C:Cal}{sc:Scope}{d:Nat}{A:Around}{E:QqV}{s:Shared}{env:Env}{ρ:Fr}{σ:St}
def A9 {ps:Arguments}{e xt xn:Expr}{U:Scope}{nm:Str}{p1 p2 p3 ip:Pos}{ivar:Nat}{kd:NameKind}{c P:Addr}{mg:Str->Option Value}{kk:Nat}{pl:Array Value}{cT:Ex}{PT PF:St->Prop}{Q:Flow->Shared->Prop}(L:B4 ps U)(hT:oq G C sc d cT xt)(hN:dw G C sc d .none xn)(cx:Cx G sc d A env ρ σ s)(ab:G.hb.NoLimit)
  (J:env.scope.names[ivar]?=some (nm,kd)) (B:∀G2:Stc,G2.cap=G.cap->Own G2 nm kd) (I:∀Z O,Rel G Z O.heap->Go [] σ s Z O->KR G Z env O.heap mg c P pl) (ht:TriplesOk pl.toList) (ao:codeAmong p2 pl.toList=none) (hc:zo (.IfExp xt (.Lambda ps e U p2) xn ip)=true) (ai:swp env.scope [.Name nm p1] (.IfExp xt (.Lambda ps e U p2) xn ip)=some none)
  (h:wpT C cT ρ σ λb σ=>(b=true->PT σ)/\(b=false->PF σ))
  (k1:∀Z O G2 f s' c',PT Z->Go [] σ s Z O->D5 G G2 kk f->tS G2 f 1 [] U e->FR G2 Z env (upd ρ ivar (.clo kk [])) s'.heap->Rel G2 Z s'.heap->s'.heap.get? P=some (tabObj (pl++#v[rawInt p2.line,rawInt p2.col,.ref c']))->(∀a o,a≠P->O.heap.get? a=some o->¬Z.dom a->a∉envX env->s'.heap.get? a=some o)->fW O s'->Q .next s')
  (k2:∀Z s',PF Z->FR G Z env (upd ρ ivar .none) s'.heap->Rel G Z s'.heap->Go (envX env) σ s Z s'->Q .next s') :
  wpAny G.M A (exec (.Assign [.Name nm p1] (.IfExp xt (.Lambda ps e U p2) xn ip) p3) env) Q E s:=by
 rw[exec_Assign];apply af (fw ?_);rw[sv hc];apply af (ah ?_);rw[ay (by decide)];apply af (IfExp_ (nN (hT cx h) λb Z O q r x=>?_));have hw:=oA ai rfl (by unfold Env.blockKind;rw[cx.eo.kind];rfl);cases b with
 |true =>
  have F1:=cx.F.evo x.e;have I1:=I Z O r x;have bd:=I1.Pd;have be:=I1.PX;apply EO (kk:=kk) L cx.eo F1 r ab I1 ht ao λG2 f s' c' D LA F2 R2 vr aa _ ar sm=>?_;show wpAny G.M A _ Q E s';rw[hw];apply af (ah ?_);have#[ca,w2,bb,bu,bn,bv,bl,cb,ag]:=G2;have#[g1,g2,g3,g4,g5,g6,g7,g8,g9]:=id D;dsimp only at g1 g2 g3 g4 g5 g6 g7 g8 g9;subst g1 g2 g7;show wpAny G.M A (do (assign (.Name nm p1) env (.ref f));pure Flow.next) _ _ _;apply af (assign_Name (xw (G:=#[G.prog,G.w,bb,bu,bn,bv,bl,G.cap,ag]) (v:=.clo kk []) cx.eo F2 R2 J (B _ rfl) vr λs3 F3 R3 x3=>ah ?_));show k1 Z O _ f s3 c' (q.1 rfl) x D LA F3 R3 (x3.keep _ _ aa bd be) (λa o hn e hd hX=>x3.keep _ _ (ar a o hn e) hd hX) (sm.go x3)
 |false =>
  apply nr (hN (cx.go r x) (show wpE C .none ρ Z (λv σ'=>v=.none/\σ'=Z) from#[rfl,rfl])) λv σ2 s2 w p vr r2 x2=>?_;have#[rfl,rfl]:=p;show wpAny G.M A _ Q E s2;rw[hw];apply af (ah ?_);show wpAny G.M A (do (assign (.Name nm p1) env w);pure Flow.next) _ _ _;apply af (assign_Name (xw (v:=.none) cx.eo ((cx.F.evo x.e).evo x2.e) r2 J (B G rfl) vr λs3 F3 R3 x3=>ah ?_));show k2 σ2 s3 (q.2 rfl) F3 R3 (((x.trans x2).wide).trans x3)
end
end MP
end
section
namespace MP
open PySem PyProof.Rows
section
variable {G:Stc}{C:Cal}{sc:Scope}{d:Nat}{A:Around}{E:QqV}{env:Env}{ρ:Fr}{σ:St}{s:Shared}
def xG {e:Ex}{f:Addr}{name:Str}{es:Exs}{o:Expr}{args:List Expr}{apos pos:Pos}{P:Addr->List V->St->Prop}{Q:QqV}{of:Obj}{fd:FuncData}(M:MethAt G name f)(ho:G.hb.get? f=some of)(hd:of.data=.func fd)(ha:dw G C sc d e o)(aa:ou G C sc d es args)(hb:lu o=true)(hs:noStar args=true)(J:args.length<30)(Z:(apos.endLine==pos.line)=true)
  (c:Cx G sc d A env ρ σ s) (h:wpE C e ρ σ λv σ=>∃a,v=.obj a/\(σ.I a).isSome/\vq C es ρ σ λvs σ=>P a vs σ)
  (k:∀a vs σ₂ s₂ ws,P a vs σ₂->VRs G s₂.heap vs ws->Rel G σ₂ s₂.heap->Go [] σ s σ₂ s₂->wpAny G.M A (call (.ref f) (.ref a::ws)) Q E s₂):wpAny G.M A (eval (.Call (.Attribute o name apos) args [] pos) env) Q E s:=by
 apply mr hb hs J Z (nr (ha c h) λv σ₁ s₁ w q vr r x pl=>?_);have#[a,rfl,hI,q]:=q;have rfl:=vr;show mT M r hI (yv ho hd hs aa (c.go r x) q λvs σ₂ s₂ ws O B r₂ U=>k a vs σ₂ s₂ ws O B r₂ (x.trans U))
def II {x:Str}{y:Expr}{p pos:Pos}{Q:QqV}(K:GOk G)(Z:noStar [y]=true)(U:sc.names.lookup x=some .globalImplicit)(J:jg x=true)(O:G.gl x=some (.type "list"))(c:Cx G sc d A env ρ σ s)
  (h:wpAny G.M A (eval y env) (λw s'=>wpAny G.M A (call (.type "list") [w]) Q E s') E s):wpAny G.M A (eval (.Call (.Name x p) [y] [] pos) env) Q E s:=by
 apply Call_ (kr K c.eo c.R (by rw[c.es];show U) J O (ug (ji (args:=[y]) Z pos env) (mv (ji (args:=[y]) Z pos env) (spliced_more ?_ ?_))))
 ·show bg h (λw s' h'=>dX h') λ_ _ x=>x
 ·show(fb Z).1 env
end
section
variable {G:Stc}{C:Cal}{sc:Scope}{d:Nat}{A:Around}{E:QqV}{env:Env}{Kf:List V->St->Prop}{σ:St}{s:Shared}
def JA {it:It}{t:Tg}{cE y cL yL:Ex}{b0 b1 b2 b3:jo}{x xi xc xy xL U:Expr}{aa B J O:List Stmt}{fp yp ep ip ab bl ag:Pos}{N:Nat}(h0:nv G C sc d b0 aa)(hi:xh G C sc d (isTup x) it xi)(hs:∀env v,foldedSetIterable xi env v=pure v)
  (ht:n9 G C sc d t x) (hc:oq G C sc d cE xc) (h1:nv G C sc d b1 B) (hy:dw G C sc d y xy) (h2:nv G C sc d b2 J) (h3:nv G C sc d b3 O) (bd:oq G C sc d cL xL) (ai:dw G C sc d yL U) {a n:Nat} {dflt vs:List V} {ws:List Value} {Q:QqV}
  (GA:GenAt G a n dflt sc (aa++[.For x xi (.If xc (B++(.Expr (.Yield (some xy) yp) ep::J)) [] ip::O) [] fp,.If xL [.Expr (.Yield (some U) ab) bl] [] ag])) (ao:AOk A (d+5)) (R:Rel G σ s.heap) (vr:VRs G s.heap vs ws) (g1:vs.length<=n) (g2:n<=vs.length+dflt.length)
  (be:∀out σ,Kf out σ->out.length<=bq) (h:GW C b0 it t cE b1 y b2 b3 cL yL N Kf (frameOf #[n,dflt,.nil] vs) σ)
  (k:∀S out σ' s',Rel G (σ'.cw S out) s'.heap->Kf out σ'->Evo [] σ s.heap (σ'.cw S out) s'.heap->¬σ'.dom S->s'.os=s.os->(AllBare s.gens->AllBare s'.gens)->Q (.ref S) s') :
  wpAny G.M A (call (.ref a) ws) (λw s'=>wpAny G.M A (call (.type "list") [w]) Q E s') E s:=by
 apply J9 (b:=.nil) (d:=d+4) GA ao R vr g1 g2 λI g env s1 Z x1 o1=>?_;apply bg (IH h0 hi (hs env) ht hc h1 hy h2 h3 bd ai GA.lim (by rw[Z.es];show GA.co) Z.es Z.eo ao Z.F Z.R Z.isGen Z.dom Z.off be h Z.fresh) (λw s' l=>?_) λ_ _ x=>x;have#[rfl,out,σ',R',hK,hE,hd,ho,bb,ar]:=l;have hS:s.heap.get? s1.heap.objs.size=none:=by
  cases q:s.heap.get? s1.heap.objs.size with
  |none=>rfl
  |some o=>have#[o',e]:=x1.there _ _ q;show absurd (fj e) (gp _)
 have x3:Evo [] σ s.heap σ' s'.heap:=((x1.more (Y:=s1.heap.objs.size::envX env) λ_ h=>nomatch h).trans hE).less λz hz=>by
  rcases cz.mp hz with rfl|hz
  ·show .inr hS
  ·show .inr (Z.new z hz)
 apply k _ out σ' s' R' hK (x3.adopt out hS) hd (ho.trans o1) λhb y hy=>?_;have#[j,hj]:=Array.getElem?_of_mem hy;by_cases q:j=g
 ·show ar y (q▸hj)
 ·show hb y (Array.mem_of_getElem? ((Z.only j q).symm.trans ((bb j q).symm.trans hj)))
end
end MP
end
section
namespace MP
open PySem PyProof.Rows
section
variable {G:Stc}{C:Cal}{sc:Scope}{d:Nat}{A:Around}{E:QqV}{env:Env}{ρ:Fr}{σ:St}{s:Shared}
structure KO (G:Stc)(σ:St)(s:Shared)(fl:Flow)(s':Shared):Prop where
 is:fl=.ret (.bool true)
 os:s'.os=s.os
 gens:AllBare s.gens->AllBare s'.gens
 at_:∃σ',Rel G σ' s'.heap/\Evo [] σ s.heap σ' s'.heap
abbrev yW (G:Stc)(E:QqV)(A:Around)(f:Addr)(vs:List V)(σ:St)(Kf:List V->St->Prop):Prop:=
 ∀(s:Shared) (ws:List Value) (Q:QqV),Rel G σ s.heap->VRs G s.heap vs ws ->
  (∀S out σ' s',Rel G (σ'.cw S out) s'.heap->Kf out σ'->Evo [] σ s.heap (σ'.cw S out) s'.heap->¬σ'.dom S->s'.os=s.os->(AllBare s.gens->AllBare s'.gens)->Q (.ref S) s') ->
  wpAny G.M A (call (.ref f) ws) (λw s'=>wpAny G.M A (call (.type "list") [w]) Q E s') E s
def HO {f:Addr}{name:Str}{of:Obj}{fd:FuncData}{cT eo ea ed:Ex}{lx:Str}{xt xo O xa xd:Expr}{p1 bb q1 ar q2 ip pos cp rp:Pos}{Kf:List V->St->Prop}(K:GOk G)(M:MethAt G name f)(ag:G.hb.get? f=some of)(ai:of.data=.func fd)
  (hx:sc.names.lookup lx=some .globalImplicit) (hn:jg lx=true) (hv:G.gl lx=some (.type "list")) (hT:oq G C sc d cT xt) (ho:dw G C sc d eo xo) (bd:dw G C sc d eo O) (ha:dw G C sc d ea xa) (hd:dw G C sc d ed xd) (hb:lu xo=true) (ca:lu O=true) (bn:(bb.endLine==q1.line)=true) (bl:(ar.endLine==q2.line)=true) (ab:noStar [xa]=true) (hm:behindInMarks (dM .eq) xd=false)
  (c:Cx G sc d A env ρ σ s)
  (h:wpT C cT ρ σ λb σ=>(b=true->wpE C eo ρ σ λv σ=>∃a,v=.obj a/\(σ.I a).isSome/\yW G E A f [.obj a] σ Kf)/\(b=false->wpE C eo ρ σ λv σ=>∃a,v=.obj a/\(σ.I a).isSome/\wpE C ea ρ σ λu σ=>yW G E A f [.obj a,u] σ Kf))
  (hK:∀S out σ',Kf out σ'->¬σ'.dom S->wpE C ed ρ (σ'.cw S out) λv σ=>mP .eq (.L S) v σ λr=>r=true) :
  wpAny G.M A (exec (.Return (some (.Compare (.Call (.Name lx p1) [.IfExp xt (.Call (.Attribute xo name bb) [] [] q1) (.Call (.Attribute O name ar) [xa] [] q2) ip] [] pos) [dM .eq] [xd] cp)) rp) env) (KO G σ s) E s:=by
 have fin:∀{U:St} {B:Shared},Go [] σ s U B->∀S out σ' s',Rel G (σ'.cw S out) s'.heap->Kf out σ'->Evo [] U B.heap (σ'.cw S out) s'.heap->¬σ'.dom S->s'.os=B.os->(AllBare B.gens->AllBare s'.gens) ->
   wpAny G.M A (eval xd env) (λb s₂=>wpAny G.M A (compareOp (dM .eq) (.ref S) b) (λw s3=>KO G σ s (Flow.ret w) s3) E s₂) E s':=by
  intro U B x1 S out σ' s' R' hk x2 bv be bu;have F2:FR G (σ'.cw S out) env ρ s'.heap:=(c.F.evo x1.e).evo x2;apply nr (hd #[c.ao,c.es,c.eo,F2,R'] (hK S out σ' hk bv)) λcc σ₂ s₂ cb aa J r₂ Z=>?_;apply fI c.ao r₂ (show VR G s₂.heap (.L S) (.ref S) from rfl) J aa λb q=>?_;have rfl:=q;apply#[rfl,Z.o.trans (be.trans x1.o),λhb=>by rw[Z.g];show bu (by rw[x1.g];show hb),σ₂,r₂,(x1.e.trans x2).trans Z.e]
 apply nG (wpAny_Compare1 (II K rfl hx hn hv c (IfExp_ (nN (hT c h) λt σ₁ s₁ q r x=>?_))) hm);cases t with
 |true =>
  show xG (P:=λa vs σ=>yW G E A f (.obj a::vs) σ Kf) M ag ai ho km hb rfl (by decide) bn (c.go r x) (q.1 rfl) λa vs σ₂ s₂ ws p vr R2 x2=>p s₂ _ _ R2 (.cons (.obj a) vr) (fin (x.trans x2))
 |false =>
  show xG (P:=λa vs σ=>yW G E A f (.obj a::vs) σ Kf) M ag ai bd (jc ha km (fb ab).1) ca ab (show 1<30 by decide) bl (c.go r x) (q.2 rfl) λa vs σ₂ s₂ ws p vr R2 x2=>p s₂ _ _ R2 (.cons (.obj a) vr) (fin (x.trans x2))
end
end MP
end
section
namespace MP
open PySem
variable {Q:V->St->Prop}
def mw {σ:St}{a d:Addr}{f:Nat->Option V}:(σ.jw a d f).I a=some (d,f):=br _ _ _
def lO {σ:St}{a d d':Addr}{f g:Nat->Option V}:(σ.jw a d f).jw a d' g=σ.jw a d' g:=by
 unfold St.jw
 congr 1
 funext j
 simp only[upd];split<;>rfl
section
variable {C:Cal}{ρ:Fr}{σ:St}{e a b:Ex}{es:Exs}
def KY:wpE C (.T es) ρ σ Q=vq C es ρ σ λvs σ=>vs.length<=bq/\Q (.T vs) σ:=rfl
def w7:wpE C (.n es) ρ σ Q=vq C es ρ σ λvs σ=>∀a d,σ.I a=Option.none->C 0 (.obj a::vs) (σ.jw a d λ_=>Option.none) λv σ=>v=.none/\Q (.obj a) σ:=rfl
def w8 {m:Nat}:wpE C (.meth e m es) ρ σ Q=wpE C e ρ σ λv σ=>∃a,v=.obj a/\(σ.I a).isSome/\vq C es ρ σ λvs σ=>C m (v::vs) σ Q:=rfl
def jQ {fv:List (Nat×Nat)}{it:It}{t:Tg}{cs:Exs}{more:Gens}:wpE C (.K fv it t cs more) ρ σ Q=lL C it ρ σ λvs G σ =>
   pT vs G (λv ρ' acc σ K=>nu t v σ ρ' λρ'=>vn C cs ρ' σ λok σ=>if ok then j5 C more ρ' acc σ K else K ρ' acc σ) (mD fv ρ) [] σ
    λ_ acc σ=>∀c,σ.L c=Option.none->Q (.L c) (σ.cw c acc):=rfl
def w4 {K:List V->(St->Prop)->St->Prop}:lL C (.seq e) ρ σ K=wpE C e ρ σ λv σ=>OR v σ K:=rfl
def lK {K:List V->(St->Prop)->St->Prop}:lL C (.rng1 e) ρ σ K=wpE C e ρ σ λv σ=>∃n:Int,v=.int n/\n.natAbs<2^40/\K (ry 0 n) (λ_=>True) σ:=rfl
def ux {Q:List V->St->Prop}:vq C (.cons e es) ρ σ Q=wpE C e ρ σ λv σ=>vq C es ρ σ λvs σ=>Q (v::vs) σ:=rfl
def vZ {ts:List Tgt}{ss:jo}{K:Fl->Fr->St->Prop}:dk C (.cons (.a ts e) ss) ρ σ K=wpE C e ρ σ λv σ=>lJ C ts v ρ σ λρ σ=>dk C ss ρ σ K:=rfl
end
def ti {p q:Prop}(h:q):if false=true then p else q:=h
def xu {p q:Prop}(h:p):if true=true then p else q:=h
def xS (k:Key):k.v.pK=some k:=by cases k<;>rfl
def si {vs:List V}{G:St->Prop}{T:V->Fr->St->(Fr->St->Prop)->Prop}{K:Fr->St->Prop}(Inv:Nat->Fr->St->Prop)
  (step:∀i v ρ σ,vs[i]?=some v->Inv i ρ σ->G σ/\∀k:Fr->St->Prop,(∀ρ' σ',Inv (i+1) ρ' σ'->k ρ' σ')->T v ρ σ k) (fin:∀ρ σ,Inv vs.length ρ σ->G σ/\K ρ σ) {ρ:Fr} {σ:St} (h0:Inv 0 ρ σ):uU vs G T ρ σ K:=by
 have go:∀(ws:List V) (i:Nat) (ρ:Fr) (σ:St),vs.drop i=ws->Inv i ρ σ->i<=vs.length->uU ws G T ρ σ K:=by
  intro ws;induction ws with
  |nil =>
   intro i ρ σ e h U;have:i=vs.length:=by have:=dW.mp e;(show gz .C .g .A .V U this)
   subst this;show fin ρ σ h
  |cons v ws O =>
   intro i ρ σ e h U;have e1:vs[i]?=some v:=by
    have:=bz (λl=>l[0]?) e;simpa using this
   have e2:vs.drop (i+1)=ws:=by
    have:=bz (λl=>l.drop 1) e;simpa using this
   have Z:=(bw.mp e1).1;have#[g,t]:=step i v ρ σ e1 h;apply#[g,t _ λρ' σ' h'=>O (i+1) ρ' σ' e2 h' Z]
 show go vs 0 ρ σ rfl h0 (bh _)
def hU {T:(Fr->St->Prop)->Fr->St->Prop}(Inv:Nat->Fr->St->Prop)(step:∀n ρ σ,Inv n ρ σ->∀again:Fr->St->Prop,(∀m ρ' σ',m<n->Inv m ρ' σ'->again ρ' σ')->T again ρ σ) :
  ∀(N n:Nat) {ρ:Fr} {σ:St},n<N->Inv n ρ σ->C9 T N ρ σ
 |0=>λn {ρ} {σ} h _=>absurd h (wj _)
 |N+1=>λn {ρ} {σ} h U=>step n ρ σ U _ λm ρ' σ' Z h'=>hU Inv step N m (fk .B .b (.l .C .M) .I h Z) h'
abbrev posOf (k:Key)(bs:List Key):List Nat:=(List.range bs.length).filter λj=>decide (bs[j]?=some k)
def jB (k:Key)(bs:List Key)(b:Key):posOf k (bs++[b])=posOf k bs++if b=k then [bs.length] else []:=by
 unfold posOf;rw[ax,zg,List.range_succ,gM]
 congr 1
 ·apply List.filter_congr λj Z=>?_;rw[uw (gJ.mp Z)]
 ·simp[ll]
def uy {σ σ':St}{u:V}{xs:List V}(h:∀a xs,σ.L a=some xs->σ'.L a=some xs)(e:zl σ u=some xs):zl σ' u=some xs:=by
 cases u with
 |L a=>show h _ _ e
 |_=>show e
structure B2J (σ₀ σ:St)(db:Addr)(bs:List Key):Prop where
 tab:∃es,σ.D db=some es/\es.length<=bs.length/\(∀k,es.lookup k=none->posOf k bs=[]) /\
  (∀k w,es.lookup k=some w->∃c,w=.L c/\σ.L c=some ((posOf k bs).map λj:Nat=>V.int j)/\σ₀.L c=none) /\
  ∀k k' c,es.lookup k=some (.L c)->es.lookup k'=some (.L c)->k=k'
 old:∀a xs,σ₀.L a=some xs->σ.L a=some xs
 I:σ.I=σ₀.I
 S:σ.S=σ₀.S
 D:∀a,a≠db->σ.D a=σ₀.D a
 keys:∀es,σ.D db=some es->(es.map (·.1)).Nodup/\∀k∈es.map (·.1),k∈bs
def B2J.start {σ₀:St}{db:Addr}:B2J σ₀ (σ₀.qj db []) db []:=
 ⟨#[[],br _ _ _,az _,λk _=>rfl,λk w e=>(by cases e),λk k' c e=>(by cases e)],λa xs e=>e,rfl,rfl,λa h=>cv h,λes e=>by
  have rfl:=ak ((br σ₀.D db []).symm.trans e);apply#[List.nodup_nil,λk h=>nomatch h]⟩
def za {es:List (Key×V)}{k k':Key}{v:V}:(es++[(k,v)]).lookup k'=(es.lookup k').or (if k'=k then some v else none):=by
 induction es with
 |nil=>simp[List.lookup];split<;>simp_all
 |cons e r Z =>
  have#[a,b]:=e;simp only[zx,List.lookup];split
  ·rfl
  ·show Z
public abbrev kA (k:Key)(bs:List Key):List V:=(posOf k bs).map λj:Nat=>V.int j
def lS (k:Key)(bs:List Key)(b:Key):kA k (bs++[b])=kA k bs++if b=k then [.int bs.length] else []:=by
 unfold kA;rw[jB,cm]
 congr 1
 split<;>rfl
def B2J.step {σ₀ σ:St}{db c:Addr}{bs:List Key}(h:B2J σ₀ σ db bs)(hc:σ.L c=none)(b:Key):∃es,σ.D db=some es/\es.length<=bs.length /\
  ∃c',(es.lookup b).getD (.L c)=.L c'/\((σ.cw c []).qj db (if (es.lookup b).isSome then es else es++[(b,.L c)])).L c'=some (kA b bs) /\
   B2J σ₀ (((σ.cw c []).qj db (if (es.lookup b).isSome then es else es++[(b,.L c)])).cw c' (kA b bs++[.int bs.length])) db (bs++[b]):=by
 have#[es,hD,aa,ai,B,ab]:=h.tab;apply#[es,hD,aa,?_];have ao:σ₀.L c=none:=by
  cases hq:σ₀.L c with
  |none=>rfl
  |some xs=>rw[h.old c xs hq]at hc;cases hc
 cases hb:es.lookup b with
 |some w =>
  have#[c1,rfl,bb,ca]:=B b w hb;have bu:c1≠c:=λe=>by rw[e,hc]at bb;cases bb
  apply#[c1,rfl,?_,?_]
  ·show upd σ.L c [] c1=_;rw[cv bu];show bb
  ·simp only[Option.isSome_some,ym];apply#[#[es,br _ _ _,by simp;(show bt .U .a .A aa),λk e=>?_,λk w e=>?_,ab],λa xs e=>?_,h.I,h.S,λa ha=>?_,λcb Z=>?_]
   ·have hk:b≠k:=λq=>by rw[<- q,hb]at e;cases e
    rw[jB,ai k e,ay hk];rfl
   ·have#[c2,rfl,J,bd]:=B k w e;apply#[c2,rfl,?_,bd];show upd (upd σ.L c []) c1 _ c2=some (kA k (bs++[b]));rw[lS];by_cases hk:b=k
    ·subst hk;rw[hb]at e;cases e;rw[br,bx rfl]
    ·have bv:c2≠c1:=λq=>hk (ab b k c1 hb (q▸e));have ag:c2≠c:=λq=>by rw[q,hc]at J;cases J
     rw[cv bv,cv ag,ay hk,cq];show J
   ·show upd (upd σ.L c []) c1 _ a=some xs;have h1:a≠c1:=λq=>by rw[q,ca]at e;cases e
    have h2:a≠c:=λq=>by rw[q,ao]at e;cases e
    rw[cv h1,cv h2];show h.old a xs e
   ·show upd σ.D db es a=_;rw[cv ha];show h.D a ha
   ·have rfl:=ak ((br σ.D db es).symm.trans Z);have#[k1,k2]:=h.keys _ hD;apply#[k1,λk hk=>gq _ (k2 k hk)]
 |none =>
  have hp:posOf b bs=[]:=ai b hb;have bl:kA b bs=[]:=by unfold kA;rw[hp];rfl
  apply#[c,rfl,?_,?_]
  ·show upd σ.L c [] c=_;rw[br,bl]
  ·simp only[wt,dt,kh];apply#[#[es++[(b,V.L c)],(show upd σ.D db (es++[(b,V.L c)]) db=_ from br _ _ _),by simp;(show bt .A .a .A aa),λk e=>?_,λk w e=>?_,λk k' c2 e Z=>?_],λa xs e=>?_,h.I,h.S,λa ha=>?_,λcb Z=>?_]
   ·rw[za]at e;cases hk:es.lookup k with
    |some w=>rw[hk]at e;cases e
    |none =>
     rw[hk,gH]at e;have ar:b≠k:=λq=>by rw[bx q.symm]at e;cases e
     rw[jB,ai k hk,ay ar];rfl
   ·rw[za]at e;cases hk:es.lookup k with
    |some w' =>
     rw[hk,Option.some_or]at e;cases e;have#[c2,rfl,J,bd]:=B k _ hk;apply#[c2,rfl,?_,bd];show upd (upd σ.L c []) c _ c2=some (kA k (bs++[b]));have ag:c2≠c:=λq=>by rw[q,hc]at J;cases J
     have ar:b≠k:=λq=>by rw[<- q,hb]at hk;cases hk
     rw[cv ag,cv ag,lS,ay ar,cq];show J
    |none =>
     rw[hk,gH]at e;split at e
     ·rename_i q;cases e;subst q;apply#[c,rfl,?_,ao];show upd (upd σ.L c []) c _ c=some (kA k (bs++[k]));rw[br,lS,bx rfl]
     ·cases e
   ·rw[za]at e Z;have fresh:∀k2,es.lookup k2≠some (.L c):=λk2 e2=>by
     have#[c3,e3,be,_]:=B k2 _ e2;cases e3;rw[hc]at be;cases be
    cases hk:es.lookup k with
    |some w =>
     rw[hk,Option.some_or]at e;cases e;cases O:es.lookup k' with
     |some w'=>rw[O,Option.some_or]at Z;cases Z;show ab k k' c2 hk O
     |none =>
      rw[O,gH]at Z;split at Z
      ·cases Z;show absurd hk (fresh k)
      ·cases Z
    |none =>
     rw[hk,gH]at e;split at e
     ·rename_i q;cases e;cases O:es.lookup k' with
      |some w'=>rw[O,Option.some_or]at Z;cases Z;show absurd O (fresh k')
      |none =>
       rw[O,gH]at Z;split at Z
       ·rename_i q';rw[q,q']
       ·cases Z
     ·cases e
   ·show upd (upd σ.L c []) c _ a=some xs;have h2:a≠c:=λq=>by rw[q,ao]at e;cases e
    rw[cv h2,cv h2];show h.old a xs e
   ·show upd σ.D db _ a=_;rw[cv ha];show h.D a ha
   ·have zz:=ak ((br σ.D db (es++[(b,V.L c)])).symm.trans Z);clear Z;have rfl:=zz;have#[k1,k2]:=h.keys _ hD;rw[cm];apply#[List.nodup_append.mpr #[k1,by simp,λx hx y hy=>?_],λk hk=>?_]
    ·have rfl:=au.mp hy;rintro rfl;have#[p,bn,rfl]:=cj.mp hx;rw[rg]at hb;have:=hb p bn;simp at this
    ·rcases dj.mp hk with hk|hk
     ·show gq _ (k2 k hk)
     ·show gc _ hk
end MP
end
section
set_option tactic.hygienic true
namespace MP
variable {i j k:Nat}{seen:Nat->Nat->Prop}
abbrev hit (as bs:List Key)(rm:Key->Bool)(i j:Nat):Bool:=match as[i]?,bs[j]? with
 |some a,some b=>decide (a=b)&&!rm a
 |_,_=>false
def xv {as bs:List Key}{rm:Key->Bool}:hit as bs rm i j=true↔∃c,as[i]?=some c/\bs[j]?=some c/\rm c=false:=by
 cases U:as[i]? with
 |none=>rw[show hit as bs rm i j=false by unfold hit;rw[U]];apply#[(λh=>nomatch h),λh=>by have#[c,Z,_]:=h;cases Z]
 |some a =>
  cases hb:bs[j]? with
  |none=>rw[show hit as bs rm i j=false by unfold hit;rw[U,hb]];apply#[(λh=>nomatch h),λh=>by have#[c,_,Z,_]:=h;cases Z]
  |some b =>
   rw[show hit as bs rm i j=(decide (a=b)&&!rm a) by unfold hit;rw[U,hb],dg,decide_eq_true_eq,fg];apply#[λh=>?_,λh=>?_]
   ·have#[rfl,h]:=h;apply#[_,rfl,rfl,h]
   ·have#[c,Z,O,h]:=h;have rfl:=ak Z;have rfl:=ak O;apply#[rfl,h]
structure Run (as bs:List Key)(rm:Key->Bool)(alo ahi blo bhi i j k:Nat):Prop where
 ai:alo<=i
 ia:i+k<=ahi
 bj:blo<=j
 jb:j+k<=bhi
 eq:∀t,t<k->hit as bs rm (i+t) (j+t)=true
structure B6 (as bs:List Key)(rm:Key->Bool)(alo ahi blo bhi i j k:Nat):Prop where
 run:Run as bs rm alo ahi blo bhi i j k
 zero:k=0->i=alo/\j=blo
 max:∀i' j' k',0<k'->Run as bs rm alo ahi blo bhi i' j' k'->k'<k\/(k'=k/\(i<i'\/(i=i'/\j<=j')))
def B6.uniq {as bs:List Key}{rm:Key->Bool}{alo ahi blo bhi i' j' k':Nat}(h:B6 as bs rm alo ahi blo bhi i j k)(h':B6 as bs rm alo ahi blo bhi i' j' k'):i=i'/\j=j'/\k=k':=by
 by_cases hk:k=0
 ·by_cases J:k'=0
  ·have a:=h.zero hk;have b:=h'.zero J
   (show#[(fk .C .l (.e .A .C) (.e .B .C) a.1 b.1),#[(fk .C .l (.e .A .C) (.e .B .C) a.2 b.2),(gz .C .g .M .aJ hk J)]])
  ·have:=h.max _ _ _ ((ba J).elim (λZ=>(ef .F .o .b0 Z)) λZ=>(ef .F .a .F Z)) h'.run
   (show#[((ba J).elim (λZ=>(ek .C .x .cS Z)) λZ=>(this.elim (λU=>(fc .C .j .a0 .aC hk U)) λU=>(mq .C .F .a0 (.l .O .D) .d1 hk Z U.1))),#[((ba J).elim (λZ=>(ek .C .x .cS Z)) λZ=>(this.elim (λU=>(fc .C .j .a0 .aC hk U)) λU=>(mq .C .F .a0 (.l .O .D) .d1 hk Z U.1))),((ba J).elim (λZ=>(gz .C .g .M (.l .B .O) hk Z)) λZ=>(this.elim (λU=>(gz .C .g .M .W hk U)) λU=>(bt .C .i .bK U.1)))]])
 ·by_cases J:k'=0
  ·have:=h'.max _ _ _ ((ba hk).elim (λZ=>(ef .F .o .b0 Z)) λZ=>(ef .F .a .F Z)) h.run
   (show#[((ba hk).elim (λZ=>(ek .C .x .cS Z)) λZ=>(this.elim (λU=>(fc .C .j .a0 .aC J U)) λU=>(mq .C .F .a0 (.l .O .D) .d1 J Z U.1))),#[((ba hk).elim (λZ=>(ek .C .x .cS Z)) λZ=>(this.elim (λU=>(fc .C .j .a0 .aC J U)) λU=>(mq .C .F .a0 (.l .O .D) .d1 J Z U.1))),((ba hk).elim (λZ=>(gz .C .z .aJ .b0 J Z)) λZ=>(this.elim (λU=>(gz .C .z .aJ .B J U)) λU=>(bt .C .k .C U.1)))]])
  ·have a:=h.max _ _ _ ((ba hk).elim (λZ=>(bt .F .o (.l .B .O) Z)) λZ=>((ba J).elim (λU=>(ef .F .o .b0 U)) λU=>(ef .F .a .F U))) h'.run;have b:=h'.max _ _ _ ((ba hk).elim (λZ=>(ef .F .o .b0 Z)) λZ=>(ef .F .a .F Z)) h.run
   (show#[((ba hk).elim (λZ=>(ek .C .x .cS Z)) λZ=>((ba J).elim (λU=>(ek .C .x .cS U)) λU=>(a.elim (λq3=>(b.elim (λq4=>(fc .C .j .N .aC q3 q4)) λq4=>(fc .C .j .N .d1 q3 q4.1))) λq3=>(b.elim (λq4=>(fc .C .j .aV .aC q3.1 q4)) λq4=>(q3.2.elim (λq5=>(q4.2.elim (λq6=>(gz .C .g .B .W q5 q6)) λq6=>(bt .C .i .bK q6.1))) λq5=>(bt .C .k .C q5.1)))))),#[((ba hk).elim (λZ=>(ek .C .x .cS Z)) λZ=>((ba J).elim (λU=>(ek .C .x .cS U)) λU=>(a.elim (λq3=>(b.elim (λq4=>(fc .C .j .N .aC q3 q4)) λq4=>(fc .C .j .N .d1 q3 q4.1))) λq3=>(b.elim (λq4=>(fc .C .j .aV .aC q3.1 q4)) λq4=>(q3.2.elim (λq5=>(q4.2.elim (λq6=>(fc .C .j .N .aC q5 q6)) λq6=>(fc .C .j .N .d1 q5 q6.1))) λq5=>(q4.2.elim (λq6=>(fc .C .j .aV .aC q5.1 q6)) λq6=>(gz .C .g .A .V q5.2 q6.2))))))),((ba hk).elim (λZ=>(bt .C [[0,1],[1,1]] .b0 Z)) λZ=>((ba J).elim (λU=>(bt .C [[1,1],[0,1]] (.l .B .O) U)) λU=>(a.elim (λq3=>(b.elim (λq4=>(gz .C .z .W .B q3 q4)) λq4=>(bt .C .k .C q4.1))) λq3=>(bt .C .i .bK q3.1))))]])
abbrev el (as bs:List Key)(rm:Key->Bool)(alo blo:Nat):Nat->Nat->Nat
 |i+1,j+1=>if alo<=i/\blo<=j/\hit as bs rm i j=true then el as bs rm alo blo i j+1 else 0
 |_,_=>0
section
variable {as bs:List Key}{rm:Key->Bool}{alo ahi blo bhi:Nat}
def v8:el as bs rm alo blo (i+1) (j+1)=if alo<=i/\blo<=j/\hit as bs rm i j=true then el as bs rm alo blo i j+1 else 0:=rfl
def JG:el as bs rm alo blo alo j=0:=by
 cases alo with
 |zero=>cases j<;>rfl
 |succ n =>
  cases j with
  |zero=>rfl
  |succ j =>
   rw[v8];rw[ay]
   (show λZ=>(ef .ff .o (.k .L .A) Z.1))
def v9:∀{i j:Nat},el as bs rm alo blo i j<=i/\el as bs rm alo blo i j<=j/\(0<el as bs rm alo blo i j->Run as bs rm alo i blo j (i-el as bs rm alo blo i j) (j-el as bs rm alo blo i j) (el as bs rm alo blo i j))
 |0,j=>#[bh _,bh _,λh=>absurd h (gp 0)]
 |i+1,0=>#[bh _,bh _,λh=>absurd h (gp 0)]
 |i+1,j+1=>by
  rw[v8];split
  ·rename_i c;have#[Z,U,R]:=v9 (i:=i) (j:=j);apply#[by show bt .aK .a .A Z,by show bt .aK .a .A U,λ_=>?_];by_cases h0:0<el as bs rm alo blo i j
   ·have R:=R h0;generalize el as bs rm alo blo i j=m at *;apply#[?_,by show ek (.k .a8 .R) .a (.e .a8 .R) (ae (bt .aK .a .A Z)),?_,by show ek (.k .a8 .R) .a (.e .a8 .R) (ae (bt .aK .a .A U)),λt ht=>?_]
    ·have:=R.ai;(show my .A .v .J .b5 (.e (.a .B .V) .a1) this (ae (bt .A .a .A Z)) (ae (bt .aK .a .A Z)))
    ·have:=R.bj;(show my .A .v .J .b5 (.e (.a .B .V) .a1) this (ae (bt .A .a .A U)) (ae (bt .aK .a .A U)))
    ·by_cases hm:t<m
     ·have:=R.eq t hm;have e1:i+1-(m+1)+t=i-m+t:=by(show kW (.e .P .a7) .l (.e (.a .A .V) .a1) .b5 (ae (bt .aK .a .A Z)) (ae (bt .A .a .A Z)))
      have e2:j+1-(m+1)+t=j-m+t:=by(show kW (.e .P .a7) .l (.e (.a .A .V) .a1) .b5 (ae (bt .aK .a .A U)) (ae (bt .A .a .A U)))
      rw[e1,e2];show this
     ·have e1:i+1-(m+1)+t=i:=by(show mq .S [[1,0,1,-1],[1,1,0,1]] (.l .B .V) (.g .B .D) (.e (.a .A .V) .R) ht hm (ae (bt .aK .a .A Z)))
      have e2:j+1-(m+1)+t=j:=by(show sG .S .p (.e .aK .F) (.e (.a .D .aJ) .a1) (.e (.a .A .aJ) .R) e1 (ae (bt .aK .a .A Z)) (ae (bt .aK .a .A U)))
      rw[e1,e2];show c.2.2
   ·have aa:el as bs rm alo blo i j=0:=by(show ef .M .w (.g .O .A) h0)
    rw[aa];apply#[by show fk .A .c .J (.e (.a .B .a2) .R) c.1 (ae (jf .b2 .f)),by show bt (.k (.a .A .a2) .M) .a (.e (.a .A .a2) .M) (ae (jf .b2 .f)),by show fk .A .c .J (.e (.a .B .a2) .R) c.2.1 (ae (jf .b2 .f)),by show bt (.k (.a .A .a2) .M) .a (.e (.a .A .a2) .M) (ae (jf .b2 .f)),λt ht=>?_];have:t=0:=by(show ef .M .w (.l .A .a2) ht)
    subst this;show c.2.2
  ·apply#[bh _,bh _,λh=>absurd h (gp 0)]
def JH:∀{i j i' j' k':Nat},i'+k'=i->j'+k'=j->Run as bs rm alo ahi blo bhi i' j' k'->k'<=el as bs rm alo blo i j
 |i,j,i',j',0,_,_,_=>bh _
 |i,j,i',j',k'+1,e1,e2,R=>by
  subst e1;subst e2;show _<=el as bs rm alo blo (i'+k'+1) (j'+k'+1);have:=R.ai;have:=R.bj;rw[v8];rw[bx #[by(rename_i Z;show ek .aG .a .A Z),by show ek .aG .a .A this,R.eq k' (jf (.l .A .L) .f)]];have:=JH (i:=i'+k') (j:=j'+k') (i':=i') (j':=j') (k':=k') rfl rfl #[R.ai,by have:=R.ia;(show ek .K .a .T this),R.bj,by have:=R.jb;(show ek .K .a .T this),λt U=>R.eq t (bt .a7 .a .B U)]
  (show bt .aK .a .A this)
structure Scan (as bs:List Key)(rm:Key->Bool)(alo ahi blo bhi:Nat)(seen:Nat->Nat->Prop)(i j k:Nat):Prop where
 run:Run as bs rm alo ahi blo bhi i j k
 zero:k=0->i=alo/\j=blo
 at_:0<k->seen (i+k-1) (j+k-1)
 max:∀i' j',seen i' j'->0<el as bs rm alo blo (i'+1) (j'+1)->el as bs rm alo blo (i'+1) (j'+1)<k\/(el as bs rm alo blo (i'+1) (j'+1)=k/\(i<i'+1-k\/(i=i'+1-k/\j<=j'+1-k)))
def Scan.start (U:alo<=ahi)(hb:blo<=bhi):Scan as bs rm alo ahi blo bhi (λ_ _=>False) alo blo 0:=
 #[#[az _,U,az _,hb,λt Z=>absurd Z (wj _)],λ_=>#[rfl,rfl],λh=>absurd h (gp 0),λ_ _ h=>h.elim]
def Scan.skip {Z:Nat->Nat->Prop}(h:Scan as bs rm alo ahi blo bhi seen i j k)(J:∀i' j',seen i' j'->Z i' j')(O:∀i' j',Z i' j'->seen i' j'\/el as bs rm alo blo (i'+1) (j'+1)=0\/el as bs rm alo blo (i'+1) (j'+1)<k\/(el as bs rm alo blo (i'+1) (j'+1)=k/\(i<i'+1-k\/(i=i'+1-k/\j<=j'+1-k)))):Scan as bs rm alo ahi blo bhi Z i j k:=
 ⟨h.run,h.zero,λh0=>J _ _ (h.at_ h0),λi' j' U h0=>by
  rcases O i' j' U with q|q|q|q
  ·show h.max i' j' q h0
  ·(show .inl (gz .B .d .F .M h0 q))
  ·show .inl q
  ·show .inr q⟩
def Scan.take {J:Nat->Nat->Prop}{i j i0 j0:Nat}(h:Scan as bs rm alo ahi blo bhi seen i j k)(hi:i0<ahi)(hj:j0<bhi)(hk:k<el as bs rm alo blo (i0+1) (j0+1))(h0:J i0 j0)
  (hs:∀i' j',J i' j'->seen i' j'\/(i'=i0/\j'=j0)\/el as bs rm alo blo (i'+1) (j'+1)=0):Scan as bs rm alo ahi blo bhi J (i0+1-el as bs rm alo blo (i0+1) (j0+1)) (j0+1-el as bs rm alo blo (i0+1) (j0+1)) (el as bs rm alo blo (i0+1) (j0+1)):=by
 have#[h1,h2,R]:=v9 (as:=as) (bs:=bs) (rm:=rm) (alo:=alo) (blo:=blo) (i:=i0+1) (j:=j0+1);have R:=R (bt .F .a .W hk);apply#[#[R.ai,by show fc .K .b .aC (.e .P .V) hi (ae (bt .U .a .U h1)),R.bj,by show fc .K .b .aC (.e .P .V) hj (ae (bt .U .a .U h2)),R.eq],λh0=>by show#[(fc .C .j .N .aS hk h0),(fc .C .j .N .aS hk h0)],λ_=>?_,λi' j' aa h0=>?_]
 ·have e1:i0+1-el as bs rm alo blo (i0+1) (j0+1)+el as bs rm alo blo (i0+1) (j0+1)-1=i0:=by(rename_i z1;show Ar.sub _ _ (λq1 p1=>(fc .C .G (.e .L .S) (.e .S .M) (ae (bt .aX .a .Z z1)) p1)) λq1 p1=>(eM .C [[1,0,-1,1,0],[1,1,1,0,1]] .bH (.e .L .aD) (.k .M .C) .aS h1 (ae (bt .aX .a .Z z1)) q1 p1))
  have e2:j0+1-el as bs rm alo blo (i0+1) (j0+1)+el as bs rm alo blo (i0+1) (j0+1)-1=j0:=by(rename_i z1;show Ar.sub _ _ (λq1 p1=>(fc .C .G (.e .L .S) (.e .S .M) (ae (bt .aX .a .Z z1)) p1)) λq1 p1=>(eM .C [[1,0,-1,1,0],[1,1,1,0,1]] .bH (.e .L .aD) (.k .M .C) .aS h2 (ae (bt .aX .a .Z z1)) q1 p1))
  rw[e1,e2];show h0
 ·rcases hs i' j' aa with q|⟨rfl,rfl⟩|q
  ·have:=h.max i' j' q h0
   (rename_i z1;show .inl ((Ar.imp z1).elim (λq1=>(fk .B .d .O (.g .O .B) hk q1)) λq1=>(this.elim (λq2=>(fk .B .b .O .I hk q2)) λq2=>(fk .B .b .O (.e .A .C) hk q2.1))))
  ·show .inr #[rfl,.inr #[rfl,az _]]
  ·(show .inl (gz .B .d .F .M h0 q))
def Scan.best {i j:Nat}(h:Scan as bs rm alo ahi blo bhi seen i j k)(hs:∀i' j',alo<=i'->i'<ahi->blo<=j'->j'<bhi->0<el as bs rm alo blo (i'+1) (j'+1)->seen i' j'):B6 as bs rm alo ahi blo bhi i j k:=by
 apply#[h.run,h.zero,λi' j' k' h0 R=>?_];have hm:=JH (i:=i'+k'-1+1) (j:=j'+k'-1+1) (ek (.e .P .R) .i (.e .R .P) (ae (bt .aX .a .Z h0))) (ek (.e .P .R) .i (.e .R .P) (ae (bt .aX .a .Z h0))) R;have:=h.max (i'+k'-1) (j'+k'-1) (hs _ _ (by have:=R.ai;(show mq .A .v .aU .aA (.e .M .aD) h0 this (ae (bt .aX .a .Z h0)))) (by have:=R.ia;(show fc .B .b .c8 (.e .L .S) this (ae (bt .aX .a .Z h0)))) (by have:=R.bj;(show mq .A .v .aU .aA (.e .M .aD) h0 this (ae (bt .aX .a .Z h0)))) (by have:=R.jb;(show fc .B .b .c8 (.e .L .S) this (ae (bt .aX .a .Z h0)))) (gz .F .b .Z .V h0 hm)) (gz .F .b .Z .V h0 hm);generalize el as bs rm alo blo (i'+k'-1+1) (j'+k'-1+1)=e at *;rcases pj k' k with c|c
 ·show .inl c
 ·rcases this with q|⟨q,q'⟩
  ·show absurd (gf q c) (rz.mpr hm)
  ·have e2:k'=k:=Nat.le_antisymm (q▸hm) c;have s1:i'+k'-1+1-k=i':=by(show Ar.sub _ _ (λq1 p1=>(Ar.sub _ _ (λJ O=>(my .C [[1,-1,-1,-1],[1,1,1,1]] .aV (.e .Y .a1) (.e .a1 .Q) e2 p1 O)) λJ O=>(OD .C [[1,0,-1,-1,1,0],[1,1,1,1,0,1]] .aU .aV (.e .Y .a1) (.k .Q .U) .aT h0 e2 p1 J O))) λq1 p1=>(Ar.sub _ _ (λJ O=>(K9 .C [[1,-1,1,0,-1],[1,0,0,1,0]] .aV (.k .a1 .D) .M (.e .a1 .Q) e2 q1 p1 O)) λJ O=>(mi .C .m .aU .M (.k .Q .U) h0 p1 J)))
   have s2:j'+k'-1+1-k=j':=by(show Ar.sub _ _ (λq1 p1=>(Ar.sub _ _ (λJ O=>(my .C [[1,-1,-1,-1],[1,1,1,1]] .aV (.e .Y .a1) (.e .a1 .Q) e2 p1 O)) λJ O=>(OD .C [[1,0,-1,-1,1,0],[1,1,1,1,0,1]] .aU .aV (.e .Y .a1) (.k .Q .U) .aT h0 e2 p1 J O))) λq1 p1=>(Ar.sub _ _ (λJ O=>(K9 .C [[1,-1,1,0,-1],[1,0,0,1,0]] .aV (.k .a1 .D) .M (.e .a1 .Q) e2 q1 p1 O)) λJ O=>(mi .C .m .aU .M (.k .Q .U) h0 p1 J)))
   rw[s1,s2]at q';show .inr #[e2,q']
abbrev eI (as bs:List Key)(ok:Key->Bool)(alo blo:Nat):Nat->Nat->Nat->Nat×Nat×Nat
 |i+1,j+1,k=>if alo<i+1/\blo<j+1/\hit as bs (λc=>!ok c) i j=true then eI as bs ok alo blo i j (k+1) else (i+1,j+1,k)
 |i,j,k=>(i,j,k)
abbrev kK (as bs:List Key)(ok:Key->Bool)(ahi bhi:Nat):Nat->Nat->Nat->Nat->Nat
 |0,_,_,k=>k
 |n+1,i,j,k=>if i+k<ahi/\j+k<bhi/\hit as bs (λc=>!ok c) (i+k) (j+k)=true then kK as bs ok ahi bhi n i j (k+1) else k
def eH {ok:Key->Bool}:eI as bs ok alo blo (i+1) (j+1) k=if alo<i+1/\blo<j+1/\hit as bs (λc=>!ok c) i j=true then eI as bs ok alo blo i j (k+1) else (i+1,j+1,k):=rfl
def yk {ok:Key->Bool}{n:Nat}:kK as bs ok ahi bhi (n+1) i j k=if i+k<ahi/\j+k<bhi/\hit as bs (λc=>!ok c) (i+k) (j+k)=true then kK as bs ok ahi bhi n i j (k+1) else k:=rfl
abbrev grow (as bs:List Key)(js:Key->Bool)(alo ahi blo bhi i j k:Nat):Nat×Nat×Nat:=
 let p:=eI as bs (λc=>!js c) alo blo i j k
 let q:=kK as bs (λc=>!js c) ahi bhi (ahi-p.1) p.1 p.2.1 p.2.2
 let r:=eI as bs js alo blo p.1 p.2.1 q
 (r.1,r.2.1,kK as bs js ahi bhi (ahi-r.1) r.1 r.2.1 r.2.2)
end
end MP
end
section
namespace MP
open PySem
variable {σ σ₁:St}{c:Addr}{k k':Key}{bs:List Key}{es:List (Key×V)}
structure Kp (σ σ':St):Prop where
 L:∀a xs,σ.L a=some xs->σ'.L a=some xs
 D:∀a es,σ.D a=some es->σ'.D a=some es
 S:σ'.S=σ.S
 I:σ'.I=σ.I
def Kp.refl (σ:St):Kp σ σ:=#[λ_ _ e=>e,λ_ _ e=>e,rfl,rfl]
def Kp.trans {σ₂:St}(h:Kp σ σ₁)(h':Kp σ₁ σ₂):Kp σ σ₂:=#[λa xs e=>h'.L a xs (h.L a xs e),λa xs e=>h'.D a xs (h.D a xs e),h'.S.trans h.S,h'.I.trans h.I]
def Kp.noL (h:Kp σ σ₁)(Z:σ₁.L c=none):σ.L c=none:=by
 cases q:σ.L c with
 |none=>rfl
 |some xs=>rw[h.L _ _ q]at Z;cases Z
def Kp.noD (h:Kp σ σ₁)(Z:σ₁.D c=none):σ.D c=none:=by
 cases q:σ.D c with
 |none=>rfl
 |some xs=>rw[h.D _ _ q]at Z;cases Z
def Kp.cw (h:Kp σ σ₁){xs:List V}(Z:σ.L c=none):Kp σ (σ₁.cw c xs):=⟨λa ys e=>by
 have:a≠c:=λq=>by rw[q,Z]at e;cases e
 show upd σ₁.L c xs a=_;rw[cv this];show h.L a ys e,h.D,h.S,h.I⟩
def Kp.qj (h:Kp σ σ₁){xs:List (Key×V)}(Z:σ.D c=none):Kp σ (σ₁.qj c xs):=⟨h.L,λa ys e=>by
 have:a≠c:=λq=>by rw[q,Z]at e;cases e
 show upd σ₁.D c xs a=_;rw[cv this];show h.D a ys e,h.S,h.I⟩
abbrev uc:Key->Prop
 |.int _=>True
 |.str s=>PyData.strOk s=true
def FN {K:Bool->Prop}(h:uc k)(h':uc k')(q:K (decide (k=k'))):yX k.v k'.v σ K:=by
 cases k with
 |int a =>
  cases k' with
  |int b =>
   show K (a==b);have:(a==b)=decide (Key.int a=Key.int b):=by
    by_cases e:a=b
    ·simp[e]
    ·simp[e]
   rw[this];show q
  |str b =>
   apply#[.int a,.str b,rfl,?_,?_]
   ·show(if PyData.strOk b then some (PyData.str b) else none)=_;rw[bx (show PyData.strOk b=true from h')]
   ·have:PyData.eqv (.int a) (.str b)=decide (Key.int a=Key.str b):=by simp[PyData.eqv]
    rw[this];show q
 |str a =>
  cases k' with
  |int b =>
   apply#[.str a,.int b,?_,rfl,?_]
   ·show(if PyData.strOk a then some (PyData.str a) else none)=_;rw[bx (show PyData.strOk a=true from h)]
   ·have:PyData.eqv (.str a) (.int b)=decide (Key.str a=Key.int b):=by simp[PyData.eqv]
    rw[this];show q
  |str b =>
   show K (a==b);have:(a==b)=decide (Key.str a=Key.str b):=by
    by_cases e:a=b
    ·simp[e]
    ·simp[e]
   rw[this];show q
def sL {K:Bool->Prop}(h:uc k)(h':uc k')(q:K (decide (k=k'))):mP .eq k.v k'.v σ K:=FN h h' q
def sS {j:Nat}:j∈posOf k bs↔bs[j]?=some k:=by
 unfold posOf;rw[wk,gJ,decide_eq_true_eq];apply#[λh=>h.2,λh=>#[(bw.mp h).1,h]]
def HY:(posOf k bs).Pairwise (·<·):=List.Pairwise.filter _ mO
def DZ:(posOf k bs).length<=bs.length:=by
 have:=ix (λj=>decide (bs[j]?=some k)) (List.range bs.length)
 rwa [kc]at this
abbrev TabAt (σ:St)(db:Addr)(bs:List Key)(rm:Key->Bool):Prop:=∃es,σ.D db=some es /\
 (∀k,rm k=true->es.lookup k=none)/\∀k,rm k=false->(es.lookup k=none/\posOf k bs=[])\/∃c,es.lookup k=some (.L c)/\σ.L c=some (kA k bs)
def TabAt.keep {σ':St}{db:Addr}{rm:Key->Bool}(h:TabAt σ db bs rm)(k:Kp σ σ'):TabAt σ' db bs rm:=by
 have#[es,B,J,O]:=h;apply#[es,k.D _ _ B,J,λq U=>(O q U).imp_right λZ=>by have#[c,e1,e2]:=Z;apply#[c,e1,k.L _ _ e2]]
def TabAt.get {db nl:Addr}{rm:Key->Bool}(h:TabAt σ db bs rm)(O:σ.L nl=some [])(k:Key) :
  ∃es c,σ.D db=some es/\(es.lookup k).getD (.L nl)=.L c/\σ.L c=some ((if rm k then [] else posOf k bs).map λj:Nat=>V.int j):=by
 have#[es,Z,B,J]:=h;cases U:rm k with
 |true=>refine#[es,nl,Z,by rw[B k U];rfl,O]
 |false =>
  rcases J k U with ⟨e1,e2⟩|⟨c,e1,e2⟩
  ·apply#[es,nl,Z,by rw[e1];rfl,by rw[e2];show O]
  ·apply#[es,c,Z,by rw[e1];rfl,e2]
def jL:es.any (λe=>e.1==k)=(es.lookup k).isSome:=by
 induction es with
 |nil=>rfl
 |cons e r Z =>
  have#[a,b]:=e;simp only[jO,List.lookup,Z];by_cases h:k=a
  ·subst h;simp
  ·rw[pb (wi h),pb h];rfl
def HX {v:V}:(putD es k v).length<=es.length+1:=by
 unfold putD;split<;>simp
def zY {v:V}:(putD es k v).lookup k'=if k'=k then some v else es.lookup k':=by
 unfold putD;split
 ·rename_i h;rw[jL]at h;induction es with
  |nil=>cases h
  |cons e r U =>
   have#[a,b]:=e;simp only[lr,List.lookup]at h ⊢;by_cases hk:a=k
   ·subst hk;rw[bx rfl];by_cases Z:k'=a
    ·subst Z;simp
    ·rw[ay Z];have e1:(k'==a)=false:=pb Z;simp only[List.lookup,e1];clear U h;induction r with
     |nil=>rfl
     |cons e r U =>
      have#[J,b']:=e;simp only[lr,List.lookup];by_cases O:J=a
      ·subst O;rw[bx rfl];simp only[List.lookup,e1];show U
      ·rw[ay O];simp only[List.lookup];cases k'==J with
       |true=>rfl
       |false=>show U
   ·rw[ay hk];have B:(k==a)=false:=pb (wi hk);rw[B]at h;simp only[List.lookup];by_cases Z:k'=a
    ·subst Z;rw[ay hk];simp
    ·rw[pb Z];show U h
 ·rename_i h;rw[jL]at h;rw[za];by_cases Z:k'=k
  ·skip
   subst Z;cases q:es.lookup k' with
   |none=>simp
   |some w=>rw[q]at h;show absurd rfl h
  ·simp[Z]
end MP
end
section
set_option backward.match.sparseCases false
namespace MP
open PySem
variable {v a:V}{α:Type}{σ:St}
def sZ (h:isNone v=true):v=.none:=by
 cases v<;>first|rfl|show Bool.noConfusion h
def nO {P:Prop}{x:α}(h:none=some x):P:=nomatch h
def lq {Z:Type}{o:Option α}{f:α->Option Z}{b:Z}(h:o.bind f=some b):∃a,o=some a/\f a=some b:=eh.mp h
def omap {Z:Type}{o:Option α}{f:α->Z}{b:Z}(h:o.map f=some b):∃a,o=some a/\f a=b:=jh.mp h
abbrev rV (a b:V):Option (Int×Int):=(vInt a).bind λi=>(vInt b).map λj=>(i,j)
def eE {b:V}{p:Int×Int}(h:rV a b=some p):a=.int p.1/\b=.int p.2:=by
 have#[i,e,h]:=lq h;have#[j,Z,rfl]:=omap h;apply#[rk e,rk Z]
abbrev vf {α:Type}(c:Prop)[Decidable c](x:α):Option α:=if c then some x else none
def vd {c:Prop}[Decidable c]{x y:α}(h:vf c x=some y):c/\x=y:=by
 unfold vf at h;by_cases q:c
 ·rw[bx q]at h;apply#[q,ak h]
 ·rw[ay q]at h;cases h
abbrev kP (op:Bop)(a b:V):Option V:=(rV a b).bind λp=>match op with
 |.add=>some (.int (p.1+p.2))
 |.sub=>some (.int (p.1-p.2))
 |.mul=>vf (p.1.natAbs<2^60\/p.2.natAbs<2^60) (.int (p.1*p.2))
 |.fdiv=>vf (0<p.2/\p.2.natAbs<2^60) (.int (p.1/p.2))
 |.mod=>vf (0<p.2) (.int (p.1%p.2))
 |.pow=>vf (0<=p.2/\p.2<=1000/\p.1.natAbs<2^64) (.int (p.1^p.2.toNat))
def y5 {op:Bop}{b:V}{Q:V->St->Prop}(h:kP op a b=some v)(q:Q v σ):mQ op a b σ Q:=by
 have#[#[i,j],e,h]:=lq h;have#[rfl,rfl]:=eE e;clear e;cases op with
 |add=>cases h;show q
 |sub=>cases h;show q
 |mul=>have#[c,rfl]:=vd h;apply#[c,q]
 |fdiv =>
  have#[c,rfl]:=vd h;have c:0<j/\j.natAbs<2^60:=c;apply#[(by(rename_i Z U;show qd (.iu .A .O) .a .d2 Z.1):j≠0),c.2,?_];rw[Int.fdiv_eq_ediv_of_nonneg _ (by show 0<=j;(rename_i Z U;show qd .aR .a .d2 Z.1))];show q
 |mod =>
  have#[c,rfl]:=vd h;have c:0<j:=c;apply#[(by(rename_i Z U;show qd (.iu .A .O) .a .d2 Z):j≠0),?_];rw[Int.fmod_eq_emod_of_nonneg _ (by show 0<=j;(rename_i Z U;show qd .aR .a .d2 Z))];show q
 |pow=>have#[c,rfl]:=vd h;apply#[c.1,c.2.1,c.2.2,q]
abbrev AA (σ:St):V->Option Bool
 |.none=>some false
 |.bool b=>some b
 |.int i=>some (i != 0)
 |.L a=>(σ.L a).map λxs=>!xs.isEmpty
 |.clo _ _=>some true
 |_=>none
def kL:∀(v:V) {b:Bool} {K:Bool->Prop},AA σ v=some b->K b->su v σ K:=by
 intro v b K h q;cases v
 case none=>have rfl:=ak h;show q
 case bool=>have rfl:=ak h;show q
 case int=>have rfl:=ak h;show q
 case L=>have#[xs,e,rfl]:=omap h;apply#[xs,e,q]
 case clo=>have rfl:=ak h;show q
 all_goals show nO h
abbrev dI (σ:St)(op:Cop)(a b:V):Option Bool:=match op with
 |.eq=>(vInt a).elim ((vStr a).bind λx=>(vStr b).map λy=>x==y) λi=>(vInt b).map λj=>decide (i=j)
 |.ne=>(vInt a).elim ((vStr a).bind λx=>(vStr b).map λy=>!(x==y)) λi=>(vInt b).map λj=>decide (i≠j)
 |.lt=>(rV a b).map λp=>decide (p.1<p.2)
 |.le=>(rV a b).map λp=>decide (p.1<=p.2)
 |.gt=>(rV a b).map λp=>decide (p.2<p.1)
 |.ge=>(rV a b).map λp=>decide (p.2<=p.1)
 |.is=>vf (isNone b=true) (isNone a)
 |.isNot=>vf (isNone b=true) (!(isNone a))
 |_=>none
def deq (x y:Int):(x==y)=decide (x=y):=by
 by_cases e:x=y
 ·simp[e]
 ·simp[e]
def dne (x y:Int):(!(x==y))=decide (x≠y):=by rw[deq];by_cases e:x=y<;>simp[e]
def y4 {op:Cop}{b:V}{r:Bool}{K:Bool->Prop}(h:dI σ op a b=some r)(q:K r):mP op a b σ K:=by
 have Z:∀{a:V} {K:Bool->Prop},K (isNone a)->KW a .none σ K:=λ{a K} q=>q;cases op with
 |eq =>
  cases e:vInt a with
  |some i =>
   have rfl:=rk e;have#[j,U,rfl]:=omap h;have rfl:=rk U;show K (i==j);rw[deq];show q
  |none =>
   unfold dI at h;rw[e]at h;have#[x,e1,h]:=lq h;have#[y,e2,rfl]:=omap h;have rfl:=gQ e1;have rfl:=gQ e2;show q
 |ne =>
  cases e:vInt a with
  |some i =>
   have rfl:=rk e;have#[j,U,rfl]:=omap h;have rfl:=rk U;show K (!(i==j));rw[dne];show q
  |none =>
   unfold dI at h;rw[e]at h;have#[x,e1,h]:=lq h;have#[y,e2,rfl]:=omap h;have rfl:=gQ e1;have rfl:=gQ e2;show q
 |lt=>have#[p,e,rfl]:=omap h;have#[rfl,rfl]:=eE e;show q
 |le=>have#[p,e,rfl]:=omap h;have#[rfl,rfl]:=eE e;show q
 |gt=>have#[p,e,rfl]:=omap h;have#[rfl,rfl]:=eE e;show q
 |ge=>have#[p,e,rfl]:=omap h;have#[rfl,rfl]:=eE e;show q
 |is=>have#[c,rfl]:=vd h;have rfl:=sZ c;show Z q
 |isNot=>have#[c,rfl]:=vd h;have rfl:=sZ c;show Z (K:=λr=>K (!r)) q
 |isIn=>cases h
 |notIn=>cases h
def ifO {c:Prop}[Decidable c]{x:Option α}{y:α}(h:(if c then x else none)=some y):c/\x=some y:=by
 by_cases q:c
 ·rw[bx q]at h;apply#[q,h]
 ·rw[ay q]at h;cases h
abbrev zr (xs:List V)(i:Int):Option V:=if 0<=ee xs.length i then xs[(ee xs.length i).toNat]? else none
abbrev y3 (σ:St)(a i:V):Option V:=(vInt i).bind λi=>match jR a with
 |some a=>(σ.L a).bind λxs=>zr xs i
 |none=>(Q6 a).bind λxs=>if i.natAbs<2^60 then zr xs i else none
def y2 {i:V}{K:V->Prop}(h0:y3 σ a i=some v)(q:K v):sJ a i σ K:=by
 have#[j,e,h]:=lq h0;clear h0;have e:=rk e;subst e;cases e:jR a with
 |some b =>
  rw[e]at h;have e:=gR e;subst e;have#[xs,e,h]:=lq (o:=σ.L b) h;have#[c,h]:=ifO h;apply#[xs,v,e,c,h,q]
 |none =>
  rw[e]at h;have#[xs,e,h]:=lq (o:=Q6 a) h;have e:=L6 e;subst e;have#[c,h]:=ifO h;have#[c2,h]:=ifO h;apply#[v,c,c2,h,q]
abbrev AB (σ:St)(k:BF)(vs:List V):Option V:=match k with
 |.len=>match vs with
  | [v]=>(jR v).elim ((L8 v).bind λa=>(σ.D a).map λxs=>.int xs.length) λa=>(σ.L a).map λxs=>.int xs.length
  |_=>none
 |.min=>match vs with
  | [a,b]=>(rV a b).map λp=>.int (min p.1 p.2)
  |_=>none
 |.max=>match vs with
  | [a,b]=>(rV a b).map λp=>.int (max p.1 p.2)
  |_=>none
 |_=>none
def NS (k:BF)(vs:List V){Q:V->St->Prop}(h:AB σ k vs=some v)(q:Q v σ):D8 k vs σ Q:=by
 cases vs with
 |nil=>cases k<;>show nO h
 |cons u r =>
  cases k
  case len =>
   cases r with
   |cons=>show nO h
   |nil =>
    cases e:jR u with
    |some a =>
     have rfl:=gR e;have#[xs,e,rfl]:=omap h;apply#[xs,e,q]
    |none =>
     have h:(jR u).elim ((L8 u).bind λa=>(σ.D a).map λxs=>V.int xs.length) (λa=>(σ.L a).map λxs=>.int xs.length)=some v:=h;rw[e]at h;have#[a,e1,h]:=lq (o:=L8 u) h;have rfl:=L7 e1;have J:=omap h;clear h;have#[xs,e,rfl]:=J;apply#[xs,e,q]
  case set=>show nO h
  case abs=>show nO h
  all_goals cases r with
  |nil=>show nO h
  |cons w r =>
   cases r with
   |cons=>show nO h
   |nil =>
    first
    |(have#[p,e,rfl]:=omap (o:=rV u w) h;have#[rfl,rfl]:=eE e;show q)
    |(have#[#[i,j],e,h]:=lq (o:=rV u w) h;have#[rfl,rfl]:=eE e;have#[c,rfl]:=vd h;have c:0<j/\j.natAbs<2^60:=c;apply⟨(by(rename_i Z U;show qd (.iu .A .O) .a .d2 Z.1):j≠0),c.2,?_⟩;rw[Int.fdiv_eq_ediv_of_nonneg _ (by show 0<=j;(rename_i Z U;show qd .aR .a .d2 Z.1)),Int.fmod_eq_emod_of_nonneg _ (by show 0<=j;(rename_i Z U;show qd .aR .a .d2 Z.1))];show q)
mutual
noncomputable def evV (σ:St)(ρ:Fr):Ex->Option V
 |.none=>some .none
 |.bool b=>some (.bool b)
 |.int i=>some (.int i)
 |.str s=>some (.str s)
 |.l x=>ρ x
 |.b op a b=>(evV σ ρ a).bind λva=>(evV σ ρ b).bind λvb=>kP op va vb
 |.neg a=>(evV σ ρ a).bind λv=>(vInt v).map λi=>.int (-i)
 |.not a=>(evV σ ρ a).bind λv=>(AA σ v).map λb=>.bool !b
 |.c op a b=>(evV σ ρ a).bind λva=>(evV σ ρ b).bind λvb=>(dI σ op va vb).map .bool
 |.I c a b=>(evT σ ρ c).bind λt=>if t then evV σ ρ a else evV σ ρ b
 |.T es=>(nP σ ρ es).bind λvs=>if vs.length<=bq then some (.T vs) else none
 |.attr e x=>(evV σ ρ e).bind λv=>(Q8 v).bind λa=>(σ.I a).bind λp=>p.2 x
 |.sub e i=>(evV σ ρ e).bind λv=>(evV σ ρ i).bind λj=>y3 σ v j
 |.bf k es=>(nP σ ρ es).bind λvs=>AB σ k vs
 |_=>none
noncomputable def nP (σ:St)(ρ:Fr):Exs->Option (List V)
 |.nil=>some []
 |.cons e es=>(evV σ ρ e).bind λv=>(nP σ ρ es).map λvs=>v::vs
noncomputable def evT (σ:St)(ρ:Fr):Ex->Option Bool
 |.not a=>(evT σ ρ a).map λb=>!b
 |.and a b=>(evT σ ρ a).bind λt=>if t then evT σ ρ b else some false
 |.or a b=>(evT σ ρ a).bind λt=>if t then some true else evT σ ρ b
 |.c op a b=>(evV σ ρ a).bind λva=>(evV σ ρ b).bind λvb=>dI σ op va vb
 |.I c a b=>(evT σ ρ c).bind λt=>if t then evT σ ρ a else evT σ ρ b
 |.l x=>(ρ x).bind λv=>AA σ v
 |.int i=>some (i != 0)
 |.bool b=>some b
 |.attr e x=>(evV σ ρ e).bind λv=>(Q8 v).bind λa=>(σ.I a).bind λp=>(p.2 x).bind λu=>AA σ u
 |.sub e i=>(evV σ ρ e).bind λv=>(evV σ ρ i).bind λj=>(y3 σ v j).bind λr=>AA σ r
 |.b op a b=>(evV σ ρ a).bind λva=>(evV σ ρ b).bind λvb=>(kP op va vb).bind λr=>AA σ r
 |_=>none
end
section
variable {i j:Int}
variable {σ:St}{ρ:Fr}{e a b c:Ex}{es:Exs}
@[simp] theorem UO:evV σ ρ .none=some .none:=rfl
@[simp] theorem UP {x:Bool}:evV σ ρ (.bool x)=some (.bool x):=rfl
@[simp] theorem VN:evV σ ρ (.int i)=some (.int i):=rfl
@[simp] theorem fx {x:Nat}:evV σ ρ (.l x)=ρ x:=rfl
@[simp] theorem tc {op:Bop}:evV σ ρ (.b op a b)=(evV σ ρ a).bind λU=>(evV σ ρ b).bind λZ=>kP op U Z:=rfl
@[simp] theorem VM:evV σ ρ (.neg a)=(evV σ ρ a).bind λv=>(vInt v).map λi=>.int (-i):=rfl
@[simp] theorem VO {op:Cop}:evV σ ρ (.c op a b)=(evV σ ρ a).bind λU=>(evV σ ρ b).bind λZ=>(dI σ op U Z).map .bool:=rfl
@[simp] theorem i9:evV σ ρ (.T es)=(nP σ ρ es).bind λvs=>if vs.length<=bq then some (.T vs) else none:=rfl
@[simp] theorem NP {i:Ex}:evV σ ρ (.sub e i)=(evV σ ρ e).bind λv=>(evV σ ρ i).bind λj=>y3 σ v j:=rfl
@[simp] theorem S8 {k:BF}:evV σ ρ (.bf k es)=(nP σ ρ es).bind λvs=>AB σ k vs:=rfl
@[simp] theorem UN:nP σ ρ .nil=some []:=rfl
@[simp] theorem ir:nP σ ρ (.cons e es)=(evV σ ρ e).bind λv=>(nP σ ρ es).map λvs=>v::vs:=rfl
@[simp] theorem VP:evT σ ρ (.not a)=(evT σ ρ a).map λb=>!b:=rfl
@[simp] theorem NQ:evT σ ρ (.and a b)=(evT σ ρ a).bind λt=>if t then evT σ ρ b else some false:=rfl
@[simp] theorem WB:evT σ ρ (.or a b)=(evT σ ρ a).bind λt=>if t then some true else evT σ ρ b:=rfl
@[simp] theorem nq {op:Cop}:evT σ ρ (.c op a b)=(evV σ ρ a).bind λU=>(evV σ ρ b).bind λZ=>dI σ op U Z:=rfl
@[simp] theorem uY {x:Nat}:evT σ ρ (.l x)=(ρ x).bind λv=>AA σ v:=rfl
@[simp] theorem TJ:vInt (.int i)=some i:=rfl
@[simp] theorem TC:kP .add (.int i) (.int j)=some (.int (i+j)):=rfl
@[simp] theorem T8:kP .sub (.int i) (.int j)=some (.int (i-j)):=rfl
@[simp] theorem T9:kP .mul (.int i) (.int j)=vf (i.natAbs<2^60\/j.natAbs<2^60) (.int (i*j)):=rfl
@[simp] theorem S9:kP .fdiv (.int i) (.int j)=vf (0<j/\j.natAbs<2^60) (.int (i/j)):=rfl
@[simp] theorem TA:kP .mod (.int i) (.int j)=vf (0<j) (.int (i%j)):=rfl
@[simp] theorem JF {l:Addr}:AB σ .len [.L l]=(σ.L l).map λxs=>.int xs.length:=rfl
@[simp] theorem UW:AB σ .min [.int i,.int j]=some (.int (min i j)):=rfl
@[simp] theorem UX:AB σ .max [.int i,.int j]=some (.int (max i j)):=rfl
@[simp] theorem UQ:dI σ .lt (.int i) (.int j)=some (decide (i<j)):=rfl
@[simp] theorem UR:dI σ .le (.int i) (.int j)=some (decide (i<=j)):=rfl
@[simp] theorem US:dI σ .gt (.int i) (.int j)=some (decide (j<i)):=rfl
@[simp] theorem UT:dI σ .ge (.int i) (.int j)=some (decide (j<=i)):=rfl
@[simp] theorem UU:dI σ .eq (.int i) (.int j)=some (decide (i=j)):=rfl
end
section
variable {x:Nat}{e:Ex}
variable {C:Cal}{σ:St}{ρ:Fr}
mutual
theorem iw:∀(e:Ex) {v:V} {Q:V->St->Prop},evV σ ρ e=some v->Q v σ->wpE C e ρ σ Q
 |.none=>λh q=>by cases (h:some _=some _);show q
 |.bool b=>λh q=>by cases (h:some _=some _);show q
 |.int b=>λh q=>by cases (h:some _=some _);show q
 |.str b=>λh q=>by cases (h:some _=some _);show q
 |.l x=>λh q=>#[_,h,q]
 |.b op a b=>λh q=>by
  have#[Z,e1,h]:=lq h;have#[U,e2,h]:=eh.mp h;show iw a e1 (iw b e2 (y5 h q))
 |.neg a=>λh q=>by
  have#[Z,e1,h]:=lq h;apply iw a e1 ?_;have#[i,e2,rfl]:=omap h;apply#[i,rk e2,q]
 |.not a=>λh q=>by
  have#[Z,e1,h]:=lq h;have#[b,e2,rfl]:=jh.mp h;show iw a e1 (kL _ e2 q)
 |.c op a b=>λh q=>by
  have#[Z,e1,h]:=lq h;have#[U,e2,h]:=eh.mp h;have#[r,e3,rfl]:=jh.mp h;show iw a e1 (iw b e2 (y4 e3 q))
 |.I c a b=>λh q=>by
  have#[t,e1,h]:=lq h;apply pz c e1 ?_;cases t with
  |true=>show xu (iw a h q)
  |false=>show ti (iw b h q)
 |.T es=>λh q=>by
  have#[vs,e1,h]:=lq h;have#[c,h]:=ifO h;cases h;show i8 es e1 #[c,q]
 |.attr e x=>λh q=>by
  have#[Z,e1,h]:=lq h;apply iw e e1 ?_;have#[a,O,h]:=lq h;have#[#[d,f],e2,h]:=lq h;apply#[a,d,f,_,B9 O,e2,h,q]
 |.sub e i=>λh q=>by
  have#[Z,e1,h]:=lq h;have#[U,e2,h]:=eh.mp h;show iw e e1 (iw i e2 (y2 h q))
 |.bf k es=>λh q=>by
  have#[vs,e1,h]:=lq h;show i8 es e1 (NS _ _ h q)
 |.and ..=>λh q=>nO h
 |.or ..=>λh q=>nO h
 |.L ..=>λh q=>nO h
 |.dct0=>λh q=>nO h
 |.call ..=>λh q=>nO h
 |.meth ..=>λh q=>nO h
 |.g ..=>λh q=>nO h
 |.h ..=>λh q=>nO h
 |.bm ..=>λh q=>nO h
 |.w ..=>λh q=>nO h
 |.slc ..=>λh q=>nO h
 |.K ..=>λh q=>nO h
 |.n ..=>λh q=>nO h
 |.N ..=>λh q=>nO h
 |.M ..=>λh q=>nO h
 |.dead=>λh q=>nO h
theorem i8:∀(es:Exs) {vs:List V} {Q:List V->St->Prop},nP σ ρ es=some vs->Q vs σ->vq C es ρ σ Q
 |.nil,vs,Q,h,q=>by cases (h:some _=some vs);show q
 |.cons e es,vs,Q,h,q=>by
  have#[v,e1,h]:=lq h;have Z:=jh.mp h;clear h;have#[us,e2,rfl]:=Z;show iw e e1 (i8 es e2 q)
theorem pz:∀(e:Ex) {b:Bool} {Q:Bool->St->Prop},evT σ ρ e=some b->Q b σ->wpT C e ρ σ Q
 |.not a=>λh q=>by
  have#[b,e2,rfl]:=omap h;show pz a e2 q
 |.and a b=>λh q=>by
  have#[t,e1,h]:=lq h;apply pz a e1 ?_;cases t with
  |true=>show xu (pz b h q)
  |false=>cases h;show ti q
 |.or a b=>λh q=>by
  have#[t,e1,h]:=lq h;apply pz a e1 ?_;cases t with
  |true=>cases h;show xu q
  |false=>show ti (pz b h q)
 |.c op a b=>λh q=>by
  have#[Z,e1,h]:=lq h;have#[U,e2,h]:=eh.mp h;show iw a e1 (iw b e2 (y4 h q))
 |.I c a b=>λh q=>by
  have#[t,e1,h]:=lq h;apply pz c e1 ?_;cases t with
  |true=>show xu (pz a h q)
  |false=>show ti (pz b h q)
 |.l x=>λh q=>by
  have#[u,e1,h]:=lq h;apply#[u,e1,kL _ h q]
 |.int i=>λh q=>by cases (h:some _=some _);show q
 |.bool i=>λh q=>by cases (h:some _=some _);show q
 |.attr e x=>λh q=>by
  have#[Z,e1,h]:=lq h;apply iw e e1 ?_;have#[a,O,h]:=lq h;have#[#[d,f],e2,h]:=lq h;have#[u,e3,h]:=lq h;apply#[a,d,f,u,B9 O,e2,e3,kL _ h q]
 |.sub e i=>λh q=>by
  have#[Z,e1,h]:=lq h;have#[U,e2,h]:=eh.mp h;have#[u,e3,h]:=eh.mp h;show iw e e1 (iw i e2 (y2 e3 (kL _ h q)))
 |.b op a b=>λh q=>by
  have#[Z,e1,h]:=lq h;have#[U,e2,h]:=eh.mp h;have#[u,e3,h]:=eh.mp h;show iw a e1 (iw b e2 (y5 e3 (kL _ h q)))
 |.none=>λh q=>nO h
 |.str ..=>λh q=>nO h
 |.neg ..=>λh q=>nO h
 |.T ..=>λh q=>nO h
 |.bf ..=>λh q=>nO h
 |.L ..=>λh q=>nO h
 |.dct0=>λh q=>nO h
 |.call ..=>λh q=>nO h
 |.meth ..=>λh q=>nO h
 |.g ..=>λh q=>nO h
 |.h ..=>λh q=>nO h
 |.bm ..=>λh q=>nO h
 |.w ..=>λh q=>nO h
 |.slc ..=>λh q=>nO h
 |.K ..=>λh q=>nO h
 |.n ..=>λh q=>nO h
 |.N ..=>λh q=>nO h
 |.M ..=>λh q=>nO h
 |.dead=>λh q=>nO h
end
variable {K:Fl->Fr->St->Prop}{ss:jo}
def nA (v:V)(h:evV σ ρ e=some v)(k:dk C ss (upd ρ x v) σ K):dk C (.cons (.a [.v x] e) ss) ρ σ K:=iw e h k
def tT {xs:List Nat}(vs:List V)(h:evV σ ρ e=some (.T vs))(l:xs.length=vs.length)(k:dk C ss (ez xs vs ρ) σ K):dk C (.cons (.a [.T xs] e) ss) ρ σ K:=
 iw e h #[vs,rfl,l,k]
def vR (h:wpE C e ρ σ λv σ=>dk C ss (upd ρ x v) σ K):dk C (.cons (.a [.v x] e) ss) ρ σ K:=h
def yU {es:Exs}(vs:List V)(h:nP σ ρ es=some vs)(l:vs.length<=bq)(k:∀c,σ.L c=none->dk C ss (upd ρ x (.L c)) (σ.cw c vs) K):dk C (.cons (.a [.v x] (.L es)) ss) ρ σ K:=
 i8 (Q:=λvs σ=>vs.length<=bq/\∀c,σ.L c=none->dk C ss (upd ρ x (.L c)) (σ.cw c vs) K) es h #[l,k]
def fY {c:Ex}{t e:jo}(b:Bool)(h:evT σ ρ c=some b)(k:if b then dk C t ρ σ (sM (λρ σ=>dk C ss ρ σ K) K) else dk C e ρ σ (sM (λρ σ=>dk C ss ρ σ K) K)):dk C (.cons (.C c t e) ss) ρ σ K:=pz c h k
def iT {a:Addr}{xs:List V}(v:V)(U:ρ x=some (.L a))(Z:σ.L a=some xs)(h:evV σ ρ e=some v)(l:xs.length<bq)(k:dk C ss ρ (σ.cw a (xs++[v])) K):dk C (.cons (.expr (.bm .append (.l x) %[e|0])) ss) ρ σ K:=by
 apply#[_,U,(show(σ.L a).isSome=true by rw[Z];rfl),?_];rw[ux];apply iw e h ?_;apply#[xs,Z,l,rfl,k]
def D7 (v:V)(h:evV σ ρ e=some v)(k:K (.ret v) ρ σ):dk C (.cons (.ret e) ss) ρ σ K:=iw (Q:=λv σ=>K (.ret v) ρ σ) e h k
def ow (k:K .next ρ σ):dk C .nil ρ σ K:=k
def qe {H:Fr->St->Prop}(k:H ρ σ):dk C .nil ρ σ (sM H K):=k
def mL (k:dk C ss ρ σ K):dk C (.cons .pass ss) ρ σ K:=k
def yV {c:Ex}{t e:jo}(p:Prop)[Decidable p](h:evT σ ρ c=some (decide p))(Z:p->dk C t ρ σ (sM (λρ σ=>dk C ss ρ σ K) K))(k2:¬p->dk C e ρ σ (sM (λρ σ=>dk C ss ρ σ K) K)):dk C (.cons (.C c t e) ss) ρ σ K:=by
 apply fY _ h ?_;by_cases q:p
 ·rw[dp q,bx rfl];show Z q
 ·rw[iq q,ay (by simp)];show k2 q
end
end MP
end
section
namespace MP
namespace SM
open PySem
variable {σ:St}{la lb u:V}{db sj:Addr}{as bs ks:List Key}{ρ:Fr}{alo ahi blo bhi n i j k:Nat}{Q:V->St->Prop}{C:Cal}
structure MAt (σ:St)(x:Addr)(la lb:V)(db sj:Addr)(as bs:List Key)(rm:Key->Bool)(js:List Key):Prop where
 I:∃d f,σ.I x=some (d,f)/\f 1=some la/\f 2=some lb/\f 7=some (.dct db)/\f 8=some (.set sj)
 La:zl σ la=some (as.map Key.v)
 Lb:zl σ lb=some (bs.map Key.v)
 D:TabAt σ db bs rm
 S:σ.S sj=some js
def MAt.keep {σ':St}{x:Addr}{rm:Key->Bool}{js:List Key}(h:MAt σ x la lb db sj as bs rm js)(k:Kp σ σ'):MAt σ' x la lb db sj as bs rm js:=
 #[by rw[k.I];show h.I,uy k.L h.La,uy k.L h.Lb,h.D.keep k,by rw[k.S];show h.S]
abbrev Row (as bs:List Key)(rm:Key->Bool)(alo blo bhi i:Nat)(es:List (Key×V)):Prop:=∀j:Nat,j<bhi->(es.lookup (.int ((j:Int)-1))).getD (.int 0)=.int (el as bs rm alo blo i j:Nat)
structure FF (ρ:Fr)(la lb:V)(db sj:Addr)(alo ahi blo bhi:Nat):Prop where
 r1:ρ 1=some (.int alo)
 r2:ρ 2=some (.int ahi)
 r3:ρ 3=some (.int blo)
 r4:ρ 4=some (.int bhi)
 r5:ρ 5=some la
 r6:ρ 6=some lb
 r7:ρ 7=some (.dct db)
 r8:ρ 8=some (.j9 sj)
def FF.up {v:V}(h:FF ρ la lb db sj alo ahi blo bhi)(Z:9<=n):FF (upd ρ n v) la lb db sj alo ahi blo bhi:=
 have k:∀m,Nat.blt m 9=true->upd ρ n v m=ρ m:=λm U=>cv (gm (gf (bc U) Z))
 #[(k 1 rfl).trans h.r1,(k 2 rfl).trans h.r2,(k 3 rfl).trans h.r3,(k 4 rfl).trans h.r4,(k 5 rfl).trans h.r5,(k 6 rfl).trans h.r6,(k 7 rfl).trans h.r7,(k 8 rfl).trans h.r8]
structure FB (ρ:Fr)(i j k:Nat):Prop where
 r9:ρ 9=some (.int i)
 r10:ρ 10=some (.int j)
 r11:ρ 11=some (.int k)
def FB.up {v:V}(h:FB ρ i j k)(Z:12<=n):FB (upd ρ n v) i j k:=
 have k:∀m,Nat.blt m 12=true->upd ρ n v m=ρ m:=λm U=>cv (gm (gf (bc U) Z))
 #[(k 9 rfl).trans h.r9,(k 10 rfl).trans h.r10,(k 11 rfl).trans h.r11]
def hY {a b:Nat}{v:V}(h:(ry a b)[i]?=some v):a+i<b/\v=.int ((a+i:Nat):Int):=by
 unfold ry at h;rw[cu]at h;by_cases hi:i<((b:Int)-a).toNat
 ·rw[List.getElem?_range hi]at h;simp at h;apply#[by show(Ar.ton _).elim (λZ=>(fc .L .b .Y (.ie (.t .D) (.s .R .L)) hi Z.2)) λZ=>(fc .L .d .Y .aS hi Z.2),by rw[<- h];rfl]
 ·rw[oh (by simpa using hi)]at h;cases h
def eD {a b:Nat}:(ry a b).length=b-a:=by simp[ry]
def uG:ee n (i:Int)=i:=by unfold ee;rw[ay (jf (.ig .L .O) .f)]
def iB {Q:V->Prop}{x d:Addr}{f:Nat->Option V}(Z:ρ i=some (.obj x))(O:σ.I x=some (d,f))(U:f j=some u)(q:Q u):∃v,ρ i=some v/\∃x d f u,v=V.obj x/\σ.I x=some (d,f)/\f j=some u/\Q u:=#[_,Z,x,d,f,u,rfl,O,U,q]
def uO {i:Int}{c:Key}{Q:V->Prop}(U:zl σ u=some (ks.map Key.v))(hz:ks.length<=bq)(hi:i=n)(Z:ks[n]?=some c)(q:Q c.v):sJ u (.int i) σ Q:=by
 subst hi;have hk:(ks.map Key.v)[n]?=some c.v:=by rw[cu,Z];rfl
 have J:n<ks.length:=(bw.mp Z).1;cases u with
 |L a=>refine#[_,_,U,by rw[uG];(show jf (.ik .O .L) .f),by rw[uG,ke];show hk,q]
 |_=>cases U
def RQ (Z:zl σ u=some (ks.map Key.v))(hz:ks.length<=bq)(q:Q (.int ks.length) σ):FK u σ Q:=by
 have e:∀{xs:List V} {n:Nat},xs.length=n->xs=ks.map Key.v->n<=bq/\Q (.int n) σ:=λ{xs n} h e=>by
  have:n=ks.length:=by rw[<- h,e,av]
  rw[this];apply#[hz,q]
 cases u with
 |L a=>refine#[_,Z,(e rfl rfl).2]
 |_=>cases Z
def u0 {x:Nat}{i:Ex}{c:Key}{Q:V->St->Prop}(Z:ρ x=some u)(O:evV σ ρ i=some (.int n))(J:zl σ u=some (ks.map Key.v))(hz:ks.length<=bq)(U:ks[n]?=some c)(q:Q c.v σ):wpE C (.sub (.l x) i) ρ σ Q:=
 #[u,Z,iw (Q:=λj σ=>sJ u j σ λr=>Q r σ) i O (uO J hz rfl U q)]
def IL {e:Ex}(Z:∀Q:V->St->Prop,Q u σ->wpE C e ρ σ Q)(U:zl σ u=some (ks.map Key.v))(hz:ks.length<=bq)(q:Q (.int ks.length) σ):wpE C (.bf .len %[e|0]) ρ σ Q:=
 Z (λv σ=>vq C .nil ρ σ λvs σ=>D8 .len (v::vs) σ Q) (show FK u σ Q from RQ U hz q)
def IK {x:Nat}(Z:ρ x=some u)(U:zl σ u=some (ks.map Key.v))(hz:ks.length<=bq)(q:Q (.int ks.length) σ):wpE C (.bf .len %[.l x|0]) ρ σ Q:=
 IL (λ_ q=>#[u,Z,q]) U hz q
def PK {C:Cal}{js:List Key}{K:Fl->Fr->St->Prop}{c:Ex}{ok:Key->Bool}
  (bb:zl σ la=some (as.map Key.v)) (ar:zl σ lb=some (bs.map Key.v)) (ha:∀k∈as,uc k) (hb:∀k∈bs,uc k) (ao:as.length<=bq) (ai:bs.length<=bq)
  (hc:∀(ρ:Fr) (j:Nat) (b:Key) (Q:Bool->St->Prop),FF ρ la lb db sj alo ahi blo bhi->ρ 10=some (.int ((j+1:Nat):Int))->bs[j]?=some b->Q (ok b) σ->wpT C c ρ σ Q)
  (hi:i<=as.length) (hj:j<=bs.length)
  (h:∀ρ,FF ρ la lb db sj alo ahi blo bhi->FB ρ (eI as bs ok alo blo i j k).1 (eI as bs ok alo blo i j k).2.1 (eI as bs ok alo blo i j k).2.2->K .next ρ σ) (F:FF ρ la lb db sj alo ahi blo bhi) (B:FB ρ i j k) :
  wpS C (.loop (.and (.c .gt (.l 9) (.l 1)) (.and (.c .gt (.l 10) (.l 3)) (.and c (.c .eq (.sub (.l 5) (.b .sub (.l 9) (.int 1))) (.sub (.l 6) (.b .sub (.l 10) (.int 1))))))) %[.a [.T [9,10,11]] (.T %[.b .sub (.l 9) (.int 1),.b .sub (.l 10) (.int 1),.b .add (.l 11) (.int 1)|0])|0]) ρ σ K:=by
 apply#[i+1,hU (λn ρ' σ'=>σ'=σ/\FF ρ' la lb db sj alo ahi blo bhi/\∃i' j' k',n=i'/\FB ρ' i' j' k'/\i'<=as.length/\j'<=bs.length/\eI as bs ok alo blo i' j' k'=eI as bs ok alo blo i j k) ?_ (i+1) i (jf (.l .A .L) .f) #[rfl,F,i,j,k,rfl,B,hi,hj,rfl]];rintro n ρ' σ' ⟨rfl,J,i',j',k',rfl,O,ab,aa,e⟩ again ag;apply#[_,O.r9,_,J.r1,?_];show(if decide ((alo:Int)<n)=true then _ else _);by_cases c1:alo<n
 ·rw[bx (by simpa using c1)];apply#[_,O.r10,_,J.r3,?_];show(if decide ((blo:Int)<j')=true then _ else _);by_cases c2:blo<j'
  ·rw[bx (by simpa using c2)];have#[U,rfl]:∃U,n=U+1:=#[n-1,by show bt .a9 .i .bI (ae (bt .D .a .W c1))];have#[Z,rfl]:∃Z,j'=Z+1:=#[j'-1,by show bt .a9 .i .bI (ae (bt .D .a .W c2))];have ea:as[U]?=some as[U]:=di (bt .B .a .H ab);have eb:bs[Z]?=some bs[Z]:=di (bt .B .a .H aa);apply hc _ Z bs[Z] _ J O.r10 eb ?_;cases hok:ok bs[Z] with
   |false =>
    show K .next ρ' σ'
    have:eI as bs ok alo blo (U+1) (Z+1) k'=(U+1,Z+1,k'):=by
     rw[eH];rw[ay];rintro ⟨_,_,h3⟩;have#[c,_,h4,h5]:=xv.mp h3;rw[eb]at h4;cases h4;rw[hok]at h5;cases h5
    rw[this]at e;show h _ J (by rw[<- e];show O)
   |true =>
    rw[bx rfl];have dn:∀{x m:Nat},ρ' x=some (.int (m+1:Nat))->evV σ' ρ' (.b .sub (.l x) (.int 1))=some (.int m):=λ{x m} r=>by
     rw[tc,fx,r];show some (V.int (((m+1:Nat):Int)-1))=_
     congr 2;(show jf .bJ .n)
    apply u0 (C:=C) J.r5 (dn O.r9) bb ao ea ?_;apply u0 (C:=C) J.r6 (dn O.r10) ar ai eb ?_;apply sL (ha _ (jj _)) (hb _ (jj _)) ?_;by_cases q:as[U]=bs[Z]
    ·rw[dp q];apply xu ?_;apply#[_,O.r9,_,O.r10,_,O.r11,bc rfl,_,rfl,rfl,?_];apply ag U _ _ (jf (.l .A .L) .f) #[rfl,?_,U,Z,k'+1,rfl,?_,by show bt .A .a .H ab,by show bt .A .a .H aa,?_]
     ·show((J.up (kY (.k (.n 9) (.n 9)) .f)).up (kY (.k (.n 9) (.n 10)) .f)).up (kY (.k (.n 9) (.n 11)) .f)
     ·apply#[?_,?_,?_]
      ·show some (V.int (((U+1:Nat):Int)-1))=_
       congr 2;(show jf .bJ .n)
      ·show some (V.int (((Z+1:Nat):Int)-1))=_
       congr 2;(show jf .bJ .n)
      ·rfl
     ·rw[<- e]
      conv=>rhs;rw[eH]
      rw[bx #[c1,c2,xv.mpr #[as[U],ea,by rw[q];show eb,by rw[q];simp[hok]]]]
    ·rw[iq q];show K .next ρ' σ'
     have:eI as bs ok alo blo (U+1) (Z+1) k'=(U+1,Z+1,k'):=by
      rw[eH];rw[ay];rintro ⟨_,_,h3⟩;have#[c,h4,h5,_]:=xv.mp h3;rw[ea]at h4;rw[eb]at h5;clear ag;cases h4;show q (ak h5).symm
     rw[this]at e;show h _ J (by rw[<- e];show O)
  ·rw[ay (by simpa using c2)];show K .next ρ' σ'
   have:eI as bs ok alo blo n j' k'=(n,j',k'):=by
    cases n with
    |zero=>rfl
    |succ n =>
     cases j' with
     |zero=>rfl
     |succ j'=>rw[eH];rw[ay (λh=>c2 h.2.1)]
   rw[this]at e;show h _ J (by rw[<- e];show O)
 ·rw[ay (by simpa using c1)];show K .next ρ' σ'
  have:eI as bs ok alo blo n j' k'=(n,j',k'):=by
   cases n with
   |zero=>rfl
   |succ n =>
    cases j' with
    |zero=>rfl
    |succ j'=>rw[eH];rw[ay (λh=>c1 h.1)]
  rw[this]at e;show h _ J (by rw[<- e];show O)
def PJ {C:Cal}{js:List Key}{K:Fl->Fr->St->Prop}{c:Ex}{ok:Key->Bool}{body:Stm}
  (U:body=.aug 11 .add (.int 1)\/body=.a [(.v 11)] (.b .add (.l 11) (.int 1)))
  (bb:zl σ la=some (as.map Key.v)) (ar:zl σ lb=some (bs.map Key.v)) (ha:∀k∈as,uc k) (hb:∀k∈bs,uc k) (ai:ahi<=as.length) (ag:bhi<=bs.length) (ab:as.length<=bq) (aa:bs.length<=bq)
  (hc:∀(ρ:Fr) (j k:Nat) (b:Key) (Q:Bool->St->Prop),FF ρ la lb db sj alo ahi blo bhi->ρ 10=some (.int j)->ρ 11=some (.int k)->bs[j+k]?=some b->Q (ok b) σ->wpT C c ρ σ Q)
  
  (h:∀ρ,FF ρ la lb db sj alo ahi blo bhi->FB ρ i j (kK as bs ok ahi bhi (ahi-i) i j k)->K .next ρ σ) (F:FF ρ la lb db sj alo ahi blo bhi) (B:FB ρ i j k) :
  wpS C (.loop (.and (.c .lt (.b .add (.l 9) (.l 11)) (.l 2)) (.and (.c .lt (.b .add (.l 10) (.l 11)) (.l 4)) (.and c (.c .eq (.sub (.l 5) (.b .add (.l 9) (.l 11))) (.sub (.l 6) (.b .add (.l 10) (.l 11))))))) %[body|0]) ρ σ K:=by
 have more:∀n m k,ahi-(i+k)<=n->n<=m->kK as bs ok ahi bhi n i j k=kK as bs ok ahi bhi m i j k:=by
  intro n;induction n with
  |zero =>
   intro m k h1 h2;cases m with
   |zero=>rfl
   |succ m =>
    show k=_;rw[yk];rw[ay (λq1=>(mq .ff [[0,1,1,-1]] (.k .A .O) (.l .Q .D) (.e .aL .D) h1 q1.1 (ae (ek .K .a .L q1.1))))]
  |succ n ih =>
   intro m k h1 h2;have#[m,rfl]:∃m',m=m'+1:=#[m-1,by show bt .a9 .i .bI (ae (bt .D .a (.k .M .A) h2))];rw[yk,yk];split
   ·show ih _ _ (by(rename_i z1;show sG .A .q .bH (.e (.a .C .a0) .G) (.e (.a .A (.a .D .a1)) .G) h1 (ae (ek .K .a .L z1.1)) (ae (ek .T .a .L z1.1)))) (bt .A .a .aK h2)
   ·rfl
 apply#[ahi+1,hU (λn ρ' σ'=>σ'=σ/\FF ρ' la lb db sj alo ahi blo bhi/\∃k',n=ahi-(i+k')/\FB ρ' i j k'/\kK as bs ok ahi bhi (ahi-i) i j k'=kK as bs ok ahi bhi (ahi-i) i j k) ?_ (ahi+1) (ahi-(i+k)) (bt .a7 .a .A (nz _ _)) #[rfl,F,k,rfl,B,rfl]];rintro n ρ' σ' ⟨rfl,J,k',rfl,Z,e⟩ again ao;have stop:kK as bs ok ahi bhi (ahi-i) i j k'=k'->K .next ρ' σ':=λq=>by
  rw[q]at e;show h _ J (by rw[<- e];show Z)
 apply#[_,Z.r9,_,Z.r11,_,J.r2,?_];show(if decide (((i:Int)+k')<ahi)=true then _ else _);by_cases c1:i+k'<ahi
 ·rw[bx (by simp;(show ek (.il (.a .L .M) .R) .a .L c1))];apply#[_,Z.r10,_,Z.r11,_,J.r4,?_];show(if decide (((j:Int)+k')<bhi)=true then _ else _);by_cases c2:j+k'<bhi
  ·rw[bx (by simp;(show ek (.il (.a .L .M) .R) .a .L c2))];have ea:as[i+k']?=some as[i+k']:=di (fc .L .b .bL (.l .P .D) ai c1);have eb:bs[j+k']?=some bs[j+k']:=di (fc .L .b .bL (.l .P .D) ag c2);apply hc _ j k' bs[j+k'] _ J Z.r10 Z.r11 eb ?_;cases hok:ok bs[j+k'] with
   |false =>
    apply stop ?_;have#[m,hm]:∃m,ahi-i=m+1:=#[ahi-i-1,by show bt .a9 .i .bI (ae (fc .D .c (.l .Q .D) (.e .P .D) c1 (ae (ek .A .a (.l .T .B) c1))))];rw[hm];rw[yk];rw[ay];rintro ⟨_,_,h3⟩;have#[c,_,h4,h5]:=xv.mp h3;rw[eb]at h4;cases h4;rw[hok]at h5;cases h5
   |true =>
    rw[bx rfl];have up:∀{x m:Nat},ρ' x=some (.int m)->evV σ' ρ' (.b .add (.l x) (.l 11))=some (.int (m+k':Nat)):=λ{x m} r=>by
     rw[tc,fx,fx,r,Z.r11];rfl
    apply u0 (C:=C) J.r5 (up Z.r9) bb ab ea ?_;apply u0 (C:=C) J.r6 (up Z.r10) ar aa eb ?_;apply sL (ha _ (jj _)) (hb _ (jj _)) ?_;by_cases q:as[i+k']=bs[j+k']
    ·rw[dp q];apply xu ?_;have go:again (upd ρ' 11 (.int ((k':Int)+1))) σ':=by
      apply ao (ahi-(i+(k'+1))) _ _ (kW .B .c (.e (.a .A (.a .C .V)) .F) (.e (.a .B .S) .F) (ae (ek .T .a .L c1)) (ae (ek .K .a .L c1))) #[rfl,J.up (kY (.k (.n 9) (.n 11)) .f),k'+1,rfl,#[Z.r9,Z.r10,rfl],?_];rw[<- e];have#[m,hm]:∃m,ahi-i=m+1:=#[ahi-i-1,by show bt .a9 .i .bI (ae (fc .D .c (.l .Q .D) (.e .P .D) c1 (ae (ek .A .a (.l .T .B) c1))))];rw[hm]
      conv=>rhs;rw[yk]
      rw[bx #[c1,c2,xv.mpr #[as[i+k'],ea,by rw[q];show eb,by rw[q];simp[hok]]]];show(more _ _ _ (sG .A .q (.e .C .M) .b5 (.e (.a .A (.a .D .aJ)) .F) hm (ae (ek .A .a (.l .T .B) c1)) (ae (ek .T .a .L c1))) (jf (.k .A .L) .f)).symm
     rcases U with rfl|rfl
     ·apply#[_,Z.r11,go]
     ·apply#[_,Z.r11,go]
    ·rw[iq q];apply stop ?_;have#[m,hm]:∃m,ahi-i=m+1:=#[ahi-i-1,by show bt .a9 .i .bI (ae (fc .D .c (.l .Q .D) (.e .P .D) c1 (ae (ek .A .a (.l .T .B) c1))))];rw[hm];rw[yk];rw[ay];rintro ⟨_,_,h3⟩;have#[c,h4,h5,_]:=xv.mp h3;rw[ea]at h4;rw[eb]at h5;cases h4;show q (ak h5).symm
  ·rw[ay (by simp;(show ek (.ik .L (.a .M .R)) .a (.g .Q .A) c2))];apply stop ?_;cases ahi-i with
   |zero=>rfl
   |succ n=>rw[yk];rw[ay (λh=>c2 h.2.1)]
 ·rw[ay (by simp;(show ek (.ik .L (.a .M .R)) .a (.g .Q .A) c1))];apply stop ?_;cases ahi-i with
  |zero=>rfl
  |succ n=>rw[yk];rw[ay (λh=>c1 h.1)]
end SM
end MP
end
section
namespace MP
namespace SM
set_option genInjectivity false
set_option genSizeOf false
open PySem
variable {as bs:List Key}{rm:Key->Bool}{alo blo bhi i n:Nat}{ps:List Nat}{es:List (Key×V)}{ρ:Fr}{σ:St}{C:Cal}{K:Fl->Fr->St->Prop}
abbrev iU (as bs:List Key)(rm:Key->Bool)(alo blo bhi i:Nat)(ps:List Nat)(es:List (Key×V)):Prop:=∀j:Nat,j<bhi->(es.lookup (.int ((j:Int)-1))).getD (.int 0)=.int (if 0<j/\j-1∈ps then el as bs rm alo blo (i+1) j else 0:Nat)
def iU.row (h:iU as bs rm alo blo bhi i ps es)(U:∀j,j<bhi->hit as bs rm i j=true->j∈ps):Row as bs rm alo blo bhi (i+1) es:=by
 intro j Z;rw[h j Z];split
 ·rfl
 ·rename_i c
  congr 2
  cases j with
  |zero=>rfl
  |succ j =>
   rw[v8];rw[ay];rintro ⟨_,_,q⟩;show c #[by show jf (.l .O .L) .f,U j (bt .B .a .a1 Z) q]
def iU.put (h:iU as bs rm alo blo bhi i ps es)(j:Nat):iU as bs rm alo blo bhi i (ps++[j]) (putD es (.int j) (.int (el as bs rm alo blo (i+1) (j+1):Nat))):=by
 intro j' J;rw[zY];by_cases c:j'=j+1
 ·subst c;rw[bx (by congr 1;(show jf .bJ .n)),bx #[by show jf (.l .O .L) .f,by simp]];rfl
 ·rw[ay (λq=>c (by injection q;(show bt .a9 .k (.ie (.s .L .U) .M) i_eq))),h j' J]
  congr 2
  by_cases c1:0<j'/\j'-1∈ps
  ·rw[bx c1,bx #[c1.1,gq _ c1.2]]
  ·rw[ay c1,ay];rintro ⟨c2,c3⟩;rcases dj.mp c3 with c3|c3
   ·show c1 #[c2,c3]
   ·simp at c3;(show(ba c).elim (λZ=>(mi .ff [[0,-1,1,1]] .C .X (.l .C .M) c3 (ae (ef .D .a .F c2)) Z)) λZ=>(mi .ff [[0,1,-1,1]] .C .X (.l .M .C) c3 (ae (ef .D .a .F c2)) Z))
def iU.skip (h:iU as bs rm alo blo bhi i ps es)(j:Nat)(O:j<blo):iU as bs rm alo blo bhi i (ps++[j]) es:=by
 intro j' Z;rw[h j' Z]
 congr 2
 by_cases c1:0<j'/\j'-1∈ps
 ·rw[bx c1,bx #[c1.1,gq _ c1.2]]
 ·rw[ay c1];by_cases c2:0<j'/\j'-1∈ps++[j]
  ·rw[bx c2];have#[c3,c4]:=c2;rcases dj.mp c4 with c4|c4
   ·show absurd #[c3,c4] c1
   ·have#[j1,rfl]:∃j1,j'=j1+1:=#[j'-1,by show bt .a9 .i .bI (ae (ef .D .a .F c3))];simp at c4;rw[v8];rw[ay (λU=>(mi .ff .h .B .cA .cB O c4 U.2.1))]
  ·rw[ay c2]
abbrev t4:jo:=(.cons (.C (.c .lt (.l 17) (.l 3)) (.cons .cont
 .nil) .nil)
 (.cons (.C (.c .ge (.l 17) (.l 4)) (.cons .brk
 .nil) .nil)
 (.cons (.a [(.v 18),(.sub (.l 16) (.l 17))] (.b .add (.w 15 %[.b .sub (.l 17) (.int 1),.int 0|0]) (.int 1)))
 (.cons (.C (.c .gt (.l 18) (.l 11)) (.cons (.a [.T [9,10,11]] (.T %[.b .add (.b .sub (.l 14) (.l 18)) (.int 1),.b .add (.b .sub (.l 17) (.l 18)) (.int 1),.l 18|0]))
 .nil) .nil)
 .nil))))
abbrev sR:Stm:=.each (.v 17) (.seq (.bm .get (.l 7) %[.sub (.l 5) (.l 14),.l 13|0])) t4
structure Fc where
 σ₀:St
 la:V
 lb:V
 db:Addr
 sj:Addr
 nl:Addr
 as:List Key
 bs:List Key
 rm:Key->Bool
 alo:Nat
 ahi:Nat
 blo:Nat
 bhi:Nat
public abbrev Fc.F (c:Fc)(ρ:Fr):Prop:=FF ρ c.la c.lb c.db c.sj c.alo c.ahi c.blo c.bhi
public abbrev Fc.S (c:Fc)(seen:Nat->Nat->Prop)(i j k:Nat):Prop:=Scan c.as c.bs c.rm c.alo c.ahi c.blo c.bhi seen i j k
public abbrev Fc.e (c:Fc)(i j:Nat):Nat:=el c.as c.bs c.rm c.alo c.blo i j
public abbrev Fc.R (c:Fc)(i:Nat)(es:List (Key×V)):Prop:=Row c.as c.bs c.rm c.alo c.blo c.bhi i es
public abbrev Fc.h (c:Fc)(i j:Nat):Bool:=hit c.as c.bs c.rm i j
structure Fk (c:Fc):Prop where
 La:zl c.σ₀ c.la=some (c.as.map Key.v)
 T:TabAt c.σ₀ c.db c.bs c.rm
 n:c.σ₀.L c.nl=some []
 s:c.bs.length<bq
 sa:c.as.length<=bq
 bl:c.bhi<=c.bs.length
 al:c.ahi<=c.as.length
structure Sc where
 c:Fc
 i:Nat
 cd:Addr
 nd:Addr
 es:List (Key×V)
 ps:List Nat
structure Sk (s:Sc):Prop where
 ai:s.c.alo<=s.i
 ia:s.i<s.c.ahi
 row:s.c.R s.i s.es
 ne:s.cd≠s.nd
 no:s.c.σ₀.D s.nd=none
 mem:∀j,j∈s.ps↔s.c.h s.i j=true
 lt:s.ps.Pairwise (·<·)
 pl:s.ps.length<=s.c.bs.length
abbrev Sc.seen (s:Sc)(t:Nat):Nat->Nat->Prop:=λi' j'=>(i'<s.i/\j'<s.c.bhi)\/(i'=s.i/\j'∈s.ps.take t)
inductive InI (s:Sc)(t:Nat)(ρ:Fr)(σ:St):Prop
 |mk (bi bj bk:Nat) (es:List (Key×V)) (lim:∀j,j∈s.ps.take t->j<s.c.bhi) (len:es.length<=t) (k:Kp s.c.σ₀ σ) (F:s.c.F ρ) (B:FB ρ bi bj bk) (cd:σ.D s.cd=some s.es) (nd:σ.D s.nd=some es)
  (r13:ρ 13=some (.L s.c.nl)) (r14:ρ 14=some (.int s.i)) (r15:ρ 15=some (.iL s.cd)) (r16:ρ 16=some (.dct s.nd)) (row:iU s.c.as s.c.bs s.c.rm s.c.alo s.c.blo s.c.bhi s.i (s.ps.take t) es) (sc:s.c.S (s.seen t) bi bj bk):InI s t ρ σ
inductive vP (s:Sc)(ρ:Fr)(σ:St):Prop
 |mk (bi bj bk:Nat) (es:List (Key×V)) (k:Kp s.c.σ₀ σ) (F:s.c.F ρ) (B:FB ρ bi bj bk) (r13:ρ 13=some (.L s.c.nl)) (r16:ρ 16=some (.dct s.nd)) (nd:σ.D s.nd=some es) (row:s.c.R (s.i+1) es)
  (sc:s.c.S (λi' j'=>(i'<s.i/\j'<s.c.bhi)\/(i'=s.i/\j'<s.c.bhi/\s.c.h s.i j'=true)) bi bj bk):vP s ρ σ
structure fV (ps:List Nat)(t j:Nat):Prop where
 th:ps.take (t+1)=ps.take t++[j]
 lt:∀m,m∈ps.take t->m<j
 of:∀m,m∈ps->m<j->m∈ps.take t
 mem:j∈ps
def LK (lt:ps.Pairwise (·<·)){t j:Nat}(e:ps[t]?=some j):fV ps t j:=by
 have#[Z,rfl]:=bw.mp e;apply#[fe Z,λm J=>?_,λm J hl=>?_,jj _]
 ·have#[a,ha,rfl]:=List.getElem_of_mem J;have hb:a<t:=by
   have:=ha;rw[gu]at this
   (show fk .B .b .I .G this (Ar.kx _ _).1)
  rw[j3];show(uv.mp lt) a t (fk .B .b .O .I Z hb) Z hb
 ·have#[a,ha,rfl]:=List.getElem_of_mem J;have:a<t:=by
   apply Nat.lt_of_not_le λq=>?_;rcases Nat.eq_or_lt_of_le q with q|q
   ·subst q;show absurd hl (gp _)
   ·have:=(uv.mp lt) t a Z ha q
    (show gz .ff .d .B .W hl this)
  show List.mem_take_iff_getElem.mpr #[a,by show(Ar.kx _ _).2.2.elim (λU=>(fk .B .b .I .G this U)) λU=>(mq .B .e .N .I .cJ Z this U),rfl]
def InI.fin {s:Sc}{t:Nat}(k:Sk s)(I:InI s t ρ σ)(Z:∀j,j<s.c.bhi->j∈s.ps->j∈s.ps.take t):vP s ρ σ:=by
 cases I;apply .mk bi bj bk es k_1 F B r13 r16 nd (row.row λj J hh=>Z j J ((k.mem j).mpr hh)) (sc.skip ?_ ?_)
 ·rintro i' j' (q|⟨q,U⟩)
  ·show .inl q
  ·show .inr #[q,lim _ U,(k.mem _).mp (List.mem_of_mem_take U)]
 ·rintro i' j' (q|⟨q,U,O⟩)
  ·show .inl (.inl q)
  ·show .inl (.inr #[q,Z _ U ((k.mem _).mpr O)])
section
variable {s:Sc}{t j bi bj bk:Nat}
def lP (T:fV s.ps t j){i' j':Nat}(q:s.seen (t+1) i' j'):s.seen t i' j'\/(i'=s.i/\j'=j):=by
 rcases q with q|⟨q,Z⟩
 ·show .inl (.inl q)
 ·rw[T.th]at Z;rcases dj.mp Z with Z|Z
  ·show .inl (.inr #[q,Z])
  ·show .inr #[q,au.mp Z]
def sQ (T:fV s.ps t j){i' j':Nat}(q:s.seen t i' j'):s.seen (t+1) i' j':=q.imp_right λq=>#[q.1,by rw[T.th];show gq _ q.2]
def xO (T:fV s.ps t j)(Z:∀j,j∈s.ps.take t->j<s.c.bhi)(O:j<s.c.bhi):∀j,j∈s.ps.take (t+1)->j<s.c.bhi:=by
 rw[T.th];intro j' U;rcases dj.mp U with q|q
 ·show Z _ q
 ·rw[au.mp q];show O
def MK (T:fV s.ps t j)(U:j<s.c.blo)(sc:s.c.S (s.seen t) bi bj bk):s.c.S (s.seen (t+1)) bi bj bk:=by
 apply sc.skip (λi' j'=>sQ T) λi' j' q=>?_;rcases lP T q with q|⟨rfl,rfl⟩
 ·show .inl q
 ·apply .inr (.inl ?_);rw[v8];rw[ay (λZ=>(gz .ff .d .B .V U Z.2.1))]
def ML (k:Sk s)(T:fV s.ps t j)(sc:s.c.S (s.seen t) bi bj bk)(h:s.c.e (s.i+1) (j+1)<=bk):s.c.S (s.seen (t+1)) bi bj bk:=by
 apply sc.skip (λi' j'=>sQ T) λi' j' q=>?_;rcases lP T q with q|⟨rfl,rfl⟩
 ·show .inl q
 ·apply .inr ?_;have#[h1,h2,hr]:=v9 (as:=s.c.as) (bs:=s.c.bs) (rm:=s.c.rm) (alo:=s.c.alo) (blo:=s.c.blo) (i:=s.i+1) (j:=j'+1);rcases pj (s.c.e (s.i+1) (j'+1)) bk with c4|c4
  ·show .inr (.inl c4)
  ·have J:s.c.e (s.i+1) (j'+1)=bk:=Nat.le_antisymm h c4;by_cases h0:s.c.e (s.i+1) (j'+1)=0
   ·show .inl h0
   ·apply .inr (.inr #[J,?_]);have h1:s.c.e (s.i+1) (j'+1)<=s.i+1:=h1;have h2:s.c.e (s.i+1) (j'+1)<=j'+1:=h2;have R':=sc.run;have e1:=R'.ia;have e2:=R'.jb;rcases sc.at_ ((ba h0).elim (λq1=>(bt .F .o (.l .B .O) q1)) λq1=>(gz .F .b .bK .Z J q1)) with q|⟨q,q'⟩
    ·left;(rename_i z2 z1;show my .B .q .N (.e .a4 .V) (.k .aI .R) q.1 (ae (fk .U .c .bH .cA z2 J)) (Ar.G5 _ _))
    ·right
     have:=T.lt _ q'
     (rename_i z2 z1;show#[(Ar.sub _ _ (λq1 p1=>(my .C [[1,-1,1,1],[1,1,-1,-1]] .aV (.e .a4 .V) (.e .R .aI) q (ae (fk .U .c .bH .cA z2 J)) p1)) λq1 p1=>((ba h0).elim (λq2=>(my .C [[0,0,0,1],[1,-1,1,0]] (.e .Q .V) (.k .T .U) (.l .F .O) (ae (fk .U .c .bH .cA z2 J)) q1 q2)) λq2=>(SI .C [[1,1,-1,1,0,1,1],[1,0,0,-1,1,0,0]] .aV (.e .F .G) (.e .aF .aJ) (.k .Y .U) .aT .aU J q (ae (fk .U .c .bH .cA z2 J)) q1 p1 q2))),(my .A .q .N (.e .a4 .V) (.k .aI .R) this (ae (fk .U .c .bH .cA z1 J)) (Ar.G5 _ _))])
def MJ (k:Sk s)(T:fV s.ps t j)(Z:j<s.c.bhi)(sc:s.c.S (s.seen t) bi bj bk)(h:bk<s.c.e (s.i+1) (j+1)):s.c.S (s.seen (t+1)) (s.i+1-s.c.e (s.i+1) (j+1)) (j+1-s.c.e (s.i+1) (j+1)) (s.c.e (s.i+1) (j+1)):=
 sc.take k.ia Z h (.inr #[rfl,by rw[T.th];show gc _ (.head _)]) λi' j' q=>(lP T q).imp_right .inl
def InI.skip (T:fV s.ps t j)(Z:j<s.c.blo)(hb:s.c.blo<=s.c.bhi)(I:InI s t ρ σ):InI s (t+1) (upd ρ 17 (.int j)) σ:=by
 cases I;show .mk bi bj bk es (xO T lim (gf Z hb)) (pk len) k (F.up (by decide)) (B.up (by decide)) cd nd r13 r14 r15 r16 (by rw[T.th];show row.skip j Z) (MK T Z sc)
end
def NI {s:Sc}(ok:Fk s.c)(k:Sk s){t j:Nat}(e:s.ps[t]?=some j)(hb:s.c.blo<=s.c.bhi)(I:InI s t ρ σ){kk:Fr->St->Prop}(hk:∀ρ' σ',InI s (t+1) ρ' σ'->kk ρ' σ')(hf:∀ρ' σ',vP s ρ' σ'->K .next ρ' σ') :
  dk C t4 (upd ρ 17 (.int j)) σ (yt kk K):=by
 have T:=LK k.lt e;have ht:t<s.ps.length:=(bw.mp e).1;have I0:=I;cases I;have F1:s.c.F (upd ρ 17 (.int (j:Int))):=F.up (by decide);have B1:FB (upd ρ 17 (.int (j:Int))) bi bj bk:=B.up (by decide);apply#[.int j,rfl,.int s.c.blo,F1.r3,?_];show(if decide ((j:Int)<s.c.blo)=true then _ else _);by_cases c1:j<s.c.blo
 ·rw[bx (by simpa using c1)];show hk _ _ (I0.skip T c1 hb)
 rw[ay (by simpa using c1)];apply#[.int j,rfl,.int s.c.bhi,F1.r4,?_];show(if decide ((s.c.bhi:Int)<=j)=true then _ else _);by_cases c2:s.c.bhi<=j
 ·rw[bx (by simpa using c2)];show hf _ _ (InI.fin k (t:=t) (.mk bi bj bk es lim len k_1 F1 B1 cd nd r13 r14 r15 r16 row sc) λj' h1 h2=>T.of j' h2 (gf h1 c2))
 rw[ay (by simpa using c2)];have c2:=Nat.lt_of_not_le c2;apply#[.iL s.cd,r15,.int j,rfl,s.es,.int ((j:Int)-1),cd,rfl,?_];rw[k.row j c2];have pl:=k.pl;have sl:=ok.s;apply#[.dct s.nd,r16,.int j,rfl,es,.int j,nd,rfl,by show K9 .B .s .N .J .c9 (.l .F .B) ht len pl sl,?_];have be:s.c.e (s.i+1) (j+1)=s.c.e s.i j+1:=by
  rw[show s.c.e (s.i+1) (j+1)=_ from v8,bx #[k.ai,zv c1,(k.mem j).mp T.mem]]
 have bl:(V.int (((s.c.e s.i j:Nat):Int)+1))=.int ((s.c.e (s.i+1) (j+1):Nat):Int):=by
  rw[be];rfl
 show dk C _ (upd (upd ρ 17 (.int (j:Int))) 18 (V.int (((s.c.e s.i j:Nat):Int)+1))) (σ.qj s.nd (putD es (.int j) (V.int (((s.c.e s.i j:Nat):Int)+1)))) _;rw[bl];have ar:iU s.c.as s.c.bs s.c.rm s.c.alo s.c.blo s.c.bhi s.i (s.ps.take (t+1)) (putD es (.int j) (.int (s.c.e (s.i+1) (j+1):Nat))):=by
  rw[T.th];show row.put j
 have Z:(putD es (.int j) (.int (s.c.e (s.i+1) (j+1):Nat))).length<=t+1:=fm HX (Nat.succ_le_succ len);have#[ab,aa,_]:=v9 (as:=s.c.as) (bs:=s.c.bs) (rm:=s.c.rm) (alo:=s.c.alo) (blo:=s.c.blo) (i:=s.i+1) (j:=j+1);have tk:=λh=>MJ k T c2 sc h;have sm:=λh=>ML k T sc h;have ab:s.c.e (s.i+1) (j+1)<=s.i+1:=ab;have aa:s.c.e (s.i+1) (j+1)<=j+1:=aa;generalize s.c.e (s.i+1) (j+1)=E at ar Z tk sm ab aa;have F2:s.c.F (upd (upd ρ 17 (.int (j:Int))) 18 (.int (E:Int))):=F1.up (by decide);have B2:FB (upd (upd ρ 17 (.int (j:Int))) 18 (.int (E:Int))) bi bj bk:=B1.up (by decide);have k2:Kp s.c.σ₀ (σ.qj s.nd (putD es (.int j) (.int (E:Int)))):=k_1.qj k.no;have bb:(σ.qj s.nd (putD es (.int j) (.int (E:Int)))).D s.cd=some s.es:=(cv k.ne).trans cd;have ao:(σ.qj s.nd (putD es (.int j) (.int (E:Int)))).D s.nd=some (putD es (.int j) (.int (E:Int))):=br _ _ _;have r14:upd (upd ρ 17 (.int (j:Int))) 18 (.int (E:Int)) 14=some (.int s.i):=r14;have r16:upd (upd ρ 17 (.int (j:Int))) 18 (.int (E:Int)) 16=some (.dct s.nd):=r16;have r15:upd (upd ρ 17 (.int (j:Int))) 18 (.int (E:Int)) 15=some (.iL s.cd):=r15;have r13:upd (upd ρ 17 (.int (j:Int))) 18 (.int (E:Int)) 13=some (.L s.c.nl):=r13;have bd:upd (upd ρ 17 (.int (j:Int))) 18 (.int (E:Int)) 17=some (.int j):=rfl;have O:upd (upd ρ 17 (.int (j:Int))) 18 (.int (E:Int)) 18=some (.int E):=rfl;generalize upd (upd ρ 17 (.int (j:Int))) 18 (.int (E:Int))=bn at F2 B2 r13 r14 r15 r16 bd O;generalize σ.qj s.nd (putD es (.int j) (.int (E:Int)))=σ2 at k2 bb ao;apply#[.int E,O,.int bk,B2.r11,?_];show(if decide ((bk:Int)<E)=true then _ else _);have ag:=xO T lim c2;by_cases c3:bk<E
 ·rw[bx (by simpa using c3)];apply#[.int s.i,r14,.int E,O,.int j,bd,.int E,O,.int E,O,bc rfl,_,rfl,rfl,?_];apply hk _ _ (.mk (s.i+1-E) (j+1-E) E _ ag Z k2 (((F2.up (by decide)).up (by decide)).up (by decide)) #[?_,?_,rfl] bb ao r13 r14 r15 r16 ar (tk c3))
  ·show some (V.int ((s.i:Int)-E+1))=_
   congr 2;(show ek (.ie (.a .S .U) .R) .i (.e .a7 .L) (ae (bt .U .a .U ab)))
  ·show some (V.int ((j:Int)-E+1))=_
   congr 2;(show ek (.ie (.a .S .U) .R) .i (.e .a7 .L) (ae (bt .U .a .U aa)))
 ·rw[ay (by simpa using c3)];show hk _ _ (.mk bi bj bk _ ag Z k2 F2 B2 bb ao r13 r14 r15 r16 ar (sm (zv c3)))
def zE {c:Fc}(ok:Fk c){bi bj bk:Nat}{cd nd:Addr}(ai:c.alo<=i)(O:i<c.ahi)(hb:c.blo<=c.bhi)(k0:Kp c.σ₀ σ)(F:c.F ρ)(B:FB ρ bi bj bk)
  (aa:ρ 13=some (.L c.nl)) (J:ρ 14=some (.int i)) (ar:ρ 15=some (.iL cd)) (ao:ρ 16=some (.dct nd)) (hcd:σ.D cd=some es) (U:c.R i es) (ag:σ.D nd=some []) (ab:cd≠nd) (bb:c.σ₀.D nd=none)
  (sc:c.S (λi' j'=>i'<i/\j'<c.bhi) bi bj bk) (h:∀ρ' σ' ps,vP #[c,i,cd,nd,es,ps] ρ' σ'->K .next ρ' σ'):wpS C sR ρ σ K:=by
 have al:=ok.al;have ea:c.as[i]?=some c.as[i]:=di (fk .B .b .I .G O al);have#[tb,l,hD,hg,hc]:=ok.T.get ok.n c.as[i];generalize Z:(if c.rm c.as[i] then [] else posOf c.as[i] c.bs)=ps at hc;have sk:Sk #[c,i,cd,nd,es,ps]:=by
  apply#[ai,O,U,ab,bb,λj=>?_,?_,?_]
  ·show j∈ps↔hit c.as c.bs c.rm i j=true;rw[xv,<- Z];cases hr:c.rm c.as[i] with
   |true =>
    rw[bx rfl];apply#[(λq=>nomatch q),?_];rintro ⟨a,e1,_,e3⟩;have rfl:=ak (ea.symm.trans e1);rw[hr]at e3;cases e3
   |false =>
    rw[ay (by decide),sS];apply#[λq=>#[_,ea,q,hr],?_];rintro ⟨a,e1,e2,e3⟩;have rfl:=ak (ea.symm.trans e1);show e2
  ·show ps.Pairwise (·<·);rw[<- Z];split
   ·show .nil
   ·show HY
  ·show ps.length<=c.bs.length;rw[<- Z];split
   ·show bh _
   ·show DZ
 apply#[.dct c.db,F.r7,(show(σ.D c.db).isSome=true by rw[k0.D _ _ hD];rfl),c.la,F.r5,.int i,J,?_];apply uO (uy k0.L ok.La) ok.sa rfl ea ?_;apply#[.L c.nl,aa,tb,c.as[i],k0.D _ _ hD,xS _,?_];rw[hg];apply#[_,k0.L _ _ hc,?_];apply si (InI #[c,i,cd,nd,es,ps]) ?_ ?_ ?_
 ·intro t v ρ' σ' hv I;rw[cu]at hv;have#[j,e,rfl]:=jh.mp hv;cases I;apply#[k.L _ _ hc,λkk hk=>NI ok sk e hb (.mk bi_1 bj_1 bk_1 es_1 lim len k F_1 B_1 cd_1 nd_1 r13 r14 r15 r16 row sc_1) hk λρ' σ'=>h ρ' σ' ps]
 ·intro ρ' σ' I;rw[av]at I;have I0:=I;cases I;apply#[k.L _ _ hc,h _ _ _ (I0.fin sk λj _ q=>by show j∈ps.take ps.length;rw[lj];show q)]
 ·apply .mk bi bj bk [] (λj hj=>nomatch hj) (az _) k0 F B hcd ag aa J ar ao ?_ (sc.skip (λi' j' q=>.inl q) λi' j' q=>?_)
  ·intro j hj;rw[ay (by simp)];rfl
  ·rcases q with q|⟨_,q⟩
   ·show .inl q
   ·show nomatch q
def uW {as bs:List Key}{ok:Key->Bool}{alo blo:Nat}:∀{i j k:Nat},(eI as bs ok alo blo i j k).1<=i/\(eI as bs ok alo blo i j k).2.1<=j
 |0,j,k=>#[az _,az _]
 |i+1,0,k=>#[az _,az _]
 |i+1,j+1,k=>by
  rw[eH];split
  ·have:=uW (as:=as) (bs:=bs) (ok:=ok) (alo:=alo) (blo:=blo) (i:=i) (j:=j) (k:=k+1)
   (show#[(bt .U .a .A this.1),(bt .U .a .A this.2)])
  ·apply#[az _,az _]
abbrev MQ:jo:=(.cons (.a [(.v 15)] (.g (.l 12)))
 (.cons (.a [(.v 16)] .dct0)
 (.cons sR
 (.cons (.a [(.v 12)] (.l 16))
 .nil))))
inductive OI (c:Fc)(t:Nat)(ρ:Fr)(σ:St):Prop
 |mk (bi bj bk:Nat) (cd:Addr) (es:List (Key×V)) (k:Kp c.σ₀ σ) (F:c.F ρ) (r13:ρ 13=some (.L c.nl)) (B:FB ρ bi bj bk) (r12:ρ 12=some (.dct cd)) (hcd:σ.D cd=some es) (row:c.R (c.alo+t) es) (sc:c.S (λi' j'=>i'<c.alo+t/\j'<c.bhi) bi bj bk):OI c t ρ σ
def I2 {c:Fc}(ok:Fk c){t:Nat}{kk:Fr->St->Prop}(ht:c.alo+t<c.ahi)(hb:c.blo<=c.bhi)(I:OI c t ρ σ)(hk:∀ρ' σ',OI c (t+1) ρ' σ'->kk ρ' σ') :
  dk C MQ (upd ρ 14 (.int ((c.alo+t:Nat):Int))) σ (yt kk K):=by
 cases I;apply#[_,r12,cd,rfl,by rw[hcd];rfl,λnd Z=>?_];have U:cd≠nd:=λq=>by rw[q,Z]at hcd;cases hcd
 apply zE ok (cd:=cd) (nd:=nd) (rf _ _) ht hb (k.qj (k.noD Z)) (((F.up (by decide)).up (by decide)).up (by decide)) (((B.up (by decide)).up (by decide)).up (by decide)) r13 rfl rfl rfl ((cv U).trans hcd) row (br _ _ _) U (k.noD Z) sc λJ σ2 ps E=>?_;cases E;apply#[_,r16,?_];apply hk _ _ (.mk bi_1 bj_1 bk_1 nd es_1 k_1 (F_1.up (by decide)) r13_1 (B_1.up (by decide)) rfl nd_1 row_1 (sc_1.skip (λi' j' q=>?_) λi' j' q=>?_))
 ·rcases q with q|q
  ·apply#[Nat.lt_succ_of_lt q.1,q.2]
  ·apply#[Nat.lt_succ_of_le (Nat.le_of_eq q.1),q.2.1]
 ·by_cases e:i'<c.alo+t
  ·show .inl (.inl #[e,q.2])
  ·have:i'=c.alo+t:=by have:=q.1;(show fk .a5 .g (.l .A .aG) (.g .A .Q) q.1 e)
   subst this;by_cases O:c.h (c.alo+t) j'=true
   ·show .inl (.inr #[rfl,q.2,O])
   ·apply .inr (.inl ?_);rw[v8];rw[ay (λq=>O q.2.2)]
def U5 (h:n<bq):n<2^40:=yq h (by decide)
def Q2 {m:Nat}(h:n<=m)(Z:m<bq):(n:Int).natAbs<2^40:=Nat.lt_of_le_of_lt h (U5 Z)
def flm {P:Nat->Option Fn}(hP:P 5=some fn5){σ:St}{x:Addr}{la lb:V}{db sj:Addr}{as bs:List Key}{js:List Key}{Q:V->St->Prop}{alo ahi blo:Nat}{U Z:V}
  (hM:MAt σ x la lb db sj as bs rm js) (ha:∀k∈as,uc k) (hb:∀k∈bs,uc k) (hs:bs.length<bq) (ao:as.length<bq)
  (ca:U=.int ahi\/(U=.none/\ahi=as.length)) (bv:Z=.int bhi\/(Z=.none/\bhi=bs.length))
  (cl:alo<=ahi) (ck:blo<=bhi) (ag:ahi<=as.length) (ar:bhi<=bs.length)
  (h:∀σ' i j k,Kp σ σ'->B6 as bs rm alo ahi blo bhi i j k->(let g:=grow as bs (λc=>decide (c∈js)) alo ahi blo bhi i j k;Q (mtV (g.1,g.2.1,g.2.2)) σ')):fq P (n+1) 5 [.obj x,.int alo,U,.int blo,Z] σ Q:=by
 apply#[fn5,hP,bc rfl,bc rfl,?_];have#[d,f,hI,f1,f2,f7,f8]:=hM.I;have h0:frameOf fn5 [.obj x,.int alo,U,.int blo,Z] 0=some (.obj x):=rfl;have h1:frameOf fn5 [.obj x,.int alo,U,.int blo,Z] 1=some (.int alo):=rfl;have h2:frameOf fn5 [.obj x,.int alo,U,.int blo,Z] 2=some U:=rfl;have h3:frameOf fn5 [.obj x,.int alo,U,.int blo,Z] 3=some (.int blo):=rfl;have h4:frameOf fn5 [.obj x,.int alo,U,.int blo,Z] 4=some Z:=rfl;generalize frameOf fn5 [.obj x,.int alo,U,.int blo,Z]=ρ at h0 h1 h2 h3 h4;apply iB h0 hI f1 ?_;apply iB h0 hI f2 ?_;apply iB h0 hI f7 ?_;apply iB h0 hI f8 ?_;apply#[sj,rfl,by rw[hM.S];rfl,bc rfl,?_];apply#[_,rfl,rfl,?_];have df:∀(ρ:Fr) (K:Fl->Fr->St->Prop),ρ 2=some U->ρ 5=some la->(∀ρ',(∀m,m≠2->ρ' m=ρ m)->ρ' 2=some (.int ahi)->K .next ρ' σ) ->
   wpS (fq P n) (.C (.c .is (.l 2) .none) %[.a [(.v 2)] (.bf .len %[.l 5|0])|0] .nil) ρ σ K:=by
  intro ρ K e2 e5 hk;apply#[_,e2,?_];rcases ca with rfl|⟨rfl,rfl⟩
  ·show hk ρ (λ_ _=>rfl) e2
  ·apply IK (C:=fq P n) e5 hM.La (iy ao) ?_;show hk _ (λm hm=>cv hm) (br _ _ _)
 have dc:∀(ρ:Fr) (K:Fl->Fr->St->Prop),ρ 4=some Z->ρ 6=some lb->(∀ρ',(∀m,m≠4->ρ' m=ρ m)->ρ' 4=some (.int bhi)->K .next ρ' σ) ->
   wpS (fq P n) (.C (.c .is (.l 4) .none) %[.a [(.v 4)] (.bf .len %[.l 6|0])|0] .nil) ρ σ K:=by
  intro ρ K e2 e5 hk;apply#[_,e2,?_];rcases bv with rfl|⟨rfl,rfl⟩
  ·show hk ρ (λ_ _=>rfl) e2
  ·apply IK (C:=fq P n) e5 hM.Lb (iy hs) ?_;show hk _ (λm hm=>cv hm) (br _ _ _)
 apply df _ _ h2 rfl λdr s1 dn=>?_;apply dc _ _ (by rw[s1 4 (by decide)];show h4) (by rw[s1 6 (by decide)];rfl) λcp s2 dm=>?_;have F0:FF cp la lb db sj alo ahi blo bhi:=by
  apply#[?_,?_,?_,dm,?_,?_,?_,?_]<;>rw[s2 _ (by decide)]
  ·rw[s1 _ (by decide)];show h1
  ·show dn
  ·rw[s1 _ (by decide)];show h3
  ·rw[s1 _ (by decide)];rfl
  ·rw[s1 _ (by decide)];rfl
  ·rw[s1 _ (by decide)];rfl
  ·rw[s1 _ (by decide)];rfl
 apply#[_,F0.r1,_,F0.r3,bc rfl,_,rfl,rfl,?_];apply λd0 da=>?_;apply#[bc rfl,λnl ct=>?_];apply#[_,F0.r1,_,F0.r2,(alo:Int),(ahi:Int),rfl,rfl,Q2 (fm cl ag) ao,Q2 ag ao,?_];generalize aa:((σ.qj d0 []).cw nl [])=σ₀;have k0:Kp σ σ₀:=by
  rw[<- aa];show((Kp.refl σ).qj da).cw (by show ct)
 have bb:=hM.keep k0;have cx:σ₀.L nl=some []:=by rw[<- aa];show br _ _ _
 have cn:σ₀.D d0=some []:=by rw[<- aa];show br _ _ _
 have ok:Fk #[σ₀,la,lb,db,sj,nl,as,bs,rm,alo,ahi,blo,bhi]:=#[bb.La,bb.D,cx,hs,iy ao,ar,ag];apply si (OI #[σ₀,la,lb,db,sj,nl,as,bs,rm,alo,ahi,blo,bhi]) ?_ ?_ ?_
 ·intro t v ρ' σ' hv I;have#[ht,rfl]:=hY hv;apply#[trivial,λk hk=>I2 ok ht ck I hk]
 ·intro ρ' σ' I;have#[bi,bj,bk,cd,es,kk,F,dv,B,dx,dy,cc,cb]:=I;rw[eD]at cc cb;have best:B6 as bs rm alo ahi blo bhi bi bj bk:=cb.best λi' j' h1 h2 h3 h4 h5=>#[by show fc (.l .A .Q) .c (.l .A .D) (.e .a7 .D) h2 (ae (fk .A .b .J .O h1 h2)),h4];apply#[trivial,?_];have be:=uy kk.L bb.La;have ai:=uy kk.L bb.Lb;have zs:=iy hs;have bd:=iy ao;have hS:σ'.S sj=some js:=by rw[kk.S];show bb.S
  have bl:∀(ρ:Fr) (e:Ex) (j:Nat) (b:Key) (Q:Bool->St->Prop),ρ 8=some (.j9 sj)->bs[j]?=some b->(∀Q:V->St->Prop,Q (.int j) σ'->wpE (fq P n) e ρ σ' Q)->ρ 6=some lb->Q (!decide (b∈js)) σ'->wpT (fq P n) (.not (.w 8 %[.sub (.l 6) e|0])) ρ σ' Q:=λρ e j b Q r8 eb he r6 q=>by
   apply#[_,r8,_,r6,he _ ?_];show uO ai zs rfl eb #[js,b,hS,xS _,q]
  have bu:∀(ρ:Fr) (e:Ex) (j:Nat) (b:Key) (Q:Bool->St->Prop),ρ 8=some (.j9 sj)->bs[j]?=some b->(∀Q:V->St->Prop,Q (.int j) σ'->wpE (fq P n) e ρ σ' Q)->ρ 6=some lb->Q (decide (b∈js)) σ'->wpT (fq P n) (.w 8 %[.sub (.l 6) e|0]) ρ σ' Q:=λρ e j b Q r8 eb he r6 q=>by
   apply#[_,r8,_,r6,he _ ?_];show uO ai zs rfl eb #[js,b,hS,xS _,q]
  have left:∀(ρ:Fr) (j:Nat),ρ 10=some (.int ((j+1:Nat):Int))->∀Q:V->St->Prop,Q (.int j) σ'->wpE (fq P n) (.b .sub (.l 10) (.int 1)) ρ σ' Q:=λρ j r Q q=>by
   apply#[_,r,?_];have e:((j+1:Nat):Int)-1=(j:Int):=by(show jf .bJ .n)
   show Q (.int _) σ';rw[e];show q
  have right:∀(ρ:Fr) (j k:Nat),ρ 10=some (.int (j:Int))->ρ 11=some (.int (k:Int))->∀Q:V->St->Prop,Q (.int ((j+k:Nat):Int)) σ'->wpE (fq P n) (.b .add (.l 10) (.l 11)) ρ σ' Q:=λρ j k r r' Q q=>#[_,r,_,r',q];have R:=best.run;have:=R.ia;have:=R.jb;apply PK (σ:=σ') (js:=js) (ok:=λc=>!decide (c∈js)) be ai ha hb bd zs (λρ j b Q F ab eb q=>bl ρ _ j b Q F.r8 eb (left ρ j ab) F.r6 q) (i:=bi) (j:=bj) (k:=bk) (by(rename_i z1;show fc .A .b .G (.k .Y .C) ag z1)) (fc .A .b .G (.k .Y .C) ar this) (λρ F B=>?_) F B;apply PJ (σ:=σ') (js:=js) (ok:=λc=>!decide (c∈js)) (.inl rfl) be ai ha hb ag ar bd zs (λρ j k b Q F ab bn eb q=>bl ρ _ (j+k) b Q F.r8 eb (right ρ j k ab bn) F.r6 q) (λρ F B=>?_) F B;apply PK (σ:=σ') (js:=js) (ok:=λc=>decide (c∈js)) be ai ha hb bd zs (λρ j b Q F ab eb q=>bu ρ _ j b Q F.r8 eb (left ρ j ab) F.r6 q) ?_ ?_ (λρ F B=>?_) F B
  ·have:=uW (as:=as) (bs:=bs) (ok:=λc=>!decide (c∈js)) (alo:=alo) (blo:=blo) (i:=bi) (j:=bj) (k:=bk)
   (rename_i z5 z4 z3 z2 z1;show my .A .e .G (.k .a0 .C) .aA ag z5 this.1)
  ·have:=uW (as:=as) (bs:=bs) (ok:=λc=>!decide (c∈js)) (alo:=alo) (blo:=blo) (i:=bi) (j:=bj) (k:=bk)
   (rename_i z4 z3 z2 z1;show my .A .e .G (.k .a0 .C) .aA ar z4 this.2)
  apply PJ (σ:=σ') (js:=js) (ok:=λc=>decide (c∈js)) (.inr rfl) be ai ha hb ag ar bd zs (λρ j k b Q F ab bn eb q=>bu ρ _ (j+k) b Q F.r8 eb (right ρ j k ab bn) F.r6 q) (λρ F B=>?_) F B;apply#[_,B.r9,_,B.r10,_,B.r11,?_];show h σ' bi bj bk (k0.trans kk) best
 ·apply .mk alo blo 0 d0 [] (Kp.refl _) (((F0.up (kY (.k (.n 9) (.n 9)) .f)).up (kY (.k (.n 9) (.n 10)) .f)).up (kY (.k (.n 9) (.n 11)) .f) |>.up (kY (.k (.n 9) (.n 12)) .f) |>.up (kY (.k (.n 9) (.n 13)) .f)) rfl #[rfl,rfl,rfl] rfl cn ?_ ?_
  ·intro j hj;rw[Nat.add_zero,JG];rfl
  ·apply(Scan.start cl ck).skip (λ_ _ q=>q.elim) λi' j' q=>.inr (.inl ?_);rw[v8];rw[ay (λq1=>(gz .ff .d (.l .A (.a .B .O)) .V q.1 q1.1))]
end SM
end MP
end
section
namespace MP
abbrev Flm (as bs:List Key)(rm js:Key->Bool)(alo ahi blo bhi:Nat)(t:Nat×Nat×Nat):Prop:=
 ∃i j k,B6 as bs rm alo ahi blo bhi i j k/\t=grow as bs js alo ahi blo bhi i j k
abbrev Within (alo ahi blo bhi:Nat)(t:Nat×Nat×Nat):Prop:=alo<=t.1/\t.1+t.2.2<=ahi/\blo<=t.2.1/\t.2.1+t.2.2<=bhi
section
variable {as bs:List Key}{ok rm js:Key->Bool}{alo ahi blo bhi:Nat}
def uX:∀{i j k:Nat},Within alo ahi blo bhi (i,j,k)->Within alo ahi blo bhi (eI as bs ok alo blo i j k)
 |0,j,k,h=>h
 |i+1,0,k,h=>h
 |i+1,j+1,k,h=>by
  rw[eH];split
  ·rename_i c;apply uX ?_;have#[J,U,O,Z]:alo<=i+1/\i+1+k<=ahi/\blo<=j+1/\j+1+k<=bhi:=h;show(show alo<=i/\i+(k+1)<=ahi/\blo<=j/\j+(k+1)<=bhi from#[by show bt .A .a .a7 c.1,by show ek .T .a .b1 U,by show bt .A .a .a7 c.2.1,by show ek .T .a .b1 Z])
  ·show h
def uV:∀{n i j k:Nat},Within alo ahi blo bhi (i,j,k)->Within alo ahi blo bhi (i,j,kK as bs ok ahi bhi n i j k)
 |0,i,j,k=>λh=>h
 |n+1,i,j,k=>λh=>by
  rw[yk];split
  ·rename_i c;apply uV ?_;have#[U,J,Z,O]:alo<=i/\i+k<=ahi/\blo<=j/\j+k<=bhi:=h;show(show alo<=i/\i+(k+1)<=ahi/\blo<=j/\j+(k+1)<=bhi from#[by show bt .A .a .A U,by show ek .T .a .L c.1,by show bt .A .a .A Z,by show ek .T .a .L c.2.1])
  ·show h
def Flm.within {t:Nat×Nat×Nat}(h:Flm as bs rm js alo ahi blo bhi t):Within alo ahi blo bhi t:=by
 have#[i,j,k,B,rfl]:=h;have R:=B.run;show uV (uX (uV (uX (show Within alo ahi blo bhi (i,j,k) from#[R.ai,R.ia,R.bj,R.jb]))))
def Flm.uniq {t Z:Nat×Nat×Nat}(h:Flm as bs rm js alo ahi blo bhi t)(h':Flm as bs rm js alo ahi blo bhi Z):t=Z:=by
 have#[i,j,k,B,rfl]:=h;have#[i',j',k',U,rfl]:=h';have#[rfl,rfl,rfl]:=B.uniq U;rfl
end
inductive mz (F:Nat->Nat->Nat->Nat->Nat×Nat×Nat->Prop):Nat->Nat->Nat->Nat->List (Nat×Nat×Nat)->Prop
 |nil {alo ahi blo bhi i j:Nat}:F alo ahi blo bhi (i,j,0)->mz F alo ahi blo bhi []
 |node {alo ahi blo bhi i j k:Nat} {L R:List (Nat×Nat×Nat)}:F alo ahi blo bhi (i,j,k)->0<k->(alo<i->blo<j->mz F alo i blo j L)->(¬(alo<i/\blo<j)->L=[]) ->
   (i+k<ahi->j+k<bhi->mz F (i+k) ahi (j+k) bhi R)->(¬(i+k<ahi/\j+k<bhi)->R=[])->mz F alo ahi blo bhi (L++(i,j,k)::R)
abbrev lB (t u:Nat×Nat×Nat):Prop:=t.1+t.2.2<=u.1/\t.2.1+t.2.2<=u.2.1
def mz.ok {F:Nat->Nat->Nat->Nat->Nat×Nat×Nat->Prop}(hF:∀a b c d t,F a b c d t->Within a b c d t){alo ahi blo bhi:Nat}{L:List (Nat×Nat×Nat)}(h:mz F alo ahi blo bhi L) :
  (∀t∈L,Within alo ahi blo bhi t/\0<t.2.2)/\L.Pairwise lB:=by
 induction h with
 |nil _=>refine#[λt h=>(by cases h),.nil]
 | @node alo ahi blo bhi i j k L R hf hk hL ab hR aa O U =>
  have W:=hF _ _ _ _ _ hf;unfold Within at W;simp only at W;have hl:(∀t∈L,Within alo i blo j t/\0<t.2.2)/\L.Pairwise lB:=by
   by_cases c:alo<i/\blo<j
   ·show O c.1 c.2
   ·rw[ab c];apply#[λt h=>(by cases h),.nil]
  have Z:(∀t∈R,Within (i+k) ahi (j+k) bhi t/\0<t.2.2)/\R.Pairwise lB:=by
   by_cases c:i+k<ahi/\j+k<bhi
   ·show U c.1 c.2
   ·rw[aa c];apply#[λt h=>(by cases h),.nil]
  apply#[λt ht=>?_,?_]
  ·rcases dj.mp ht with q|q
   ·have:=hl.1 t q;unfold Within at *
    (show#[#[(bt .A .a .A this.1.1),#[(kW .K .b (.k .a0 .C) (.k .P .D) W.2.1 this.1.2.1),#[(bt .A .a .A this.1.2.2.1),(kW .K .b (.k .a0 .C) (.k .P .D) W.2.2.2 this.1.2.2.2)]]],(ef .F .a .F this.2)])
   ·rcases cz.mp q with q|q
    ·subst q;unfold Within;simp only
     (show#[#[(bt .A .a .A W.1),#[(ek .K .a .K W.2.1),#[(bt .A .a .A W.2.2.1),(ek .K .a .K W.2.2.2)]]],(ef .F .a .F hk)])
    ·have:=Z.1 t q;unfold Within at *
     (show#[#[(fc .A .b .J .c8 W.1 this.1.1),#[(ek .K .a .K this.1.2.1),#[(fc .A .b .J .c8 W.2.2.1 this.1.2.2.1),(ek .K .a .K this.1.2.2.2)]]],(ef .F .a .F this.2)])
  ·rw[List.pairwise_append];apply#[hl.2,.cons (λu B=>?_) Z.2,λt ht u B=>?_]
   ·have:=Z.1 u B;unfold Within at this;unfold lB;simp only
    (show#[(ek .K .a .K this.1.1),(ek .K .a .K this.1.2.2.1)])
   ·have:=hl.1 t ht;unfold Within at this;unfold lB;rcases cz.mp B with q|q
    ·subst q;simp only
     (show#[(ek .K .a .K this.1.2.1),(ek .K .a .K this.1.2.2.2)])
    ·have:=Z.1 u q;unfold Within at this
     (rename_i z1;show#[(kW .K .b (.k .P .D) (.k .a0 .C) z1.1.2.1 this.1.1),(kW .K .b (.k .P .D) (.k .a0 .C) z1.1.2.2.2 this.1.2.2.1)])
def mG {alo ahi blo bhi:Nat}:∀{L:List (Nat×Nat×Nat)} {lo:Nat},(∀t∈L,Within alo ahi blo bhi t/\0<t.2.2)->L.Pairwise lB->(∀t∈L,lo<=t.1)->lo<=ahi->lo+L.length<=ahi
 | [],lo,_,_,_,h=>h
 |t::L,lo,J,U,hl,h=>by
  have O:=J t (.head _);have h2:=hl t (.head _);have#[ha,U]:=wu.mp U;have:=mG (lo:=lo+1) (λu Z=>J u (.tail _ Z)) U (λu Z=>by have:=(ha u Z).1;(show mq .H .e .aU .aA (.k .aD .B) O.2 h2 this)) (by have:=O.1.2.1;(show mq .H .e .aU .aA (.k .aD .B) O.2 h2 this));rw[kj];(show ek .T .a .b1 this)
def mz.uniq {F:Nat->Nat->Nat->Nat->Nat×Nat×Nat->Prop}(hF:∀a b c d t t',F a b c d t->F a b c d t'->t=t'){alo ahi blo bhi:Nat}{L L':List (Nat×Nat×Nat)}(h:mz F alo ahi blo bhi L)(h':mz F alo ahi blo bhi L'):L=L':=by
 induction h generalizing L' with
 |nil J =>
  cases h' with
  |nil _=>rfl
  |node Z hk _ _ _ _=>have:=hF _ _ _ _ _ _ J Z;cases this;show absurd hk (gp _)
 | @node alo ahi blo bhi i j k L R J hk hL ai hR ab aa B =>
  cases h' with
  |nil Z=>have:=hF _ _ _ _ _ _ J Z;cases this;show absurd hk (gp _)
  |node Z ar ao O ag U =>
   have:=hF _ _ _ _ _ _ J Z;clear Z;cases this
   congr 1
   ·by_cases c:alo<i/\blo<j
    ·show aa c.1 c.2 (ao c.1 c.2)
    ·rw[ai c,O c]
   ·congr 1
    by_cases c:i+k<ahi/\j+k<bhi
    ·show B c.1 c.2 (ag c.1 c.2)
    ·rw[ab c,U c]
abbrev mrg:Nat->Nat->Nat->List (Nat×Nat×Nat)->List (Nat×Nat×Nat)
 |i,j,k,[]=>if k=0 then [] else [(i,j,k)]
 |i,j,k,(i',j',k')::r=>if i+k=i'/\j+k=j' then mrg i j (k+k') r else if k=0 then mrg i' j' k' r else (i,j,k)::mrg i' j' k' r
namespace SM
open PySem
variable {σ2:St}{x nl:Addr}
def T3:=Nat×Nat×Nat
def T4:=Nat×Nat×Nat×Nat
abbrev zT (t:T3):Int×Int×Int:=(t.1,t.2.1,t.2.2)
abbrev mV (t:T3):V:=mtV (zT t)
abbrev tV (t:T3):V:=.T [.int t.1,.int t.2.1,.int t.2.2]
abbrev qV (r:T4):V:=.T [.int r.1,.int r.2.1,.int r.2.2.1,.int r.2.2.2]
def TM {L mb:List T3}(U:L.Perm mb)(Z:L.Pairwise lB)(hk:∀t∈L,0<t.2.2):((mb.map zT).mergeSort leT).map mtV=L.map mV:=by
 have e:(mb.map zT).mergeSort leT=L.map zT:=by
  apply List.Perm.eq_of_pairwise (le:=LeT) ?_ (iP _) ?_ ((List.mergeSort_perm _ _).trans (U.symm.map zT))
  ·show λa b _ _ B J=>LeT.VG B J
  ·rw[List.pairwise_map];apply List.Pairwise.imp_of_mem (λ{a b} O hb h=>?_) Z;have:=hk a O;unfold lB at h;unfold LeT zT;simp only
   (show .inl (fk (.il .L .M) .b .cN .aU h.1 this))
 rw[e,pn];rfl
abbrev qw (q:List T4):Nat:=(q.map λr=>2*(r.2.1-r.1)+1).sum
def nV {q:List T4}{r:T4}:qw (q++[r])=qw q+(2*(r.2.1-r.1)+1):=by simp[qw]
def HU {q:List T4}:q.length<=qw q:=by
 induction q with
 |nil=>show az _
 |cons r q Z =>
  unfold qw at *;simp only[kj,lr,List.sum_cons]
  (show ek (.k .L (.a .aV .C)) .a .J Z)
inductive vQ (F:Nat->Nat->Nat->Nat->T3->Prop):List T4->List (List T3)->Prop
 |nil:vQ F [] []
 |snoc {q:List T4} {Ls:List (List T3)} {r:T4} {L:List T3}:vQ F q Ls->mz F r.1 r.2.1 r.2.2.1 r.2.2.2 L->vQ F (q++[r]) (Ls++[L])
def vQ.inv {F:Nat->Nat->Nat->Nat->T3->Prop}{q:List T4}{r:T4}{Z:List (List T3)}(h:vQ F (q++[r]) Z):∃Ls L,Z=Ls++[L]/\vQ F q Ls/\mz F r.1 r.2.1 r.2.2.1 r.2.2.2 L:=by
 generalize e:q++[r]=q' at h;cases h with
 |nil=>show absurd (bz List.length e) (by simp)
 | @snoc B Ls J L O U =>
  have:=List.append_inj' e rfl;have#[rfl,e2]:=this;cases e2;apply#[Ls,L,rfl,O,U]
def TK {r:T4}{σ:St}:L9 (qV r) σ=some [.int r.1,.int r.2.1,.int r.2.2.1,.int r.2.2.2]:=rfl
def FT {t:T3}{σ:St}:L9 (mV t) σ=some [.int t.1,.int t.2.1,.int t.2.2]:=rfl
abbrev rx (p:Prop)[Decidable p](q:List T4)(r:T4):List T4:=if p then q++[r] else q
def zy {σ:St}{a:Addr}{xs:List V}(h:σ.L a=some xs):σ.cw a xs=σ:=by
 have:upd σ.L a xs=σ.L:=by
  funext z
  by_cases e:z=a
  ·rw[e,br,h]
  ·show cv e
 unfold St.cw;rw[this]
section
variable {σ:St}{ρ:Fr}{a b c e:Ex}{m n k l:Nat}
def eJ (Z:evV σ ρ a=some (.int m))(hb:evV σ ρ b=some (.int n)):evT σ ρ (.c .lt a b)=some (decide (m<n)):=by
 rw[nq,Z,hb];show bz some (qx.mpr Int.ofNat_lt)
def uZ (Z:evV σ ρ a=some (.int m))(hb:evV σ ρ b=some (.int n)):evT σ ρ (.c .eq a b)=some (decide (m=n)):=by
 rw[nq,Z,hb];show bz some (qx.mpr Int.ofNat_inj)
def oz (Z:evV σ ρ a=some (.int m))(hb:evV σ ρ b=some (.int n)):evV σ ρ (.b .add a b)=some (.int (m+n:Nat)):=by
 rw[tc,Z,hb];rfl
def kM {p q:Prop}[Decidable p][Decidable q](Z:evT σ ρ a=some (decide p))(hb:evT σ ρ b=some (decide q)):evT σ ρ (.and a b)=some (decide (p/\q)):=by
 rw[NQ,Z];by_cases h:p
 ·rw[dp h];show hb.trans (bz some (qx.mpr #[λx=>#[h,x],λx=>x.2]))
 ·rw[iq h];show bz some (iq λx=>h x.1).symm
def mA {x:Nat}(h:ρ x=some (.int k)):evT σ ρ (.l x)=some (decide (k≠0)):=by
 rw[uY,h];cases k<;>rfl
def ev3 (U:evV σ ρ a=some (.int m))(hb:evV σ ρ b=some (.int n))(Z:evV σ ρ c=some (.int k)):evV σ ρ (.T %[a,b,c|0])=some (tV (m,n,k)):=by
 rw[i9,ir,U,ir,hb,ir,Z];rfl
def ev4 (O:evV σ ρ a=some (.int m))(hb:evV σ ρ b=some (.int n))(U:evV σ ρ c=some (.int k))(Z:evV σ ρ e=some (.int l)):evV σ ρ (.T %[a,b,c,e|0])=some (qV (m,n,k,l)):=by
 rw[i9,ir,O,ir,hb,ir,U,ir,Z];rfl
variable {C:Cal}{K:Fl->Fr->St->Prop}{ss:jo}
def push {ql:Addr}{q:List T4}{p:Prop}[Decidable p](r:T4)(J:ρ 3=some (.L ql))(Z:σ.L ql=some (q.map qV))(hl:q.length<bq)(U:evT σ ρ c=some (decide p))(O:evV σ ρ e=some (qV r))(h:dk C ss ρ (σ.cw ql ((rx p q r).map qV)) K) :
  dk C (.cons (.C c %[.expr (.bm .append (.l 3) %[e|0])|0] .nil) ss) ρ σ K:=by
 unfold rx at h;apply yV p U (λy=>?_) λy=>?_
 ·rw[bx y,cm]at h;show iT (qV r) J Z O (by rw[av];show hl) (ow h)
 ·rw[ay y,zy Z]at h;show ow h
end
abbrev In4 (as bs:List Key)(r:T4):Prop:=r.1<=r.2.1/\r.2.2.1<=r.2.2.2/\r.2.1<=as.length/\r.2.2.2<=bs.length
section
variable {as bs:List Key}{F:Nat->Nat->Nat->Nat->T3->Prop}{q:List T4}{r:T4}{mb:List T3}{p:Prop}[Decidable p]
def CE (h:∀u∈q,In4 as bs u)(h':p->In4 as bs r):∀u∈rx p q r,In4 as bs u:=by
 unfold rx;split
 ·rename_i c;intro u Z;rcases dj.mp Z with Z|Z
  ·show h u Z
  ·rw[au.mp Z];show h' c
 ·show h
def uC:qw (rx p q r)<=qw q+(2*(r.2.1-r.1)+1):=by
 unfold rx;split
 ·rw[nV];show az _
 ·show rf _ _
def sU {O:List (List T3)}(o:vQ F (rx p q r) O):∃Z R,vQ F q Z/\O.flatten=Z.flatten++R/\(p->mz F r.1 r.2.1 r.2.2.1 r.2.2.2 R)/\(¬p->R=[]):=by
 unfold rx at o;split at o
 ·rename_i c;have#[U,R,rfl,J,bR]:=o.inv;apply#[U,R,J,by rw[List.flatten_append,List.flatten_cons,lH,cq],λ_=>bR,λq=>absurd c q]
 ·rename_i c;apply#[O,[],o,(cq _).symm,λc1=>absurd c1 c,λ_=>rfl]
abbrev nQ (F:Nat->Nat->Nat->Nat->T3->Prop)(na nb:Nat)(q:List T4)(mb:List T3):Prop:=∀Ls,vQ F q Ls->∃L,mz F 0 na 0 nb L/\L.Perm (mb++Ls.flatten)
variable {na nb alo ahi blo bhi i j k:Nat}
def nQ.drop (h:nQ F na nb (q++[(alo,ahi,blo,bhi)]) mb)(Z:F alo ahi blo bhi (i,j,0)):nQ F na nb q mb:=λU o=>by
 have#[L,b,p]:=h _ (.snoc o (.nil Z));apply#[L,b,by rwa [List.flatten_append,List.flatten_cons,lH,cq,cq]at p]
def nQ.part (h:nQ F na nb (q++[(alo,ahi,blo,bhi)]) mb)(hf:F alo ahi blo bhi (i,j,k))(hk:0<k) :
  nQ F na nb (rx (i+k<ahi/\j+k<bhi) (rx (alo<i/\blo<j) q (alo,i,blo,j)) (i+k,ahi,j+k,bhi)) (mb++[(i,j,k)]):=λLs o=>by
 have#[aa,R,B,e5,bR,U]:=sU o;have#[Z,L,o4,e4,bL,O]:=sU B;have#[M,bM,J]:=h _ (.snoc o4 (.node hf hk (λa b=>bL #[a,b]) O (λa b=>bR #[a,b]) U));apply#[M,bM,J.trans ?_];rw[e5,e4,List.flatten_append,List.flatten_cons,lH,cq,fh];apply List.Perm.append_left _ ?_;rw[<- fh,fh Z.flatten,<- fh Z.flatten];show List.perm_middle
def nQ.start:nQ F na nb [(0,na,0,nb)] []:=λO o=>by
 have U:=o.inv (q:=[]);clear o;have#[Z,L,rfl,o',b]:=U;have e:Z=[]:=by
  generalize e:([]:List T4)=q at o';cases o' with
  |nil=>rfl
  |snoc _ _=>show absurd (bz List.length e) (by simp)
 subst e;apply#[L,b,by simp]
end
structure QN (σ:St)(ql ml:Addr):Prop where
 ne:ql≠ml
 q:σ.L ql=none
 m:σ.L ml=none
structure QS (σ σ':St)(ql ml:Addr)(q:List T4)(mb:List T3):Prop where
 kp:Kp σ σ'
 q:σ'.L ql=some (q.map qV)
 m:σ'.L ml=some (mb.map mV)
section
variable {σ σ':St}{ql ml:Addr}{q:List T4}{mb:List T3}
def QS.TO (N:QN σ ql ml)(S:QS σ σ' ql ml q mb)(Z:List T4):QS σ (σ'.cw ql (Z.map qV)) ql ml Z mb:=#[S.kp.cw N.q,br _ _ _,(cv (wi N.ne)).trans S.m]
def QS.setM (N:QN σ ql ml)(S:QS σ σ' ql ml q mb)(Z:List T3):QS σ (σ'.cw ml (Z.map mV)) ql ml q Z:=#[S.kp.cw N.m,(cv N.ne).trans S.q,br _ _ _]
def QS.kept (S:QS σ σ' ql ml q mb)(k:Kp σ' σ2):QS σ σ2 ql ml q mb:=#[S.kp.trans k,k.L _ _ S.q,k.L _ _ S.m]
end
structure R6 (ρ:Fr)(x:Addr)(ql ml:Addr)(na nb:Nat):Prop where
 r0:ρ 0=some (.obj x)
 r1:ρ 1=some (.int na)
 r2:ρ 2=some (.int nb)
 r3:ρ 3=some (.L ql)
 r4:ρ 4=some (.L ml)
inductive OH (σ:St)(x ql ml:Addr)(as bs:List Key)(F:Nat->Nat->Nat->Nat->T3->Prop)(w:Nat)(ρ:Fr)(σ':St):Prop
 |mk (q:List T4) (mb:List T3):R6 ρ x ql ml as.length bs.length->w=qw q->QS σ σ' ql ml q mb->qw q+mb.length<=2*as.length+1->(∀r∈q,In4 as bs r)->nQ F as.length bs.length q mb->OH σ x ql ml as bs F w ρ σ'
def MN {Z w5 w0 i alo ahi k:Nat}(h2:w5<=w0+(2*(i-alo)+1))(h3:Z<=w5+(2*(ahi-(i+k))+1))(a:alo<=i)(b:i+k<=ahi)(hk:0<k):Z<w0+(2*(ahi-alo)+1):=by(show WL (.l .A (.a .B .aQ)) [[1,1,1,2,2,2,-2]] (.k .D (.a .B (.a (.m 2 .F) .U))) (.k .A (.a .D (.a (.m 2 .G) .U))) (.l .O .H) (.e (.a .F .I) .J) (.e (.a .G (.a .J .H)) .K) (.e (.a .C .I) .K) h2 h3 hk (ae (bt .A .a .A a)) (ae (ek .K .a .K b)) (ae (fc .A .b .J .c8 a b)))
def J5 {C:Cal}{σ σ':St}{ql ml:Addr}{as bs:List Key}{F:Nat->Nat->Nat->Nat->T3->Prop}{q:List T4}{mb:List T3}{ρ:Fr}{K:Fl->Fr->St->Prop}{alo ahi blo bhi i j k:Nat}(aa:as.length<400000)(N:QN σ ql ml)(H:R6 ρ x ql ml as.length bs.length)(S:QS σ σ' ql ml q mb)
  (r5:ρ 5=some (.int alo)) (r6:ρ 6=some (.int ahi)) (r7:ρ 7=some (.int blo)) (r8:ρ 8=some (.int bhi)) (r9:ρ 9=some (.int i)) (O:ρ 10=some (.int j)) (Z:ρ 11=some (.int k)) (ag:ρ 12=some (mV (i,j,k)))
  (W:Within alo ahi blo bhi (i,j,k)) (hr:In4 as bs (alo,ahi,blo,bhi)) (ai:∀r∈q,In4 as bs r) (hw:qw (q++[(alo,ahi,blo,bhi)])+mb.length<=2*as.length+1) (hk:0<k) (hf:F alo ahi blo bhi (i,j,k)) (ab:nQ F as.length bs.length (q++[(alo,ahi,blo,bhi)]) mb)
  (h:∀w σ2,w<qw (q++[(alo,ahi,blo,bhi)])->OH σ x ql ml as bs F w ρ σ2->K .next ρ σ2) :
  dk C (.cons (.expr (.bm .append (.l 4) %[.l 12|0]))
   (.cons (.C (.and (.c .lt (.l 5) (.l 9)) (.c .lt (.l 7) (.l 10))) %[.expr (.bm .append (.l 3) %[.T %[.l 5,.l 9,.l 7,.l 10|0]|0])|0] .nil)
   %[.C (.and (.c .lt (.b .add (.l 9) (.l 11)) (.l 6)) (.c .lt (.b .add (.l 10) (.l 11)) (.l 8))) %[.expr (.bm .append (.l 3) %[.T %[.b .add (.l 9) (.l 11),.l 6,.b .add (.l 10) (.l 11),.l 8|0]|0])|0] .nil|0])) ρ σ' K:=by
 have W:alo<=i/\i+k<=ahi/\blo<=j/\j+k<=bhi:=W;have hr:alo<=ahi/\blo<=bhi/\ahi<=as.length/\bhi<=bs.length:=hr;rw[nV]at hw h;have hw:qw q+(2*(ahi-alo)+1)+mb.length<=2*as.length+1:=hw;have h1:=HU (q:=q);have lt:=MN (uC (p:=alo<i/\blo<j) (q:=q) (r:=(alo,i,blo,j))) (uC (p:=i+k<ahi/\j+k<bhi) (q:=rx (alo<i/\blo<j) q (alo,i,blo,j)) (r:=(i+k,ahi,j+k,bhi))) W.1 W.2.1 hk;have h2:qw (rx (alo<i/\blo<j) q (alo,i,blo,j))<=qw q+(2*(i-alo)+1):=uC;have h4:=HU (q:=rx (alo<i/\blo<j) q (alo,i,blo,j));apply iT (mV (i,j,k)) H.r4 S.m ag (by rw[av];unfold bq;(rename_i z1;show fc .aI [[1,2,1]] (.l .B .aB) (.k (.a (.a .C (.a (.m 2 .D) .U)) .A) .aV) aa z1)) ?_;have S1:=S.setM N (mb++[(i,j,k)]);rw[cm]at S1;apply push (p:=alo<i/\blo<j) (alo,i,blo,j) H.r3 S1.q (by unfold bq;(rename_i z1;show my .aI [[1,2,1,1]] (.l .B .aB) (.k (.a (.a .C (.a (.m 2 .D) .U)) .F) .aV) .J aa z1 h1)) (kM (eJ r5 r9) (eJ r7 O)) (ev4 r5 r9 r7 O) ?_;have S2:=S1.TO N (rx (alo<i/\blo<j) q (alo,i,blo,j));apply push (p:=i+k<ahi/\j+k<bhi) (i+k,ahi,j+k,bhi) H.r3 S2.q (by unfold bq;(rename_i z1;show WJ .aI [[1,2,1,2,1,1,-2,2]] (.l .B .aB) (.k (.a (.a .C (.a (.m 2 .D) .U)) .F) .aV) (.k .a6 .I) (.k .J (.a .C (.a (.m 2 .K) .U))) (.k .A .J) (.e (.a .D (.v 10)) .I) (.e (.a .K (.v 10)) .G) aa z1 W.2.1 h2 h4 (ae (fc .A .b .J .c8 W.1 W.2.1)) (ae (bt .A .a .A W.1)))) (kM (eJ (oz r9 Z) r6) (eJ (oz O Z) r8)) (ev4 (oz r9 Z) r6 (oz O Z) r8) ?_;have S3:=S2.TO N (rx (i+k<ahi/\j+k<bhi) (rx (alo<i/\blo<j) q (alo,i,blo,j)) (i+k,ahi,j+k,bhi));apply h _ _ lt #[_,mb++[(i,j,k)],H,rfl,S3,?_,?_,ab.part hf hk]
 ·rw[ax,zg];(rename_i z1;show kW (.k .a8 .aQ) .b (.k (.a (.a .D (.a (.m 2 .F) .U)) .B) .aQ) (.l .A (.a .D (.a (.m 2 .F) .U))) z1 lt)
 ·show CE (CE ai λc=>#[iy c.1,iy c.2,by show i<=as.length;(show fc .A .b (.k .T .D) .cJ W.2.1 hr.2.2.1),by show j<=bs.length;(show fc .A .b (.k .T .D) .cJ W.2.2.2 hr.2.2.2)]) λc=>#[iy c.1,iy c.2,hr.2.2.1,hr.2.2.2]
def J4 {P:Nat->Option Fn}(ao:P 5=some fn5){n:Nat}{σ σ':St}{la lb:V}{db sj ql ml:Addr}{as bs:List Key}{rm:Key->Bool}{js:List Key}{q:List T4}{r:T4}{mb:List T3}{ρ:Fr}{again:Fr->St->Prop}{K:Fl->Fr->St->Prop}
  (hM:MAt σ x la lb db sj as bs rm js) (ha:∀k∈as,uc k) (hb:∀k∈bs,uc k) (hs:bs.length<400000) (J:as.length<400000) (N:QN σ ql ml) (H:R6 ρ x ql ml as.length bs.length) (S:QS σ σ' ql ml (q++[r]) mb) (hw:qw (q++[r])+mb.length<=2*as.length+1) (aa:∀u∈q++[r],In4 as bs u)
  (Z:nQ (Flm as bs rm λc=>decide (c∈js)) as.length bs.length (q++[r]) mb) (ab:∀w ρ' σ2,w<qw (q++[r])->OH σ x ql ml as bs (Flm as bs rm λc=>decide (c∈js)) w ρ' σ2->again ρ' σ2) :
  dk (fq P (n+1)) (.cons (.a [(.T [5,6,7,8])] (.bm .pop (.l 3) .nil))
   (.cons (.a [(.T [9,10,11]),(.v 12)] (.meth (.l 0) 5 %[.l 5,.l 6,.l 7,.l 8|0]))
   (.cons (.C (.l 11) (.cons (.expr (.bm .append (.l 4) %[.l 12|0]))
    (.cons (.C (.and (.c .lt (.l 5) (.l 9)) (.c .lt (.l 7) (.l 10))) %[.expr (.bm .append (.l 3) %[.T %[.l 5,.l 9,.l 7,.l 10|0]|0])|0] .nil)
    %[.C (.and (.c .lt (.b .add (.l 9) (.l 11)) (.l 6)) (.c .lt (.b .add (.l 10) (.l 11)) (.l 8))) %[.expr (.bm .append (.l 3) %[.T %[.b .add (.l 9) (.l 11),.l 6,.b .add (.l 10) (.l 11),.l 8|0]|0])|0] .nil|0])) .nil) .nil))) ρ σ' (yt again K):=by
 have#[alo,ahi,blo,bhi]:=r;have hq:=S.q;rw[cm]at hq;apply#[_,H.r3,(by show(σ'.L ql).isSome=true;rw[hq];rfl),q.map qV,qV (alo,ahi,blo,bhi),hq,_,TK,rfl,?_];have hr:alo<=ahi/\blo<=bhi/\ahi<=as.length/\bhi<=bs.length:=aa (alo,ahi,blo,bhi) (gc _ (.head _));have O:∀u∈q,In4 as bs u:=λu hu=>aa u (gq _ hu);have S0:QS σ (σ'.cw ql (q.map qV)) ql ml q mb:=#[S.kp.cw N.q,br _ _ _,(cv (wi N.ne)).trans S.m];have#[d,f,hI,_]:=hM.I;apply#[_,H.r0,x,rfl,(by show(σ'.I x).isSome=true;rw[S.kp.I,hI];rfl),_,rfl,_,rfl,_,rfl,_,rfl,?_];apply flm ao (hM.keep S0.kp) ha hb (by unfold bq;(show ef .aI .a (.l .A .aB) hs)) (by unfold bq;(show ef .aI .a (.l .A .aB) J)) (.inl rfl) (.inl rfl) hr.1 hr.2.1 hr.2.2.1 hr.2.2.2 λσ2 i0 j0 k0 k2 best=>?_;have hf:Flm as bs rm (λc=>decide (c∈js)) alo ahi blo bhi (grow as bs (λc=>decide (c∈js)) alo ahi blo bhi i0 j0 k0):=#[_,_,_,best,rfl];have S2:=S0.kept k2;generalize grow as bs (λc=>decide (c∈js)) alo ahi blo bhi i0 j0 k0=t at hf;have#[i,j,k]:=t;apply#[_,FT (t:=(i,j,k)),rfl,?_];apply yV (k≠0) (mA rfl) (λc=>?_) λc=>?_
 ·show J5 J N #[H.r0,H.r1,H.r2,H.r3,H.r4] S2 rfl rfl rfl rfl rfl rfl rfl rfl hf.within hr O hw (Nat.pos_of_ne_zero c) hf Z λw ag lt Q=>ab w _ ag lt Q
 ·have rfl:=Classical.not_not.mp c;have ai:qw q+(2*(ahi-alo)+1)+mb.length<=2*as.length+1:=by rw[nV]at hw;show hw
  apply ow (ab (qw q) _ _ (by rw[nV];(show vi (.l .A (.a .A .aV)) .f)) #[q,mb,#[H.r0,H.r1,H.r2,H.r3,H.r4],rfl,S2,by show yQ (.k .P .aQ) .a (.k (.a (.a .A (.a (.m 2 .D) .U)) .B) .aQ) ai,O,Z.drop hf])
structure R7 (ρ:Fr)(x nl:Addr)(na nb:Nat):Prop where
 r0:ρ 0=some (.obj x)
 r1:ρ 1=some (.int na)
 r2:ρ 2=some (.int nb)
 r16:ρ 16=some (.L nl)
inductive OJ (σ1:St)(x nl:Addr)(na nb:Nat)(L:List T3)(t:Nat)(ρ:Fr)(σ2:St):Prop
 |mk (i j k:Nat) (acc:List T3):R7 ρ x nl na nb->Kp σ1 σ2->ρ 13=some (.int i)->ρ 14=some (.int j)->ρ 15=some (.int k)->σ2.L nl=some (acc.map tV)->acc.length<=t->acc++mrg i j k (L.drop t)=mrg 0 0 0 L->OJ σ1 x nl na nb L t ρ σ2
def C8 {C:Cal}{ρ:Fr}{K:Fl->Fr->St->Prop}{ss:jo}{acc:List T3}{i j k:Nat}(O:ρ 16=some (.L nl))(B:ρ 13=some (.int i))(J:ρ 14=some (.int j))(U:ρ 15=some (.int k))(Z:σ2.L nl=some (acc.map tV))(hl:acc.length<bq)
  (h:dk C ss ρ (σ2.cw nl ((acc++if k=0 then [] else [(i,j,k)]).map tV)) K) :
  dk C (.cons (.C (.l 15) %[.expr (.bm .append (.l 16) %[.T %[.l 13,.l 14,.l 15|0]|0])|0] .nil) ss) ρ σ2 K:=by
 apply yV (k≠0) (mA U) (λc=>?_) λc=>?_
 ·rw[ay c,cm]at h;show iT (tV (i,j,k)) O Z (ev3 B J U) (by rw[av];show hl) (ow h)
 ·rw[bx (Classical.not_not.mp c),cq,zy Z]at h;show ow h
def I9 {C:Cal}{ab:St}{na nb t:Nat}{L:List T3}{ρ:Fr}{K:Fl->Fr->St->Prop}{again:Fr->St->Prop}(hn:ab.L nl=none)(hL:L.length<400000)(ht:t<L.length)(I:OJ ab x nl na nb L t ρ σ2)(ao:∀ρ' σ',OJ ab x nl na nb L (t+1) ρ' σ'->again ρ' σ') :
  dk C (.cons (.C (.and (.c .eq (.b .add (.l 13) (.l 15)) (.l 17)) (.c .eq (.b .add (.l 14) (.l 15)) (.l 18))) %[.aug 15 .add (.l 19)|0]
   (.cons (.C (.l 15) %[.expr (.bm .append (.l 16) %[.T %[.l 13,.l 14,.l 15|0]|0])|0] .nil)
   %[.a [.T [13,14,15]] (.T %[.l 17,.l 18,.l 19|0])|0])) .nil) (ez [17,18,19] [.int L[t].1,.int L[t].2.1,.int L[t].2.2] ρ) σ2 (yt again K):=by
 have#[i,j,k,acc,H,kp,ai,ag,Z,aa,U,hm]:=I;rw[jy ht]at hm;generalize L[t]=u at *;have#[i2,j2,k2]:=u;have hm:acc++(if i+k=i2/\j+k=j2 then mrg i j (k+k2) (L.drop (t+1)) else if k=0 then mrg i2 j2 k2 (L.drop (t+1)) else (i,j,k)::mrg i2 j2 k2 (L.drop (t+1)))=mrg 0 0 0 L:=hm;apply yV (i+k=i2/\j+k=j2) (kM (uZ (oz ai Z) rfl) (uZ (oz ag Z) rfl)) (λc=>?_) λc=>?_
 ·rw[bx c]at hm;apply#[_,Z,_,rfl,ao _ _ #[i,j,k+k2,acc,#[H.r0,H.r1,H.r2,H.r16],kp,ai,ag,rfl,aa,pk U,hm]]
 ·rw[ay c]at hm;apply C8 H.r16 ai ag Z aa (by unfold bq;(show mi .aI .e (.l .B .aB) .O .J hL ht U)) ?_;apply tT [.int i2,.int j2,.int k2] rfl rfl (qe (ow (ao _ _ #[i2,j2,k2,acc++(if k=0 then [] else [(i,j,k)]),#[H.r0,H.r1,H.r2,H.r16],kp.cw hn,rfl,rfl,rfl,br _ _ _,?_,?_])))
  ·rw[ax];by_cases c0:k=0
   ·rw[bx c0];show acc.length+0<=_;(show bt (.k .aR .M) .a .A U)
   ·rw[ay c0];show acc.length+1<=_;(show bt .aK .a .A U)
  ·rw[<- hm];by_cases c0:k=0
   ·rw[bx c0,bx c0,cq]
   ·rw[ay c0,ay c0,fh];rfl
def NJ {C:Cal}{σ Z:St}{d:Addr}{f:Nat->Option V}{na nb:Nat}{acc:List T3}{ρ:Fr}{Q:V->St->Prop}(hI:σ.I x=some (d,f))(kp:Kp σ Z)(H:R7 ρ x nl na nb)(hn:σ.L nl=none)(hl:acc.length<bq)(O:Z.L nl=some (acc.map tV))
  (h:∀c σ',Kp σ σ'->σ.L c=none->σ'.L c=some ((acc++[(na,nb,0)]).map mV)->Q (.L c) (σ'.jw x d (upd f 4 (.L c)))) :
  dk C (.cons (.expr (.bm .append (.l 16) %[.T %[.l 1,.l 2,.int 0|0]|0]))
   %[.a [(.attr (.l 0) 4)] (.M (.l 16)),.ret (.attr (.l 0) 4)|0]) ρ Z (zF Q):=by
 apply iT (tV (na,nb,0)) H.r16 O (ev3 H.r1 H.r2 rfl) (by rw[av];show hl) ?_;rw[show acc.map tV++[tV (na,nb,0)]=(acc++[(na,nb,0)]).map tV from by rw[cm];rfl];apply#[_,H.r16,nl,(acc++[(na,nb,0)]).map λt:T3=>[V.int t.1,V.int t.2.1,V.int t.2.2],rfl,(by rw[pn];show br _ _ _),(by intro t ht;have#[u,_,rfl]:=cj.mp ht;rfl),λc B=>?_];have J:c≠nl:=λq=>by
  rw[q]at B;have:upd Z.L nl _ nl=none:=B;rw[br]at this;cases this
 have U:σ.L c=none:=by
  have:upd Z.L nl _ c=none:=B;rw[cv J]at this;show kp.noL this
 rw[pn];have k4:Kp σ ((Z.cw nl ((acc++[(na,nb,0)]).map tV)).cw c ((acc++[(na,nb,0)]).map mV)):=(kp.cw hn).cw U;have aa:((Z.cw nl ((acc++[(na,nb,0)]).map tV)).cw c ((acc++[(na,nb,0)]).map mV)).I x=some (d,f):=(ic k4.I x).trans hI;apply#[_,H.r0,x,d,f,rfl,aa,_,H.r0,x,d,upd f 4 (.L c),_,rfl,br _ _ _,br _ _ _,h c _ k4 U (br _ _ _)]
def gmb {P:Nat->Option Fn}(hP:P 6=some fn6)(cb:P 5=some fn5){n:Nat}{σ:St}{la lb:V}{db sj d:Addr}{f:Nat->Option V}{as bs:List Key}{rm:Key->Bool}{js:List Key}{Q:V->St->Prop}
  (hM:MAt σ x la lb db sj as bs rm js) (hI:σ.I x=some (d,f)) (f4:f 4=some .none) (ha:∀k∈as,uc k) (hb:∀k∈bs,uc k) (hs:bs.length<400000) (ag:as.length<64)
  (h:∀σ' c L,Kp σ σ'->mz (Flm as bs rm λc=>decide (c∈js)) 0 as.length 0 bs.length L->σ.L c=none->σ'.L c=some ((mrg 0 0 0 L++[(as.length,bs.length,0)]).map mV)->Q (.L c) (σ'.jw x d (upd f 4 (.L c)))):fq P (n+2) 6 [.obj x] σ Q:=by
 apply#[fn6,hP,az 1,az 1,?_];have#[d',f',be,f1,f2,f7,f8]:=hM.I;have#[rfl,rfl]:d=d'/\f=f':=by rw[hI]at be;cases be;apply#[rfl,rfl]
 have h0:frameOf fn6 [.obj x] 0=some (.obj x):=rfl;generalize frameOf fn6 [.obj x]=ρ at h0;apply#[.obj x,h0,x,d,f,.none,rfl,hI,f4,?_];apply IL (C:=fq P (n+1)) (λ_ q=>iB h0 hI f1 q) hM.La (fm (iy ag) (by decide)) ?_;apply IL (C:=fq P (n+1)) (λ_ q=>iB h0 hI f2 q) hM.Lb (fm (iy hs) (by decide)) #[bc rfl,?_];apply#[_,rfl,rfl,?_];apply#[_,rfl,_,rfl,bc rfl,bc rfl,λql ar=>?_];apply#[bc rfl,λml ao=>?_];have ai:ql≠ml:=λq=>by
  rw[<- q]at ao;have:upd σ.L ql _ ql=none:=ao;rw[br]at this;cases this
 have N:QN σ ql ml:=#[ai,ar,(cv (wi ai)).symm.trans ao];apply#[2*as.length+2,hU (OH σ x ql ml as bs (Flm as bs rm λc=>decide (c∈js))) ?_ (2*as.length+2) (2*as.length+1) (nj _) ?_]
 ·rintro w ρ' σ' ⟨q,mb,H,rfl,S,hw,bv,aa⟩ again ca;apply#[_,H.r3,_,S.q,?_];rcases oj q with rfl|⟨q,r,rfl⟩
  ·apply ti ?_;have#[L,bL,pL]:=aa [] .nil;rw[lH,cq]at pL;have O:=bL.ok λ_ _ _ _ _ h=>h.within;have Z:L.length<64:=by have:=mG (lo:=0) O.1 O.2 (λ_ _=>bh _) (bh _);(show gz .bG .b .aM (.k .a9 .B) ag this)
   apply#[_,H.r4,(by show(σ'.L ml).isSome=true;rw[S.m];rfl),mb.map zT,(by rw[S.m,pn];rfl),(by rw[av,<- pL.length_eq];show Z),rfl,?_];rw[TM pL O.2 λt ht=>(O.1 t ht).2];have S1:=S.setM N L;generalize (σ'.cw ml (L.map mV))=σ1 at S1;apply#[bc rfl,λnl U=>?_];have bn:ml≠nl:=λq=>by rw[<- q,S1.m]at U;cases U
   apply#[_,H.r4,L.map mV,(cv bn).trans S1.m,?_];apply si (OJ σ1 x nl as.length bs.length L) ?_ ?_ #[0,0,0,[],#[H.r0,H.r1,H.r2,rfl],(Kp.refl _).cw U,rfl,rfl,rfl,br _ _ _,az _,rfl]
   ·intro t v ab σ2 hv I;have ht:t<L.length:=(av (f:=mV) (as:=L))▸(bw.mp hv).1;rw[cu,di ht]at hv;have rfl:=ak hv;have I':=I;have#[_,_,_,_,_,kp,_]:=I';apply#[kp.L _ _ S1.m,λkk bu=>#[_,FT,rfl,I9 U (gf Z (by decide)) ht I bu]]
   ·intro ab σ2 zz;have#[i,j,k,acc,H2,kp,r13,r14,r15,bd,J,hm]:=zz;rw[av]at hm J;rw[List.drop_length]at hm;apply#[kp.L _ _ S1.m,?_];have bb:=S1.kp.noL U;apply C8 H2.r16 r13 r14 r15 bd (by unfold bq;(show gz .aI .b .aM .A Z J)) ?_;have hm:acc++(if k=0 then [] else [(i,j,k)])=mrg 0 0 0 L:=hm;have hl:(mrg 0 0 0 L).length<bq:=by
     rw[<- hm,ax];by_cases c0:k=0
     ·rw[bx c0];show acc.length+0<_;unfold bq;(show gz (.l .aR .X) .b .aM .A Z J)
     ·rw[ay c0];show acc.length+1<_;unfold bq;(show gz (.l .L .X) .b .aM .A Z J)
    rw[hm];show NJ hI ((S1.kp.trans kp).cw bb) H2 bb hl (br _ _ _) λc bl k4 hc e=>h bl c L k4 bL hc e
  ·rw[oo]at *;have:((q++[r]).map qV).isEmpty=false:=by rw[cm];cases q<;>rfl
   rw[this];apply xu ?_;show J4 cb hM ha hb hs (gf ag (by decide)) N H S hw bv aa λw ab σ2 lt I=>ca w ab σ2 lt I
 ·apply#[[(0,as.length,0,bs.length)],[],#[h0,rfl,rfl,rfl,rfl],?_,#[((Kp.refl σ).cw ar).cw N.m,(cv ai).trans (br _ _ _),br _ _ _],?_,?_,nQ.start]
  ·simp[qw]
  ·simp[qw]
  ·intro r hr;rw[au.mp hr];apply#[bh _,bh _,az _,az _]
end SM
namespace SM
open PySem
section
variable {P:Nat->Option Fn}{n:Nat}{Q:V->St->Prop}
variable {C:Cal}{σ:St}{ρ:Fr}{K:Fl->Fr->St->Prop}{ss:jo}{x d:Addr}{f:Nat->Option V}{i a b:Nat}{e:Ex}
def qZ (v:V)(h:evV σ ρ e=some v)(Z:ρ i=some (.obj x))(U:σ.I x=some (d,f))(k:dk C ss ρ (σ.jw x d (upd f a v)) K):dk C (.cons (.a [.attr (.l i) a] e) ss) ρ σ K:=
 iw e h #[.obj x,Z,x,d,f,rfl,U,k]
def vT (v:V)(h:evV (σ.jw x d f) ρ e=some v)(Z:ρ i=some (.obj x))(k:dk C ss ρ (σ.jw x d (upd f a v)) K):dk C (.cons (.a [.attr (.l i) a] e) ss) ρ (σ.jw x d f) K:=
 qZ v h Z mw (by rw[lO];show k)
def OM (v:V)(h:evV σ ρ e=some v)(Z:ρ i=some (.obj x))(U:σ.I x=some (d,f))(k:dk C ss ρ (σ.jw x d (upd (upd f a v) b v)) K):dk C (.cons (.a [.attr (.l i) a,.attr (.l i) b] e) ss) ρ σ K:=
 iw e h #[.obj x,Z,x,d,f,rfl,U,.obj x,Z,x,d,_,rfl,mw,by rw[lO];show k]
def lA (v:V)(h:evV (σ.jw x d f) ρ e=some v)(Z:ρ i=some (.obj x))(k:dk C ss ρ (σ.jw x d (upd (upd f a v) b v)) K):dk C (.cons (.a [.attr (.l i) a,.attr (.l i) b] e) ss) ρ (σ.jw x d f) K:=
 OM v h Z mw (by rw[lO];show k)
def qY {es:Exs}{m:Nat}(vs:List V)(Z:ρ i=some (.obj x))(U:(σ.I x).isSome=true)(h:nP σ ρ es=some vs)(k:C m (.obj x::vs) σ λv σ=>v=.none/\dk C ss ρ σ K):dk C (.cons (.expr (.meth (.l i) m es)) ss) ρ σ K:=
 #[.obj x,Z,x,rfl,U,i8 (Q:=λvs σ=>C m (.obj x::vs) σ λv σ=>v=.none/\dk C ss ρ σ K) es h k]
end
def HK (J:P 2=some fn2){x d:Addr}{la:V}{f:Nat->Option V}{σ:St}(Z:σ.I x=some (d,f))(O:f 1=some .none)(U:isNone la=false)(h:Q .none (σ.jw x d (upd (upd (upd f 1 la) 4 .none) 5 .none))):fq P (n+1) 2 [.obj x,la] σ Q:=
 ⟨fn2,J,az 2,az 2,mL (fY false (by
   show((σ.I x).bind λp=>p.2 1).bind _=_;rw[Z];show(f 1).bind _=_;rw[O];show bz some U) (ti (ow (qZ la rfl rfl Z (lA .none rfl rfl (ow h))))))⟩
def HI (O:P 1=some fn1){x:Addr}{Z U:V}{σ:St}(J:(σ.I x).isSome=true)(h:fq P n 2 [.obj x,Z] σ λv σ=>v=.none/\(σ.I x).isSome=true/\fq P n 3 [.obj x,U] σ λv σ=>v=.none/\Q .none σ):fq P (n+1) 1 [.obj x,Z,U] σ Q:=
 ⟨fn1,O,az 3,az 3,mL (qY [Z] rfl J rfl (Eq.mp (bz (fq P n 2 [.obj x,Z] σ) (funext λv=>funext λσ'=>propext ⟨λq=>#[q.1,qY [U] rfl q.2.1 rfl q.2.2],λq=>⟨q.1,by
  have#[_,_,e,y,e',h1,_,e2,B]:=q;cases e;cases e';cases e2;apply#[h1,B]⟩⟩)) h))⟩
def HJ (J:P 3=some fn3){x d:Addr}{lb:V}{f:Nat->Option V}{σ:St}(Z:σ.I x=some (d,f))(O:f 2=some .none)(U:isNone lb=false)
  (h:fq P n 4 [.obj x] (σ.jw x d (upd (upd (upd (upd f 2 lb) 4 .none) 5 .none) 6 .none)) λv σ=>v=.none/\Q .none σ):fq P (n+1) 3 [.obj x,lb] σ Q:=
 ⟨fn3,J,az 2,az 2,mL (fY false (by
   show((σ.I x).bind λp=>p.2 2).bind _=_;rw[Z];show(f 2).bind _=_;rw[O];show bz some U) (ti (ow (qZ lb rfl rfl Z (lA .none rfl rfl (vT .none rfl rfl (qY [] rfl (by rw[mw];rfl) rfl h)))))))⟩
end SM
end MP
end
section
namespace MP
open PySem
variable {σ σ₁:St}
structure Ext (σ σ':St):Prop where
 L:∀a xs,σ.L a=some xs->σ'.L a=some xs
 D:∀a es,σ.D a=some es->σ'.D a=some es
 S:∀a es,σ.S a=some es->σ'.S a=some es
 I:∀a es,σ.I a=some es->σ'.I a=some es
def Ext.refl (σ:St):Ext σ σ:=#[λ_ _ e=>e,λ_ _ e=>e,λ_ _ e=>e,λ_ _ e=>e]
def Ext.trans {σ₂:St}(h:Ext σ σ₁)(h':Ext σ₁ σ₂):Ext σ σ₂:=#[λ_ _ e=>h'.L _ _ (h.L _ _ e),λ_ _ e=>h'.D _ _ (h.D _ _ e),λ_ _ e=>h'.S _ _ (h.S _ _ e),λ_ _ e=>h'.I _ _ (h.I _ _ e)]
def Kp.ext {σ':St}(h:Kp σ σ'):Ext σ σ':=#[h.L,h.D,λ_ _ e=>by rw[h.S];show e,λ_ _ e=>by rw[h.I];show e]
def Ext.noL (h:Ext σ σ₁){c:Addr}(Z:σ₁.L c=none):σ.L c=none:=by
 cases q:σ.L c with
 |none=>rfl
 |some xs=>rw[h.L _ _ q]at Z;cases Z
def FO {α:Type}{f g:Nat->Option α}(h:∀a x,f a=some x->g a=some x){c:Nat}{x:α}(Z:f c=none):∀a y,f a=some y->upd g c x a=some y:=λa y e=>by
 have:a≠c:=λq=>by rw[q,Z]at e;cases e
 rw[cv this];show h a y e
def Ext.cw (h:Ext σ σ₁){c:Addr}{xs:List V}(Z:σ.L c=none):Ext σ (σ₁.cw c xs):=#[FO h.L Z,h.D,h.S,h.I]
def TabAt.ext {σ':St}{db:Addr}{bs:List Key}{rm:Key->Bool}(h:TabAt σ db bs rm)(k:Ext σ σ'):TabAt σ' db bs rm:=by
 have#[es,B,J,O]:=h;apply#[es,k.D _ _ B,J,λq U=>(O q U).imp_right λZ=>by have#[c,e1,e2]:=Z;apply#[c,e1,k.L _ _ e2]]
namespace SM
end SM
end MP
end
section
namespace MP
section
variable {H:Nat->Nat->Prop}{alo ahi blo bhi:Nat}
end
section
variable {as bs:List Key}{alo ahi blo bhi:Nat}
end
end MP
end
section
namespace MP
open PySem
def mapM_some {α Z:Type}{f:α->Option Z}{g:α->Z}{xs:List α}(h:∀x∈xs,f x=some (g x)):xs.mapM f=some (xs.map g):=by
 induction xs with
 |nil=>rfl
 |cons x r U=>rw[List.mapM_cons,h x (.head _),U λy O=>h y (.tail _ O)];rfl
namespace SM
end SM
public abbrev iV (xs:List Int):List V:=xs.map V.int
def CD (xs:List Int):∀k∈xs.map Key.int,uc k:=by
 intro k hk;have#[x,_,rfl]:=cj.mp hk;trivial
structure rF (x:Addr)(σ σ':St):Prop where
 L:∀a xs,σ.L a=some xs->σ'.L a=some xs
 D:∀a es,σ.D a=some es->σ'.D a=some es
 S:∀a es,σ.S a=some es->σ'.S a=some es
 I:∀a es,a≠x->σ.I a=some es->σ'.I a=some es
def Ext.x {σ σ':St}{x:Addr}(h:Ext σ σ'):rF x σ σ':=#[h.L,h.D,h.S,λa es _ e=>h.I a es e]
def rF.trans {x:Addr}{σ σ₁ σ₂:St}(h:rF x σ σ₁)(h':rF x σ₁ σ₂):rF x σ σ₂:=#[λ_ _ e=>h'.L _ _ (h.L _ _ e),λ_ _ e=>h'.D _ _ (h.D _ _ e),λ_ _ e=>h'.S _ _ (h.S _ _ e),λ_ _ n e=>h'.I _ _ n (h.I _ _ n e)]
def rF.jw {x d:Addr}{f:Nat->Option V}{σ σ₁:St}(h:rF x σ σ₁):rF x σ (σ₁.jw x d f):=#[h.L,h.D,h.S,λa es n e=>(cv n).trans (h.I a es n e)]
namespace SM
open PySem
def O5:=Str×Nat×Nat×Nat×Nat
abbrev oV (t:O5):V:=.T [.str t.1,.int t.2.1,.int t.2.2.1,.int t.2.2.2.1,.int t.2.2.2.2]
abbrev chg (i a j b:Nat):List O5:=if i<a/\j<b then [("replace",i,a,j,b)] else if i<a then [("delete",i,a,j,b)] else if j<b then [("insert",i,a,j,b)] else []
abbrev eql (a b s:Nat):List O5:=if s=0 then [] else [("equal",a,a+s,b,b+s)]
abbrev codes:Nat->Nat->List T3->List O5
 |_,_,[]=>[]
 |i,j,t::r=>chg i t.1 j t.2.1++(eql t.1 t.2.1 t.2.2++codes (t.1+t.2.2) (t.2.1+t.2.2) r)
def O8 (i a j b:Nat):(chg i a j b).length<=1:=by
 unfold chg;split
 ·show az _
 ·split
  ·show az _
  ·split
   ·show az _
   ·show bh _
def NT (a b s:Nat):(eql a b s).length<=1:=by
 unfold eql;split
 ·show bh _
 ·show az _
section
variable {C:Cal}{σ:St}{ρ:Fr}{K:Fl->Fr->St->Prop}{ss:jo}{al:Addr}{acc:List O5}{i j a b s:Nat}
def ev5 {e1 e2 e3 e4 e5:Ex}{t:Str}(B:evV σ ρ e1=some (.str t))(J:evV σ ρ e2=some (.int i))(O:evV σ ρ e3=some (.int a))(U:evV σ ρ e4=some (.int j))(Z:evV σ ρ e5=some (.int b)) :
  evV σ ρ (.T %[e1,e2,e3,e4,e5|0])=some (oV (t,i,a,j,b)):=by
 rw[i9,ir,B,ir,J,ir,O,ir,U,ir,Z];rfl
structure R8o (ρ:Fr)(x al:Addr)(i j a b s:Nat):Prop where
 r0:ρ 0=some (.obj x)
 r1:ρ 1=some (.int i)
 r2:ρ 2=some (.int j)
 r3:ρ 3=some (.L al)
 r4:ρ 4=some (.int a)
 r5:ρ 5=some (.int b)
 r6:ρ 6=some (.int s)
def tZ {x:Addr}{t:Str}(H:R8o ρ x al i j a b s)(Z:ρ 7=some (.str t))(U:Nat.ble t.cps.size bq=true)(O:(t.cps.size != 0)=true)(J:σ.L al=some (acc.map oV))(hl:acc.length<bq)
  (h:dk C ss ρ (σ.cw al ((acc++[(t,i,a,j,b)]).map oV)) K) :
  dk C (.cons (.C (.l 7) %[.expr (.bm .append (.l 3) %[.T %[.l 7,.l 1,.l 4,.l 2,.l 5|0]|0])|0] .nil) ss) ρ σ K:=by
 apply#[_,Z,bc U,?_];rw[O];apply xu (iT (oV (t,i,a,j,b)) H.r3 J (ev5 Z H.r1 H.r4 H.r2 H.r5) (by rw[av];show hl) (ow ?_));rw[cm]at h;show h
def G4 {t:Ex}{e:jo}(Z:ρ 7=some (.str ""))(h:dk C ss ρ σ K):dk C (.cons (.C (.l 7) e .nil) ss) ρ σ K:=by
 apply#[_,Z,bh _,?_];show ti (ow h)
def O9 {x:Addr}(H:R8o ρ x al i j a b s)(U:ρ 7=some (.str ""))(Z:σ.L al=some (acc.map oV))(hl:acc.length<bq)
  (h:∀ρ',R8o ρ' x al i j a b s->dk C ss ρ' (σ.cw al ((acc++chg i a j b).map oV)) K) :
  dk C (.cons (.C (.and (.c .lt (.l 1) (.l 4)) (.c .lt (.l 2) (.l 5))) (.cons (.a [(.v 7)] (.str "replace"))
 .nil) (.cons (.C (.c .lt (.l 1) (.l 4)) (.cons (.a [(.v 7)] (.str "delete"))
 .nil) (.cons (.C (.c .lt (.l 2) (.l 5)) (.cons (.a [(.v 7)] (.str "insert"))
 .nil) .nil)
 .nil))
 .nil))
 (.cons (.C (.l 7) (.cons (.expr (.bm .append (.l 3) %[.T %[.l 7,.l 1,.l 4,.l 2,.l 5|0]|0]))
 .nil) .nil) ss)) ρ σ K:=by
 have up:∀v,R8o (upd ρ 7 v) x al i j a b s:=λv=>#[H.r0,H.r1,H.r2,H.r3,H.r4,H.r5,H.r6];unfold chg at h;apply yV (i<a/\j<b) (kM (eJ H.r1 H.r4) (eJ H.r2 H.r5)) (λc=>?_) λc=>?_
 ·rw[bx c]at h;show nA (.str "replace") rfl (ow (tZ (up _) rfl (by decide +kernel) (by decide +kernel) Z hl (h _ (up _))))
 ·rw[ay c]at h;apply yV (i<a) (eJ H.r1 H.r4) (λc=>?_) λc=>?_
  ·rw[bx c]at h;show nA (.str "delete") rfl (qe (ow (tZ (up _) rfl (by decide +kernel) (by decide +kernel) Z hl (h _ (up _)))))
  ·rw[ay c]at h;apply yV (j<b) (eJ H.r2 H.r5) (λc=>?_) λc=>?_
   ·rw[bx c]at h;show nA (.str "insert") rfl (qe (qe (ow (tZ (up _) rfl (by decide +kernel) (by decide +kernel) Z hl (h _ (up _))))))
   ·rw[ay c,cq,zy Z]at h;show qe (qe (ow (G4 (t:=.none) U (h _ H))))
def NU {x:Addr}(H:R8o ρ x al i j a b s)(Z:σ.L al=some (acc.map oV))(hl:acc.length<bq)
  (h:∀ρ',ρ' 0=some (.obj x)->ρ' 1=some (.int (a+s:Nat))->ρ' 2=some (.int (b+s:Nat))->ρ' 3=some (.L al)->dk C ss ρ' (σ.cw al ((acc++eql a b s).map oV)) K) :
  dk C (.cons (.a [.T [1,2]] (.T %[.b .add (.l 4) (.l 6),.b .add (.l 5) (.l 6)|0]))
 (.cons (.C (.l 6) (.cons (.expr (.bm .append (.l 3) %[.T %[.str "equal",.l 4,.l 1,.l 5,.l 2|0]|0]))
 .nil) .nil) ss)) ρ σ K:=by
 apply tT [.int (a+s:Nat),.int (b+s:Nat)] ?_ rfl ?_
 ·rw[i9,ir,oz (a:=.l 4) (b:=.l 6) H.r4 H.r6,ir,oz (a:=.l 5) (b:=.l 6) H.r5 H.r6];rfl
 unfold eql at h;apply yV (s≠0) (mA (x:=6) (k:=s) H.r6) (λc=>?_) λc=>?_
 ·rw[ay c,cm]at h;show iT (oV ("equal",a,a+s,b,b+s)) H.r3 Z (ev5 rfl H.r4 rfl H.r5 rfl) (by rw[av];show hl) (ow (h _ H.r0 rfl rfl H.r3))
 ·rw[bx (Classical.not_not.mp c),cq,zy Z]at h;show ow (h _ H.r0 rfl rfl H.r3)
end
def gX {σ:St}{a:Addr}{xs ys:List V}:(σ.cw a xs).cw a ys=σ.cw a ys:=by
 unfold St.cw
 congr 1
 funext j
 simp only[upd];split<;>rfl
inductive VJ (x:Addr)(σ:St)(al:Addr)(Ls:List T3)(t:Nat)(ρ:Fr)(σ':St):Prop
 |mk (i j:Nat) (acc:List O5):ρ 0=some (.obj x)->ρ 1=some (.int i)->ρ 2=some (.int j)->ρ 3=some (.L al)->(∃ys,σ'=σ.cw al ys)->σ'.L al=some (acc.map oV)->acc.length<=2*t->acc++codes i j (Ls.drop t)=codes 0 0 Ls->VJ x σ al Ls t ρ σ'
def C3 {P:Nat->Option Fn}(hP:P 7=some fn7)(cp:P 6=some fn6)(ct:P 5=some fn5){n:Nat}{σ:St}{x:Addr}{la lb:V}{db sj d:Addr}{f:Nat->Option V}{as bs:List Key}{rm:Key->Bool}{js:List Key}{Q:V->St->Prop}
  (hM:MAt σ x la lb db sj as bs rm js) (hI:σ.I x=some (d,f)) (f4:f 4=some .none) (f5:f 5=some .none) (ha:∀k∈as,uc k) (hb:∀k∈bs,uc k) (hs:bs.length<400000) (bl:as.length<64)
  (h:∀σ' c L g,rF x σ σ'->mz (Flm as bs rm λc=>decide (c∈js)) 0 as.length 0 bs.length L->σ.L c=none->σ'.I x=some (d,g)->(∀m,m≠4->m≠5->g m=f m)->(mrg 0 0 0 L).length<=L.length ->
   σ'.L c=some ((codes 0 0 (mrg 0 0 0 L++[(as.length,bs.length,0)])).map oV)->Q (.L c) σ'):fq P (n+3) 7 [.obj x] σ Q:=by
 apply#[fn7,hP,az 1,az 1,?_];have#[d',f',cd,f1,f2,f7,f8]:=hM.I;have#[rfl,rfl]:d=d'/\f=f':=by rw[hI]at cd;cases cd;apply#[rfl,rfl]
 have h0:frameOf fn7 [.obj x] 0=some (.obj x):=rfl;generalize frameOf fn7 [.obj x]=ρ at h0;apply#[.obj x,h0,x,d,f,.none,rfl,hI,f5,?_];apply#[bc rfl,λal ao=>?_];apply#[.obj x,h0,x,d,f,rfl,hI,?_];have be:((σ.cw al []).jw x d (upd f 5 (.L al))).I x=some (d,upd f 5 (.L al)):=mw;have E2:rF x σ ((σ.cw al []).jw x d (upd f 5 (.L al))):=(((Ext.refl σ).cw ao).x).jw;have M2:MAt ((σ.cw al []).jw x d (upd f 5 (.L al))) x la lb db sj as bs rm js:=by
  apply#[#[d,_,mw,f1,f2,f7,f8],uy E2.L hM.La,uy E2.L hM.Lb,?_,E2.S _ _ hM.S];have D2:=hM.D.ext ((Ext.refl σ).cw (xs:=[]) ao);show D2
 have ag:((σ.cw al []).jw x d (upd f 5 (.L al))).L al=some []:=br _ _ _;generalize ((σ.cw al []).jw x d (upd f 5 (.L al)))=σ2 at be E2 M2 ag;apply#[.obj x,h0,x,rfl,by rw[be];rfl,?_];apply gmb cp ct M2 be f4 ha hb hs bl λab c L k3 b bv hc=>?_;have ca:=k3.L _ _ ag;have bu:c≠al:=λq=>by rw[q,ag]at bv;cases bv
 have E3:rF x σ (ab.jw x d (upd (upd f 5 (.L al)) 4 (.L c))):=(E2.trans k3.ext.x).jw;have ar:(mrg 0 0 0 L).length<=L.length:=by
  have:∀(L:List T3) (i j k:Nat),(mrg i j k L).length<=L.length+(if k=0 then 0 else 1):=by
   intro L;induction L with
   |nil =>
    intro i j k;dsimp only[mrg];by_cases c0:k=0
    ·rw[bx c0];show bh _
    ·rw[ay c0,ay c0];show az _
   |cons t r ih =>
    intro i j k;have#[i',j',k']:=t;dsimp only[mrg];rw[kj];split
    ·have:=ih i j (k+k');by_cases c0:k=0
     ·subst c0;rw[bx rfl];by_cases c1:0+k'=0
      ·rw[bx c1]at this;(show bt .dA .a .cF this)
      ·rw[ay c1]at this;(show bt .dA .a .U this)
     ·rw[ay c0];rw[ay ((ba c0).elim (λq1=>(bt (.u .P .O) .o .b0 q1)) λq1=>(bt (.u .P .O) .a .F q1))]at this
      (show bt (.k .A (.a .M .U)) .a .U this)
    ·by_cases c0:k=0
     ·rw[bx c0,bx c0];have:=ih i' j' k';by_cases c1:k'=0
      ·rw[bx c1]at this;(show bt .dA .a .cF this)
      ·rw[ay c1]at this;(show bt .dA .a .U this)
     ·rw[ay c0,ay c0,kj];have:=ih i' j' k';by_cases c1:k'=0
      ·rw[bx c1]at this;(show bt (.k .L (.a .M .U)) .a .cF this)
      ·rw[ay c1]at this;(show bt (.k .L (.a .M .U)) .a .U this)
  have:=this L 0 0 0
  rwa [bx rfl]at this
 have bn:=b.ok λ_ _ _ _ _ h=>h.within;have cc:L.length<400000:=by have:=mG (lo:=0) bn.1 bn.2 (λ_ _=>bh _) (bh _);(show gz (.l .A .aB) .b .aM (.k .a9 .B) bl this)
 have aa:(ab.jw x d (upd (upd f 5 (.L al)) 4 (.L c))).L c=some ((mrg 0 0 0 L++[(as.length,bs.length,0)]).map mV):=hc;have Z:(ab.jw x d (upd (upd f 5 (.L al)) 4 (.L c))).L al=some []:=ca;have bd:(ab.jw x d (upd (upd f 5 (.L al)) 4 (.L c))).I x=some (d,upd (upd f 5 (.L al)) 4 (.L c)):=mw;have hg:∀m,m≠4->m≠5->(upd (upd f 5 (.L al)) 4 (.L c)) m=f m:=λm h4 h5=>(cv h4).trans (cv h5);generalize (upd (upd f 5 (.L al)) 4 (.L c))=g at hg bd aa Z E3;generalize ab.jw x d g=ck at bd aa Z E3;generalize cb:mrg 0 0 0 L++[(as.length,bs.length,0)]=Ls at aa;have bb:Ls.length<=400000:=by rw[<- cb,ax,zg];(show gz (.k .L .aB) .b .A (.l .B .aB) ar cc)
 apply#[_,aa,?_];apply si (VJ x ck al Ls) ?_ ?_ #[0,0,[],h0,rfl,rfl,rfl,#[[],(zy Z).symm],Z,bh _,rfl]
 ·intro t v ρ' σ' hv zz;have#[i,j,acc,r0,r1,r2,r3,#[ys,rfl],ai,J,e]:=zz;apply#[(cv bu).trans aa,λkk cn=>?_];rw[cu]at hv;have#[u,hu,rfl]:=omap hv;have#[ht,cl]:=bw.mp hu;rw[jy ht,cl]at e;have#[a,b',s]:=u;apply#[_,FT (t:=(a,b',s)),rfl,?_];apply nA (.str "") rfl ?_;apply O9 (x:=x) (al:=al) (i:=i) (j:=j) (a:=a) (b:=b') (s:=s) (acc:=acc) #[r0,r1,r2,r3,rfl,rfl,rfl] rfl ai (by unfold bq;(show mi .aI [[1,2,1,2]] (.k .B .aB) (.k .A (.m 2 .C)) .O bb J ht)) λda H2=>?_;have h1:=O8 i a j b';apply NU H2 (acc:=acc++chg i a j b') (br _ _ _) (by rw[ax];unfold bq;(show eM (.l .P .X) [[1,2,1,2,1]] (.k .C .aB) (.k .A (.m 2 .D)) .aC (.k .B .U) bb J ht h1)) λcx q0 q1 q2 q3=>?_;have h2:=NT a b' s;rw[gX,gX];apply ow (cn _ _ #[a+s,b'+s,acc++chg i a j b'++eql a b' s,q0,q1,q2,q3,#[_,rfl],br _ _ _,?_,?_])
  ·rw[ax,ax];(show mq (.k .aP (.m 2 .V)) .e (.k .A (.m 2 .D)) (.k .B .U) (.k .C .U) J h1 h2)
  ·rw[<- e,fh,fh];rfl
 ·intro ρ' σ' zz;have#[i,j,acc,r0,r1,r2,r3,#[ys,rfl],ai,J,e]:=zz;apply#[(cv bu).trans aa,?_];rw[av,List.drop_length]at e;have e:acc++[]=codes 0 0 Ls:=e;rw[cq]at e;apply D7 (.L al) r3 ?_;apply h _ al L g #[λa xs e1=>?_,E3.D,E3.S,E3.I] b ao bd hg ar ?_
  ·have:a≠al:=λq=>by rw[q,ao]at e1;cases e1
   show(cv this).trans (E3.L a xs e1)
  ·rw[cb,<- e];show ai
end SM
end MP
end
section
namespace MP
open PySem SM
abbrev fX:Nat->Nat->List T3->Prop
 |_,_,[]=>True
 |i,j,t::r=>i<=t.1/\j<=t.2.1/\fX (t.1+t.2.2) (t.2.1+t.2.2) r
def fX.of:∀{L:List T3} {i j:Nat},L.Pairwise lB->(∀t∈L,i<=t.1/\j<=t.2.1)->fX i j L
 | [],i,j=>λ_ _=>trivial
 |t::L,i,j=>λZ h=>by
  have#[O,Z]:=wu.mp Z;apply#[(h t (.head _)).1,(h t (.head _)).2,fX.of Z λu U=>O u U]
abbrev isEq (c:O5):Bool:=c.1 == "equal"
section
variable {H:Nat->Nat->Prop}{na nb:Nat}{S S':Nat->Nat->Prop}{i j k a b r:Nat}
end
section
variable {C:Cal}{ρ:Fr}{σb:St}{e f:Ex}{xs ys:List V}
end
def AL (n:Nat):gx n 0=0:=by unfold gx ee;rw[ay (kY (.ig .O .O) .f)];show Nat.min_zero n
def EY {n i:Nat}(h:i<=n):gx n (i:Int)=i:=by unfold gx ee;rw[ay (jf (.ig .L .O) .f),ke];show Nat.min_eq_right h
abbrev dO (t:O5):PyData:=.tuple [.str t.1,.int t.2.1,.int t.2.2.1,.int t.2.2.2.1,.int t.2.2.2.2]
def SD (t:O5):PyData.eqv (dO t) (dO t)=true:=by simp[dO,PyData.eqv,PyData.eqvAll]
def tD:∀L:List O5,PyData.eqvAll (L.map dO) (L.map dO)=true
 | []=>by simp[PyData.eqvAll]
 |t::L=>by simp[PyData.eqvAll,SD,tD L]
def O3 {σ:St}{n:Nat}{t:O5}(h:PyData.strOk t.1=true):dK σ (n+1) (oV t)=some (dO t):=by
 have e:dK σ n (.str t.1)=some (.str t.1):=by
  cases n<;>show bx h
 show(([V.str t.1,.int t.2.1,.int t.2.2.1,.int t.2.2.2.1,.int t.2.2.2.2].mapM (dK σ n)).map PyData.tuple)=_;rw[mapM_some (g:=λv=>match v with|.str s=>PyData.str s|.int i=>.int i|_=>.none)]
 ·rfl
 ·intro v Z;rcases cz.mp Z with rfl|Z
  ·show e
  ·have:∃i,v=.int i:=by
    rcases cz.mp Z with rfl|Z
    ·apply#[_,rfl]
    rcases cz.mp Z with rfl|Z
    ·apply#[_,rfl]
    rcases cz.mp Z with rfl|Z
    ·apply#[_,rfl]
    ·apply#[_,au.mp Z]
   clear Z;have#[i,rfl]:=this;cases n<;>rfl
def mapM_map {α:Type}{f:V->Option PyData}{h:α->V}{g:α->PyData}{L:List α}(e:∀x∈L,f (h x)=some (g x)):(L.map h).mapM f=some (L.map g):=by
 induction L with
 |nil=>rfl
 |cons x L Z =>
  rw[lr,List.mapM_cons,e x (.head _),Z λy U=>e y (.tail _ U)];rfl
def CT {σ:St}{n:Nat}{a:Addr}{L:List O5}(h:σ.L a=some (L.map oV))(U:∀t∈L,PyData.strOk t.1=true):dK σ (n+2) (.L a)=some (.list (L.map dO)):=by
 show((σ.L a).bind λxs=>(xs.mapM (dK σ (n+1))).map PyData.list)=_;rw[h];show((L.map oV).mapM (dK σ (n+1))).map PyData.list=_;rw[mapM_map λt Z=>O3 (U t Z)];rfl
def LN:PyData.strOk "replace"=true:=by decide +kernel
def LM:PyData.strOk "delete"=true:=by decide +kernel
def LL:PyData.strOk "insert"=true:=by decide +kernel
def gU:PyData.strOk "equal"=true:=by decide +kernel
def SG {i a j b:Nat}:∀t∈chg i a j b,PyData.strOk t.1=true:=by
 unfold chg;intro t Z;split at Z
 ·rw[au.mp Z];show LN
 ·split at Z
  ·rw[au.mp Z];show LM
  ·split at Z
   ·rw[au.mp Z];show LL
   ·cases Z
def yB:∀{L:List T3} {i j:Nat},∀t∈codes i j L,PyData.strOk t.1=true
 | [],_,_,_,h=>by cases h
 |(a,b,s)::L,i,j,t,h=>by
  rcases dj.mp h with h|h
  ·show SG t h
  ·rcases dj.mp h with h|h
   ·unfold eql at h;split at h
    ·cases h
    ·rw[au.mp h];show gU
   ·show yB t h
namespace SM
end SM
section
variable {σ:St}{ρ:Fr}{a b c e:Ex}{m n k l:Nat}
def NR (Z:evV σ ρ a=some (.int m))(hb:evV σ ρ b=some (.int n))(h:n<=m):evV σ ρ (.b .sub a b)=some (.int (m-n:Nat)):=by
 rw[tc,Z,hb];show some (V.int ((m:Int)-n))=_;rw[Int.ofNat_sub h]
def v7 {x:Nat}{al:Addr}{xs:List V}{v:V}(Z:ρ x=some (.L al))(B:σ.L al=some xs)(J:evV σ ρ e=some (.int n))(U:xs[n]?=some v):evV σ ρ (.sub (.l x) e)=some v:=by
 rw[NP,fx,Z,J];show y3 σ (.L al) (.int n)=_;show(σ.L al).bind (λxs=>zr xs n)=_;rw[B];show zr xs n=_;unfold zr;rw[uG,bx (jf (.ik .O .L) .f),ke];show U
end
end MP
end
section
namespace MP
open PySem SM
def nW {σ:St}{ρ:Fr}{α:Type}{u:α->V}{x:Nat}{l:Addr}{Z:List α}(U:ρ x=some (.L l))(hl:σ.L l=some (Z.map u)):evV σ ρ (.bf .len %[.l x|0])=some (.int Z.length):=by
 rw[S8,ir,fx,U];show AB σ .len [.L l]=_;rw[JF,hl];show some (V.int ((Z.map u).length:Nat))=_;rw[av]
section
variable {σ:St}{ρ:Fr}{a b:Ex}{m n:Nat}
end
section
variable {xs ys:List Int}{R:List T3}{i j s:Nat}
end
end MP
end
section
namespace MP
open PySem SM
namespace R5
variable {i a j x y p m t q x' y':Nat}{g:List O5}{c:O5}{D G:List (List O5)}{tg:Str}
abbrev eqC (i a j b:Nat):O5:=("equal",i,a,j,b)
def lz {b:Nat}:isEq (eqC i a j b)=true:=by unfold isEq eqC;rfl
abbrev qo (g:List O5)(st:O5):List O5:=if isEq st=true/\(g.getLast?.any isEq)=true then g.dropLast++[eqC ((g.getLastD st).2.1) st.2.2.1 ((g.getLastD st).2.2.2.1) st.2.2.2.2] else g++[st]
def qT {b i' j':Nat}:qo (g++[eqC x a y b]) (eqC i i' j j')=g++[eqC x i' y j']:=by
 unfold qo;rw[bx #[lz,by rw[List.getLast?_append];show lz],List.dropLast_concat,List.getLastD_concat];rfl
def tO {st:O5}:qo [] st=[st]:=by
 unfold qo;rw[ay (λh=>Bool.noConfusion (show false=true from h.2))];rfl
def yT {st:O5}(h:isEq c=false):qo (g++[c]) st=g++[c]++[st]:=by
 unfold qo;rw[ay];rintro ⟨_,q⟩;rw[List.getLast?_append]at q;have q:isEq c=true:=q;rw[h]at q;cases q
def mI (h:isEq c=false):qo g c=g++[c]:=by
 unfold qo;rw[ay];rintro ⟨q,_⟩;rw[h]at q;cases q
abbrev jr (f:List O5->List O5)(G:List (List O5)):List (List O5):=G.dropLast++[f (G.getLastD [])]
def qk {f:List O5->List O5}:jr f (D++[g])=D++[f g]:=by
 unfold jr;rw[List.dropLast_concat,List.getLastD_concat]
section
variable (S:List O5)(n:Nat)
abbrev chB (s:Nat):Bool:=(S[s]?).any λst=>!isEq st
abbrev sh (s:Nat):Bool:=(List.range S.length).any λc=>chB S c&&decide (c<=s+n/\s<=c+n)
abbrev turn (G:List (List O5))(s:Nat):List (List O5):=match S[s]? with
 |none=>G
 |some st =>
  let G1:=if (decide (0<s)&&sh S n (s-1))=true then G else G++[if 0<s then [eqC st.2.1 st.2.1 st.2.2.2.1 st.2.2.2.1] else []]
  let G2:=jr (λg=>qo g st) G1
  if (!isEq st&&(decide (s+1<S.length)&&!sh S n (s+1)))=true then jr (λg=>g++[eqC st.2.2.1 st.2.2.1 st.2.2.2.2 st.2.2.2.2]) G2 else G2
abbrev kq:List Nat:=(List.range S.length).filter (sh S n)
abbrev N6:List (List O5):=(kq S n).foldl (turn S n) []
abbrev rest (p:Nat)(G:List (List O5)):List (List O5):=((List.range' p (S.length-p)).filter (sh S n)).foldl (turn S n) G
def HP:N6 S n=rest S n 0 []:=by
 unfold N6 rest kq;rw[List.range_eq_range',Nat.sub_zero]
def wZ:rest S n S.length G=G:=by
 unfold rest;rw[Nat.sub_self];rfl
def tn (h:p<S.length):rest S n p G=rest S n (p+1) (if sh S n p=true then turn S n G p else G):=by
 unfold rest;have#[k,e]:∃k,S.length-p=k+1:=#[S.length-p-1,by show bt .a9 .i .bI (ae (fk .D .c .aZ .S h (ae (bt .A .a .B h))))];rw[e,show S.length-(p+1)=k by show my .C .p (.e .C .M) .b5 .aW e (ae (bt .A .a .B h)) (ae (bt .H .a .B h)),List.range'_succ,ll];split<;>rfl
variable {S n}
def HH {s:Nat}:sh S n s=true↔∃c,chB S c=true/\c<=s+n/\s<=c+n:=by
 unfold sh;rw[List.any_eq_true];constructor
 ·rintro ⟨c,_,h⟩;rw[dg,decide_eq_true_iff]at h;apply#[c,h]
 ·rintro ⟨c,Z,U⟩;apply#[c,gJ.mpr ?_,by rw[Z,dp U];rfl];unfold chB at Z;cases q:S[c]? with
  |none=>rw[q]at Z;cases Z
  |some st=>show(bw.mp q).1
structure Blk (S:List O5)(p m i j:Nat):Prop where
 at_:∀t,t<m->S[p+t]?=some (eqC (i+t) (i+t+1) (j+t) (j+t+1))
 lo:p=0\/chB S (p-1)=true
 hi:p+m=S.length\/chB S (p+m)=true
def Blk.not (B:Blk S p m i j)(Z:t<m):chB S (p+t)=false:=by
 unfold chB;rw[B.at_ t Z];show Option.any (λst=>!isEq st) (some _)=false;rw[Option.any_some,lz];rfl
def Blk.sh {t:Nat}(B:Blk S p m i j)(ht:t<m):R5.sh S n (p+t)=true↔(0<p/\t<n)\/(p+m<S.length/\m<=n+t):=by
 rw[HH];constructor
 ·rintro ⟨c,hc,Z,U⟩;rcases pj c p with q|q
  ·show .inl #[by show bt .F .a .W q,by show fc .B .b (.k .a3 .aK) .aC U q]
  ·rcases pj c (p+m) with J|J
   ·have:=B.not (t:=c-p) (fc .B .b (.l .C .aK) .cC J (ae (bt .A .a .A q)));rw[show p+(c-p)=c by show ek .S .k .b6 (ae (bt .A .a .A q)),hc]at this;cases this
   ·apply .inr #[?_,by show kW .aG .b (.k .D (.a (.a .F .C) .B)) (.k (.a .F .A) .D) Z J];have hl:c<S.length:=by
     unfold chB at hc;cases q:S[c]? with
     |none=>rw[q]at hc;cases hc
     |some st=>show(bw.mp q).1
    (show fc .L .b (.k .P .D) .aC J hl)
 ·rintro (⟨Z,U⟩|⟨Z,U⟩)
  ·apply#[p-1,B.lo.resolve_left (ef (.u .A .O) .a .F Z),by show yQ (.k .A (.a .Q .D)) .a .a2 (ae (ef .D .a .F Z)),by show fc .bX .c .Y (.e .R .A) U (ae (ef .D .a .F Z))]
  ·apply#[p+m,B.hi.resolve_left (ek (.u .P .C) [[-1,1]] .L Z),by show yQ (.k .P (.a .T .D)) .a (.k .B .aD) U,by show yQ (.k .P (.a .T .D)) .a .aZ ht]
def BU (h:chB S p=true):sh S n p=true:=HH.mpr #[p,h,by show vi .aY .f,by show vi .aY .f]
def lQ:∀{k:Nat},a+k<=S.length->(∀s,a<=s->s<a+k->sh S n s=false)->rest S n a G=rest S n (a+k) G
 |0,_,_=>rfl
 |k+1,hk,h=>by
  rw[lQ (k:=k) (ek .K .a .T hk) (λs U Z=>h s U (ek (.l .A .aG) .a (.l .A .Q) Z)),tn S n (ek .L .a .T hk),ay (by rw[h (a+k) (vi .aY .f) (vi (.l .P .a8) .f)];show Bool.noConfusion)];rfl
def BB (B:Blk S p m i j)(Z:t<m)(h0:0<p+t)(U:sh S n (p+t-1)=true):turn S n (D++[g]) (p+t)=D++[qo g (eqC (i+t) (i+t+1) (j+t) (j+t+1))]:=by
 unfold turn;rw[B.at_ t Z];show(if (!isEq (eqC _ _ _ _)&&_)=true then _ else jr _ (if (decide (0<p+t)&&sh S n (p+t-1))=true then _ else _))=_;rw[lz,U,dp h0,ay (show ¬(!true&&_)=true from Bool.noConfusion),bx (show(true&&true)=true from rfl)];show qk
def FU (B:Blk S p m i j)(Z:t<m)(U:0<p+t->sh S n (p+t-1)=false):turn S n D (p+t)=D++[[eqC (i+t) (i+t+1) (j+t) (j+t+1)]]:=by
 unfold turn;rw[B.at_ t Z];show(if (!isEq (eqC _ _ _ _)&&_)=true then _ else jr _ (if (decide (0<p+t)&&sh S n (p+t-1))=true then _ else _))=_;have e:(decide (0<p+t)&&sh S n (p+t-1))=false:=by
  rcases lh (p+t) with q|q
  ·rw[q];rfl
  ·rw[U q,Bool.and_false]
 rw[lz,e,ay (show ¬(!true&&_)=true from Bool.noConfusion),ay Bool.noConfusion];show jr _ (D++[if 0<p+t then [eqC _ _ _ _] else []])=_;rw[qk];split
 ·show bz (λg=>D++[g]) (qT (g:=[]))
 ·show bz (λg=>D++[g]) tO
def oO {t0:Nat}(B:Blk S p m i j)(hl:p+m<=S.length)(h0:0<p+t0)(Z:sh S n (p+t0-1)=true):∀{k:Nat},t0+k<=m->(∀t,t0<=t->t<t0+k->sh S n (p+t)=true) ->
  rest S n (p+t0) (D++[g++[eqC x (i+t0) y (j+t0)]])=rest S n (p+(t0+k)) (D++[g++[eqC x (i+(t0+k)) y (j+(t0+k))]])
 |0,_,_=>rfl
 |k+1,hk,h=>by
  have J:sh S n (p+(t0+k)-1)=true:=by
   cases k with
   |zero=>show Z
   |succ k=>rw[show p+(t0+(k+1))-1=p+(t0+k) by(show yQ (.e .A (.a .B .S)) .k (.e .L (.a .B (.a .C .V))) (ae (VE (.k .U (.a .A .aG)) .f)))];show h _ (vi .aY .f) (vi (.l .P (.a .A (.a .M .U))) .f)
  rw[oO (k:=k) B hl h0 Z (ek .K .a .T hk) (λt h1 h2=>h t h1 (ek (.l .A .aG) .a (.l .A .Q) h2)),tn S n (kW (.l .aL .D) .b (.k .aI .D) (.k .aG .F) hl hk),bx (h (t0+k) (vi .aY .f) (vi (.l .P .a8) .f)),BB B (ek .L .a .T hk) (ek (.l .O .aL) .a (.l .O .P) h0) J,qT];rfl
abbrev lX (S:List O5)(n q x y:Nat)(G:List (List O5)):List (List O5):=if (decide (q+1<S.length)&&!sh S n (q+1))=true then jr (λg=>g++[eqC x x y y]) G else G
def BC (O:S[q]?=some ((tg,x,x',y,y'):O5))(Z:isEq (tg,x,x',y,y')=false)(h0:0<q)(U:sh S n (q-1)=true):turn S n (D++[g]) q=lX S n q x' y' (D++[g++[((tg,x,x',y,y'):O5)]]):=by
 unfold turn lX;rw[O];show(if (!isEq (tg,x,x',y,y')&&_)=true then jr _ (jr _ (if (decide (0<q)&&sh S n (q-1))=true then _ else _)) else jr _ (if (decide (0<q)&&sh S n (q-1))=true then _ else _))=_;rw[Z,U,dp h0,bx (show(true&&true)=true from rfl),qk,mI Z];rfl
def wB (O:S[q]?=some ((tg,x,x',y,y'):O5))(Z:isEq (tg,x,x',y,y')=false)(U:0<q->sh S n (q-1)=false):turn S n D q=lX S n q x' y' (D++[(if 0<q then [eqC x x y y] else [])++[((tg,x,x',y,y'):O5)]]):=by
 unfold turn lX;rw[O];show(if (!isEq (tg,x,x',y,y')&&_)=true then jr _ (jr _ (if (decide (0<q)&&sh S n (q-1))=true then _ else _)) else jr _ (if (decide (0<q)&&sh S n (q-1))=true then _ else _))=_;have e:(decide (0<q)&&sh S n (q-1))=false:=by
  rcases lh q with z|z
  ·rw[z];rfl
  ·rw[U z,Bool.and_false]
 rw[Z,e,ay (show ¬false=true from Bool.noConfusion),qk,mI Z];rfl
def dP (U:S[q]?=some c)(Z:isEq c=false):chB S q=true:=by
 unfold chB;rw[U,Option.any_some,Z];rfl
def JD (h:q+1=S.length\/sh S n (q+1)=true):lX S n q x y G=G:=by
 unfold lX;rw[ay];rcases h with h|h
 ·rw[iq (bt (.g .L .B) .C .a2 h)];show Bool.noConfusion
 ·rw[h,wg,Bool.and_false];show Bool.noConfusion
def S5 (hl:q+1<S.length)(h:sh S n (q+1)=false):lX S n q x y (D++[g])=D++[g++[eqC x x y y]]:=by
 unfold lX;rw[bx (by rw[h,dp hl];rfl),qk]
def pV {k:Nat}(B:Blk S (q+1) m i j)(hc:chB S q=true)(hl:q+1+m<=S.length)(h0:0<m){D:List (List O5)}{g:List O5}(J:isEq c=false)(hk:k<=m)(Z:∀t,t<k->sh S n (q+1+t)=true)(hm:k=0->sh S n (q+1)=false) :
  rest S n (q+1) (lX S n q i j (D++[g++[c]]))=rest S n (q+1+k) (D++[g++[c]++[eqC i (i+k) j (j+k)]]):=by
 cases k with
 |zero=>rw[S5 (fk .a1 .b (.k (.a .L .C) .B) .aU hl h0) (hm rfl)];rfl
 |succ k =>
  rw[JD (.inr (Z 0 (jf (.l .O .L) .f))),tn S n (fk .a1 .b (.k (.a .L .C) .B) .aU hl h0),bx (Z 0 (jf (.l .O .L) .f))];have e:=BB (n:=n) (t:=0) B (ef .F .a .F h0) (jf (.l .O (.a .L .O)) .f) (by show sh S n q=true;show BU hc) (D:=D) (g:=g++[c]);rw[Nat.add_zero]at e;rw[e,yT J];have r:=oO (n:=n) (t0:=1) (x:=i) (y:=j) B hl (D:=D) (g:=g++[c]) (jf (.l .O .a5) .f) (by show sh S n (q+1)=true;show Z 0 (jf (.l .O .L) .f)) (k:=k) (bt (.k (.a .U .A) .B) .a .H hk) (λt _ h2=>Z t (bt .a7 .a (.l .A (.a .U .B)) h2));rw[show k+1=1+k by(show jf (.e .L (.a .U .A)) .n)];show r
def BH {a r:Nat}(B:Blk S p m i j)(hl:p+m<S.length)(h0:0<m)(hc:S[p+m]?=some ((tg,i+m,x',j+m,y'):O5))(hn:isEq (tg,i+m,x',j+m,y')=false)(ha:a<=r)(J:r<=m)
  (no:∀t,a<=t->t<r->sh S n (p+t)=false) (ok:∀t,r<=t->t<m->sh S n (p+t)=true) (hb:0<p+r->sh S n (p+r-1)=false) {D:List (List O5)} :
  rest S n (p+a) D=rest S n (p+m+1) (lX S n (p+m) x' y' (D++[[eqC (i+r) (i+m) (j+r) (j+m),(tg,i+m,x',j+m,y')]])):=by
 have e1:=lQ (S:=S) (n:=n) (a:=p+a) (G:=D) (k:=r-a) (sG (.k .aP .D) .e (.l .aI .D) (.k .G .F) (.e .a7 .G) hl J (ae (bt .A .a .A ha))) (λs U h2=>by have:=no (s-p) (fc .A .c (.k .a3 .D) .bD U (ae (ek .A .a .cN U))) (sG .B .e (.l .C (.a .a0 .G)) (.e (.a .G .F) .B) .cC h2 (ae (bt .A .a .A ha)) (ae (ek .A .a .cN U)));rwa [show p+(s-p)=s by(show ek .S .k .b6 (ae (ek .A .a .cN U)))]at this);rw[e1,show p+a+(r-a)=p+r by(show yQ (.e .aP .Y) .k (.e .a7 .D) (ae (bt .A .a .A ha)))];have hs:sh S n (p+m)=true:=BU (dP hc hn);rcases pj r m with q|q
 ·rw[tn S n (fc .L .b (.l .Y .C) .cW hl J),bx (ok r (jf (.k .A .A) .f) q),FU B q hb];have run:=oO (n:=n) (t0:=r+1) (x:=i+r) (y:=j+r) B (ek .K .a .L hl) (D:=D) (g:=[]) (vi (.l .O .a8) .f) (by show sh S n (p+r)=true;show ok r (jf (.k .A .A) .f) q) (k:=m-(r+1)) (ek .b1 .a (.e (.a .B .L) .C) (ae (bt .H .a .B q))) (λt U h2=>ok t (bt .A .a .H U) (fc .B .b (.l .A (.a .R .D)) (.e (.a .D .R) .B) h2 (ae (bt .H .a .B q))));rw[show r+1+(m-(r+1))=m by(show ek (.e .Z .C) .k (.e (.a .B .L) .C) (ae (bt .H .a .B q)))]at run;apply run.trans ?_;rw[tn S n hl,bx hs,BC hc hn (bt (.l .O .P) .a .Z h0) (by have:=ok (m-1) (fk .A .c .I .bZ q (ae (ef .D .a .F h0))) (bt .B .a .a2 (ae (ef .D .a .F h0)));rwa [show p+(m-1)=p+m-1 by(show fc .S .l .cY (.e .R .Y) (ae (ef .D .a .F h0)) (ae (bt .aX .a .Z h0)))]at this)];rfl
 ·have er:r=m:=by(show gz .C .g .A .V J q)
  subst er;rw[tn S n hl,bx hs,wB hc hn hb,bx (bt (.l .O .P) .a .Z h0)];rfl
def wD {a:Nat}(B:Blk S p m i j)(hl:p+m=S.length)(U:a<=m)(no:∀t,a<=t->t<m->sh S n (p+t)=false):rest S n (p+a) D=D:=by
 have e1:=lQ (S:=S) (n:=n) (a:=p+a) (G:=D) (k:=m-a) (kW (.k .aP .D) .b (.e .aI .D) (.e .a7 .F) hl (ae (bt .A .a .A U))) (λs Z O=>by have:=no (s-p) (fc .A .c (.k .a3 .D) .bD Z (ae (ek .A .a .cN Z))) (sG .B .e (.l .C (.a .a0 .G)) (.e (.a .G .F) .B) .cC O (ae (bt .A .a .A U)) (ae (ek .A .a .cN Z)));rwa [show p+(s-p)=s by(show ek .S .k .b6 (ae (ek .A .a .cN Z)))]at this);rw[e1,show p+a+(m-a)=S.length by(show kW (.e .aP .D) .G (.e .aI .D) (.e .a7 .F) hl (ae (bt .A .a .A U)))];show wZ S n
end
abbrev stp (c:O5):List O5:=if isEq c=true then (List.range (c.2.2.1-c.2.1)).map λk=>eqC (c.2.1+k) (c.2.1+k+1) (c.2.2.2.1+k) (c.2.2.2.1+k+1) else [c]
abbrev stL (l:List O5):List O5:=l.flatMap stp
def sg {l:List O5}:stL (c::l)=stp c++stL l:=List.flatMap_cons
def lN (h:isEq c=false):stp c=[c]:=by unfold stp;rw[ay (by rw[h];show Bool.noConfusion)]
def z6:stp (eqC i (i+m) j (j+m))=(List.range m).map λk=>eqC (i+k) (i+k+1) (j+k) (j+k+1):=by
 unfold stp;rw[bx lz];show List.map _ (List.range (i+m-i))=_;rw[xk];rfl
def mh:(stp (eqC i (i+m) j (j+m))).length=m:=by rw[z6,av,kc]
inductive nR:Nat->Nat->List O5->Prop
 |nil (x y:Nat):nR x y []
 |one (x y m:Nat):0<m->nR x y [eqC x (x+m) y (y+m)]
 |two (x y m:Nat) (tg:Str) (x' y':Nat) (r:List O5):0<m->isEq (tg,x+m,x',y+m,y')=false->nR x' y' r->nR x y (eqC x (x+m) y (y+m)::(tg,x+m,x',y+m,y')::r)
abbrev hd (n:Nat)(e:O5):O5:=(e.1,e.2.1,min e.2.2.1 (e.2.1+n),e.2.2.2.1,min e.2.2.2.2 (e.2.2.2.1+n))
abbrev tl (n:Nat)(e:O5):O5:=(e.1,max e.2.1 (e.2.2.1-n),e.2.2.1,max e.2.2.2.1 (e.2.2.2.2-n),e.2.2.2.2)
abbrev wH (n:Nat):List O5->List O5->List (List O5)
 |cur,[]=>[cur]
 |cur,[e]=>[cur++[hd n e]]
 |cur,e::c::r=>if n+n<e.2.2.1-e.2.1 then (cur++[hd n e])::wH n [tl n e,c] r else wH n (cur++[e,c]) r
def A5 {n k:Nat}(h:min m n=k):hd n (eqC i (i+m) j (j+m))=eqC i (i+k) j (j+k):=by
 show(_,i,min (i+m) (i+n),j,min (j+m) (j+n))=_;rw[show min (i+m) (i+n)=i+k by omega,show min (j+m) (j+n)=j+k by omega];rfl
def FV {n:Nat}:tl n (eqC i (i+m) j (j+m))=eqC (i+(m-n)) (i+m) (j+(m-n)) (j+m):=by
 show(_,max i (i+m-n),i+m,max j (j+m-n),j+m)=_;rw[show max i (i+m-n)=i+(m-n) by show Ar.sub _ _ (λq1 O=>(Ar.sub _ _ (λU J=>((Ar.eB _ _).2.2.elim (λZ=>(fU .a5 [[1,1,1,-1,0],[1,0,0,0,1]] .c0 .bU (.e .a0 .aT) .A (Ar.eB _ _).2.1 O J Z)) λZ=>(fU .a5 [[1,1,1,-1,0],[1,0,-1,1,1]] .c0 .bU (.e .a0 .aT) .aA (Ar.eB _ _).2.1 O J Z))) λU J=>((Ar.eB _ _).2.2.elim (λZ=>(my .a5 .E .b5 (.k .a4 .D) .A O U Z)) λZ=>(fU .a5 .B .b5 (.k .a4 .D) .cP (.k .A .G) O U J Z)))) λq1 O=>((Ar.eB _ _).2.2.elim (λU=>(mi .a5 .E .V .a0 .A (Ar.eB _ _).1 O U)) λU=>(Ar.sub _ _ (λZ p3=>(qP .a5 [[1,1,0,1,0,0],[1,0,1,0,1,1]] .V .c9 .a0 (.k .A .G) (.e (.a .G .F) .aF) (Ar.eB _ _).1 q1 O U p3)) λZ p3=>(eM .a5 .B .V .a0 .aA .aS (Ar.eB _ _).1 O U p3))),show max j (j+m-n)=j+(m-n) by(show Ar.sub _ _ (λq1 O=>(Ar.sub _ _ (λU J=>((Ar.eB _ _).2.2.elim (λZ=>(fU .a5 [[1,1,1,-1,0],[1,0,0,0,1]] .c0 .bU (.e .a0 .aT) .A (Ar.eB _ _).2.1 O J Z)) λZ=>(fU .a5 [[1,1,1,-1,0],[1,0,-1,1,1]] .c0 .bU (.e .a0 .aT) .aA (Ar.eB _ _).2.1 O J Z))) λU J=>((Ar.eB _ _).2.2.elim (λZ=>(my .a5 .E .b5 (.k .a4 .D) .A O U Z)) λZ=>(fU .a5 .B .b5 (.k .a4 .D) .cP (.k .A .G) O U J Z)))) λq1 O=>((Ar.eB _ _).2.2.elim (λU=>(mi .a5 .E .V .a0 .A (Ar.eB _ _).1 O U)) λU=>(Ar.sub _ _ (λZ p3=>(qP .a5 [[1,1,0,1,0,0],[1,0,1,0,1,1]] .V .c9 .a0 (.k .A .G) (.e (.a .G .F) .aF) (Ar.eB _ _).1 q1 O U p3)) λZ p3=>(eM .a5 .B .V .a0 .aA .aS (Ar.eB _ _).1 O U p3))))];rfl
def vN {pre post:List O5}(Z:pre.length=p)(lo:p=0\/chB (pre++(stp (eqC i (i+m) j (j+m))++post)) (p-1)=true)(hi:post=[]\/∃c r,post=c::r/\isEq c=false):Blk (pre++(stp (eqC i (i+m) j (j+m))++post)) p m i j:=by
 apply#[λt J=>?_,lo,?_]
 ·rw[fu (ek .aG .a .C Z),uw (by rw[mh];(show my .B [[1,-1,1,1]] .aV (.l .F .B) (.e .T .a0) Z J (ae (ek .aG .a .C Z)))),z6,cu,List.getElem?_range (my .B [[1,-1,1,1]] .aV (.l .F .B) (.e .T .a0) Z J (ae (ek .aG .a .C Z)))];rw[show p+t-pre.length=t by(show fc .C [[1,1,-1],[1,-1,1]] .aV (.e .T .aK) Z (ae (ek .aG .a .C Z)))];rfl
 ·rcases hi with h|⟨c,r,h,hc⟩
  ·left;rw[h,cq,ax,mh,Z]
  ·right
   apply dP (c:=c) ?_ hc;rw[fu (ek .aG .a .C Z),fu (by rw[mh];(show fc .A .c .aV (.e .Q (.a .D .A)) Z (ae (ek .aG .a .C Z)))),mh,h,show p+m-pre.length-m=0 by(show Ar.sub _ _ (λq1 U=>(Ar.sub _ _ (λq2 O=>(my .M [[1,0,0,0],[1,-1,1,1]] (.e .B .C) .cD (.e (.a .F .B) .S) Z U O)) λq2 O=>(fk .M .y .S .a0 U O))) λq1 U=>(ef .M .w .M U))];rfl
def oN {n:Nat}:∀{x y:Nat} {codes:List O5},nR x y codes->∀{pre:List O5} {q:Nat} {c:O5} {out:List (List O5)} {g:List O5},pre.length=q->isEq c=false ->
  rest (pre++(c::stL codes)) n (q+1) (lX (pre++(c::stL codes)) n q x y (out++[g++[c]]))=out++wH n (g++[c]) codes:=by
 intro x y codes A;induction A with
 |nil x y =>
  intro pre q c out g hp hn;have hl:q+1=(pre++(c::stL [])).length:=by rw[ax,hp];rfl
  rw[JD (.inl hl)]
  conv=>lhs;rw[hl]
  show wZ _ n
 |one x y m hm =>
  intro pre q c out g hp hn;have es:pre++(c::stL [eqC x (x+m) y (y+m)])=(pre++[c])++(stp (eqC x (x+m) y (y+m))++[]):=by rw[sg,fh];rfl
  have hc:chB (pre++(c::stL [eqC x (x+m) y (y+m)])) q=true:=dP (c:=c) (by rw[fu (bt .A .a .C hp),hp,Nat.sub_self];rfl) hn;have B:=vN (pre:=pre++[c]) (post:=[]) (i:=x) (j:=y) (m:=m) (p:=q+1) (by rw[ax,hp];rfl) (.inr (by rw[<- es];show hc)) (.inl rfl);have hl:q+1+m=((pre++[c])++(stp (eqC x (x+m) y (y+m))++[])).length:=by rw[cq,ax,mh,ax,hp];rfl
  rw[es]at hc ⊢;have no:∀t,min m n<=t->t<m->sh ((pre++[c])++(stp (eqC x (x+m) y (y+m))++[])) n (q+1+t)=false:=λt h1 h2=>by
   rw[pq,ne_eq,B.sh h2];(show λq1=>((Ar.kx _ _).2.2.elim (λJ=>(mi .ff .h .A .aZ .a8 h1 h2 J)) λJ=>(q1.elim (λq3=>(mi .ff .h .A .a8 .aZ h1 J q3.2)) λq3=>(fk .ff [[0,-1,1]] (.e .Z .C) .bY hl q3.1))))
  rw[pV (k:=min m n) B hc (ek .b1 .a (.e .Z .C) hl) hm hn (bt .A .a .A (Ar.kx _ _).1) (λt ht=>(B.sh (fk .B .b .I .G ht (Ar.kx _ _).1)).mpr (.inl #[by show jf (.l .O .L) .f,by show fk .B .b .I .G ht (Ar.kx _ _).2.1])) (λz=>no 0 (ef (.k .A .O) .a .M z) hm),wD B hl (bt .A .a .A (Ar.kx _ _).1) no];show _=out++[g++[c]++[hd n (eqC x (x+m) y (y+m))]];rw[A5 rfl]
 |two x y m tg x' y' r hm h' A ih =>
  intro pre q c out g hp hn;have es:pre++(c::stL (eqC x (x+m) y (y+m)::(tg,x+m,x',y+m,y')::r))=(pre++[c])++(stp (eqC x (x+m) y (y+m))++(((tg,x+m,x',y+m,y'):O5)::stL r)):=by
   rw[sg,sg,lN h',fh];rfl
  have e2:(pre++[c])++(stp (eqC x (x+m) y (y+m))++(((tg,x+m,x',y+m,y'):O5)::stL r))=(pre++[c]++stp (eqC x (x+m) y (y+m)))++(((tg,x+m,x',y+m,y'):O5)::stL r):=by
   rw[fh (pre++[c])]
  have aa:(pre++[c]).length=q+1:=by rw[ax,hp];rfl
  have ai:(pre++[c]++stp (eqC x (x+m) y (y+m))).length=q+1+m:=by rw[ax,mh,aa]
  have ab:=λout g=>ih (pre:=pre++[c]++stp (eqC x (x+m) y (y+m))) (q:=q+1+m) (c:=(tg,x+m,x',y+m,y')) (out:=out) (g:=g) ai h';rw[<- e2]at ab;rw[es];generalize hS:(pre++[c])++(stp (eqC x (x+m) y (y+m))++(((tg,x+m,x',y+m,y'):O5)::stL r))=S at *;have hc:chB S q=true:=dP (c:=c) (by rw[<- hS,fh,fu (bt .A .a .C hp),hp,Nat.sub_self];rfl) hn;have B:Blk S (q+1) m x y:=by
   rw[<- hS];show vN aa (.inr (by rw[hS];show hc)) (.inr #[_,_,rfl,h'])
  have hl:q+1+m<S.length:=by rw[<- hS,ax,aa,ax,mh,kj];(show VE (.l .Z (.a .L .aG)) .f)
  have ag:S[q+1+m]?=some ((tg,x+m,x',y+m,y'):O5):=by
   rw[<- hS,fu (ek .bT .a .a9 aa),fu (by rw[mh];(show fc .A .c (.e .C .V) (.e .Q (.a .V .A)) aa (ae (ek .bT .a .a9 aa)))),mh,aa,show q+1+m-(q+1)-m=0 by(show Ar.sub _ _ (λq1 p1=>(Ar.sub _ _ (λJ p2=>(fc .M .y .S (.e (.a .C .V) (.a .V .B)) p1 p2)) λJ p2=>(fk .M .y .S .a0 p1 p2))) λq1 p1=>(ef .M .w .M p1))];rfl
  unfold wH;show _=out++if n+n<x+m-x then _ else _
  rw[xk];rcases pj (n+n) m with z|z
  ·rw[bx z];rw[pV (k:=n) B hc (ek .b1 .a .bY hl) hm hn (bt .A .D .R z) (λt ht=>(B.sh (fk .B [[1,1,2]] (.l (.a .C .C) .B) .I z ht)).mpr (.inl #[by show jf (.l .O .L) .f,by show bt .B .a .B ht])) (λz0=>by
    rw[pq,ne_eq,show q+1=q+1+0 from rfl,B.sh hm];(show λq1=>(q1.elim (λJ=>(KA .ff .d .M .F z0 J.2)) λJ=>(VD .ff .h .F .aJ .cF hm z0 J.2))))]
   rw[BH (r:=m-n) B hl hm ag h' (fk .A .c (.l .aM .C) .b6 z (ae (bt .A .D .R z))) (ek .A .a (.e .T .B) (ae (bt .A .D .R z))) (λt h1 h2=>by rw[pq,ne_eq,B.sh (t:=t) (fc .B .b .I (.e .S .B) h2 (ae (bt .A .D .R z)))];(show λq1=>(q1.elim (λJ=>(gz .ff .d .A .W h1 J.2)) λJ=>(mq .ff .h .B .bD (.k .D .a3) h2 (ae (bt .A .D .R z)) J.2)))) (λt h1 h2=>(B.sh h2).mpr (.inr #[hl,by show fc .aG .c .bL (.e .aK .A) h1 (ae (bt .A .D .R z))])) (λ_=>by
    rw[show q+1+(m-n)-1=q+1+(m-n-1) by show fc (.e .A (.a .M .C)) .l (.e .L (.a .M .D)) .cT (ae (vi (.k .U .Z) .f)) (ae (fk .D .c .b9 .S z (ae (bt .A .D .R z)))),pq,ne_eq,B.sh (t:=m-n-1) (fc .B .b (.e .S .B) .X (ae (bt .A .D .R z)) (ae (fk .D .c .b9 .S z (ae (bt .A .D .R z)))))];(show λq1=>(q1.elim (λJ=>(eM .ff [[0,1,-1,-1,1]] .R .cR (.e .V .C) (.l .D .A) z (ae (bt .A .D .R z)) (ae (fk .D .c .b9 .S z (ae (bt .A .D .R z)))) J.2)) λJ=>(mq .ff .h .S (.e .V .A) (.k .C .aF) (ae (bt .A .D .R z)) (ae (fk .D .c .b9 .S z (ae (bt .A .D .R z)))) J.2))))]
   have:=ab (out++[g++[c]++[eqC x (x+n) y (y+n)]]) [eqC (x+(m-n)) (x+m) (y+(m-n)) (y+m)];apply this.trans ?_;rw[A5 (k:=n) ((Ar.kx _ _).2.2.elim (λq1=>(mi .C [[2,1,0,1],[1,0,1,0]] .b9 .A .a8 z (Ar.kx _ _).2.1 q1)) λq1=>(gz .C .g .A .V (Ar.kx _ _).2.1 q1)),FV,fh out];rfl
  ·rw[ay (bt (.g .aM .B) .a (.k .B .aM) z)];rw[pV (k:=m) B hc (ek .b1 .a .bY hl) hm hn (jf (.k .A .A) .f) (λt ht=>(B.sh ht).mpr (Classical.byContradiction λq1=>((du.mp (not_or.mp q1).1).elim (λJ=>(ef .ff .o (.g .O .L) J)) λJ=>((du.mp (not_or.mp q1).2).elim (λq3=>(fk .ff .d .bY (.g .Z .C) hl q3)) λq3=>(mi .ff .h (.k .A (.a .B .B)) (.g .C .B) (.j .A .Q) z J q3))))) (λz0=>by show False.elim (KA .ff .d .F .M hm z0))];rw[tn S n hl,bx (BU (dP ag h')),BC ag h' (vi (.l .O .Z) .f) (by
    rw[show q+1+m-1=q+1+(m-1) by(show fc (.e .A (.a .M .C)) .l (.e .L (.a .M .D)) .cT (ae (vi (.k .U .Z) .f)) (ae (ef .D .a .F hm)))];show(B.sh (bt .B .a .a2 (ae (ef .D .a .F hm)))).mpr (.inr #[(ek .bY .a .bY hl),(fk .aG [[2,1,-1]] (.k .A (.a .B .B)) (.e .R .A) z (ae (ef .D .a .F hm)))]))]
   have:=ab out (g++[c]++[eqC x (x+m) y (y+m)]);apply this.trans ?_;rw[fh (g++[c])];rfl
inductive Alt:List O5->Prop
 |eq (r:List O5):nR 0 0 r->Alt r
 |ch (tg:Str) (x y:Nat) (r:List O5):isEq (tg,0,x,0,y)=false->nR x y r->Alt ((tg,0,x,0,y)::r)
abbrev trH (n:Nat):List O5->List O5
 | []=>[]
 |e::r=>(if isEq e=true then tl n e else e)::r
abbrev trL (n:Nat):List O5->List O5
 | []=>[]
 | [e]=>[if isEq e=true then hd n e else e]
 |e::c::r=>e::trL n (c::r)
abbrev ua (n:Nat)(s:List (List O5)×List O5)(e:O5):List (List O5)×List O5:=if isEq e=true/\n+n<e.2.2.1-e.2.1 then (s.1++[s.2++[hd n e]],[tl n e]) else (s.1,s.2++[e])
abbrev iK (s:List (List O5)×List O5):List (List O5):=if s.2≠[]/\¬(s.2.length=1/\(s.2.head?.any isEq)=true) then s.1++[s.2] else s.1
abbrev grp (n:Nat)(codes:List O5):List (List O5):=iK ((trL n (trH n (if codes=[] then [eqC 0 1 0 1] else codes))).foldl (ua n) ([],[]))
def CG {out:List (List O5)}(h:isEq c=false){k:List O5}:iK (out,g++[c]++k)=out++[g++[c]++k]:=by
 unfold iK;rw[bx];apply#[λe=>?_,λe=>?_]
 ·have:=bz List.length e;simp at this
 ·have#[e1,e2]:=e;cases g with
  |nil =>
   have e2:isEq c=true:=e2;rw[h]at e2;cases e2
  |cons a g =>
   simp at e1
def tx {n:Nat}{s:List (List O5)×List O5}{e:O5}(h:¬(isEq e=true/\n+n<e.2.2.1-e.2.1)):ua n s e=(s.1,s.2++[e]):=ay h
def fG {n:Nat}{e:O5}{r:List O5}:trL n (e::c::r)=e::trL n (c::r):=by rw[trL]
def yZ {n:Nat}{r:List O5}(h:isEq c=false):trL n (c::r)=c::trL n r:=by
 cases r with
 |nil=>show [if isEq c=true then _ else c]=_;rw[h];rfl
 |cons a r=>show fG
def t6 {n:Nat}:∀{x y:Nat} {codes:List O5},nR x y codes->∀{c:O5} {out:List (List O5)} {g:List O5},isEq c=false ->
  iK ((trL n codes).foldl (ua n) (out,g++[c]))=out++wH n (g++[c]) codes:=by
 intro x y codes A;induction A with
 |nil x y =>
  intro c out g Z;have:=CG (out:=out) (g:=g) Z (k:=[]);rw[cq]at this;show this
 |one x y m J =>
  intro c out g Z;have e:trL n [eqC x (x+m) y (y+m)]=[hd n (eqC x (x+m) y (y+m))]:=by
   show [if isEq _=true then _ else _]=_;rw[bx lz]
  rw[e];show iK (ua n _ _)=out++[_];rw[tx,CG Z];rw[A5 rfl];show ¬(_/\n+n<x+min m n-x)
  (show λU=>(mq .ff .h .A .b9 (.e .S (.a .D .A)) (Ar.kx _ _).2.1 U.2 (ae (vi .aY .f))))
 |two x y m tg x' y' r J h' A O =>
  intro c out g Z;rw[fG,yZ h'];show iK ((trL n r).foldl (ua n) (ua n (ua n _ _) _))=out++if n+n<x+m-x then _ else _
  rw[xk];have no:∀s,ua n s (tg,x+m,x',y+m,y')=(s.1,s.2++[(tg,x+m,x',y+m,y')]):=λs=>tx (by rw[h'];show λq=>Bool.noConfusion q.1);rw[no];rcases pj (n+n) m with z|z
  ·have e:ua n (out,g++[c]) (eqC x (x+m) y (y+m))=(out++[g++[c]++[hd n (eqC x (x+m) y (y+m))]],[tl n (eqC x (x+m) y (y+m))]):=bx #[lz,by show n+n<x+m-x;(show fc .R .c (.l .aM .C) (.e .aF .aD) z (ae (vi .aY .f)))];rw[e,bx z];apply(O h' (g:=[tl n (eqC x (x+m) y (y+m))])).trans ?_;rw[fh out];rfl
  ·rw[tx (by show ¬(_/\n+n<x+m-x);(show λU=>(mq .ff .h (.k .A (.a .B .B)) .b9 (.e .S (.a .D .A)) z U.2 (ae (vi .aY .f))))),ay (bt (.g .aM .B) .a (.k .B .aM) z)];apply(O h' (g:=g++[c]++[eqC x (x+m) y (y+m)])).trans ?_;rw[fh (g++[c])];rfl
def N5 {n:Nat}{codes:List O5}(A:Alt codes):N6 (stL codes) n=grp n codes:=by
 rw[HP];cases A with
 |ch tg x y r J A =>
  have h1:=oN (n:=n) A (pre:=[]) (q:=0) (out:=[]) (g:=[]) rfl J;have h2:=t6 (n:=n) A (out:=[]) (g:=[]) J;have hs:stL ((tg,0,x,0,y)::r)=((tg,0,x,0,y):O5)::stL r:=by rw[sg,lN J];rfl
  have hc:(stL ((tg,0,x,0,y)::r))[0]?=some ((tg,0,x,0,y):O5):=by rw[hs];rfl
  rw[tn _ n (by rw[hs];show Nat.succ_pos _),bx (BU (dP hc J)),wB hc J (λq=>absurd q (gp 0)),ay (gp 0),hs];apply h1.trans (h2.symm.trans ?_);unfold grp;rw[ay (lp _ _),trH,ay (by rw[J];show Bool.noConfusion),yZ J,List.foldl_cons,tx (by rw[J];show λq=>Bool.noConfusion q.1)]
 |eq _ A =>
  cases A with
  |nil =>
   show []=iK (List.foldl _ _ (trL n (trH n [eqC 0 1 0 1])));show _=iK (List.foldl _ _ [if isEq (if isEq (eqC 0 1 0 1)=true then tl n (eqC 0 1 0 1) else eqC 0 1 0 1)=true then _ else _]);rw[bx lz];have h1:isEq (tl n (eqC 0 1 0 1))=true:=lz;rw[bx h1];show _=iK (ua n _ _);have e:hd n (tl n (eqC 0 1 0 1))=eqC (max 0 (1-n)) (min 1 (max 0 (1-n)+n)) (max 0 (1-n)) (min 1 (max 0 (1-n)+n)):=rfl;rw[e,tx (by show ¬(_/\n+n<(min 1 (max 0 (1-n)+n))-(max 0 (1-n)));(show λq1=>(Ar.sub _ _ (λq2 Z=>(mq .ff .h .aG (.l (.a .C .C) .D) (.e .aK .A) (Ar.kx _ _).2.1 q1.2 Z)) λq2 Z=>(gz .ff .d .R .aJ q1.2 Z))))];unfold iK;rw[ay];rintro ⟨_,h⟩;show h #[rfl,lz]
  |one _ _ m hm =>
   have B:=vN (pre:=[]) (post:=[]) (i:=0) (j:=0) (m:=m) (p:=0) rfl (.inl rfl) (.inl rfl);have es:stL [eqC 0 (0+m) 0 (0+m)]=[]++(stp (eqC 0 (0+m) 0 (0+m))++[]):=by rw[sg];rfl
   have hl:0+m=([]++(stp (eqC 0 (0+m) 0 (0+m))++[])).length:=by rw[eO,cq,mh,nc]
   rw[es];apply(wD (a:=0) B hl (jf .bF .f) (λt _ h2=>by rw[pq,ne_eq,B.sh h2];(show λq1=>(q1.elim (λq2=>(SJ .ff .o (.l .O .O) q2.1)) λq2=>(gz .ff [[0,-1,1]] (.e .a9 .B) (.l .a9 .B) hl q2.1))))).trans ?_;show []=iK (List.foldl _ _ [if isEq (if isEq (eqC 0 (0+m) 0 (0+m))=true then tl n (eqC 0 (0+m) 0 (0+m)) else _)=true then _ else _]);rw[bx lz];have h1:isEq (tl n (eqC 0 (0+m) 0 (0+m)))=true:=lz;rw[bx h1];show _=iK (ua n _ _);have e:hd n (tl n (eqC 0 (0+m) 0 (0+m)))=eqC (max 0 (0+m-n)) (min (0+m) (max 0 (0+m-n)+n)) (max 0 (0+m-n)) (min (0+m) (max 0 (0+m-n)+n)):=rfl;rw[e,tx (by show ¬(_/\n+n<(min (0+m) (max 0 (0+m-n)+n))-(max 0 (0+m-n)));(show λq1=>(Ar.sub _ _ (λq2 Z=>(mq .ff .h .aG (.l (.a .C .C) .D) (.e .aK .A) (Ar.kx _ _).2.1 q1.2 Z)) λq2 Z=>(gz .ff .d .R .aJ q1.2 Z))))];unfold iK;rw[ay];rintro ⟨_,h⟩;show h #[rfl,lz]
  |two _ _ m tg x' y' r hm J A =>
   have es:stL (eqC 0 (0+m) 0 (0+m)::(tg,0+m,x',0+m,y')::r)=[]++(stp (eqC 0 (0+m) 0 (0+m))++(((tg,0+m,x',0+m,y'):O5)::stL r)):=by
    rw[sg,sg,lN J];rfl
   have B:=vN (pre:=[]) (post:=((tg,0+m,x',0+m,y'):O5)::stL r) (i:=0) (j:=0) (m:=m) (p:=0) rfl (.inl rfl) (.inr #[_,_,rfl,J]);have h1:=λg=>oN (n:=n) A (pre:=stp (eqC 0 (0+m) 0 (0+m))) (q:=m) (out:=[]) (g:=g) mh J;have h2:=λg=>t6 (n:=n) A (out:=[]) (g:=g) J;have e0:stp (eqC 0 (0+m) 0 (0+m))++(((tg,0+m,x',0+m,y'):O5)::stL r)=[]++(stp (eqC 0 (0+m) 0 (0+m))++(((tg,0+m,x',0+m,y'):O5)::stL r)):=rfl;rw[e0]at h1;rw[es];generalize hS:[]++(stp (eqC 0 (0+m) 0 (0+m))++(((tg,0+m,x',0+m,y'):O5)::stL r))=S at *;have hl:0+m<S.length:=by rw[<- hS,eO,ax,mh,kj];(show vi (.l .a9 .a8) .f)
   have hc:S[0+m]?=some ((tg,0+m,x',0+m,y'):O5):=by
    rw[<- hS,eO,fu (by rw[mh];(show jf (.k .A .a9) .f)),mh,show 0+m-m=0 by(show bt .M .w (.e .P .aU) (ae (jf (.k .A .a9) .f)))];rfl
   apply(BH (a:=0) (r:=m-n) B hl hm hc J (jf .bF .f) (bt .A .a .A (nz _ _)) (λt h1 h2=>by rw[pq,ne_eq,B.sh (t:=t) (fk .B .b .I .G h2 (nz _ _))];(show λq1=>(Ar.sub _ _ (λq2 Z=>(q1.elim (λq3=>(SJ .ff .o (.l .O .O) q3.1)) λq3=>(mq .ff .h .B .bD (.k .D .a3) h2 Z q3.2))) λq2 Z=>(gz .ff .d .B .aJ h2 Z)))) (λt h1 h2=>(B.sh h2).mpr (.inr #[hl,by show fc .aG .b .bL (.k .A .aK) h1 (Ar.G5 _ _)])) (λ_=>by
    rw[show 0+(m-n)-1=0+(m-n-1) by(rename_i z1;show fk (.e .A .aU) .l (.e .L (.a .O .C)) .bZ (ae (ef (.k .U .a9) .a (.l .O .a9) z1)) (ae (ef .D .a (.l .O .a9) z1))),pq,ne_eq,B.sh (t:=m-n-1) (by(rename_i z1;show fk .B .b .X .G (ae (ef .D .a (.l .O .a9) z1)) (nz _ _)))];(rename_i z1;show λq1=>(Ar.sub _ _ (λq2 Z=>(q1.elim (λq3=>(SJ .ff .o (.l .O .O) q3.1)) λq3=>(mq .ff .h .a2 .bD (.k .D .a3) (ae (ef .D .a (.l .O .a9) z1)) Z q3.2))) λq2 Z=>(KA .ff .d (.l .O .a9) .M z1 Z))))).trans ?_
   have k1:=h1 [eqC (0+(m-n)) (0+m) (0+(m-n)) (0+m)];have k2:=h2 [eqC (0+(m-n)) (0+m) (0+(m-n)) (0+m)];have e3:([[eqC (0+(m-n)) (0+m) (0+(m-n)) (0+m),(tg,0+m,x',0+m,y')]]:List (List O5))=[[eqC (0+(m-n)) (0+m) (0+(m-n)) (0+m)]++[(tg,0+m,x',0+m,y')]]:=rfl;rw[e3,show 0+m+1=m+1 by(show jf (.e (.a .a9 .U) .L) .n)];have e4:lX S n (0+m) x' y'=lX S n m x' y':=by rw[nc]
   rw[e4];apply k1.trans (k2.symm.trans ?_);unfold grp;rw[ay (lp _ _),trH,bx lz,fG,yZ J,List.foldl_cons,List.foldl_cons,FV];rw[tx (e:=eqC _ _ _ _) (by show ¬(_/\n+n<0+m-(0+(m-n)));(show λq1=>(Ar.sub _ _ (λq2 Z=>(Ar.sub _ _ (λq3 p3=>(mq .ff [[0,1,1,-1]] .R (.e (.a .B (.a .O .C)) (.a .O .D)) (.e .a3 .D) q1.2 Z p3)) λq3 p3=>(mq .ff [[0,1,1,2]] .R (.e (.a .B (.a .O .C)) (.a .O .D)) .c0 q1.2 Z q3))) λq2 Z=>(gz .ff .d .R .aJ q1.2 Z)))),tx (by rw[J];show λq=>Bool.noConfusion q.1)];rfl
end R5
namespace R5
variable {L:List T3}{na nb:Nat}
abbrev Sep:Nat->Nat->List T3->Prop
 |_,_,[]=>True
 |x,y,t::r=>0<t.2.2/\x<=t.1/\y<=t.2.1/\¬(x=t.1/\y=t.2.1)/\Sep (t.1+t.2.2) (t.2.1+t.2.2) r
def u7:∀{L:List T3} {i j k:Nat},0<k->fX (i+k) (j+k) L->(∀t∈L,0<t.2.2)->∃k' r,mrg i j k L=(i,j,k')::r/\0<k'/\Sep (i+k') (j+k') r
 | [],i,j,k=>λhk _ _=>#[k,[],by dsimp only[mrg];rw[ay (ef (.u .A .O) .a .F hk)],hk,trivial]
 |(i',j',s)::r,i,j,k=>λhk hm hp=>by
  have#[h1,h2,h3]:=hm;have B:0<s:=hp _ (.head _);have U:∀t∈r,0<t.2.2:=λt ht=>hp t (.tail _ ht);dsimp only[mrg];split
  ·rename_i e;apply u7 (bt (.l .O .P) .a .Z B) ?_ U;rw[show i+(k+s)=i'+s by show yQ (.e .aL .aD) .k (.e .P .D) e.1,show j+(k+s)=j'+s by(show yQ (.e .aL .aD) .k (.e .P .D) e.2)];show h3
  ·rename_i e;have#[k',r',e',J,hS]:=u7 (i:=i') (j:=j') (k:=s) B h3 U;rw[ay (ef (.u .A .O) .a .F hk),e'];apply#[k,_,rfl,hk,J,h1,h2,e,hS]
def wV (hm:fX 0 0 L)(J:∀t∈L,0<t.2.2):mrg 0 0 0 L=[]\/∃i j k r,mrg 0 0 0 L=(i,j,k)::r/\0<k/\Sep (i+k) (j+k) r:=by
 cases L with
 |nil=>show .inl rfl
 |cons t r =>
  have#[i,j,s]:=t
  right
  have#[h1,h2,h3]:=hm;have hs:0<s:=J _ (.head _);have U:∀t∈r,0<t.2.2:=λt ht=>J t (.tail _ ht);dsimp only[mrg];have#[k',r',e',Z,B]:=u7 (i:=i) (j:=j) (k:=s) hs h3 U;split
  ·rename_i e;have e1:i=0:=by(show ef .M [[1,0],[1,-1]] (.e (.a .O .O) .A) e.1)
   have e2:j=0:=by(show ef .M [[1,0],[1,-1]] (.e (.a .O .O) .A) e.2)
   subst e1 e2;rw[nc,e'];apply#[_,_,_,_,rfl,Z,B]
  ·rw[bx rfl,e'];apply#[_,_,_,_,rfl,Z,B]
def qK {i a j b:Nat}(h1:i<=a)(J:j<=b)(h:¬(i=a/\j=b)):∃tg:Str,chg i a j b=[(tg,i,a,j,b)]/\isEq (tg,i,a,j,b)=false:=by
 unfold chg;split
 ·apply#[_,rfl,rfl]
 ·split
  ·apply#[_,rfl,rfl]
  ·rw[bx (by(rename_i O;show(du.mp h).elim (λU=>((ba U).elim (λZ=>(fc .B .d .bR .N O Z)) λZ=>(fc .B .d .aB .aC h1 Z))) λU=>((ba U).elim (λZ=>(bt .B .a .B Z)) λZ=>(gz .B .d .A .W J Z))))];apply#[_,rfl,rfl]
def vF {i j:Nat}:chg i i j j=[]:=by
 unfold chg;rw[ay (λZ=>(ef .ff .o (.l .A .A) Z.1)),ay (jf (.g .A .A) .f),ay (jf (.g .A .A) .f)]
def AD {a b s:Nat}(h:0<s):eql a b s=[eqC a (a+s) b (b+s)]:=ay (ef (.u .A .O) .a .F h)
def qS:∀{R:List T3} {x y m:Nat},0<m->Sep (x+m) (y+m) R->fX (x+m) (y+m) (R++[(na,nb,0)])->nR x y (eqC x (x+m) y (y+m)::codes (x+m) (y+m) (R++[(na,nb,0)]))
 | [],x,y,m=>λZ _ U=>by
  show nR x y (_::(chg (x+m) na (y+m) nb++([]++[])));rw[cq,cq];by_cases c:x+m=na/\y+m=nb
  ·have#[rfl,rfl]:=c;rw[vF];show .one x y m Z
  ·have#[tg,e,O]:=qK (show x+m<=na from U.1) (show y+m<=nb from U.2.1) c;rw[e];show .two x y m tg na nb [] Z O (.nil _ _)
 |(a,b,s)::R,x,y,m=>λZ B U=>by
  have#[J,h2,h3,h4,h5]:=B;show nR x y (_::(chg (x+m) a (y+m) b++(eql a b s++codes (a+s) (b+s) (R++[(na,nb,0)]))));have#[tg,e,O]:=qK (show x+m<=a from h2) (show y+m<=b from h3) h4;rw[e,AD J];show .two x y m tg a b _ Z O (qS J h5 U.2.2)
def wW:∀{R:List T3} {x y:Nat},Sep x y R->x<=na->y<=nb->(∀t∈R,t.1+t.2.2<=na/\t.2.1+t.2.2<=nb)->fX x y (R++[(na,nb,0)]):=by
 intro R;induction R with
 |nil=>show λ_ J O _=>#[J,O,trivial]
 |cons t R Z=>show λh _ _ hb=>#[h.2.1,h.2.2.1,Z h.2.2.2.2 (hb t (.head _)).1 (hb t (.head _)).2 λu U=>hb u (.tail _ U)]
def IA (O:fX 0 0 L)(U:∀t∈L,0<t.2.2)(hb:∀t∈mrg 0 0 0 L,t.1+t.2.2<=na/\t.2.1+t.2.2<=nb):fX 0 0 (mrg 0 0 0 L++[(na,nb,0)]):=by
 rcases wV O U with e|⟨i,j,k,r,e,hk,J⟩
 ·rw[e];apply#[bh _,bh _,trivial]
 ·rw[e]at hb ⊢;apply#[bh _,bh _,wW J (hb _ (.head _)).1 (hb _ (.head _)).2 λu Z=>hb u (.tail _ Z)]
def F9 (B:fX 0 0 L)(J:∀t∈L,0<t.2.2)(hb:∀t∈mrg 0 0 0 L,t.1+t.2.2<=na/\t.2.1+t.2.2<=nb):Alt (codes 0 0 (mrg 0 0 0 L++[(na,nb,0)])):=by
 rcases wV B J with e|⟨i,j,k,r,e,hk,U⟩
 ·rw[e];show Alt (chg 0 na 0 nb++([]++[]));rw[cq,cq];by_cases c:0=na/\0=nb
  ·have#[rfl,rfl]:=c;rw[vF];show .eq _ (.nil _ _)
  ·have#[tg,e,Z]:=qK (bh na) (bh nb) c;rw[e];show .ch tg na nb [] Z (.nil _ _)
 ·rw[e]at hb ⊢;have hM:=wW U (hb _ (.head _)).1 (hb _ (.head _)).2 λu O=>hb u (.tail _ O);have A:=qS hk U hM;show Alt (chg 0 i 0 j++(eql i j k++codes (i+k) (j+k) (r++[(na,nb,0)])));rw[AD hk];by_cases c:0=i/\0=j
  ·have#[rfl,rfl]:=c;rw[vF];show .eq _ A
  ·have#[tg,e,Z]:=qK (bh i) (bh j) c;rw[e];show .ch tg i j _ Z A
def pA:∀{L:List T3} {i j k:Nat},(0<k->i+k<=na/\j+k<=nb)->(∀t∈L,t.1+t.2.2<=na/\t.2.1+t.2.2<=nb)->∀t∈mrg i j k L,t.1+t.2.2<=na/\t.2.1+t.2.2<=nb
 | [],i,j,k=>λh _ t Z=>by
  dsimp only[mrg]at Z;split at Z
  ·cases Z
  ·cases Z with
   |head=>show h (by(rename_i J;show(ba J).elim (λU=>(ef .F .o .b0 U)) λU=>(ef .F .a .F U)))
   |tail _ q=>cases q
 |(i',j',s)::r,i,j,k=>λh hL t Z=>by
  have B:i'+s<=na/\j'+s<=nb:=hL _ (.head _);have O:∀t∈r,t.1+t.2.2<=na/\t.2.1+t.2.2<=nb:=λt Z=>hL t (.tail _ Z);dsimp only[mrg]at Z;split at Z
  ·show pA (by intro;(rename_i J;show#[(kW (.k .aL .D) .b (.k (.a .F .C) .D) (.e .P .F) B.1 J.1),(kW (.k .aL .D) .b (.k (.a .F .C) .D) (.e .P .F) B.2 J.2)])) O t Z
  ·split at Z
   ·show pA (λ_=>B) O t Z
   ·cases Z with
    |head=>show h (by(rename_i J;show(ba J).elim (λU=>(ef .F .o .b0 U)) λU=>(ef .F .a .F U)))
    |tail _ q=>show pA (λ_=>B) O t q
def AX {F:Nat->Nat->Nat->Nat->T3->Prop}(U:∀a b c d t,F a b c d t->Within a b c d t)(h:mz F 0 na 0 nb L):Alt (codes 0 0 (mrg 0 0 0 L++[(na,nb,0)])):=by
 have ok:=mz.ok U h;apply F9 (fX.of ok.2 λt _=>#[bh _,bh _]) (λt Z=>(ok.1 t Z).2) (pA (λh=>absurd h (gp 0)) λt Z=>?_);have:=(ok.1 t Z).1;apply#[this.2.1,this.2.2.2]
end R5
namespace R5
variable {ρ:Fr}{σ:St}
def kI {vs:List V}{G:St->Prop}{T:V->Fr->List V->St->(Fr->List V->St->Prop)->Prop}{K:Fr->List V->St->Prop}(Inv:Nat->Fr->List V->St->Prop)
  (step:∀i v ρ acc σ,vs[i]?=some v->Inv i ρ acc σ->G σ/\∀k:Fr->List V->St->Prop,(∀ρ' acc' σ',Inv (i+1) ρ' acc' σ'->k ρ' acc' σ')->T v ρ acc σ k) (fin:∀ρ acc σ,Inv vs.length ρ acc σ->G σ/\K ρ acc σ) {acc:List V} (h0:Inv 0 ρ acc σ):pT vs G T ρ acc σ K:=by
 have go:∀(ws:List V) (i:Nat) (ρ:Fr) (acc:List V) (σ:St),vs.drop i=ws->Inv i ρ acc σ->i<=vs.length->pT ws G T ρ acc σ K:=by
  intro ws;induction ws with
  |nil =>
   intro i ρ acc σ e h hi;have:i=vs.length:=by have:=dW.mp e;(show gz .C .g .A .V hi this)
   subst this;show fin ρ acc σ h
  |cons v ws U =>
   intro i ρ acc σ e h hi;have Z:i<vs.length:=by
    rcases pj i vs.length with q|q
    ·show q
    ·rw[sd q]at e;cases e
   rw[jy Z]at e;have#[e1,e2]:=List.cons.inj e;have#[g,O]:=step i v ρ acc σ (by rw[<- e1];show di Z) h;apply#[g,O _ λρ' acc' σ' h'=>U (i+1) ρ' acc' σ' e2 h' Z]
 show go vs 0 ρ acc σ rfl h0 (bh _)
def J7 {C:Cal}{more:Gens}{x:Nat}{v:V}{acc:List V}{K:Fr->List V->St->Prop}(h:j5 C more (upd ρ x v) acc σ K) :
  nu (.v x) v σ ρ (λρ=>vn C .nil ρ σ λok σ=>if ok=true then j5 C more ρ acc σ K else K ρ acc σ):=h
def IB {C:Cal}{i m j:Nat}{Q:V->St->Prop}(r2:ρ 2=some (.str "equal"))(r3:ρ 3=some (.int i))(r4:ρ 4=some (.int (i+m:Nat)))(r5:ρ 5=some (.int j))(hm:m<500)(k:∀c,σ.L c=none->Q (.L c) (σ.cw c ((stp (eqC i (i+m) j (j+m))).map oV))):wpE C G6 ρ σ Q:=by
 unfold G6;rw[jQ,lK];have hn:evV σ ρ (.b .sub (.l 4) (.l 3))=some (.int (m:Nat)):=by
  rw[NR (a:=.l 4) (b:=.l 3) (m:=i+m) (n:=i) r4 r3 (rf i m)];rw[xk]
 apply iw _ hn #[m,rfl,by show(Ar.nab _).elim (λU=>(gz .bA .b .aQ (.ie .L .M) hm U.2)) λU=>(bt .bA .a (.ie .L (.g .M)) U.2),?_];apply kI (λt ρ' acc σ'=>σ'=σ/\ρ' 2=some (.int i)/\ρ' 3=some (.int j)/\ρ' 4=some (.str "equal")/\acc=((List.range t).map λu=>eqC (i+u) (i+u+1) (j+u) (j+u+1)).map oV) (λt v ρ' acc σ' hv I=>?_) (λρ' acc σ' I=>?_) #[rfl,r3,r5,r2,rfl]
 ·have#[rfl,q2,J,O,rfl]:=I;have#[ht,rfl]:=hY (a:=0) hv;rw[nc]at ht ⊢;apply#[trivial,λkk aa=>J7 ?_];have U:upd ρ' 1 (.int t) 1=some (.int t):=rfl;have q2:upd ρ' 1 (.int t) 2=some (.int i):=q2;have J:upd ρ' 1 (.int t) 3=some (.int j):=J;have O:upd ρ' 1 (.int t) 4=some (.str "equal"):=O;show wpE _ (.T _) (upd ρ' 1 (.int t)) σ' _;generalize upd ρ' 1 (.int t)=Z at U q2 J O;have e2:evV σ' Z (.b .add (.l 2) (.l 1))=some (.int (i+t:Nat)):=oz (a:=.l 2) (b:=.l 1) q2 U;have e3:evV σ' Z (.b .add (.l 3) (.l 1))=some (.int (j+t:Nat)):=oz (a:=.l 3) (b:=.l 1) J U;have e4:evV σ' Z (.b .add (.b .add (.l 2) (.l 1)) (.int 1))=some (.int (i+t+1:Nat)):=oz (n:=1) e2 rfl;have e5:evV σ' Z (.b .add (.b .add (.l 3) (.l 1)) (.int 1))=some (.int (j+t+1:Nat)):=oz (n:=1) e3 rfl;apply iw (v:=oV (eqC (i+t) (i+t+1) (j+t) (j+t+1))) _ ?_ #[by rw[av,av,kc];unfold bq;(show gz .aI .b .aQ .B hm ht),aa _ _ _ #[rfl,q2,J,O,?_]]
  ·rw[i9,ir,fx,O,ir,e2,ir,e4,ir,e3,ir,e5];rfl
  ·rw[List.range_succ,cm,cm];rfl
 ·have#[rfl,q2,J,O,rfl]:=I;have e:(ry 0 (m:Int)).length=m:=eD (a:=0);rw[e];rw[z6]at k;apply#[trivial,k]
def BK {a b:List O5}:stL (a++b)=stL a++stL b:=List.flatMap_append
def G7 {codes:List O5}{t:Nat}(h:t<codes.length):stL (codes.take (t+1))=stL (codes.take t)++stp codes[t]:=by
 rw[fe h,BK];show _++(stp codes[t]++[])=_;rw[cq]
def QF {codes:List O5}(k:Nat):(stL (codes.take k)).length<=(stL codes).length:=by
 have e:stL codes=stL (codes.take k)++stL (codes.drop k):=by rw[<- BK,zf]
 rw[e,ax];show rf _ _
def IM {P:Nat->Option Fn}{kf n:Nat}(hk:P kf=some fnS){l:Addr}{codes:List O5}{Q:V->St->Prop}(hL:σ.L l=some (codes.map oV))(wf:∀c∈codes,isEq c=true->∃i m j,c=eqC i (i+m) j (j+m))(hz:(stL codes).length<500)
  (h:∀sl σ',Ext σ σ'->σ.L sl=none->σ'.L sl=some ((stL codes).map oV)->Q (.L sl) σ'):fq P (n+1) kf [.L l] σ Q:=by
 apply#[fnS,hk,az 1,az 1,?_];have h0:frameOf fnS [.L l] 0=some (.L l):=rfl;generalize frameOf fnS [.L l]=ρ at h0;apply yU [] rfl (bh _) λsl O=>?_;have E1:Ext σ (σ.cw sl []):=(Ext.refl σ).cw O;have bd:l≠sl:=λq=>by rw[<- q,hL]at O;cases O
 have r0:upd ρ 1 (.L sl) 0=some (.L l):=h0;have r1:upd ρ 1 (.L sl) 1=some (.L sl):=rfl;have hS:(σ.cw sl []).L sl=some []:=br _ _ _;generalize upd ρ 1 (.L sl)=bb at r0 r1;apply#[_,r0,_,E1.L _ _ hL,?_];apply si (λt ρ σ'=>ρ 0=some (.L l)/\ρ 1=some (.L sl)/\Ext σ σ'/\σ'.L sl=some ((stL (codes.take t)).map oV)) ?_ ?_ #[r0,r1,E1,hS]
 ·intro t v Z σ2 hv zz;have#[q0,q1,E2,J]:=zz;rw[cu]at hv;have#[c,hc,rfl]:=omap hv;have#[ht,rfl]:=bw.mp hc;apply#[E2.L _ _ hL,λkk aa=>#[_,rfl,rfl,?_]];have hw:=wf _ (jj ht);have ag:=G7 ht;have U:=QF (codes:=codes) (t+1);rw[ag,ax]at U;rw[ag]at aa;generalize codes[t]=c at hw aa U;have#[tg,i1,i2,j1,j2]:=c;have p0:ez [2,3,4,5,6] [.str tg,.int i1,.int i2,.int j1,.int j2] Z 0=some (.L l):=q0;have p1:ez [2,3,4,5,6] [.str tg,.int i1,.int i2,.int j1,.int j2] Z 1=some (.L sl):=q1;have p2:ez [2,3,4,5,6] [.str tg,.int i1,.int i2,.int j1,.int j2] Z 2=some (.str tg):=rfl;have p3:ez [2,3,4,5,6] [.str tg,.int i1,.int i2,.int j1,.int j2] Z 3=some (.int i1):=rfl;have p4:ez [2,3,4,5,6] [.str tg,.int i1,.int i2,.int j1,.int j2] Z 4=some (.int i2):=rfl;have p5:ez [2,3,4,5,6] [.str tg,.int i1,.int i2,.int j1,.int j2] Z 5=some (.int j1):=rfl;have p6:ez [2,3,4,5,6] [.str tg,.int i1,.int i2,.int j1,.int j2] Z 6=some (.int j2):=rfl;show dk _ _ (ez [2,3,4,5,6] [.str tg,.int i1,.int i2,.int j1,.int j2] Z) σ2 _;generalize ez [2,3,4,5,6] [.str tg,.int i1,.int i2,.int j1,.int j2] Z=ar at p0 p1 p2 p3 p4 p5 p6;apply fY (isEq (tg,i1,i2,j1,j2)) (by rw[nq,fx,p2];rfl) ?_;cases q:isEq (tg,i1,i2,j1,j2) with
  |true =>
   have#[i,m,j,e]:=hw q;cases e;have U:(stL (List.take t codes)).length+(stp (eqC i1 (i1+m) j1 (j1+m))).length<=(stL codes).length:=U;rw[mh]at U;apply#[_,p1,IB p2 p3 p4 p5 (fk .cU .b .aQ (.k .a3 .B) hz U) λcl ab=>?_];have ai:sl≠cl:=λq=>by rw[<- q,J]at ab;cases ab
   have E3:=E2.cw (xs:=(stp (eqC i1 (i1+m) j1 (j1+m))).map oV) (E2.noL ab);have ao:(σ2.cw cl ((stp (eqC i1 (i1+m) j1 (j1+m))).map oV)).L sl=some _:=(cv ai).trans J;apply#[_,_,ai,ao,br _ _ _,by rw[av,av,mh];unfold bq;(show fk (.k .P .X) .b (.l .C (.n 500)) .K hz U),?_];show(aa _ _ #[p0,rfl,E3.cw O,by rw[cm];show br _ _ _])
  |false =>
   rw[lN q]at aa U;apply iT (oV (tg,i1,i2,j1,j2)) p1 J (ev5 p2 p3 p4 p5 p6) (by rw[av];unfold bq;(show fk .aI .b .aQ .cN hz U)) ?_;show(aa _ _ #[p0,p1,E2.cw O,by rw[cm];show br _ _ _])
 ·intro Z σ2 zz;have#[q0,q1,E2,J]:=zz;rw[av,lj]at J;apply#[E2.L _ _ hL,D7 _ (by rw[fx,q1]) (h sl σ2 E2 O J)]
end R5
namespace R5
variable {σ:St}{ρ:Fr}{sl:Addr}{S:List O5}{p:Nat->Bool}{C:Cal}{Q:V->St->Prop}
public abbrev nL (l:List Nat):List V:=l.map λs:Nat=>V.int s
def S7 {x y:Nat}{s:Nat}{c:O5}(U:ρ x=some (.L sl))(J:σ.L sl=some (S.map oV))(Z:ρ y=some (.int s))(O:S[s]?=some c):evT σ ρ (.c .ne (.sub (.sub (.l x) (.l y)) (.int 0)) (.str "equal"))=some (!isEq c):=by
 have e1:evV σ ρ (.sub (.l x) (.l y))=some (oV c):=v7 U J Z (by rw[cu,O];rfl);have e2:evV σ ρ (.sub (.sub (.l x) (.l y)) (.int 0))=some (.str c.1):=by
  show(evV σ ρ (.sub (.l x) (.l y))).bind _=_;rw[e1];rfl
 rw[nq,e2];rfl
def n8 {t:Nat}:(List.range (t+1)).filter p=(List.range t).filter p++(if p t=true then [t] else []):=by
 rw[List.range_succ,gM,ll];rfl
def zR (r0:ρ 0=some (.L sl))(hS:σ.L sl=some (S.map oV))(hz:S.length<500)(k:∀c,σ.L c=none->Q (.L c) (σ.cw c (nL ((List.range S.length).filter (chB S))))) :
  wpE C (.K [(2,0)] (.rng1 (.bf .len %[.l 0|0])) (.v 1) %[.c .ne (.sub (.sub (.l 2) (.l 1)) (.int 0)) (.str "equal")|0] (.elt (.l 1))) ρ σ Q:=by
 rw[jQ,lK];apply iw _ (nW r0 hS) #[_,rfl,by show(Ar.nab _).elim (λU=>(gz .bA .b .aQ (.ie .L .M) hz U.2)) λU=>(bt .bA .a (.ie .L (.g .M)) U.2),?_];apply kI (λt ρ' acc σ'=>σ'=σ/\ρ' 2=some (.L sl)/\acc=nL ((List.range t).filter (chB S))) (λt v ρ' acc σ' hv I=>?_) (λρ' acc σ' I=>?_) #[rfl,r0,rfl]
 ·have#[rfl,Z,rfl]:=I;have#[ht,rfl]:=hY (a:=0) hv;rw[nc]at ht ⊢;apply#[trivial,λkk B=>?_];have U:upd ρ' 1 (.int t) 1=some (.int t):=rfl;have Z:upd ρ' 1 (.int t) 2=some (.L sl):=Z;show vn _ _ (upd ρ' 1 (.int t)) σ' _;generalize upd ρ' 1 (.int t)=aa at U Z;have hc:S[t]?=some S[t]:=di ht;have hb:chB S t=!isEq S[t]:=by unfold chB;rw[hc];rfl
  apply pz _ (S7 Z hS U hc) ?_;rw[<- hb];have hs:=n8 (p:=chB S) (t:=t);cases q:chB S t with
  |true =>
   rw[bx q]at hs;apply xu ?_;apply#[_,U,?_,B _ _ _ #[rfl,Z,by rw[hs];unfold nL;rw[cm];rfl]];have:=ix (chB S) (List.range t);rw[kc]at this;rw[av];unfold bq;(show mi .aI .e .aQ .O .J hz ht this)
  |false =>
   rw[ay (by rw[q];show Bool.noConfusion),cq]at hs;apply ti ?_;show ti (B _ _ _ #[rfl,Z,by rw[hs]])
 ·have#[rfl,Z,rfl]:=I;have e:(ry 0 (S.length:Int)).length=S.length:=eD (a:=0);rw[e];apply#[trivial,k]
def y0 {cs:List Nat}{t:Nat}(h:t<cs.length):(cs.take (t+1)).filter p=(cs.take t).filter p++(if p cs[t]=true then [cs[t]] else []):=by
 rw[fe h,gM,ll];rfl
abbrev near (n s c:Nat):Bool:=decide (c<=s+n/\s<=c+n)
def MU {cl:Addr}{cs:List Nat}{n s:Nat}(r1:ρ 1=some (.int s))(r2:ρ 2=some (.L cl))(r3:ρ 3=some (.int n))(hL:σ.L cl=some (nL cs))(hz:cs.length<500)(k:∀c,σ.L c=none->Q (.L c) (σ.cw c (nL (cs.filter (near n s))))) :
  wpE C (.K [(3,3),(4,1)] (.seq (.l 2)) (.v 1) %[.c .le (.bf .abs %[.b .sub (.l 1) (.l 4)|0]) (.l 3)|0] (.elt (.l 1))) ρ σ Q:=by
 rw[jQ,w4];apply#[_,r2,_,hL,?_];apply kI (λt ρ' acc σ'=>σ'=σ/\ρ' 3=some (.int n)/\ρ' 4=some (.int s)/\acc=nL ((cs.take t).filter (near n s))) (λt v ρ' acc σ' hv I=>?_) (λρ' acc σ' I=>?_) #[rfl,r3,r1,rfl]
 ·have#[rfl,q3,B,rfl]:=I;rw[cu]at hv;have#[c,hc,rfl]:=omap hv;have#[ht,rfl]:=bw.mp hc;apply#[hL,λkk aa=>?_];have hs:=y0 (p:=near n s) ht;generalize cs[t]=c at hs;have J:upd ρ' 1 (.int c) 1=some (.int c):=rfl;have q3:upd ρ' 1 (.int c) 3=some (.int n):=q3;have B:upd ρ' 1 (.int c) 4=some (.int s):=B;show vn _ _ (upd ρ' 1 (.int c)) σ' _;generalize upd ρ' 1 (.int c)=Z at J q3 B;have e1:evV σ' Z (.b .sub (.l 1) (.l 4))=some (.int ((c:Int)-s)):=by
   show(evV σ' Z (.l 1)).bind _=_;rw[fx,J];show(evV σ' Z (.l 4)).bind _=_;rw[fx,B];rfl
  show wpE _ (.bf .abs _) Z σ' _;show wpE _ (.b .sub (.l 1) (.l 4)) Z σ' _;apply iw _ e1 ?_;apply#[_,q3,?_];show(if decide ((((c:Int)-s).natAbs:Nat)<=(n:Int))=true then _ else _);have hd:decide (((((c:Int)-s).natAbs:Nat):Int)<=(n:Int))=near n s c:=by
   unfold near;show qx.mpr (#[λJ=>#[((Ar.nab _).elim (λU=>(fc .aG .c (.ik (.t .D) .R) (.ie (.t .D) .S) J U.2)) λU=>(ek .aG .a (.ik .S .O) U.1)),((Ar.nab _).elim (λU=>(ek .aG .a (.ik .O (.s .M .L)) U.1)) λU=>(fc .aG .c (.ik (.t .D) .R) (.ie (.t .D) (.g (.s .M .L))) J U.2))],λJ=>((Ar.nab _).elim (λU=>(fc (.ik .L .M) .b (.k .C .aK) (.ie .L (.s .R (.t .D))) J.1 U.2)) λU=>(fc (.ik .L .M) .b (.k .C .aK) (.ie .L (.g (.s (.t .D) .R))) J.2 U.2))])
  rw[hd];cases q:near n s c with
  |true =>
   rw[bx q]at hs;apply xu ?_;apply#[_,J,?_,aa _ _ _ #[rfl,q3,B,by rw[hs];unfold nL;rw[cm];rfl]];have:=ix (near n s) (cs.take t);rw[gu]at this;rw[av];unfold bq;(show eM .aI .s .aQ .O .aA .bL hz ht this (Ar.kx _ _).1)
  |false =>
   rw[ay (by rw[q];show Bool.noConfusion),cq]at hs;apply ti ?_;show ti (aa _ _ _ #[rfl,q3,B,by rw[hs]])
 ·have#[rfl,q3,B,rfl]:=I;rw[av,lj];apply#[hL,k]
def OF {q:Nat->Bool}(l:List Nat):(!((l.filter p).filter q).isEmpty)=l.any λc=>p c&&q c:=by
 induction l with
 |nil=>rfl
 |cons a l Z =>
  rw[ll,jO];cases h:p a with
  |false=>rw[ay Bool.noConfusion,Bool.false_and,Bool.false_or];show Z
  |true =>
   rw[bx rfl,ll];cases h2:q a with
   |false=>rw[ay Bool.noConfusion];show Z
   |true=>rw[bx rfl];rfl
def PR {a:Addr}{L:List Nat}(h:σ.L a=some (nL L)):dK σ 6 (.L a)=some (.list (L.map λs:Nat=>PyData.int s)):=by
 show((σ.L a).bind λxs=>(xs.mapM (dK σ 5)).map PyData.list)=_;rw[h];show((L.map λs:Nat=>V.int s).mapM (dK σ 5)).map PyData.list=_;rw[mapM_map (g:=λs:Nat=>PyData.int s) λt Z=>rfl];rfl
def CM (L:List PyData):PyData.eqv (.list L) (.list [])=L.isEmpty:=by
 cases L<;>simp[PyData.eqv,PyData.eqvAll]
def IC {σ:St}{cl:Addr}{n:Nat}(r0:ρ 0=some (.L sl))(r1:ρ 1=some (.int n))(r3:ρ 3=some (.L cl))(hS:σ.L sl=some (S.map oV))(hC:σ.L cl=some (nL ((List.range S.length).filter (chB S))))(hz:S.length<500)
  (k:∀c σ',Ext σ σ'->σ'.L c=none->Q (.L c) (σ'.cw c (nL (kq S n)))) :
  wpE C (.K [(2,3),(3,1)] (.rng1 (.bf .len %[.l 0|0])) (.v 1) %[.c .ne (.K [(3,3),(4,1)] (.seq (.l 2)) (.v 1) %[.c .le (.bf .abs %[.b .sub (.l 1) (.l 4)|0]) (.l 3)|0] (.elt (.l 1))) (.L .nil)|0] (.elt (.l 1))) ρ σ Q:=by
 rw[jQ,lK];apply iw _ (nW r0 hS) #[_,rfl,by show(Ar.nab _).elim (λB=>(gz .bA .b .aQ (.ie .L .M) hz B.2)) λB=>(bt .bA .a (.ie .L (.g .M)) B.2),?_];apply kI (λt ρ' acc σ'=>Ext σ σ'/\ρ' 2=some (.L cl)/\ρ' 3=some (.int n)/\acc=nL ((List.range t).filter (sh S n))) (λt v ρ' acc σ' hv I=>?_) (λρ' acc σ' I=>?_) #[.refl σ,r3,r1,rfl]
 ·have#[E,U,Z,rfl]:=I;have#[ht,rfl]:=hY (a:=0) hv;rw[nc]at ht ⊢;apply#[trivial,λkk ab=>?_];have B:upd ρ' 1 (.int t) 1=some (.int t):=rfl;have U:upd ρ' 1 (.int t) 2=some (.L cl):=U;have Z:upd ρ' 1 (.int t) 3=some (.int n):=Z;show vn _ _ (upd ρ' 1 (.int t)) σ' _;generalize upd ρ' 1 (.int t)=ag at B U Z;show wpE _ _ ag σ' _;have ao:((List.range S.length).filter (chB S)).length<500:=by
   have:=ix (chB S) (List.range S.length);rw[kc]at this
   (show gz .cU .b .aQ .A hz this)
  apply MU B U Z (E.L _ _ hC) ao λc1 h1=>?_;apply#[bh _,λc2 h2=>?_];have aa:(σ'.cw c1 (nL (((List.range S.length).filter (chB S)).filter (near n t)))).L c1=some _:=br _ _ _;have ai:c1≠c2:=λq=>by rw[<- q,aa]at h2;cases h2
  have d1:=PR (σ:=(σ'.cw c1 (nL (((List.range S.length).filter (chB S)).filter (near n t)))).cw c2 []) (a:=c1) ((cv ai).trans aa);have d2:=PR (σ:=(σ'.cw c1 (nL (((List.range S.length).filter (chB S)).filter (near n t)))).cw c2 []) (a:=c2) (L:=[]) (br _ _ _);apply#[_,_,d1,d2,?_];have E2:Ext σ ((σ'.cw c1 (nL (((List.range S.length).filter (chB S)).filter (near n t)))).cw c2 []):=(E.cw (E.noL h1)).cw ((E.cw (E.noL h1)).noL h2);have hb:(!PyData.eqv (.list ((((List.range S.length).filter (chB S)).filter (near n t)).map λs:Nat=>PyData.int s)) (.list (([]:List Nat).map λs:Nat=>PyData.int s)))=sh S n t:=by
   rw[List.map_nil,CM,List.isEmpty_map,OF];rfl
  show(if (!PyData.eqv (.list ((((List.range S.length).filter (chB S)).filter (near n t)).map λs:Nat=>PyData.int s)) (.list (([]:List Nat).map λs:Nat=>PyData.int s)))=true then _ else _)
  revert hb
  generalize (!PyData.eqv (.list ((((List.range S.length).filter (chB S)).filter (near n t)).map λs:Nat=>PyData.int s)) (.list (([]:List Nat).map λs:Nat=>PyData.int s)))=bb;intro hb;subst hb;have hs:=n8 (p:=sh S n) (t:=t);cases q:sh S n t with
  |true =>
   rw[bx q]at hs;apply xu ?_;apply#[_,B,?_,ab _ _ _ #[E2,U,Z,by rw[hs];unfold nL;rw[cm];rfl]];have:=ix (sh S n) (List.range t);rw[kc]at this;rw[av];unfold bq;(show mi .aI .e .aQ .O .J hz ht this)
  |false =>
   rw[ay (by rw[q];show Bool.noConfusion),cq]at hs;apply ti ?_;show ti (ab _ _ _ #[E2,U,Z,by rw[hs]])
 ·have#[E,U,Z,rfl]:=I;have e:(ry 0 (S.length:Int)).length=S.length:=eD (a:=0);rw[e];apply#[trivial,λc hc=>k c σ' E hc]
end R5
namespace R5
variable {σ0 σ:St}{gl a:Addr}{T:List (Addr×List O5)}{g:List O5}{ρ:Fr}{C:Cal}{K:Fl->Fr->St->Prop}{ss:jo}
structure HG (σ0:St)(gl:Addr)(T:List (Addr×List O5))(σ:St):Prop where
 lg:σ.L gl=some (T.map λq=>V.L q.1)
 at_:∀q∈T,σ.L q.1=some (q.2.map oV)
 nd:(gl::T.map (·.1)).Nodup
 new:∀a∈gl::T.map (·.1),σ0.L a=none
 ext:Ext σ0 σ
def HG.fresh (h:HG σ0 gl T σ)(Z:σ.L a=none):a∉gl::T.map (·.1):=λU=>by
 rcases cz.mp U with rfl|U
 ·rw[h.lg]at Z;cases Z
 ·have#[q,O,rfl]:=cj.mp U;rw[h.at_ q O]at Z;cases Z
def HG.push (h:HG σ0 gl T σ)(B:σ.L a=none)(g:List O5):HG σ0 gl (T++[(a,g)]) ((σ.cw a (g.map oV)).cw gl ((T++[(a,g)]).map λq=>V.L q.1)):=by
 have U:=h.fresh B;have O:a≠gl:=λq=>U (q▸.head _);have J:σ0.L a=none:=h.ext.noL B;apply#[br _ _ _,λq Z=>?_,?_,λb hb=>?_,(h.ext.cw J).cw (h.new gl (.head _))]
 ·rcases dj.mp Z with Z|Z
  ·have h1:q.1≠gl:=λe=>(nJ.mp h.nd).1 (e▸cj.mpr #[q,Z,rfl]);have h2:q.1≠a:=λe=>U (e▸.tail _ (cj.mpr #[q,Z,rfl]));show(cv h1).trans ((cv h2).trans (h.at_ q Z))
  ·have rfl:=au.mp Z;show(cv O).trans (br _ _ _)
 ·rw[cm,<- zx];apply List.nodup_append.mpr #[h.nd,.cons (λ_ h=>nomatch h) .nil,λx hx y hy e=>?_];have rfl:=au.mp hy;show U (e▸hx)
 ·rcases cz.mp hb with rfl|hb
  ·show h.new _ (.head _)
  ·rw[cm]at hb;rcases dj.mp hb with hb|hb
   ·show h.new _ (.tail _ hb)
   ·have rfl:=au.mp hb;show J
def HG.last (h:HG σ0 gl (T++[(a,g)]) σ)(J:List O5):HG σ0 gl (T++[(a,J)]) (σ.cw a (J.map oV)):=by
 have e:∀g:List O5,(T++[(a,g)]).map (·.1)=T.map (·.1)++[a]:=λg=>cm;have e2:∀g:List O5,((T++[(a,g)]).map λq=>V.L q.1)=T.map (λq=>V.L q.1)++[V.L a]:=λg=>cm;have nd:=h.nd;rw[e]at nd;have O:gl≠a:=λq=>(nJ.mp nd).1 (q▸gc _ (.head _));apply#[?_,λq Z=>?_,by rw[e];show nd,λb hb=>h.new b (by rw[e]at hb ⊢;show hb),h.ext.cw (h.new a (by rw[e];show .tail _ (gc _ (.head _))))]
 ·rw[e2,<- e2 g];show(cv O).trans h.lg
 ·rcases dj.mp Z with Z|Z
  ·have U:q.1≠a:=λe=>by
    have:=(List.nodup_append.mp (nJ.mp nd).2).2.2 q.1 (cj.mpr #[q,Z,rfl]) a (.head _);show this e
   show(cv U).trans (h.at_ q (gq _ Z))
  ·have rfl:=au.mp Z;show br _ _ _
def oB {α:Type}{u:α->V}{xs:List α}{x:α}:zr ((xs++[x]).map u) (-1)=some (u x):=by
 have hl:((xs++[x]).map u).length=xs.length+1:=by rw[av,ax];rfl
 have Z:ee ((xs++[x]).map u).length (-1)=(xs.length:Int):=by
  rw[hl];unfold ee;rw[bx (by decide)];(show jf (.ie (.a (.ng 1) (.t .L)) .L) .n)
 unfold zr;rw[Z,bx (xf _),ke,cu,fu (az _),Nat.sub_self];rfl
def nX (Z:ρ 5=some (.L gl))(h:HG σ0 gl (T++[(a,g)]) σ):evV σ ρ (.sub (.l 5) (.neg (.int 1)))=some (.L a):=by
 show(evV σ ρ (.l 5)).bind _=_;rw[fx,Z];show(σ.L gl).bind (λxs=>zr xs (-1))=_;rw[h.lg];show oB (u:=λq:Addr×List O5=>V.L q.1)
def T5 {e f:Ex}{xs:List V}(v:V)(U:evV σ ρ e=some (.L a))(Z:σ.L a=some xs)(h:evV σ ρ f=some v)(l:xs.length<bq)(k:dk C ss ρ (σ.cw a (xs++[v])) K):dk C (.cons (.expr (.bm .append e %[f|0])) ss) ρ σ K:=by
 apply iw (Q:=λv σ=>SH .append v σ/\vq C %[f|0] ρ σ λvs σ=>KZ .append v vs σ λv σ=>v=.none/\dk C ss ρ σ K) e U #[(show(σ.L a).isSome=true by rw[Z];rfl),?_];rw[ux];apply iw f h ?_;apply#[xs,Z,l,rfl,k]
def qR {f:Ex}{c:O5}(Z:ρ 5=some (.L gl))(h:HG σ0 gl (T++[(a,g)]) σ)(U:evV σ ρ f=some (oV c))(hz:g.length<1000)
  (k:∀σ',HG σ0 gl (T++[(a,g++[c])]) σ'->dk C ss ρ σ' K):dk C (.cons (.expr (.bm .append (.sub (.l 5) (.neg (.int 1))) %[f|0])) ss) ρ σ K:=by
 apply T5 (oV c) (nX Z h) (h.at_ _ (gc _ (.head _))) U (by rw[av];unfold bq;(show ef .aI .a .a4 hz)) ?_;have:=k _ (h.last (g++[c]))
 rwa [cm]at this
def zI {σ:St}{ρ:Fr}{s i j:Nat}(hx:ρ 5=some (.L gl))(h:HG σ0 gl T σ)(r2:ρ 2=some (.int s))(r7:ρ 7=some (.int i))(B:ρ 9=some (.int j))(hz:T.length<1000)
  (k:∀a σ',HG σ0 gl (T++[(a,if 0<s then [eqC i i j j] else [])]) σ'->dk C ss ρ σ' K) :
  dk C (.cons (.expr (.bm .append (.l 5) %[.I (.c .gt (.l 2) (.int 0)) (.L %[.T %[.str "equal",.l 7,.l 7,.l 9,.l 9|0]|0]) (.L .nil)|0])) ss) ρ σ K:=by
 have fin:∀(g:List O5) (a:Addr),σ.L a=none->g=(if 0<s then [eqC i i j j] else [])->KZ .append (.L gl) [.L a] (σ.cw a (g.map oV)) (λv σ=>v=.none/\dk C ss ρ σ K):=by
  intro g a Z e;have J:gl≠a:=λq=>h.fresh Z (q▸.head _);apply#[_,(cv J).trans h.lg,by rw[av];unfold bq;(show ef .aI .a .a4 hz),rfl,?_];have:=k a ((σ.cw a (g.map oV)).cw gl ((T++[(a,g)]).map λq=>V.L q.1)) (by rw[<- e];show h.push Z g);rw[cm]at this;show this
 apply#[_,hx,(show(σ.L gl).isSome=true by rw[h.lg];rfl),?_];rw[ux];have ht:evT σ ρ (.c .gt (.l 2) (.int 0))=some (decide (0<s)):=by
  rw[nq,fx,r2];show some (decide ((s:Int)>0))=_;show bz some (qx.mpr (#[λU=>(ef .F .a (.il .O .L) U),λU=>(ef (.il .O .L) .a .F U)]))
 apply pz _ ht ?_;by_cases c:0<s
 ·rw[dp c];have e5:nP σ ρ %[.T %[.str "equal",.l 7,.l 7,.l 9,.l 9|0]|0]=some [oV (eqC i i j j)]:=by
   rw[ir,ev5 (σ:=σ) (ρ:=ρ) (e1:=.str "equal") (e2:=.l 7) (e3:=.l 7) (e4:=.l 9) (e5:=.l 9) (t:="equal") rfl r7 r7 B B];rfl
  apply xu (i8 _ e5 #[bc rfl,λa Z=>?_]);show fin [eqC i i j j] a Z (bx c).symm
 ·rw[iq c];show ti #[bh _,λa Z=>fin [] a Z (ay c).symm]
end R5
namespace R5
variable {σ:St}{T:List (Addr×List O5)}{s i1 i2 j1 j2:Nat}{ρ:Fr}{t:Str}
def HG.keep {σ0:St}{gl c:Addr}{xs:List V}(h:HG σ0 gl T σ)(O:σ.L c=none):HG σ0 gl T (σ.cw c xs):=by
 have U:=h.fresh O;apply#[(cv (λq=>U (q▸.head _):gl≠c)).trans h.lg,λq Z=>(cv (λe=>U (e▸.tail _ (cj.mpr #[q,Z,rfl])):q.1≠c)).trans (h.at_ q Z),h.nd,h.new,h.ext.cw (h.ext.noL O)]
def has {S:List O5}{n m:Nat}:((kq S n).map λs:Nat=>(s:Int)).contains (m:Int)=(decide (m<S.length)&&sh S n m):=by
 rw[Bool.eq_iff_iff,List.contains_iff_mem,dg,decide_eq_true_iff];unfold kq;constructor
 ·intro h;have#[x,Z,e]:=cj.mp h;have rfl:=Int.ofNat.inj e;have#[O,U]:=wk.mp Z;apply#[gJ.mp O,U]
 ·show λh=>cj.mpr #[m,wk.mpr #[gJ.mpr h.1,h.2],rfl]
def W8 {S:List O5}{n:Nat}(Z:s<S.length):((kq S n).map λs:Nat=>(s:Int)).contains ((s:Int)-1)=(decide (0<s)&&sh S n (s-1)):=by
 rcases lh s with rfl|h
 ·rw[Bool.eq_iff_iff,List.contains_iff_mem];apply#[λh=>?_,λh=>Bool.noConfusion h];have#[x,J,e]:=cj.mp h;show absurd e (jf (.iu .L (.s (.t .O) .U)) .f)
 ·rw[show(s:Int)-1=((s-1:Nat):Int) by show bt (.ie (.s .L .U) .M) .i .bI (ae (ef .D .a .F h)),has,dp (show s-1<S.length by show fk .B .b .O .X Z (ae (ef .D .a .F h))),dp h]
def CY {C:Cal}{K:Bool->St->Prop}{S:List O5}{n x:Nat}{hl:Addr}{e:Ex}{i:Int}(Z:evV σ ρ e=some (.int i))(r:ρ x=some (.L hl))(U:σ.L hl=some (nL (kq S n)))(k:K (!((kq S n).map λs:Nat=>(s:Int)).contains i) σ):wpT C (.c .notIn e (.l x)) ρ σ K:=
 iw e Z #[_,r,#[(kq S n).map λs:Nat=>(s:Int),by rw[U];unfold nL;rw[pn];rfl,k]]
def KJ {C:Cal}{K:Bool->St->Prop}{a b:Ex}(p:Bool)(h:evT σ ρ a=some p)(k:if p=true then wpT C b ρ σ K else K false σ):wpT C (.and a b) ρ σ K:=pz (Q:=λt σ=>if t then wpT C b ρ σ K else K false σ) a h k
structure RG (ρ:Fr)(sl hl gl:Addr):Prop where
 r0:ρ 0=some (.L sl)
 r4:ρ 4=some (.L hl)
 r5:ρ 5=some (.L gl)
structure RS (ρ:Fr)(s:Nat)(t:Str)(i1 i2 j1 j2:Nat):Prop where
 r2:ρ 2=some (.int s)
 r6:ρ 6=some (.str t)
 r7:ρ 7=some (.int i1)
 r8:ρ 8=some (.int i2)
 r9:ρ 9=some (.int j1)
 r10:ρ 10=some (.int j2)
section
variable {C:Cal}{σ0:St}{K:Fl->Fr->St->Prop}{ss:jo}{sl hl gl:Addr}{S:List O5}{n:Nat}
def OK {a:Addr}{g:List O5}(Z:σ0.L sl=some (S.map oV))(U:σ0.L hl=some (nL (kq S n)))(R:RG ρ sl hl gl)(H:RS ρ s t i1 i2 j1 j2)(h:HG σ0 gl (T++[(a,g)]) σ)(hz:g.length<1000)
  (k:∀σ',HG σ0 gl (T++[(a,if (!isEq (t,i1,i2,j1,j2)&&(decide (s+1<S.length)&&!sh S n (s+1)))=true then g++[eqC i2 i2 j2 j2] else g)]) σ'->dk C ss ρ σ' K) :
  dk C (.cons (.C (.and (.c .ne (.l 6) (.str "equal")) (.and (.c .lt (.b .add (.l 2) (.int 1)) (.bf .len %[.l 0|0])) (.c .notIn (.b .add (.l 2) (.int 1)) (.l 4)))) (.cons (.expr (.bm .append (.sub (.l 5) (.neg (.int 1))) %[.T %[.str "equal",.l 8,.l 8,.l 10,.l 10|0]|0]))
 .nil) .nil) ss) ρ σ K:=by
 show wpT C _ ρ σ _;apply KJ (!isEq (t,i1,i2,j1,j2)) (by rw[nq,fx,H.r6];rfl) ?_;cases q:isEq (t,i1,i2,j1,j2) with
 |true =>
  rw[q]at k;show ti (ti (qe (k σ h)))
 |false =>
  rw[q]at k;have es:evV σ ρ (.b .add (.l 2) (.int 1))=some (.int (s+1:Nat)):=oz (a:=.l 2) (b:=.int 1) (n:=1) H.r2 rfl;apply xu (KJ (decide (s+1<S.length)) (eJ es (nW R.r0 (h.ext.L _ _ Z))) ?_);cases q2:decide (s+1<S.length) with
  |false =>
   rw[q2]at k;show ti (ti (qe (k σ h)))
  |true =>
   rw[q2]at k;apply xu (CY es R.r4 (h.ext.L _ _ U) ?_);rw[has,q2];show if (!sh S n (s+1))=true then _ else _
   cases q3:sh S n (s+1) with
   |true =>
    rw[q3]at k;show ti (qe (k σ h))
   |false =>
    rw[q3]at k;apply xu (qR R.r5 h (c:=eqC i2 i2 j2 j2) (ev5 rfl H.r8 H.r8 H.r10 H.r10) hz λσ' h'=>?_);show qe (k σ' h')
def PS {a:Addr}{g:List O5}(h:σ.L a=some (g.map oV))(ok:∀t∈g,PyData.strOk t.1=true):dK σ 6 (.L a)=some (.list (g.map dO)):=CT (n:=4) h ok
def SW {σ:St}{a:Addr}{g:List O5}(R:RG ρ sl hl gl)(H:RS ρ s t i1 i2 j1 j2)(h:HG σ0 gl (T++[(a,g)]) σ)(hz:g.length<900)(ok:∀t∈g,PyData.strOk t.1=true)
  (k:∀ρ' σ' i j,RG ρ' sl hl gl->RS ρ' s t i i2 j j2->HG σ0 gl (T++[(a,qo g (t,i1,i2,j1,j2))]) σ'->dk C ss ρ' σ' K) :
  dk C (.cons (.C (.and (.c .eq (.l 6) (.str "equal")) (.and (.c .ne (.sub (.l 5) (.neg (.int 1))) (.L .nil)) (.c .eq (.sub (.sub (.sub (.l 5) (.neg (.int 1))) (.neg (.int 1))) (.int 0)) (.str "equal")))) (.cons (.a [(.T [6,7,11,9,12])] (.bm .pop (.sub (.l 5) (.neg (.int 1))) .nil))
 .nil) .nil)
 (.cons (.expr (.bm .append (.sub (.l 5) (.neg (.int 1))) %[.T %[.l 6,.l 7,.l 8,.l 9,.l 10|0]|0])) ss)) ρ σ K:=by
 have plain:∀{σ:St},HG σ0 gl (T++[(a,g)]) σ->qo g (t,i1,i2,j1,j2)=g++[(t,i1,i2,j1,j2)]->dk C (.cons (.expr (.bm .append (.sub (.l 5) (.neg (.int 1))) %[.T %[.l 6,.l 7,.l 8,.l 9,.l 10|0]|0])) ss) ρ σ K:=by
  intro σ h e;rw[e]at k;show qR R.r5 h (c:=(t,i1,i2,j1,j2)) (ev5 H.r6 H.r7 H.r8 H.r9 H.r10) (ef .a4 .a (.l .A (.n 900)) hz) λσ' h'=>k ρ σ' i1 j1 R H h'
 show wpT C _ ρ σ _;apply KJ (isEq (t,i1,i2,j1,j2)) (by rw[nq,fx,H.r6];rfl) ?_;cases q:isEq (t,i1,i2,j1,j2) with
 |false=>show ti (ti (qe (plain h (mI q))))
 |true =>
  have hg:σ.L a=some (g.map oV):=h.at_ _ (gc _ (.head _));apply xu (iw _ (nX R.r5 h) #[bh _,λc B=>?_]);have aa:a≠c:=λq=>by rw[<- q,hg]at B;cases B
  have O:=h.keep (xs:=[]) B;have Z:(σ.cw c []).L a=some (g.map oV):=(cv aa).trans hg;have d1:=PS Z ok;have d2:=PS (σ:=σ.cw c []) (a:=c) (g:=[]) (br _ _ _) λ_ h=>nomatch h;apply#[_,_,d1,d2,?_];show(if (!PyData.eqv (.list (g.map dO)) (.list (([]:List O5).map dO)))=true then _ else _);rw[List.map_nil,CM,List.isEmpty_map];rcases oj g with rfl|⟨g0,e,rfl⟩
  ·show ti (ti (qe (plain O tO)))
  ·rw[oo]at *;have e0:evV (σ.cw c []) ρ (.sub (.sub (.sub (.l 5) (.neg (.int 1))) (.neg (.int 1))) (.int 0))=some (.str e.1):=by
    have e1:evV (σ.cw c []) ρ (.sub (.sub (.l 5) (.neg (.int 1))) (.neg (.int 1)))=some (oV e):=by
     show(evV (σ.cw c []) ρ (.sub (.l 5) (.neg (.int 1)))).bind _=_;rw[nX R.r5 O];show((σ.cw c []).L a).bind (λxs=>zr xs (-1))=_;rw[Z];show oB
    show(evV (σ.cw c []) ρ (.sub (.sub (.l 5) (.neg (.int 1))) (.neg (.int 1)))).bind _=_;rw[e1];rfl
   rw[show(!(g0++[e]).isEmpty)=true by cases g0<;>rfl];apply xu (pz (b:=isEq e) _ (by rw[nq,e0];rfl) ?_);cases q2:isEq e with
   |false=>show ti (qe (plain O (yT q2)))
   |true =>
    have#[tg,x,x',y,y']:=e;obtain rfl:tg="equal":=aq q2;obtain rfl:t="equal":=aq q;apply xu ?_;show wpE _ (.sub (.l 5) (.neg (.int 1))) ρ _ _;apply iw _ (nX R.r5 O) #[(show((σ.cw c []).L a).isSome=true by rw[Z];rfl),?_];rw[cm]at Z;apply#[g0.map oV,oV ("equal",x,x',y,y'),Z,_,rfl,rfl,?_];have h2:=O.last g0;have R2:RG (ez [6,7,11,9,12] [.str "equal",.int x,.int x',.int y,.int y'] ρ) sl hl gl:=#[R.r0,R.r4,R.r5];have U:RS (ez [6,7,11,9,12] [.str "equal",.int x,.int x',.int y,.int y'] ρ) s "equal" x i2 y j2:=#[H.r2,rfl,rfl,H.r8,rfl,H.r10];show dk _ _ (ez [6,7,11,9,12] [.str "equal",.int x,.int x',.int y,.int y'] ρ) _ _;generalize ez [6,7,11,9,12] [.str "equal",.int x,.int x',.int y,.int y'] ρ=J at R2 U;apply qe (qR R2.r5 h2 (c:=eqC x i2 y j2) (ev5 U.r6 U.r7 U.r8 U.r9 U.r10) (by rw[ax]at hz;(show bt .a4 .a (.l .P (.n 900)) hz)) λσ' h'=>k J σ' x y R2 U ?_);rw[show((("equal":Str),i1,i2,j1,j2):O5)=eqC i1 i2 j1 j2 from rfl,show((("equal":Str),x,x',y,y'):O5)=eqC x x' y y' from rfl,qT];show h'
def OL (hH:σ0.L hl=some (nL (kq S n)))(B:s<S.length)(R:RG ρ sl hl gl)(H:RS ρ s t i1 i2 j1 j2)(h:HG σ0 gl T σ)(hz:T.length<1000)(U:0<s->sh S n (s-1)=true->T≠[])
  (k:∀Z a g σ',HG σ0 gl (Z++[(a,g)]) σ'->Z.map (·.2)++[g]=(if (decide (0<s)&&sh S n (s-1))=true then T.map (·.2) else T.map (·.2)++[if 0<s then [eqC i1 i1 j1 j1] else []])->dk C ss ρ σ' K) :
  dk C (.cons (.C (.c .notIn (.b .sub (.l 2) (.int 1)) (.l 4)) (.cons (.expr (.bm .append (.l 5) %[.I (.c .gt (.l 2) (.int 0)) (.L %[.T %[.str "equal",.l 7,.l 7,.l 9,.l 9|0]|0]) (.L .nil)|0]))
 .nil) .nil) ss) ρ σ K:=by
 have e1:evV σ ρ (.b .sub (.l 2) (.int 1))=some (.int ((s:Int)-1)):=by
  show(evV σ ρ (.l 2)).bind _=_;rw[fx,H.r2];rfl
 apply CY (K:=λb σ=>if b=true then _ else _) e1 R.r4 (h.ext.L _ _ hH) ?_;rw[W8 B];cases q:(decide (0<s)&&sh S n (s-1)) with
 |true =>
  rw[q]at k;apply ti (qe ?_);have#[J,O]:=(dg _ _).mp q;rcases oj T with e|⟨Z,⟨a,g⟩,rfl⟩
  ·show absurd e (U (aq J) O)
  ·rw[oo]at h k;show k Z a g σ h (by rw[cm];rfl)
 |false =>
  rw[q]at k;show xu (zI R.r5 h H.r2 H.r7 H.r9 hz λa σ' h'=>qe (k T a _ σ' h' rfl))
def RW (hS:σ0.L sl=some (S.map oV))(hH:σ0.L hl=some (nL (kq S n)))(okS:∀t∈S,PyData.strOk t.1=true)(hs:s<S.length)(R:RG ρ sl hl gl)(r2:ρ 2=some (.int s))(h:HG σ0 gl T σ)(hz:T.length<1000)(hg:∀g∈T.map (·.2),g.length<800/\∀t∈g,PyData.strOk t.1=true)(ag:0<s->sh S n (s-1)=true->T≠[])
  (k:∀T' ρ' σ',RG ρ' sl hl gl->HG σ0 gl T' σ'->T'.map (·.2)=turn S n (T.map (·.2)) s->T'≠[]->K .next ρ' σ'):dk C BD ρ σ K:=by
 have J:S[s]?=some S[s]:=di hs;have he:evV σ ρ (.sub (.l 0) (.l 2))=some (oV S[s]):=v7 R.r0 (h.ext.L _ _ hS) r2 (by rw[cu,J];rfl);generalize S[s]=st at J he;have#[t,i1,i2,j1,j2]:=st;unfold BD;apply tT _ he rfl ?_;have R1:RG (ez [6,7,8,9,10] [.str t,.int i1,.int i2,.int j1,.int j2] ρ) sl hl gl:=#[R.r0,R.r4,R.r5];have H1:RS (ez [6,7,8,9,10] [.str t,.int i1,.int i2,.int j1,.int j2] ρ) s t i1 i2 j1 j2:=#[r2,rfl,rfl,rfl,rfl,rfl];show dk _ _ (ez [6,7,8,9,10] [.str t,.int i1,.int i2,.int j1,.int j2] ρ) _ _;generalize ez [6,7,8,9,10] [.str t,.int i1,.int i2,.int j1,.int j2] ρ=ar at R1 H1;apply OL hH hs R1 H1 h hz ag λB a g ao h1 e1=>?_;have O:g.length<900/\∀t∈g,PyData.strOk t.1=true:=by
  have Z:g∈B.map (·.2)++[g]:=gc _ (.head _);rw[e1]at Z;have old:g∈T.map (·.2)->g.length<900/\∀t∈g,PyData.strOk t.1=true:=λZ=>#[yq (hg g Z).1 (by decide),(hg g Z).2]
  revert Z
  split
  ·show old
  ·intro Z;rcases dj.mp Z with Z|Z
   ·show old Z
   ·have rfl:=au.mp Z;split
    ·apply#[bc rfl,λt ht=>by have rfl:=au.mp ht;show gU]
    ·apply#[bc rfl,λt ht=>nomatch ht]
 apply SW R1 H1 h1 O.1 O.2 λab σ2 i j R2 H2 h2=>?_;have ai:(qo g (t,i1,i2,j1,j2)).length<1000:=by
  have:(qo g (t,i1,i2,j1,j2)).length<=g.length+1:=by
   unfold qo;split
   ·rw[ax,List.length_dropLast];show mf (nz _ _) 1
   ·rw[ax];show az _
  have:=O.1
  (rename_i z1;show gz .a4 .b .b4 .U O.1 z1)
 apply OK hS hH R2 H2 h2 ai λaa h3=>ow (k _ ab aa R2 h3 ?_ (List.append_ne_nil_of_right_ne_nil _ (lp _ _)));rw[cm];show B.map (·.2)++[if (!isEq (t,i,i2,j,j2)&&(decide (s+1<S.length)&&!sh S n (s+1)))=true then qo g (t,i1,i2,j1,j2)++[eqC i2 i2 j2 j2] else qo g (t,i1,i2,j1,j2)]=_;unfold turn;rw[J];show _=if (!isEq (t,i1,i2,j1,j2)&&(decide (s+1<S.length)&&!sh S n (s+1)))=true then jr (λg=>g++[eqC i2 i2 j2 j2]) (jr (λg=>qo g (t,i1,i2,j1,j2)) (if (decide (0<s)&&sh S n (s-1))=true then T.map (·.2) else T.map (·.2)++[if 0<s then [eqC i1 i1 j1 j1] else []])) else jr (λg=>qo g (t,i1,i2,j1,j2)) (if (decide (0<s)&&sh S n (s-1))=true then T.map (·.2) else T.map (·.2)++[if 0<s then [eqC i1 i1 j1 j1] else []])
 rw[<- e1,show jr (λg=>qo g (t,i1,i2,j1,j2)) (B.map (·.2)++[g])=B.map (·.2)++[qo g (t,i1,i2,j1,j2)] from qk];show B.map (·.2)++[if (!isEq (t,i1,i2,j1,j2)&&(decide (s+1<S.length)&&!sh S n (s+1)))=true then _ else _]=_;split
 ·show(qk (f:=λg=>g++[eqC i2 i2 j2 j2])).symm
 ·rfl
end
end R5
namespace R5
variable {f:List O5->List O5}{G:List (List O5)}{k:Nat}{S:List O5}
abbrev Tok (g:List O5):Prop:=∀t∈g,PyData.strOk t.1=true
def xI {x:List O5}(h:x∈jr f G):x∈G\/∃g,(g∈G\/g=[])/\x=f g:=by
 unfold jr at h;rcases dj.mp h with h|h
 ·show .inl ((List.dropLast_sublist _).subset h)
 ·have rfl:=au.mp h;apply .inr #[_,?_,rfl];rcases oj G with rfl|⟨D,g,rfl⟩
  ·show .inr rfl
  ·rw[oo,List.getLastD_concat];show .inl (gc _ (.head _))
def xJ (h:G.length<=k+1):(jr f G).length<=k+1:=by
 unfold jr;rw[ax,List.length_dropLast,zg]
 (show Ar.sub _ _ (λU Z=>(fk .aK .b .bH .X h Z)) λU Z=>(bt .aK .a .M Z))
structure Gok (k m:Nat)(G:List (List O5)):Prop where
 len:G.length<=k
 all:∀g∈G,g.length<=m/\Tok g
def Gok.last {m U:Nat}(h:Gok (k+1) m G)(hm:m<=U)(J:∀g,g.length<=m->Tok g->(f g).length<=U/\Tok (f g)):Gok (k+1) U (jr f G):=by
 apply#[xJ h.len,λg Z=>?_];rcases xI Z with Z|⟨x,O|rfl,rfl⟩
 ·apply#[fm (h.all g Z).1 hm,(h.all g Z).2]
 ·show J x (h.all x O).1 (h.all x O).2
 ·show J [] (bh _) λt B=>nomatch B
def Tok.app {g:List O5}{c:O5}(h:Tok g)(U:PyData.strOk c.1=true):Tok (g++[c]):=λt Z=>by
 rcases dj.mp Z with Z|Z
 ·show h t Z
 ·have rfl:=au.mp Z;show U
def LB {n s m:Nat}(B:Tok S)(h:Gok k m G):Gok (k+1) (m+3) (turn S n G s):=by
 unfold turn;cases hst:S[s]? with
 |none=>refine#[pk h.len,λg Z=>#[fm (h.all g Z).1 (rf _ _),(h.all g Z).2]]
 |some st =>
  have#[J,rfl]:=bw.mp hst;have hk:=B _ (jj J);generalize S[s]=st at hk;have h1:Gok (k+1) (m+1) (if (decide (0<s)&&sh S n (s-1))=true then G else G++[if 0<s then [eqC st.2.1 st.2.1 st.2.2.2.1 st.2.2.2.1] else []]):=by
   have old:∀g∈G,g.length<=m+1/\Tok g:=λg Z=>#[pk (h.all g Z).1,(h.all g Z).2];split
   ·apply#[pk h.len,old]
   ·apply#[by rw[ax];show mf h.len 1,λg Z=>?_];rcases dj.mp Z with Z|Z
    ·show old g Z
    ·have rfl:=au.mp Z;split
     ·apply#[Nat.le_add_left _ _,λt U=>by have rfl:=au.mp U;show gU]
     ·apply#[bh _,λt U=>nomatch U]
  have O:Gok (k+1) (m+2) (jr (λg=>qo g st) (if (decide (0<s)&&sh S n (s-1))=true then G else G++[if 0<s then [eqC st.2.1 st.2.1 st.2.2.2.1 st.2.2.2.1] else []])):=by
   apply h1.last (xj _) λg hl Z=>?_;unfold qo;split
   ·apply#[?_,Tok.app (λt U=>Z t ((List.dropLast_sublist _).subset U)) gU];rw[ax,List.length_dropLast];show mf (fm (nz _ _) hl) 1
   ·apply#[by rw[ax];show mf hl 1,Z.app hk]
  show Gok (k+1) (m+3) (if _ then jr _ _ else _);split
  ·show O.last (xj _) λg hl Z=>#[by rw[ax];show mf hl 1,Z.app gU]
  ·apply#[O.len,λg Z=>#[pk (O.all g Z).1,(O.all g Z).2]]
def CH {n:Nat}(O:Tok S)(l:List Nat):∀{k m:Nat} {G:List (List O5)},Gok k m G->Gok (k+l.length) (m+3*l.length) (l.foldl (turn S n) G):=by
 induction l with
 |nil=>show λh=>h
 |cons s l U =>
  intro k m G h;have:=U (LB (s:=s) (n:=n) O h);rw[List.foldl_cons,kj];rw[show k+(l.length+1)=k+1+l.length by show vi (.e .a8 .Z) .n,show m+3*(l.length+1)=m+3+3*l.length by(show vi (.e (.a .A (.m 3 .M)) (.a (.a .A (.n 3)) (.m 3 .B))) .n)];show this
def HG.more {σ σ0 σ':St}{gl:Addr}{T:List (Addr×List O5)}(E:Ext σ σ0)(h:HG σ0 gl T σ'):HG σ gl T σ':=#[h.lg,h.at_,h.nd,λa Z=>E.noL (h.new a Z),E.trans h.ext]
def HF {n:Nat}:(kq S n).Pairwise (·<·):=mO.filter _
def DS {S:List O5}{n t:Nat}(h:t<(kq S n).length)(h0:0<(kq S n)[t])(Z:sh S n ((kq S n)[t]-1)=true):0<t:=by
 rcases lh t with rfl|q
 ·exfalso
  have U:(kq S n)[0]-1∈kq S n:=by
   apply wk.mpr #[gJ.mpr ?_,Z];have:=gJ.mp (wk.mp (jj h)).1
   (show fk .B .b .O .X this (ae (ef .D .a .F h0)))
  have#[j,J,e]:=iv.mp U;rcases lh j with rfl|q
  ·(show gz .ff .d .C .bI e (ae (ef .D .a .F h0)))
  ·have:=uv.mp (HF (S:=S) (n:=n)) 0 j h J q
   (show mi .ff .h .C .cZ .bZ e this (ae (ef .D .a .F h0)))
 ·show q
def EG {P:Nat->Option Fn}{kf m:Nat}(hk:P kf=some fnG){σ:St}{sl:Addr}{n:Nat}{Q:V->St->Prop}(hS:σ.L sl=some (S.map oV))(okS:Tok S)(hz:S.length<200)
  (h:∀gl T σ',HG σ gl T σ'->T.map (·.2)=N6 S n->Q (.L gl) σ'):fq P (m+1) kf [.L sl,.int n] σ Q:=by
 apply#[fnG,hk,az 2,az 2,?_];have r0:frameOf fnG [.L sl,.int n] 0=some (.L sl):=rfl;have r1:frameOf fnG [.L sl,.int n] 1=some (.int n):=rfl;generalize frameOf fnG [.L sl,.int n]=ρ at r0 r1;show wpE _ _ ρ σ _;apply zR r0 hS (ef .cU .a .aP hz) λc1 h1=>?_;have E1:Ext σ (σ.cw c1 (nL ((List.range S.length).filter (chB S)))):=(Ext.refl σ).cw h1;have bd:(σ.cw c1 (nL ((List.range S.length).filter (chB S)))).L c1=some _:=br _ _ _;generalize σ.cw c1 (nL ((List.range S.length).filter (chB S)))=ag at E1 bd;have r0:upd ρ 3 (.L c1) 0=some (.L sl):=r0;have r1:upd ρ 3 (.L c1) 1=some (.int n):=r1;have r3:upd ρ 3 (.L c1) 3=some (.L c1):=rfl;show dk _ _ (upd ρ 3 (.L c1)) ag _;generalize upd ρ 3 (.L c1)=aa at r0 r1 r3;show wpE _ _ aa ag _;apply IC r0 r1 r3 (E1.L _ _ hS) bd (ef .cU .a .aP hz) λhl σ2 E2 h2=>?_;have E3:=(E1.trans E2).cw (xs:=nL (kq S n)) ((E1.trans E2).noL h2);have hH:(σ2.cw hl (nL (kq S n))).L hl=some (nL (kq S n)):=br _ _ _;generalize σ2.cw hl (nL (kq S n))=Z at E3 hH;have r0:upd aa 4 (.L hl) 0=some (.L sl):=r0;have r4:upd aa 4 (.L hl) 4=some (.L hl):=rfl;show dk _ _ (upd aa 4 (.L hl)) Z _;generalize upd aa 4 (.L hl)=ai at r0 r4;apply yU [] rfl (bh _) λgl bb=>?_;have R:RG (upd ai 5 (.L gl)) sl hl gl:=#[r0,r4,rfl];have H0:HG Z gl [] (Z.cw gl []):=#[br _ _ _,λq hq=>(nomatch hq),.cons (λ_ h=>nomatch h) .nil,λa ha=>by have rfl:=au.mp ha;show bb,(Ext.refl Z).cw bb];generalize upd ai 5 (.L gl)=cb at R;have bv:=E3.L _ _ hS;have ar:(kq S n).length<=S.length:=by
  have:=ix (sh S n) (List.range S.length)
  rwa [kc]at this
 have bn:∀t,((kq S n).take t).length<200:=λt=>by
  rw[gu];(show mi .aP .e (.l .B (.n 200)) .G .J hz ar (Ar.kx _ _).2.1)
 apply#[_,R.r4,_,H0.ext.L _ _ hH,?_];apply si (λt ρ σ'=>∃T,RG ρ sl hl gl/\HG Z gl T σ'/\T.map (·.2)=((kq S n).take t).foldl (turn S n) []/\(0<t->T≠[])) ?_ ?_ #[[],R,H0,rfl,λq=>absurd q (gp 0)]
 ·intro t v U ab hv zz;have#[T,R4,H4,e4,be]:=zz;rw[cu]at hv;have#[s,hc,rfl]:=omap hv;have#[ht,e]:=bw.mp hc;apply#[H4.ext.L _ _ hH,λkk bu=>?_];have hs:s<S.length:=by
   have:=gJ.mp (wk.mp (jj ht)).1
   rwa [e]at this
  have hG:=CH (n:=n) okS ((kq S n).take t) (k:=0) (m:=0) (G:=[]) #[bh _,λg hg=>nomatch hg];have ao:=bn t;rw[<- e4]at hG;have R5:RG (upd U 2 (.int s)) sl hl gl:=#[R4.r0,R4.r4,R4.r5];have q2:upd U 2 (.int s) 2=some (.int s):=rfl;show dk _ BD (upd U 2 (.int s)) ab _;generalize upd U 2 (.int s)=ca at R5 q2;have hT:T.length<1000:=by
   have:=hG.len;rw[av]at this
   (show gz .a4 .b (.l .B (.n 200)) (.k .A .aU) ao this)
  apply RW bv hH okS hs R5 q2 H4 hT (λg hg=>#[?_,(hG.all g hg).2]) (λp1 p2=>be (DS ht (by rw[e];show p1) (by rw[e];show p2))) λT' ρ' σ' R' H' e' bl=>bu _ _ #[T',R',H',?_,λ_=>bl]
  ·have:=(hG.all g hg).1
   (show gz (.l .A (.n 800)) [[1,3,1]] (.l .B (.n 200)) (.k .A (.a .O (.m 3 .B))) ao this)
  ·rw[e',e4,fe ht,e,List.foldl_append];rfl
 ·intro U ab zz;have#[T,R4,H4,e4,_]:=zz;apply#[H4.ext.L _ _ hH,D7 _ (by rw[fx,R4.r5]) (h gl T ab (H4.more E3) ?_)];rw[av,lj]at e4;show e4
end R5
namespace R5
variable {i:Nat}
def T7 {vs:List V}{T:V->Fr->St->List V->(Fr->St->List V->Prop)->Prop}{O:St->Prop}{K:Fr->St->List V->Prop}(Inv:Nat->Fr->St->List V->Prop)
  (step:∀i v ρ σ out,vs[i]?=some v->Inv i ρ σ out->O σ/\∀k:Fr->St->List V->Prop,(∀ρ' σ' Z,Inv (i+1) ρ' σ' Z->k ρ' σ' Z)->T v ρ σ out k) (fin:∀ρ σ out,Inv vs.length ρ σ out->O σ/\K ρ σ out) {ρ:Fr} {σ:St} {out:List V} (h0:Inv 0 ρ σ out):GL T O K vs ρ σ out:=by
 have go:∀(ws:List V) (i:Nat) (ρ:Fr) (σ:St) (out:List V),vs.drop i=ws->Inv i ρ σ out->i<=vs.length->GL T O K ws ρ σ out:=by
  intro ws;induction ws with
  |nil =>
   intro i ρ σ out e h hi;have:i=vs.length:=by have:=dW.mp e;(show gz .C .g .A .V hi this)
   subst this;show fin ρ σ out h
  |cons v ws J =>
   intro i ρ σ out e h hi;have U:i<vs.length:=by
    rcases pj i vs.length with q|q
    ·show q
    ·rw[sd q]at e;cases e
   rw[jy U]at e;have#[e1,e2]:=List.cons.inj e;have#[g,B]:=step i v ρ σ out (by rw[<- e1];show di U) h;apply#[g,B _ λρ' σ' Z h'=>J (i+1) ρ' σ' Z e2 h' U]
 show go vs 0 ρ σ out rfl h0 (bh _)
structure GH (σ0:St)(lc:Addr)(CS:List O5)(T:List (Addr×List O5))(a:Addr)(g:List O5)(σ:St):Prop where
 old:∀b xs,σ0.L b=some xs->σ.L b=some xs
 cs:σ.L lc=some (CS.map oV)
 at_:∀q∈T,σ.L q.1=some (q.2.map oV)
 cur:σ.L a=some (g.map oV)
 ne:lc≠a
 nd:∀q∈T,q.1≠a
 new:σ0.L a=none
section
variable {σ0 σ:St}{lc a:Addr}{CS:List O5}{T:List (Addr×List O5)}{g:List O5}
def GH.app (h:GH σ0 lc CS T a g σ)(c:O5):GH σ0 lc CS T a (g++[c]) (σ.cw a (g.map oV++[oV c])):=
 #[λb xs e=>(cv (λq=>by rw[q,h.new]at e;cases e)).trans (h.old b xs e),(cv h.ne).trans h.cs,λq Z=>(cv (h.nd q Z)).trans (h.at_ q Z),by rw[cm];show br _ _ _,h.ne,h.nd,h.new]
def GH.next (h:GH σ0 lc CS T a g σ){c:Addr}(U:σ.L c=none):GH σ0 lc CS (T++[(a,g)]) c [] (σ.cw c []):=by
 have ne:∀b xs,σ.L b=some xs->b≠c:=λb xs e q=>by rw[q,U]at e;cases e
 apply#[λb xs e=>(cv (ne b xs (h.old b xs e))).trans (h.old b xs e),(cv (ne _ _ h.cs)).trans h.cs,λq Z=>?_,br _ _ _,ne _ _ h.cs,λq Z=>?_,?_]
 ·rcases dj.mp Z with Z|Z
  ·show(cv (ne _ _ (h.at_ q Z))).trans (h.at_ q Z)
  ·have rfl:=au.mp Z;show(cv (ne _ _ h.cur)).trans h.cur
 ·rcases dj.mp Z with Z|Z
  ·show ne _ _ (h.at_ q Z)
  ·have rfl:=au.mp Z;show ne _ _ h.cur
 ·cases q:σ0.L c with
  |none=>rfl
  |some xs=>rw[h.old c xs q]at U;cases U
end
structure GR (ρ:Fr)(n:Nat)(lc a:Addr):Prop where
 r1:ρ 1=some (.int n)
 r8:ρ 8=some (.int (n+n:Nat))
 r9:ρ 9=some (.L a)
structure GC (ρ:Fr)(t:Str)(i1 i2 j1 j2:Nat):Prop where
 r3:ρ 3=some (.str t)
 r4:ρ 4=some (.int i1)
 r5:ρ 5=some (.int i2)
 r6:ρ 6=some (.int j1)
 r7:ρ 7=some (.int j2)
def kN {σ:St}{ρ:Fr}{x y z:Nat}{j k:Nat}(J:ρ x=some (.int i))(O:ρ y=some (.int j))(hz:ρ z=some (.int k)):evV σ ρ (.bf .min %[.l x,.b .add (.l y) (.l z)|0])=some (.int (min i (j+k):Nat)):=by
 have e:evV σ ρ (.b .add (.l y) (.l z))=some (.int (j+k:Nat)):=oz (a:=.l y) (b:=.l z) O hz;show((evV σ ρ (.l x)).bind λv=>((evV σ ρ (.b .add (.l y) (.l z))).bind λw=>some [w]).map λvs=>v::vs).bind _=_;rw[e,fx,J];show some (V.int (min (i:Int) ((j+k:Nat):Int)))=_;rw[show min (i:Int) ((j+k:Nat):Int)=((min i (j+k):Nat):Int) by(show(Ar.J2 _ _).2.2.elim (λU=>((Ar.kx _ _).2.2.elim (λZ=>(VB (.ie .A .L) .A (.ik .A .M) .A (.ik .M .A) .V (Ar.J2 _ _).1 (Ar.kx _ _).1 U Z)) λZ=>(PZ (.ie .A .L) .A (.ik .A (.t .Q)) .aA (.ik (.t .D) .A) (.k .Q .A) (Ar.J2 _ _).2.1 (Ar.kx _ _).1 U Z))) λU=>((Ar.kx _ _).2.2.elim (λZ=>(PZ (.ie .A .L) .A (.ik .A .M) (.k .A .S) (.ik (.t .S) .A) .V (Ar.J2 _ _).1 (Ar.kx _ _).2.1 U Z)) λZ=>(Q0 (.ie .A .L) .A (.ik .A (.t .Q)) .aG (.ik (.t .Q) .A) (.k .Q .A) (Ar.J2 _ _).2.1 (Ar.kx _ _).2.1 U Z)))]
def kO {σ:St}{ρ:Fr}{x y z:Nat}{j k:Nat}(U:ρ x=some (.int i))(Z:ρ y=some (.int j))(hz:ρ z=some (.int k)):evV σ ρ (.bf .max %[.l x,.b .sub (.l y) (.l z)|0])=some (.int (max i (j-k):Nat)):=by
 have e:evV σ ρ (.b .sub (.l y) (.l z))=some (.int ((j:Int)-k)):=by
  show(evV σ ρ (.l y)).bind _=_;rw[fx,Z];show(evV σ ρ (.l z)).bind _=_;rw[fx,hz];rfl
 show((evV σ ρ (.l x)).bind λv=>((evV σ ρ (.b .sub (.l y) (.l z))).bind λw=>some [w]).map λvs=>v::vs).bind _=_;rw[e,fx,U];show some (V.int (max (i:Int) ((j:Int)-k)))=_;rw[show max (i:Int) ((j:Int)-k)=((max i (j-k):Nat):Int) by omega]
section
variable {C:Cal}{σ0 σ:St}{ρ:Fr}{lc a:Addr}{CS:List O5}{T:List (Addr×List O5)}{g:List O5}{n:Nat}
def PM {t:Str}{i1 i2 j1 j2:Nat}{K:Fl->Fr->St->Prop}(R:GR ρ n lc a)(c:GC ρ t i1 i2 j1 j2)(H:GH σ0 lc CS T a g σ)(hz:g.length<1000)(k:∀σ',GH σ0 lc CS T a (g++[(t,i1,i2,j1,j2)]) σ'->K .next ρ σ'):dk C g3 ρ σ K:=by
 unfold g3;apply iT (oV (t,i1,i2,j1,j2)) R.r9 H.cur (ev5 c.r3 c.r4 c.r5 c.r6 c.r7) (by rw[av];unfold bq;(show ef .aI .a .a4 hz)) ?_;show ow (k _ (H.app _))
def A6 {α Z:Type}{f:Z->α->Z}{b:Z}{l:List α}(h:i<l.length):(l.take (i+1)).foldl f b=f ((l.take i).foldl f b) l[i]:=by
 rw[fe h,List.foldl_append];rfl
abbrev KF (σ0:St)(G:List (List O5))(out:List V)(σ:St):Prop:=∃T:List (Addr×List O5),out=T.map (λq=>V.L q.1)/\T.map (·.2)=G/\(∀q∈T,σ.L q.1=some (q.2.map oV))/\(∀b xs,σ0.L b=some xs->σ.L b=some xs)/\out.length<=1000
inductive Q4 (σ0:St)(lc:Addr)(CS:List O5)(n:Nat)(i:Nat)(ρ:Fr)(σ:St)(out:List V):Prop
 |mk (T:List (Addr×List O5)) (a:Addr) (g:List O5):GR ρ n lc a->GH σ0 lc CS T a g σ->out=T.map (λq=>V.L q.1)->(T.map (·.2),g)=(CS.take i).foldl (ua n) ([],[])->T.length<=i->g.length<=i->Q4 σ0 lc CS n i ρ σ out
def NM {t:Str}{i1 i2 j1 j2:Nat}{out:List V}{k:Fr->St->List V->Prop}(R:GR ρ n lc a)(c:GC ρ t i1 i2 j1 j2)(H:GH σ0 lc CS T a g σ)(ho:out=T.map (λq=>V.L q.1))(hT:T.length<=i)(hg:g.length<=i)(hi:i<900)
  (hk:∀O Z g' ρ' σ',GR ρ' n lc Z->GH σ0 lc CS O Z g' σ'->(O.map (·.2),g')=ua n (T.map (·.2),g) (t,i1,i2,j1,j2)->O.length<=i+1->g'.length<=i+1->k ρ' σ' (O.map λq=>V.L q.1)) :
  wpT C gC ρ σ λb σ=>(b=true->dk C g1 ρ σ λfl ρ σ=>fl=.next/\out.length<1000/\wpE C (.l 9) ρ σ λv σ=>dk C g2 ρ σ λfl ρ σ=>fl=.next/\dk C g3 ρ σ λfl ρ σ=>fl=.next/\k ρ σ (out++[v]))/\(b=false->dk C g3 ρ σ λfl ρ σ=>fl=.next/\k ρ σ out):=by
 have e1:evT σ ρ (.c .eq (.l 3) (.str "equal"))=some (isEq (t,i1,i2,j1,j2)):=by rw[nq,fx,c.r3];rfl
 have e2:evT σ ρ (.c .gt (.b .sub (.l 5) (.l 4)) (.l 8))=some (decide (n+n<i2-i1)):=by
  have e:evV σ ρ (.b .sub (.l 5) (.l 4))=some (.int ((i2:Int)-i1)):=by
   show(evV σ ρ (.l 5)).bind _=_;rw[fx,c.r5];show(evV σ ρ (.l 4)).bind _=_;rw[fx,c.r4];rfl
  rw[nq,e,fx,R.r8];show some (decide ((i2:Int)-i1>((n+n:Nat):Int)))=_;show bz some (qx.mpr (#[λU=>(fc .R .c (.il (.t .aM) (.s .R (.t .D))) (.e .aF .C) U (ae (ek .A .a (.il (.t (.a .C .C)) (.s .M .L)) U))),λU=>(Ar.sub _ _ (λJ p2=>(fc (.il (.t .aM) (.s .M .R)) .b (.l .aM .D) (.e .aD .B) U p2)) λJ p2=>(fc (.il (.t .aM) (.s .M .R)) .d (.l .aM .D) .aS U p2))]))
 have eb:evT σ ρ gC=some (isEq (t,i1,i2,j1,j2)&&decide (n+n<i2-i1)):=by
  show(evT σ ρ (.c .eq (.l 3) (.str "equal"))).bind _=_;rw[e1];show(if isEq (t,i1,i2,j1,j2)=true then evT σ ρ (.c .gt (.b .sub (.l 5) (.l 4)) (.l 8)) else some false)=_;rw[e2];cases isEq (t,i1,i2,j1,j2)<;>rfl
 apply pz gC eb #[λhb=>?_,λhb=>?_]
 ·have#[U,J]:=(dg _ _).mp hb;have eS:ua n (T.map (·.2),g) (t,i1,i2,j1,j2)=(T.map (·.2)++[g++[hd n (t,i1,i2,j1,j2)]],[tl n (t,i1,i2,j1,j2)]):=bx #[U,aq J];unfold g1;apply iT (oV (hd n (t,i1,i2,j1,j2))) R.r9 H.cur (ev5 c.r3 c.r4 (kN c.r5 c.r4 R.r1) c.r6 (kN c.r7 c.r6 R.r1)) (by rw[av];unfold bq;(show gz .aI .b .A .b4 hg hi)) ?_;have H1:=H.app (hd n (t,i1,i2,j1,j2));apply ow #[rfl,by rw[ho,av];(show gz .a4 .b .A .b4 hT hi),_,R.r9,?_];unfold g2;apply yU [] rfl (bh _) λZ ab=>?_;have H2:=H1.next ab
  have er:evV (St.cw (σ.cw a (g.map oV++[oV (hd n (t,i1,i2,j1,j2))])) Z []) (upd ρ 9 (.L Z)) (.T %[.bf .max %[.l 4,.b .sub (.l 5) (.l 1)|0],.bf .max %[.l 6,.b .sub (.l 7) (.l 1)|0]|0])=some (.T [.int (max i1 (i2-n):Nat),.int (max j1 (j2-n):Nat)]):=by
   rw[i9,ir,kO (x:=4) (y:=5) (z:=1) c.r4 c.r5 R.r1,ir,kO (x:=6) (y:=7) (z:=1) c.r6 c.r7 R.r1];rfl
  apply tT _ er rfl ?_;apply ow #[rfl,?_];have R3:GR (ez [4,6] [.int (max i1 (i2-n):Nat),.int (max j1 (j2-n):Nat)] (upd ρ 9 (.L Z))) n lc Z:=#[R.r1,R.r8,rfl];have c3:GC (ez [4,6] [.int (max i1 (i2-n):Nat),.int (max j1 (j2-n):Nat)] (upd ρ 9 (.L Z))) t (max i1 (i2-n)) i2 (max j1 (j2-n)) j2:=#[c.r3,rfl,c.r5,rfl,c.r7];show dk C g3 (ez [4,6] [.int (max i1 (i2-n):Nat),.int (max j1 (j2-n):Nat)] (upd ρ 9 (.L Z))) (St.cw (σ.cw a (g.map oV++[oV (hd n (t,i1,i2,j1,j2))])) Z []) _;generalize ez [4,6] [.int (max i1 (i2-n):Nat),.int (max j1 (j2-n):Nat)] (upd ρ 9 (.L Z))=ai at R3 c3;generalize St.cw (σ.cw a (g.map oV++[oV (hd n (t,i1,i2,j1,j2))])) Z []=ag at H2;have aa:([]:List O5).length<1000:=bc rfl;apply PM R3 c3 H2 aa λσ' H'=>#[rfl,?_];have:=hk _ _ _ _ _ R3 H' (by rw[eS,cm];rfl) (by rw[ax];show mf hT 1) (Nat.le_add_left 1 i);rw[cm,<- ho]at this;show this
 ·have eS:ua n (T.map (·.2),g) (t,i1,i2,j1,j2)=(T.map (·.2),g++[(t,i1,i2,j1,j2)]):=tx λq=>by
   rw[q.1,dp q.2]at hb;cases hb
  apply PM R c H (gz .a4 .b .A .b4 hg hi) λσ' H'=>#[rfl,?_];rw[ho];show hk _ _ _ _ _ R H' eS.symm (pk hT) (by rw[ax];show mf hg 1)
def UM (U:ρ 9=some (.L a))(h:σ.L a=some (g.map oV)):evT σ ρ gL=some (decide (g≠[]/\¬(g.length=1/\(g.head?.any isEq)=true))):=by
 have e1:evT σ ρ (.l 9)=some (!(g.map oV).isEmpty):=by
  rw[uY,U];show(σ.L a).map _=_;rw[h];rfl
 show(evT σ ρ (.l 9)).bind _=_;rw[e1];cases g with
 |nil=>rfl
 |cons c r =>
  show evT σ ρ (.not _)=_;have e2:evT σ ρ (.c .eq (.bf .len %[.l 9|0]) (.int 1))=some (decide ((c::r).length=1)):=uZ (n:=1) (nW U h) rfl;have e3:evT σ ρ (.c .eq (.sub (.sub (.l 9) (.int 0)) (.int 0)) (.str "equal"))=some (isEq c):=by
   have e4:evV σ ρ (.sub (.l 9) (.int 0))=some (oV c):=v7 (e:=.int 0) (n:=0) U h rfl rfl;have e5:evV σ ρ (.sub (.sub (.l 9) (.int 0)) (.int 0))=some (.str c.1):=by
    show(evV σ ρ (.sub (.l 9) (.int 0))).bind _=_;rw[e4];rfl
   rw[nq,e5];rfl
  show(evT σ ρ (.and _ _)).map _=_;show((evT σ ρ (.c .eq (.bf .len %[.l 9|0]) (.int 1))).bind _).map _=_;rw[e2];show(if decide ((c::r).length=1)=true then evT σ ρ (.c .eq (.sub (.sub (.l 9) (.int 0)) (.int 0)) (.str "equal")) else some false).map _=_;rw[e3];have Z:((c::r:List O5)≠[]):=lp _ _;by_cases q:(c::r).length=1
  ·rw[bx (dp q)];show some (!isEq c)=_;have:(!isEq c)=decide ((c::r:List O5)≠[]/\¬((c::r).length=1/\(isEq c)=true)):=by
    cases hc:isEq c with
    |true=>show(iq λh=>h.2 #[q,rfl]).symm
    |false=>show(dp #[Z,λh=>Bool.noConfusion h.2]).symm
   show bz some this
  ·rw[ay (λh=>q (aq h))];show bz some (dp #[Z,λh=>q h.1]).symm
def RT (R:GR ρ n lc a)(H:GH σ0 lc CS [] a [] σ)(hz:CS.length<900):GL (GT C gT gC g1 (.l 9) g2 g3) (λσ=>σ.L lc=some (CS.map oV)) (λρ σ out=>wpT C gL ρ σ λb σ=>(b=true->out.length<1000/\wpE C (.l 9) ρ σ λv σ=>KF σ0 (iK (CS.foldl (ua n) ([],[]))) (out++[v]) σ)/\(b=false->KF σ0 (iK (CS.foldl (ua n) ([],[]))) out σ)) (CS.map oV) ρ σ []:=by
 apply T7 (Q4 σ0 lc CS n) (λi v Z aa out hv I=>?_) (λZ aa out I=>?_) #[[],a,[],R,H,rfl,rfl,az _,az _]
 ·have#[T,b,g,R1,H1,U,O,J,hg]:=I;rw[cu]at hv;have#[c,hc,rfl]:=omap hv;have#[hi,e]:=bw.mp hc;apply#[H1.cs,λk hk=>?_];have hs:=A6 (f:=ua n) (b:=([],[])) hi;rw[e,<- O]at hs;have#[t,i1,i2,j1,j2]:=c;apply#[_,rfl,rfl,?_];have R2:GR (ez [3,4,5,6,7] [.str t,.int i1,.int i2,.int j1,.int j2] Z) n lc b:=#[R1.r1,R1.r8,R1.r9];have c2:GC (ez [3,4,5,6,7] [.str t,.int i1,.int i2,.int j1,.int j2] Z) t i1 i2 j1 j2:=#[rfl,rfl,rfl,rfl,rfl];show wpT C gC (ez [3,4,5,6,7] [.str t,.int i1,.int i2,.int j1,.int j2] Z) aa _;generalize ez [3,4,5,6,7] [.str t,.int i1,.int i2,.int j1,.int j2] Z=ai at R2 c2;show NM R2 c2 H1 U J hg (gz (.l .A (.n 900)) .b .b4 .B hz hi) λT' a' g' ρ' σ' R' H' e' ag ab=>hk _ _ _ #[T',a',g',R',H',rfl,e'.trans hs.symm,ag,ab]
 ·have#[T,b,g,R1,H1,U,O,J,hg]:=I;rw[av]at O J;rw[lj]at O;apply#[H1.cs,pz gL (UM R1.r9 H1.cur) #[λhb=>#[by rw[U,av];(show gz .a4 .b .b4 .A hz J),_,R1.r9,T++[(b,g)],by rw[cm,U];rfl,?_,λq hq=>?_,H1.old,?_],λhb=>#[T,U,?_,H1.at_,H1.old,by rw[U,av];(show gz (.k .A (.n 1000)) .b .b4 .A hz J)]]]
  ·rw[<- O,cm];show(bx (aq hb)).symm
  ·rcases dj.mp hq with hq|hq
   ·show H1.at_ q hq
   ·have rfl:=au.mp hq;show H1.cur
  ·rw[ax,U,av];show T.length+1<=1000;(show gz (.k .L (.n 1000)) .b .b4 .A hz J)
  ·rw[<- O];show(ay (of_decide_eq_false hb)).symm
end
end R5
end MP
end
section
namespace MP
open PySem
variable {ρ:Fr}{σ:St}{es:List (Key×V)}{ks:List Key}
structure ON (σ σ':St)(s:Addr)(js:List Key):Prop where
 L:σ'.L=σ.L
 D:σ'.D=σ.D
 I:σ'.I=σ.I
 S:∀a,a≠s->σ'.S a=σ.S a
 at_:σ'.S s=some js
structure OO (σ σ':St)(d:Addr)(es:List (Key×V)):Prop where
 L:σ'.L=σ.L
 S:σ'.S=σ.S
 I:σ'.I=σ.I
 D:∀a,a≠d->σ'.D a=σ.D a
 at_:σ'.D d=some es
section
variable {C:Cal}{K:Fl->Fr->St->Prop}
def KG {c:Ex}{sx s:Nat}{js:List Key}{k:Int}{b:Bool}{again:Fr->St->Prop}(J:∀Q:Bool->St->Prop,Q b σ->wpT C c ρ σ Q)(O:ρ 4=some (.int k))(U:ρ sx=some (.set s))(Z:σ.S s=some js)(hz:js.length<4000)(hk:Key.int k∉js)
  (h:again ρ (if b then σ.jY s (js++[.int k]) else σ)):dk C %[.C c %[.expr (.bm .add (.l sx) %[.l 4|0])|0] .nil|0] ρ σ (yt again K):=by
 apply J _ ?_;cases b with
 |false=>show ti h
 |true =>
  apply xu #[.set s,U,(by show(σ.S s).isSome=true;rw[Z];rfl),.int k,O,js,Z,hz,rfl,?_];rw[ay hk];show h
def KH {c:Ex}{sx s:Nat}{t:Tg}{vs:List V}{G:St->Prop}{ks:List Int}{p:Int->Bool}{k:Fr->St->Prop}(Inv:Fr->Prop)(nd:ks.Nodup)(U:vs.length=ks.length)(hz:ks.length<4000)(hI:Inv ρ)(hS:σ.S s=some [])(hG:∀σ' js,ON σ σ' s js->σ'.Z=σ.Z\/σ'.Z=clr σ.Z s->G σ')
  (bind:∀(i:Nat) (v:V) (y:Int) (ρ:Fr) (σ':St) (js:List Key) (K:Fr->Prop),vs[i]?=some v->ks[i]?=some y->Inv ρ->ON σ σ' s js->(∀ρ',Inv ρ'->ρ' 4=some (.int y)->ρ' sx=some (.set s)->(∀Q:Bool->St->Prop,Q (p y) σ'->wpT C c ρ' σ' Q)->K ρ')->nu t v σ' ρ K)
  (h:∀ρ' σ',Inv ρ'->ON σ σ' s ((ks.filter p).map Key.int)->k ρ' σ') :
  uU vs G (λv ρ σ kk=>nu t v σ ρ λρ=>dk C %[.C c %[.expr (.bm .add (.l sx) %[.l 4|0])|0] .nil|0] ρ σ (yt kk K)) ρ σ k:=by
 apply si (λi ρ' σ'=>Inv ρ'/\ON σ σ' s (((ks.take i).filter p).map Key.int)/\(σ'.Z=σ.Z\/σ'.Z=clr σ.Z s)) ?_ ?_ #[hI,#[rfl,rfl,rfl,λ_ _=>rfl,hS],.inl rfl]
 ·intro i v ρ' σ' hv zz;have#[hi,B,hZ]:=zz;apply#[hG _ _ B hZ,λkk hk=>?_];have J:i<ks.length:=U▸(bw.mp hv).1;have hy:ks[i]?=some ks[i]:=di J;apply bind i v ks[i] ρ' σ' _ _ hv hy hi B λao i2 r4 rs hc=>?_;have aa:Key.int ks[i]∉((ks.take i).filter p).map Key.int:=λq=>by
   have#[y,ag,ab]:=cj.mp q;have rfl:=Key.int.inj ab;have h1:=(wk.mp ag).1;have#[j,hj,e]:=iv.mp h1;rw[j3]at e;have ai:j<i:=by rw[gu]at hj;(show fk .B .b .I .G hj (Ar.kx _ _).1)
   have:=(List.getElem_inj nd).mp e
   (show gz .ff [[0,1,-1]] .B .C ai this)
  apply KG (b:=p ks[i]) hc r4 rs B.at_ ?_ aa (hk _ _ #[i2,?_])
  ·rw[av];have:=ix p (ks.take i);rw[gu]at this;(show eM (.l .A (.n 4000)) .s (.l .B (.n 4000)) .O .aA .bL hz J this (Ar.kx _ _).1)
  ·rw[fe J,gM,cm];cases hp:p ks[i] with
   |false =>
    rw[List.filter_cons_of_neg (by rw[hp];decide),List.filter_nil,List.map_nil,cq];apply#[B,hZ]
   |true =>
    rw[List.filter_cons_of_pos hp,List.filter_nil];apply#[#[B.L,B.D,B.I,λa ha=>(cv ha).trans (B.S a ha),br _ _ _],.inr ?_];show clr σ'.Z s=clr σ.Z s;rcases hZ with e|e
    ·rw[e]
    ·rw[e];funext a;unfold clr;split<;>rfl
 ·intro ρ' σ' zz;have#[hi,B,hZ]:=zz;apply#[hG _ _ B hZ,?_];rw[U,lj]at B;show h ρ' σ' hi B
abbrev eQ (es:List (Key×V))(ks:List Key):List (Key×V):=es.filter λe=>decide (e.1∉ks)
def dY {k:Key}:(eQ es ks).lookup k=if k∈ks then none else es.lookup k:=by
 unfold eQ;induction es with
 |nil=>rw[List.filter_nil];split<;>rfl
 |cons e r U =>
  have#[a,v]:=e;rw[ll];by_cases c:a∈ks
  ·rw[ay (by simpa using c),U];by_cases d:k∈ks
   ·rw[bx d,bx d]
   ·have Z:k≠a:=λq=>d (q▸c);rw[ay d,ay d,rh,pb Z]
  ·rw[bx (by simpa using c),rh,rh,U];by_cases d:k=a
   ·subst d;rw[uj];show(ay c).symm
   ·rw[pb d]
def E5 {k:Key}:delD (eQ es ks) k=eQ es (ks++[k]):=by
 unfold delD eQ;rw[List.filter_filter];apply List.filter_congr λe _=>?_;by_cases c:e.1=k
 ·simp[c]
 ·by_cases d:e.1∈ks
  ·simp[c,d]
  ·simp[c,d]
def E4:eQ es []=es:=List.filter_eq_self.mpr λ_ _=>rfl
def JK {G:St->Prop}{d dx:Nat}{k:Fr->St->Prop}(hd:σ.D d=some es)(rd:ρ dx=some (.dct d))(h4:dx≠4)(nd:ks.Nodup)(ab:∀k∈ks,(es.lookup k).isSome=true)(hG:∀σ' ag,OO σ σ' d ag->σ'.Z=σ.Z\/σ'.Z=clr σ.Z d->G σ')
  (h:∀ρ' σ',(∀m,m≠4->ρ' m=ρ m)->OO σ σ' d (eQ es ks)->k ρ' σ') :
  uU (ks.map Key.v) G (λv ρ σ kk=>nu (.v 4) v σ ρ λρ=>dk C %[.delD (.l dx) (.l 4)|0] ρ σ (yt kk K)) ρ σ k:=by
 apply si (λi ρ' σ'=>(∀m,m≠4->ρ' m=ρ m)/\OO σ σ' d (eQ es (ks.take i))/\(σ'.Z=σ.Z\/σ'.Z=clr σ.Z d)) ?_ ?_ #[λ_ _=>rfl,#[rfl,rfl,rfl,λ_ _=>rfl,hd.trans (by rw[List.take_zero,E4])],.inl rfl]
 ·intro i v ρ' σ' hv zz;have#[J,B,hZ]:=zz;apply#[hG _ _ B hZ,λkk hk=>?_];rw[cu]at hv;have#[y,hy,rfl]:=omap hv;have#[O,rfl]:=bw.mp hy;have U:ks[i]∉ks.take i:=λq=>by
   have#[j,hj,e]:=iv.mp q;rw[j3]at e;have aa:j<i:=by rw[gu]at hj;(show fk .B .b .I .G hj (Ar.kx _ _).1)
   have:=(List.getElem_inj nd).mp e
   (show gz .ff [[0,1,-1]] .B .C aa this)
  apply#[.dct d,(cv h4).trans ((J _ h4).trans rd),ks[i].v,br _ _ _,_,ks[i],B.at_,xS _,?_,?_]
  ·rw[dY,ay U];show ab _ (jj O)
  ·apply hk _ _ #[λm hm=>(cv hm).trans (J m hm),?_,.inr ?_]
   ·rw[fe O,<- E5];apply#[B.L,B.S,B.I,λa ha=>(cv ha).trans (B.D a ha),br _ _ _]
   ·show clr σ'.Z d=clr σ.Z d;rcases hZ with e|e
    ·rw[e]
    ·rw[e];funext a;unfold clr;split<;>rfl
 ·intro ρ' σ' zz;have#[J,B,hZ]:=zz;apply#[hG _ _ B hZ,?_];rw[av,lj]at B;show h ρ' σ' J B
end
end MP
end
section
namespace MP
namespace SM
end SM
end MP
end
section
namespace MP
open PySem
variable {σ:St}{db:Addr}{bs:List Key}{gone:Key->Bool}{es:List (Key×V)}
def I7 {α:Type}[DecidableEq α]{ks Z:List α}(nd:ks.Nodup)(hm:∀k,k∈Z↔k∈ks)(hl:Z.length=ks.length):Z.Nodup:=by
 apply uv.mpr λi j hi B J e=>?_;have hs:ks ⊆ Z.eraseIdx j:=λx hx=>by
  have#[m,O,U]:=iv.mp ((hm x).mpr hx);apply List.mem_eraseIdx_iff_getElem.mpr ?_;by_cases c:m=j
  ·subst c;apply#[i,hi,gm J,e.trans U]
  ·apply#[m,O,c,U]
 have h1:=nd.length_le_of_subset hs;rw[gK B]at h1
 (show mi .ff .h .C .cB (.e .R .A) hl h1 (ae (bt .D .a .W B)))
structure Tb (σ:St)(db:Addr)(bs:List Key)(gone:Key->Bool)(es:List (Key×V)):Prop where
 D:σ.D db=some es
 nd:(es.map (·.1)).Nodup
 sub:∀k∈es.map (·.1),k∈bs
 len:es.length<=bs.length
 out:∀k,gone k=true->es.lookup k=none
 here:∀k,gone k=false->(es.lookup k=none/\posOf k bs=[])\/∃c,es.lookup k=some (.L c)/\σ.L c=some (kA k bs)
def Tb.tabAt (h:Tb σ db bs gone es):TabAt σ db bs gone:=#[es,h.D,h.out,h.here]
def Tb.move {σ':St}(h:Tb σ db bs gone es)(U:σ'.D db=σ.D db)(Z:∀a xs,σ.L a=some xs->σ'.L a=some xs):Tb σ' db bs gone es:=
 #[U.trans h.D,h.nd,h.sub,h.len,h.out,λk hk=>(h.here k hk).imp_right λq=>by have#[c,e1,e2]:=q;apply#[c,e1,Z _ _ e2]]
def uM {k:Key}:k∈es.map (·.1)↔(es.lookup k).isSome=true:=by
 rw[<- jL,List.any_eq_true];apply#[λh=>?_,λh=>?_]
 ·have#[e,U,Z]:=cj.mp h;apply#[e,U,by rw[Z];show uj k]
 ·have#[e,U,Z]:=h;show cj.mpr #[e,U,eq_of_beq Z]
def Tb.eQ {σ':St}{p:Key->Bool}{ks:List Key}(h:Tb σ db bs gone es)(B:OO σ σ' db (MP.eQ es ks))(hk:∀k,k∈ks↔k∈es.map (·.1)/\p k=true):Tb σ' db bs (λk=>gone k||p k) (MP.eQ es ks):=by
 apply#[B.at_,?_,λk q=>?_,fm (ix _ _) h.len,λk q=>?_,λk q=>?_]
 ·show(List.filter_sublist.map _).nodup h.nd
 ·have#[e,O,rfl]:=cj.mp q;show h.sub _ (cj.mpr #[e,(wk.mp O).1,rfl])
 ·rw[dY];split
  ·rfl
  ·rename_i n;rcases (sr ..).mp q with q|q
   ·show h.out k q
   ·cases hq:es.lookup k with
    |none=>rfl
    |some w=>show absurd ((hk k).mpr #[uM.mpr (by rw[hq];rfl),q]) n
 ·have#[U,Z]:=Bool.or_eq_false_iff.mp q;have n:k∉ks:=λm=>by rw[((hk k).mp m).2]at Z;cases Z
  rw[dY,ay n,B.L];show h.here k U
def B2J.tb {σ₀:St}(h:B2J σ₀ σ db bs):∃es,Tb σ db bs (λ_=>false) es:=by
 have#[es,Z,hl,J,O,_]:=h.tab;have#[U,k2]:=h.keys es Z;apply#[es,Z,U,k2,hl,λk e=>Bool.noConfusion e,λk _=>?_];cases hk:es.lookup k with
 |none=>show .inl #[rfl,J k hk]
 |some w =>
  have#[c,rfl,e,_]:=O k w hk;show .inr #[c,rfl,e]
abbrev yx (p:Int->Bool):Key->Bool
 |.int y=>p y
 |.str _=>false
def J0 {ys:List Int}(h:∀k∈es.map (·.1),k∈ys.map Key.int):∃ks:List Int,es.map (·.1)=ks.map Key.int:=by
 generalize es.map (·.1)=l at h;induction l with
 |nil=>refine#[[],rfl]
 |cons k l Z =>
  have#[ks,e]:=Z λk hk=>h k (.tail _ hk);have#[y,_,rfl]:=cj.mp (h k (.head _));apply#[y::ks,by rw[e];rfl]
def E8 {ks:List Int}(h:(ks.map Key.int).Nodup):ks.Nodup:=(List.pairwise_map.mp h).imp λn e=>n (bz Key.int e)
def E7 {ks:List Int}(h:ks.Nodup):(ks.map Key.int).Nodup:=List.pairwise_map.mpr (h.imp λn e=>n (Key.int.inj e))
section
variable {C:Cal}{K:Fl->Fr->St->Prop}
structure SQ (σ σ':St)(db s:Addr)(bs:List Key)(gone p:Key->Bool)(es:List (Key×V)):Prop where
 L:σ'.L=σ.L
 I:σ'.I=σ.I
 S:∀a,a≠s->σ'.S a=σ.S a
 D:∀a,a≠db->σ'.D a=σ.D a
 tb:∃es',Tb σ' db bs (λk=>gone k||p k) es'
 at_:∃js,σ'.S s=some js/\∀k,k∈js↔k∈es.map (·.1)/\p k=true
def TN {c:Ex}{sx s db:Nat}{t:Tg}{it:It}{ys:List Int}{p:Int->Bool}{ρ:Fr}{σ:St}{ss:jo}(Inv:Fr->Prop)(val:Key×V->V)(bl:sx≠4)(ai:∀ρ ρ',(∀m,m≠4->ρ' m=ρ m)->Inv ρ->Inv ρ')(J:∀ρ,Inv ρ->ρ 2=some (.dct db)/\ρ sx=some (.set s))
  (hz:ys.length<4000) (T:Tb σ db (ys.map Key.int) gone es) (hS:σ.S s=some []) (ao:s≠db) (hI:Inv ρ)
  (hit:∀K:List V->(St->Prop)->St->Prop,(∀o,K (es.map val) (λτ=>τ.Z db=some o) (σ.iE db o))->lL C it ρ σ K)
  (bind:∀(e:Key×V) (y:Int) (ρ:Fr) (σ':St) (K:Fr->Prop),e∈es->e.1=.int y->Inv ρ->σ'.L=σ.L->(∀ρ',Inv ρ'->ρ' 4=some (.int y)->(∀Q:Bool->St->Prop,Q (p y) σ'->wpT C c ρ' σ' Q)->K ρ')->nu t (val e) σ' ρ K)
  (h:∀ρ' σ',Inv ρ'->SQ σ σ' db s (ys.map Key.int) gone (yx p) es->dk C ss ρ' σ' K) :
  dk C (.cons (.each t it %[.C c %[.expr (.bm .add (.l sx) %[.l 4|0])|0] .nil|0]) (.cons (.each (.v 4) (.seq (.l sx)) %[.delD (.l 2) (.l 4)|0]) ss)) ρ σ K:=by
 have#[ks,O]:=J0 T.sub;have ag:ks.Nodup:=E8 (O▸T.nd);have aa:es.length=ks.length:=by have:=bz List.length O;simpa using this
 have be:ks.length<4000:=by have:=T.len;rw[av]at this;(show mi (.l .A (.n 4000)) .q (.l .B (.n 4000)) .cA .G hz aa this)
 apply hit _ λo=>?_;apply KH (σ:=σ.iE db o) (p:=p) (ks:=ks) (s:=s) (sx:=sx) Inv ag (by rw[av];show aa) be hI hS (λσ' js B hZ=>?_) (λi v y ρ' σ' js K' hv hy hi B kk=>?_) λρ' σ' hi B=>?_
 ·rcases hZ with e|e
  ·rw[e];show br _ _ _
  ·rw[e,JR (wi ao)];show br _ _ _
 ·rw[cu]at hv;have#[e,he,rfl]:=omap hv;have e1:e.1=.int y:=by
   have:(es.map (·.1))[i]?=some (.int y):=by rw[O,cu,hy];rfl
   rw[cu,he]at this;show ak this
  show bind e y ρ' σ' K' (dq he) e1 hi B.L λab i2 r4 hc=>kk ab i2 r4 (J _ i2).2 hc
 ·have#[r2,rs]:=J _ hi;apply#[_,rs,_,B.at_,λo2 bd hm hl=>?_];have ar:((ks.filter p).map Key.int).Nodup:=E7 (ag.sublist List.filter_sublist);have bb:=I7 ar hm hl;have U:∀k,k∈bd↔k∈es.map (·.1)/\yx p k=true:=λk=>by
   rw[hm k,O];apply#[λq=>?_,λq=>?_]
   ·have#[y,h1,rfl]:=cj.mp q;have#[h2,h3]:=wk.mp h1;apply#[cj.mpr #[y,h2,rfl],h3]
   ·have#[h1,h3]:=q;have#[y,h2,rfl]:=cj.mp h1;show cj.mpr #[y,wk.mpr #[h2,h3],rfl]
  have hD:(σ'.iE s o2).D db=some es:=(ic B.D db).trans T.D;apply JK (σ:=σ'.iE s o2) hD r2 (by decide) bb (λk hk=>uM.mp ((U k).mp hk).1) (λσ2 bn B2 hZ=>?_) λab σ2 hr B2=>?_
  ·rcases hZ with e|e
   ·rw[e];show br _ _ _
   ·rw[e,JR ao];show br _ _ _
  ·apply h ab σ2 (ai _ _ hr hi) ?_;have T2:Tb (σ'.iE s o2) db (ys.map Key.int) gone es:=T.move (ic B.D db) λa xs e=>(ic B.L a).trans e;apply#[B2.L.trans B.L,B2.I.trans B.I,λa ha=>(ic B2.S a).trans (B.S a ha),λa ha=>(B2.D a ha).trans (ic B.D a),#[_,T2.eQ B2 U],_,(ic B2.S s).trans B.at_,λk=>(hm k).symm.trans (U k)]
end
namespace SM
open R5
variable {σ:St}{x d:Addr}{f:Nat->Option V}{ys:List Int}{aj:Bool}{jk:Int->Bool}{Q:V->St->Prop}{vj:V}{P:Nat->Option Fn}{n:Nat}
abbrev fZ (C:Cal)(vj:V)(jk:Int->Bool):Prop:=(vj=.none/\∀y,jk y=false)\/∃k cs,vj=.clo k cs/\∀(y:Int) (σ:St) (Q:V->St->Prop),(∀v,(∀(σ:St) (K:Bool->Prop),K (jk y)->su v σ K)->Q v σ)->C (1000+k) (.int y::cs) σ Q
structure vV (σ σ':St)(x d:Addr)(f:Nat->Option V)(ys:List Int)(aj:Bool)(jk:Int->Bool)(db sj:Addr)(js:List Key):Prop where
 L:∀a xs,σ.L a=some xs->σ'.L a=some xs
 I:∃f',σ'.I x=some (d,f')/\(∀m,m<7->f' m=f m)/\f' 7=some (.dct db)/\f' 8=some (.set sj)
 D:TabAt σ' db (ys.map Key.int) (yx jk)
 S:σ'.S sj=some js
 J:∀y∈ys,Key.int y∈js↔jk y=true
structure Mid (σ₀:St)(x d lb db sj:Addr)(f:Nat->Option V)(ys:List Int)(jk:Int->Bool)(ρ:Fr)(σ:St)(js:List Key)(es:List (Key×V)):Prop where
 r0:ρ 0=some (.obj x)
 r1:ρ 1=some (.L lb)
 r2:ρ 2=some (.dct db)
 I:σ.I x=some (d,upd (upd f 7 (.dct db)) 8 (.set sj))
 L:∀a xs,σ₀.L a=some xs->σ.L a=some xs
 S:σ.S sj=some js
 J:∀y∈ys,Key.int y∈js↔jk y=true
 T:Tb σ db (ys.map Key.int) (yx jk) es
abbrev C1:jo:=(.cons (.a [(.attr (.l 0) 9),(.v 8)] (.bf .set .nil))
 (.cons (.a [(.v 9)] (.bf .len %[.l 1|0]))
 (.cons (.C (.and (.attr (.l 0) 3) (.c .ge (.l 9) (.int 200))) %[.dead,.dead,.dead|0] .nil)
 .nil)))
def BZ {C:Cal}{σ₀:St}{lb db sj:Addr}{ρ:Fr}{js:List Key}{es:List (Key×V)}(M:Mid σ₀ x d lb db sj f ys jk ρ σ js es)(ab:f 3=some (.bool aj))(hL:σ₀.L lb=some (ys.map V.int))(hz:ys.length<200)
  (h:∀σ',vV σ₀ σ' x d f ys aj jk db sj js->Q .none σ'):dk C C1 ρ σ (zF Q):=by
 have r0:=M.r0;have r1:=M.r1;have r2:=M.r2;have I:=M.I;have T:=M.T;have S:=M.S;have Lb:=M.L _ _ hL;intro U B O;apply#[.obj x,r0,x,d,_,rfl,I,?_];have aa:sj≠U:=λe=>by rw[e,B]at S;cases S
 have ag:U≠db:=λe=>by
  have:=T.D;rw[<- e,O]at this;cases this
 generalize Z:(σ.jY U []).jw x d (upd (upd (upd f 7 (.dct db)) 8 (.set sj)) 9 (.set U))=σ1;have L1:σ1.L=σ.L:=by rw[<- Z];rfl
 have D1:σ1.D=σ.D:=by rw[<- Z];rfl
 have I1:σ1.I x=some (d,upd (upd (upd f 7 (.dct db)) 8 (.set sj)) 9 (.set U)):=by rw[<- Z];show mw
 have S1:σ1.S=upd σ.S U []:=by rw[<- Z];rfl
 have Sj:σ1.S sj=some js:=by rw[S1,cv aa];show S
 have T1:Tb σ1 db (ys.map Key.int) (yx jk) es:=T.move (ic D1 db) λa xs e=>(ic L1 a).trans e;have fin:Q .none σ1:=h σ1 #[λa xs e=>by rw[L1];show M.L _ _ e,#[upd (upd (upd f 7 (.dct db)) 8 (.set sj)) 9 (.set U),I1,λm hm=>by rw[cv (gm (yq hm (by decide))),cv (gm (yq hm (by decide))),cv (gm hm)],rfl,rfl],T1.tabAt,Sj,M.J];apply#[.L lb,r1,_,(ic L1 lb).trans Lb,?_];apply#[.obj x,r0,x,d,_,.bool aj,rfl,I1,ab,?_];cases aj with
 |false=>show fin
 |true=>?_
 show wpT C (.c .ge (.l 9) (.int 200)) (upd (upd ρ 8 (.set U)) 9 (.int (ys.map V.int).length)) σ1 _;apply#[_,rfl,?_];rw[av];show if decide ((200:Int)<=(ys.length:Nat))=true then _ else _
 rw[iq (by(show ef (.ij (.n 200) .L) .a .aP hz):¬(200:Int)<=(ys.length:Nat)),ay (by decide)];show fin
abbrev IV:jo:=(.cons (.a [(.v 7)] (.attr (.l 0) 0))
 (.cons (.C (.l 7) (.cons (.each (.v 4) (.keys (.l 2)) (.cons (.C (.w 7 %[.l 4|0]) (.cons (.expr (.bm .add (.l 6) %[.l 4|0]))
 .nil) .nil)
 .nil))
 (.cons (.each (.v 4) (.seq (.l 6)) (.cons (.delD (.l 2) (.l 4))
 .nil))
 .nil)) .nil)
 C1))
def RM {C:Cal}{σ₀ σ:St}{lb db sj:Addr}{ρ:Fr}{es:List (Key×V)}(r0:ρ 0=some (.obj x))(r1:ρ 1=some (.L lb))(r2:ρ 2=some (.dct db))(r6:ρ 6=some (.set sj))(I:σ.I x=some (d,upd (upd f 7 (.dct db)) 8 (.set sj)))(L:∀a xs,σ₀.L a=some xs->σ.L a=some xs)(S:σ.S sj=some [])(T:Tb σ db (ys.map Key.int) (λ_=>false) es)
  (ab:sj≠db) (ag:f 0=some vj) (B:f 3=some (.bool aj)) (hL:σ₀.L lb=some (ys.map V.int)) (hz:ys.length<200) (hJ:fZ C vj jk)
  (h:∀σ' js,vV σ₀ σ' x d f ys aj jk db sj js->Q .none σ'):dk C IV ρ σ (zF Q):=by
 apply#[.obj x,r0,x,d,_,vj,rfl,I,ag,?_];have aa:∀y∈ys,Key.int y∈es.map (·.1):=λy Z=>by
  rw[uM];rcases T.here (.int y) rfl with ⟨q1,q2⟩|⟨c,q1,_⟩
  ·have#[j,hj,e]:=iv.mp Z;have:j∈posOf (.int y) (ys.map Key.int):=sS.mpr (by rw[cu,di hj,e];rfl);rw[q2]at this;cases this
  ·rw[q1];rfl
 apply#[vj,br _ _ _,?_];rcases hJ with ⟨rfl,J⟩|⟨k,cs,rfl,U⟩
 ·have e:yx jk=λ_=>false:=by
   funext q
   cases q with
   |int y=>show J y
   |str s=>rfl
  show BZ (js:=[]) #[r0,r1,r2,I,L,S,λy Z=>#[λq=>(nomatch q),λq=>by rw[J y]at q;cases q],by rw[e];show T] B hL hz λσ' hc=>h σ' [] hc
 ·show dk C _ (upd ρ 7 (.clo k cs)) σ _;apply TN (σ:=σ) (s:=sj) (db:=db) (p:=jk) (gone:=λ_=>false) (es:=es) (λρ=>ρ 0=some (.obj x)/\ρ 1=some (.L lb)/\ρ 2=some (.dct db)/\ρ 6=some (.set sj)/\ρ 7=some (.clo k cs)) (λe=>e.1.v) (by decide) (λρ ρ' O hi=>#[(O 0 (by decide)).trans hi.1,(O 1 (by decide)).trans hi.2.1,(O 2 (by decide)).trans hi.2.2.1,(O 6 (by decide)).trans hi.2.2.2.1,(O 7 (by decide)).trans hi.2.2.2.2]) (λρ hi=>#[hi.2.2.1,hi.2.2.2.1]) (yq hz (by decide)) T S ab #[r0,r1,r2,r6,rfl] (λK' kk=>#[_,r2,es,T.D,kk]) (λe y ρ' σ' K' he Z hi ao kk=>?_) λρ' σ' hi V=>?_
  ·have#[i0,i1,i2,i6,i7]:=hi;rw[Z];apply kk _ #[i0,i1,i2,i6,i7] rfl λQ' q=>?_;apply#[_,i7,_,rfl,?_];show U y σ' _ λv hv=>hv σ' _ q
  ·have#[i0,i1,i2,i6,i7]:=hi;have#[ar,T']:=V.tb;have#[js,ai,hm]:=V.at_;have e:(λk=>false||yx jk k)=yx jk:=funext λk=>Bool.false_or _;rw[e]at T';apply BZ (js:=js) #[i0,i1,i2,by rw[V.I];show I,λa xs q=>by rw[V.L];show L a xs q,ai,λy Z=>?_,T'] B hL hz λσ' hc=>h σ' js hc;rw[hm];apply#[λq=>q.2,λq=>#[aa y Z,q]]
def JV (hP:P 4=some xZ){lb:Addr}{σ:St}(hI:σ.I x=some (d,f))(bu:f 0=some vj)(bn:f 2=some (.L lb))(bl:f 3=some (.bool aj))(hL:σ.L lb=some (ys.map V.int))(hz:ys.length<200)
  (hJ:fZ (fq P n) vj jk) (h:∀σ' db sj js,vV σ σ' x d f ys aj jk db sj js->Q .none σ'):fq P (n+1) 4 [.obj x] σ Q:=by
 apply#[xZ,hP,by simp[xZ],by simp[xZ],?_];have h0:frameOf xZ [.obj x] 0=some (.obj x):=rfl;generalize frameOf xZ [.obj x]=ρ at h0;have U:σ.L lb=some ((ys.map Key.int).map Key.v):=by rw[hL,pn];rfl
 apply#[.obj x,h0,x,d,f,.L lb,rfl,hI,bn,?_];apply λdb cb=>#[.obj x,h0,x,d,f,rfl,hI,?_];apply#[.L lb,rfl,(ys.map Key.int).map Key.v,U,?_];generalize ar:ys.map Key.int=bs at U;have aa:bs.length<4000:=by rw[<- ar,av];show yq hz (by decide)
 apply#[by rw[av];unfold bq;(show ef .bQ .a (.l .A (.n 4000)) aa),?_];apply si (λi ρ' σ'=>ρ' 0=some (.obj x)/\ρ' 1=some (.L lb)/\ρ' 2=some (.dct db)/\B2J (σ.jw x d (upd f 7 (.dct db))) σ' db (bs.take i)) ?_ ?_ ?_
 ·intro i v ρ' σ' hv ⟨r0,r1,r2,hB⟩;apply#[hB.old lb _ U,λk hk=>?_];have hi:i<bs.length:=by
   have:=(bw.mp hv).1;simpa using this
  have bb:v=.T [.int i,bs[i].v]:=by
   rw[cu,List.getElem?_zipIdx]at hv;simp[hi]at hv;show hv.symm
  subst bb;apply#[_,rfl,rfl,?_];apply#[.dct db,r2,?_,bs[i].v,rfl,?_]
  ·have#[es,ab,_]:=hB.tab;show(σ'.D db).isSome=true;rw[ab];rfl
  apply#[bc rfl,λc hc=>?_];have#[es,ab,Z,c',e1,e2,ag]:=hB.step hc bs[i];have ai:(bs.take i).length=i:=by simp;(show(Ar.kx _ _).2.2.elim (λq1=>(gz .C .g .A .V (Ar.kx _ _).1 q1)) λq1=>(mi .C .m .aZ .A .a8 hi (Ar.kx _ _).1 q1))
  have bd:bs.take i++[bs[i]]=bs.take (i+1):=(fe hi).symm;rw[ai]at Z ag;rw[bd]at ag;apply#[es,bs[i],ab,xS _,by unfold bq;(show mi .aI .e (.l .B (.n 4000)) .O .J aa hi Z),?_];rw[e1];apply#[.L c',rfl,?_,.int i,rfl,?_]
  ·show(St.L _ c').isSome=true;rw[e2];rfl
  apply#[kA bs[i] (bs.take i),e2,?_,rfl,?_]
  ·unfold kA posOf;have:=ix (λj=>decide ((bs.take i)[j]?=some bs[i])) (List.range (bs.take i).length);simp only[av,kc]at this ⊢;unfold bq;(show eM .aI .s (.l .B (.n 4000)) .O .d1 .aA aa hi ai this)
  show hk _ _ #[r0,r1,r2,ag]
 ·intro ρ' σ' ⟨r0,r1,r2,hB⟩;have Z:((bs.map Key.v).zipIdx.map λp=>V.T [.int p.2,p.1]).length=bs.length:=by simp
  rw[Z,lj]at hB;apply#[hB.old lb _ U,?_];have bv:σ'.I x=some (d,upd f 7 (.dct db)):=by rw[hB.I];show mw
  intro s1 ca ao;apply#[.obj x,r0,x,d,_,rfl,bv,?_];have#[es,T]:=hB.tb;subst ar;have be:s1≠db:=λe=>by
   have:=T.D;rw[<- e,ao]at this;cases this
  apply RM (σ:=(σ'.jY s1 []).jw x d (upd (upd f 7 (.dct db)) 8 (.set s1))) (ρ:=upd ρ' 6 (.set s1)) (σ₀:=σ) (es:=es) (sj:=s1) (lb:=lb) r0 r1 r2 rfl mw (λa xs e=>hB.old a xs e) (br _ _ _) (T.move rfl λa xs e=>e) be bu bl hL hz hJ λσ' js hc=>h σ' db s1 js hc
 ·apply#[h0,rfl,rfl,B2J.start]
def UE (O:P 0=some fn0){U Z:V}{as:List V}(has:as=[.bool aj]\/(as=[]/\aj=true))(J:σ.I x=some (d,λ_=>none))
  (h:fq P n 1 [.obj x,U,Z] (σ.jw x d (upd (upd (upd (upd (λ_=>none) 0 vj) 1 .none) 2 .none) 3 (.bool aj))) λv σ=>v=.none/\Q .none σ):fq P (n+1) 0 (.obj x::vj::U::Z::as) σ Q:=by
 rcases has with rfl|⟨rfl,rfl⟩
 ·apply#[fn0,O,az 5,rf 5 4,mL (qZ vj rfl rfl J (lA .none rfl rfl (vT (.bool aj) rfl rfl (qY [U,Z] rfl (by rw[mw];rfl) rfl h))))]
 ·apply#[fn0,O,bc rfl,bc rfl,mL (qZ vj rfl rfl J (lA .none rfl rfl (vT (.bool true) rfl rfl (qY [U,Z] rfl (by rw[mw];rfl) rfl h))))]
structure Made (σ σ':St)(x d la lb db sj:Addr)(xs ys:List Int)(aj:Bool)(jk:Int->Bool)(js:List Key):Prop where
 L:∀a zs,σ.L a=some zs->σ'.L a=some zs
 I:∃f,σ'.I x=some (d,f)/\f 4=some .none/\f 5=some .none
 M:MAt σ' x (.L la) (.L lb) db sj (xs.map Key.int) (ys.map Key.int) (yx jk) js
 J:∀y∈ys,Key.int y∈js↔jk y=true
def PH (h0:P 0=some fn0)(h1:P 1=some fn1)(h2:P 2=some fn2)(h3:P 3=some fn3)(h4:P 4=some xZ){la lb:Addr}{xs ys:List Int}{vj:V}{as:List V}(has:as=[.bool aj]\/(as=[]/\aj=true))(hI:σ.I x=some (d,λ_=>none))(O:σ.L la=some (xs.map V.int))(Z:σ.L lb=some (ys.map V.int))(hz:ys.length<200)(hJ:fZ (fq P n) vj jk)
  (h:∀σ' db sj js,Made σ σ' x d la lb db sj xs ys aj jk js->Q .none σ'):fq P (n+4) 0 (.obj x::vj::.L la::.L lb::as) σ Q:=by
 apply UE h0 has hI (HI h1 (by rw[mw];rfl) (HK h2 mw rfl (show isNone (.L la)=false from rfl) #[rfl,by rw[mw];rfl,HJ h3 mw rfl (show isNone (.L lb)=false from rfl) (JV h4 mw (vj:=vj) (lb:=lb) (ys:=ys) rfl rfl rfl Z hz hJ λσ' db sj js hc=>#[rfl,rfl,rfl,h σ' db sj js ?_])]));have#[L,#[B,i1,i2,i4,i5],D,S,J]:=hc;have e:∀U:List Int,U.map V.int=(U.map Key.int).map Key.v:=λU=>by rw[pn];rfl
 apply#[L,#[B,i1,i2 4 (by decide),i2 5 (by decide)],#[#[d,B,i1,i2 1 (by decide),i2 2 (by decide),i4,i5],(L _ _ O).trans (bz some (e xs)),(L _ _ Z).trans (bz some (e ys)),D,S],J]
end SM
end MP
end
section
namespace MP
open PySem SM
namespace R5
def wC {n:Nat}{e:O5}:∀{D:List O5},trL n (D++[e])=D++[if isEq e=true then hd n e else e]:=λ{D}=>by
 induction D with
 |nil=>rfl
 |cons a D Z =>
  cases D with
  |nil=>show fG
  |cons b D =>
   show trL n (a::b::(D++[e]))=_;rw[fG];show bz (a::·) Z
def LC {n:Nat}(l:List O5):(trL n l).length=l.length:=by
 rcases oj l with rfl|⟨D,e,rfl⟩
 ·rfl
 ·rw[oo,wC,ax,ax];rfl
def LD {n:Nat}(l:List O5):(trH n l).length=l.length:=by
 cases l<;>rfl
def HL {D:List V}{x y:V}:(D++[x]).set D.length y=D++[y]:=by
 induction D with
 |nil=>rfl
 |cons a D Z=>show bz (a::·) Z
structure Cd (σ0:St)(c:Addr)(CS:List O5)(σ:St):Prop where
 old:∀b xs,σ0.L b=some xs->σ.L b=some xs
 new:σ0.L c=none
 at_:σ.L c=some (CS.map oV)
section
variable {C:Cal}{σ0 σ:St}{ρ:Fr}{K:Fl->Fr->St->Prop}{ss:jo}{c:Addr}{CS:List O5}{n:Nat}
def Cd.set (D:Cd σ0 c CS σ)(Z:List O5):Cd σ0 c Z (σ.cw c (Z.map oV)):=#[λb xs e=>(cv (λq=>by rw[q,D.new]at e;cases e)).trans (D.old b xs e),D.new,br _ _ _]
def D6 {x:Nat}{i e:Ex}{a:Addr}{xs:List V}{k:Int}(v:V)(h:evV σ ρ e=some v)(Z:ρ x=some (.L a))(U:evV σ ρ i=some (.int k))(O:σ.L a=some xs)(h0:0<=ee xs.length k)(J:ee xs.length k<xs.length)(kk:dk C ss ρ (σ.cw a (xs.set (ee xs.length k).toNat v)) K):dk C (.cons (.a [.sub (.l x) i] e) ss) ρ σ K:=
 iw (Q:=λv σ=>wpE C (.l x) ρ σ λu σ=>wpE C i ρ σ λj σ=>gP u j v σ λσ=>dk C ss ρ σ K) e h #[_,Z,iw (Q:=λj σ=>gP (.L a) j v σ λσ=>dk C ss ρ σ K) i U #[xs,O,h0,J,kk]]
def y1 {x:Nat}{i:Ex}{t:O5}(h:evV σ ρ (.sub (.l x) i)=some (oV t)):evT σ ρ (.c .eq (.sub (.sub (.l x) i) (.int 0)) (.str "equal"))=some (isEq t):=by
 have e5:evV σ ρ (.sub (.sub (.l x) i) (.int 0))=some (.str t.1):=by
  show(evV σ ρ (.sub (.l x) i)).bind _=_;rw[h];rfl
 rw[nq,e5];rfl
def SY {e:O5}{r:List O5}(U:ρ 1=some (.int n))(Z:ρ 2=some (.L c))(D:Cd σ0 c (e::r) σ)(k:∀ρ' σ',ρ' 1=some (.int n)->ρ' 2=some (.L c)->Cd σ0 c (trH n (e::r)) σ'->dk C ss ρ' σ' K) :
  dk C (.cons (.C (.c .eq (.sub (.sub (.l 2) (.int 0)) (.int 0)) (.str "equal")) JN .nil) ss) ρ σ K:=by
 have B:evV σ ρ (.sub (.l 2) (.int 0))=some (oV e):=v7 (e:=.int 0) (n:=0) Z D.at_ rfl rfl;apply fY (isEq e) (y1 B) ?_;cases q:isEq e with
 |false =>
  apply ti (qe (k ρ σ U Z ?_));have:trH n (e::r)=e::r:=by rw[trH,ay (by rw[q];show Bool.noConfusion)]
  rw[this];show D
 |true =>
  have hT:trH n (e::r)=tl n e::r:=by rw[trH,bx q]
  have#[t,i1,i2,j1,j2]:=e;apply xu ?_;unfold JN;apply tT _ B rfl ?_;have c2:GC (ez [3,4,5,6,7] [.str t,.int i1,.int i2,.int j1,.int j2] ρ) t i1 i2 j1 j2:=#[rfl,rfl,rfl,rfl,rfl];have U:ez [3,4,5,6,7] [.str t,.int i1,.int i2,.int j1,.int j2] ρ 1=some (.int n):=U;have Z:ez [3,4,5,6,7] [.str t,.int i1,.int i2,.int j1,.int j2] ρ 2=some (.L c):=Z;show dk _ _ (ez [3,4,5,6,7] [.str t,.int i1,.int i2,.int j1,.int j2] ρ) _ _;generalize ez [3,4,5,6,7] [.str t,.int i1,.int i2,.int j1,.int j2] ρ=J at c2 U Z;apply D6 (k:=0) (oV (tl n (t,i1,i2,j1,j2))) (ev5 c2.r3 (kO c2.r4 c2.r5 U) c2.r5 (kO c2.r6 c2.r7 U) c2.r7) Z rfl D.at_ (by unfold ee;rw[ay (by decide)];decide) (by unfold ee;rw[ay (by decide),av,kj];(show jf (.il .O (.t .L)) .f)) ?_;have e0:(ee (((t,i1,i2,j1,j2)::r).map oV).length 0).toNat=0:=rfl;rw[e0];apply qe (k J _ U Z ?_);rw[hT];show D.set (tl n (t,i1,i2,j1,j2)::r)
def SX (U:ρ 1=some (.int n))(Z:ρ 2=some (.L c))(D:Cd σ0 c CS σ)(aa:CS≠[])(k:∀ρ' σ',ρ' 1=some (.int n)->ρ' 2=some (.L c)->Cd σ0 c (trL n CS) σ'->dk C ss ρ' σ' K) :
  dk C (.cons (.C (.c .eq (.sub (.sub (.l 2) (.neg (.int 1))) (.int 0)) (.str "equal")) JM .nil) ss) ρ σ K:=by
 rcases oj CS with e|⟨B,e,hB⟩
 ·show absurd e aa
 rw[oo]at hB;subst hB;have he:evV σ ρ (.sub (.l 2) (.neg (.int 1)))=some (oV e):=by
  show(evV σ ρ (.l 2)).bind _=_;rw[fx,Z];show(σ.L c).bind (λxs=>zr xs (-1))=_;rw[D.at_];show oB
 apply fY (isEq e) (y1 he) ?_;have O:=wC (n:=n) (e:=e) (D:=B);cases q:isEq e with
 |false =>
  rw[ay (by rw[q];show Bool.noConfusion)]at O;apply ti (qe (k ρ σ U Z ?_));rw[O];show D
 |true =>
  rw[bx q]at O;have#[t,i1,i2,j1,j2]:=e;apply xu ?_;unfold JM;apply tT _ he rfl ?_;have c2:GC (ez [3,4,5,6,7] [.str t,.int i1,.int i2,.int j1,.int j2] ρ) t i1 i2 j1 j2:=#[rfl,rfl,rfl,rfl,rfl];have U:ez [3,4,5,6,7] [.str t,.int i1,.int i2,.int j1,.int j2] ρ 1=some (.int n):=U;have Z:ez [3,4,5,6,7] [.str t,.int i1,.int i2,.int j1,.int j2] ρ 2=some (.L c):=Z;show dk _ _ (ez [3,4,5,6,7] [.str t,.int i1,.int i2,.int j1,.int j2] ρ) _ _;generalize ez [3,4,5,6,7] [.str t,.int i1,.int i2,.int j1,.int j2] ρ=J at c2 U Z;have hl:((B++[(t,i1,i2,j1,j2)]).map oV).length=B.length+1:=by rw[av,ax];rfl
  have hn:ee ((B++[(t,i1,i2,j1,j2)]).map oV).length (-1)=(B.length:Int):=by
   rw[hl];unfold ee;rw[bx (by decide)];(show jf (.ie (.a (.ng 1) (.t .L)) .L) .n)
  apply D6 (k:=-1) (oV (hd n (t,i1,i2,j1,j2))) (ev5 c2.r3 c2.r4 (kN c2.r5 c2.r4 U) c2.r6 (kN c2.r7 c2.r6 U)) Z rfl D.at_ (by rw[hn];show xf _) (by rw[hn,hl];(show jf (.il .L (.t .L)) .f)) ?_;have es:((B++[(t,i1,i2,j1,j2)]).map oV).set (ee ((B++[(t,i1,i2,j1,j2)]).map oV).length (-1)).toNat (oV (hd n (t,i1,i2,j1,j2)))=(B++[hd n (t,i1,i2,j1,j2)]).map oV:=by
   rw[hn,ke,cm,cm];have:=HL (D:=B.map oV) (x:=oV (t,i1,i2,j1,j2)) (y:=oV (hd n (t,i1,i2,j1,j2)));rw[av]at this;show this
  rw[es];apply qe (k J _ U Z ?_);rw[O];show D.set (B++[hd n (t,i1,i2,j1,j2)])
def NN {H:Fr->St->Prop}(Z:ρ 1=some (.int n))(U:ρ 2=some (.L c))(D:Cd σ0 c CS σ)(J:CS≠[])(k:∀ρ' σ' a,GR ρ' n c a->ρ' 2=some (.L c)->GH σ0 c (trL n (trH n CS)) [] a [] σ'->H ρ' σ') :
  dk C (.cons (.C (.c .eq (.sub (.sub (.l 2) (.int 0)) (.int 0)) (.str "equal")) JN .nil)
 (.cons (.C (.c .eq (.sub (.sub (.l 2) (.neg (.int 1))) (.int 0)) (.str "equal")) JM .nil)
 (.cons (.a [(.v 8)] (.b .add (.l 1) (.l 1)))
 (.cons (.a [(.v 9)] (.L .nil))
 .nil)))) ρ σ λfl ρ σ=>fl=.next/\H ρ σ:=by
 have#[e,r,rfl]:∃e r,CS=e::r:=by
  cases CS with
  |nil=>show absurd rfl J
  |cons e r=>refine#[e,r,rfl]
 apply SY Z U D λab σ1 Z U D=>?_;apply SX Z U D (by rw[trH];show lp _ _) λaa σ2 Z U D=>?_;apply nA (.int (n+n:Nat)) (oz (a:=.l 1) (b:=.l 1) Z Z) ?_;apply yU [] rfl (bh _) λa B=>ow #[rfl,?_];have ne:∀b xs,σ2.L b=some xs->b≠a:=λb xs e q=>by rw[q,B]at e;cases e
 apply k _ _ a #[Z,rfl,rfl] U #[λb xs e=>(cv (ne b xs (D.old b xs e))).trans (D.old b xs e),(cv (ne _ _ D.at_)).trans D.at_,λq O=>(nomatch O),br _ _ _,ne _ _ D.at_,λq O=>(nomatch O),?_];cases q:σ0.L a with
 |none=>rfl
 |some xs=>rw[D.old a xs q]at B;cases B
end
def gw5 {P:Nat->Option Fn}(h5:P 5=some fn5)(h6:P 6=some fn6)(h7:P 7=some fn7){m:Nat}{σ:St}{x d:Addr}{la lb:V}{db sj:Addr}{f:Nat->Option V}{as bs:List Key}{rm:Key->Bool}{js:List Key}{n:Nat}{Z:List V}(hM:MAt σ x la lb db sj as bs rm js)(hI:σ.I x=some (d,f))(f4:f 4=some .none)(f5:f 5=some .none)(ha:∀k∈as,uc k)(hb:∀k∈bs,uc k)(hs:bs.length<400000)(ai:as.length<64)
  (aa:(Z=[]/\n=3)\/Z=[.int n]) {CS:List O5} (ar:∀L,mz (Flm as bs rm λc=>decide (c∈js)) 0 as.length 0 bs.length L->codes 0 0 (mrg 0 0 0 L++[(as.length,bs.length,0)])=CS) (hz:CS.length<800) :
  GW (fq P (m+3)) g0 gI gT gC g1 (.l 9) g2 g3 gL (.l 9) 1000 (KF σ (grp n CS)) (frameOf #[2,[.int 3],.nil] (.obj x::Z)) σ:=by
 have r0:frameOf #[2,[.int 3],.nil] (.obj x::Z) 0=some (.obj x):=by
  rcases aa with ⟨rfl,rfl⟩|rfl<;>rfl
 have O:frameOf #[2,[.int 3],.nil] (.obj x::Z) 1=some (.int n):=by
  rcases aa with ⟨rfl,rfl⟩|rfl<;>rfl
 generalize frameOf #[2,[.int 3],.nil] (.obj x::Z)=ρ at r0 O;unfold GW g0;apply mL ?_;show wpE _ (.meth (.l 0) 7 .nil) ρ σ _;rw[w8];apply#[_,r0,x,rfl,by rw[hI];rfl,?_];apply C3 h7 h6 h5 hM hI f4 f5 ha hb hs ai λσ1 c L g E b hc hg _ _ B=>?_;rw[ar L b]at B;have D1:Cd σ c CS σ1:=#[λb xs e=>E.L _ _ e,hc,B];have O:upd ρ 2 (.L c) 1=some (.int n):=O;have J:upd ρ 2 (.L c) 2=some (.L c):=rfl;show dk _ _ (upd ρ 2 (.L c)) σ1 _;generalize upd ρ 2 (.L c)=ag at O J;have go:∀{ρ:Fr} {σ':St} {c:Addr} {CS1:List O5},ρ 1=some (.int n)->ρ 2=some (.L c)->Cd σ c CS1 σ'->CS1=(if CS=[] then [eqC 0 1 0 1] else CS)->CS1≠[] ->
   dk (fq P (m+3)) (.cons (.C (.c .eq (.sub (.sub (.l 2) (.int 0)) (.int 0)) (.str "equal")) JN .nil)
 (.cons (.C (.c .eq (.sub (.sub (.l 2) (.neg (.int 1))) (.int 0)) (.str "equal")) JM .nil)
 (.cons (.a [(.v 8)] (.b .add (.l 1) (.l 1)))
 (.cons (.a [(.v 9)] (.L .nil))
 .nil)))) ρ σ' λfl ρ σ'=>fl=.next/\lL (fq P (m+3)) gI ρ σ' λvs Gd σ'=>vs.length+1<=1000/\GL (GT (fq P (m+3)) gT gC g1 (.l 9) g2 g3) Gd (λρ σ' out=>wpT (fq P (m+3)) gL ρ σ' λb σ'=>(b=true->out.length<1000/\wpE (fq P (m+3)) (.l 9) ρ σ' λv σ'=>KF σ (grp n CS) (out++[v]) σ')/\(b=false->KF σ (grp n CS) out σ')) vs ρ σ' []:=by
  intro ρ σ' c CS1 O J D e ao;apply NN O J D ao λab σ2 a R q2 H=>?_;have hl:(trL n (trH n CS1)).length<800:=by
   rw[LC,LD,e];split
   ·show bc rfl
   ·show hz
  show lL _ (.seq (.l 2)) ab σ2 _;rw[w4];apply#[_,q2,_,H.cs,by rw[av];(show ef (.k .L (.n 1000)) .a (.l .A (.n 800)) hl),?_];have eG:grp n CS=iK ((trL n (trH n CS1)).foldl (ua n) ([],[])):=by rw[e];rfl
  rw[eG];show RT R H (ef (.l .A (.n 900)) .a (.l .A (.n 800)) hl)
 apply fY CS.isEmpty ?_ ?_
 ·show(evT σ1 ag (.l 2)).map _=_;rw[uY,J];show((σ1.L c).map _).map _=_;rw[D1.at_];cases CS<;>rfl
 ·cases CS with
  |nil =>
   apply xu (yU [oV (eqC 0 1 0 1)] rfl (bc rfl) λc2 U=>qe ?_);apply go (CS1:=[eqC 0 1 0 1]) O rfl #[λb xs e=>(cv (λq=>by rw[q]at e;rw[D1.old _ _ e]at U;cases U)).trans (D1.old b xs e),?_,br _ _ _] rfl (lp _ _);cases q:σ.L c2 with
   |none=>rfl
   |some xs=>rw[D1.old _ _ q]at U;cases U
  |cons e r=>show ti (qe (go O J D1 (ay (lp _ _)).symm (lp _ _)))
end R5
section
variable {r:List O5}
variable {as bs:List Key}{rm js js' p q:Key->Bool}{alo ahi blo bhi:Nat}
def t5 (h:∀c∈bs,p c=q c){i j:Nat}:hit as bs p i j=hit as bs q i j:=by
 rw[Bool.eq_iff_iff,xv,xv];constructor
 ·rintro ⟨c,O,Z,U⟩;apply#[c,O,Z,(h c (dq Z)).symm.trans U]
 ·rintro ⟨c,O,Z,U⟩;apply#[c,O,Z,(h c (dq Z)).trans U]
def pX (h:∀c∈bs,p c=q c):eI as bs p=eI as bs q:=by
 funext alo blo i
 have U:∀c∈bs,(λc=>!p c) c=(λc=>!q c) c:=λc O=>bz not (h c O);induction i with
 |zero=>funext j k;rfl
 |succ i Z =>
  funext j k
  cases j with
  |zero=>rfl
  |succ j=>rw[eH,eH,t5 U,Z]
def pW (h:∀c∈bs,p c=q c):kK as bs p=kK as bs q:=by
 funext ahi bhi n
 have U:∀c∈bs,(λc=>!p c) c=(λc=>!q c) c:=λc O=>bz not (h c O);induction n with
 |zero=>funext i j k;rfl
 |succ n Z=>funext i j k;rw[yk,yk,t5 U,Z]
def FG (h:∀c∈bs,js c=js' c):Flm as bs rm js=Flm as bs rm js':=by
 have Z:∀c∈bs,(λc=>!js c) c=(λc=>!js' c) c:=λc U=>bz not (h c U);have e:grow as bs js=grow as bs js':=by
  unfold grow;rw[pX Z,pW Z,pX h,pW h]
 unfold Flm;rw[e]
end
namespace R5
abbrev JIs (jk:Int->Bool)(ys:List Int)(js:List Key):Prop:=∀y∈ys,Key.int y∈js↔jk y=true
public abbrev FH (xs ys:List Int)(jk:Int->Bool)(js:List Key)(L:List T3):Prop:=mz (Flm (xs.map Key.int) (ys.map Key.int) (yx jk) λc=>decide (c∈js)) 0 (xs.map Key.int).length 0 (ys.map Key.int).length L
def K3 {xs ys:List Int}{jk:Int->Bool}{js js':List Key}{L O:List T3}(h:JIs jk ys js)(h':JIs jk ys js')(b:FH xs ys jk js L)(U:FH xs ys jk js' O):L=O:=by
 have e:(Flm (xs.map Key.int) (ys.map Key.int) (yx jk) λc=>decide (c∈js))=Flm (xs.map Key.int) (ys.map Key.int) (yx jk) λc=>decide (c∈js'):=FG λc J=>by
  have#[y,Z,rfl]:=cj.mp J;show qx.mpr ((h y Z).trans (h' y Z).symm)
 unfold FH at b U;rw[e]at b;show mz.uniq (F:=Flm (xs.map Key.int) (ys.map Key.int) (yx jk) λc=>decide (c∈js')) (λ_ _ _ _ _ _ h h'=>Flm.uniq h h') b U
def MT {na nb:Nat}:∀{L:List T3} {i j:Nat},fX i j (L++[(na,nb,0)])->i<=na/\j<=nb:=λ{L}=>by
 induction L with
 |nil=>show λh=>#[h.1,h.2.1]
 |cons t L Z =>
  intro i j h;have:=Z h.2.2;have O:=h.1;have U:=h.2.1;apply#[by show fc .A .b .c8 .J this.1 O,by show fc .A .b .c8 .J this.2 U]
def jV {a b:List O5}:(stL (a++b)).length=(stL a).length+(stL b).length:=by
 have e:stL (a++b)=stL a++stL b:=List.flatMap_append;rw[e,ax]
def BJ {i a j b:Nat}(J:i<=a)(O:j<=b):(stL (chg i a j b)).length<=(a-i)+(b-j):=by
 by_cases c:i=a/\j=b
 ·have#[rfl,rfl]:=c;rw[vF];show bh _
 ·have#[tg,e,B]:=qK J O c;have e2:stL [((tg,i,a,j,b):O5)]=[((tg,i,a,j,b):O5)]:=by rw[sg,lN B];rfl
  rw[e,e2];show 1<=_
  (show(du.mp c).elim (λU=>((ba U).elim (λZ=>(fc .aX .t .bC .N (ae (bt .A .a .A J)) Z)) λZ=>(fc .aX .d .aB .aC J Z))) λU=>((ba U).elim (λZ=>(fc .aX .t .bD .N (ae (bt .A .a .A O)) Z)) λZ=>(fc .aX .d .aB .aC O Z)))
def BI {a b s:Nat}:(stL (eql a b s)).length=s:=by
 rcases lh s with rfl|h
 ·rfl
 ·rw[AD h];have e2:stL [eqC a (a+s) b (b+s)]=stp (eqC a (a+s) b (b+s)):=by rw[sg];show cq _
  rw[e2,mh]
def DE {na nb:Nat}:∀{L:List T3} {i j:Nat},fX i j (L++[(na,nb,0)])->(stL (codes i j (L++[(na,nb,0)]))).length<=(na-i)+(nb-j):=λ{L}=>by
 induction L with
 |nil =>
  intro i j h;show(stL (chg i na j nb++(eql na nb 0++[]))).length<=_;rw[jV,jV,BI];have:=BJ h.1 h.2.1;show _+(0+0)<=_;show this
 |cons t L ih =>
  have#[a,b,s]:=t;intro i j h;show(stL (chg i a j b++(eql a b s++codes (a+s) (b+s) (L++[(na,nb,0)])))).length<=_;rw[jV,jV,BI];have O:=h.1;have U:=h.2.1;have Z:=MT h.2.2;have h4:=ih h.2.2;have h5:=BJ O U;dsimp only at O U Z h4 h5
  (show WI (.k .aL .a0) [[1,1,1,1,1,1,1,-1,-1]] (.k .C .a6) (.k .A (.a .I .J)) (.e (.a .G (.a .K .B)) (.v 10)) (.e (.a .H (.a (.v 11) .B)) (.v 12)) (.e (.a .I (.v 13)) .K) (.e (.a .J (.v 14)) (.v 11)) (.e (.a .D (.v 13)) (.v 10)) (.e (.a .F (.v 14)) (.v 12)) h4 h5 (ae (ek .K .a .K Z.1)) (ae (ek .K .a .K Z.2)) (ae (bt .A .a .A O)) (ae (bt .A .a .A U)) (ae (fc .A .b .J .c8 O Z.1)) (ae (fc .A .b .J .c8 U Z.2)))
def CX {x y:Nat}(A:nR x y r):∀c∈r,isEq c=true->∃i m j,0<m/\c=eqC i (i+m) j (j+m):=by
 induction A with
 |nil x y=>show λc Z=>nomatch Z
 |one x y m U=>show λc Z _=>#[x,m,y,U,au.mp Z]
 |two x y m tg x' y' r U B A J =>
  intro c Z O;rcases cz.mp Z with rfl|Z
  ·apply#[x,m,y,U,rfl]
  ·rcases cz.mp Z with rfl|Z
   ·rw[B]at O;cases O
   ·show J c Z O
def KC (A:Alt r):∀c∈r,isEq c=true->∃i m j,0<m/\c=eqC i (i+m) j (j+m):=by
 cases A with
 |eq _ A=>show CX A
 |ch tg x y r O A =>
  intro c U Z;rcases cz.mp U with rfl|U
  ·rw[O]at Z;cases Z
  ·show CX A c U Z
def RI (wf:∀c∈r,isEq c=true->∃i m j,0<m/\c=eqC i (i+m) j (j+m)):r.length<=(stL r).length:=by
 induction r with
 |nil=>show bh _
 |cons c r Z =>
  rw[sg,ax,kj];have h1:=Z λc hc=>wf c (.tail _ hc);have h2:1<=(stp c).length:=by
   cases q:isEq c with
   |false=>rw[lN q];show az 1
   |true =>
    have#[i,m,j,O,rfl]:=wf c (.head _) q;rw[mh];show O
  (show fk (.k .L .Q) .b .J (.k .U .B) h1 h2)
structure WM (CS:List O5):Prop where
 alt:Alt CS
 st:(stL CS).length<200
 len:CS.length<200
def PV {xs ys:List Int}{jk:Int->Bool}{js:List Key}{L:List T3}(b:FH xs ys jk js L)(hx:xs.length<=63)(B:ys.length<=63):WM (codes 0 0 (mrg 0 0 0 L++[((xs.map Key.int).length,(ys.map Key.int).length,0)])):=by
 have hF:∀a b c d t,(Flm (xs.map Key.int) (ys.map Key.int) (yx jk) λc=>decide (c∈js)) a b c d t->Within a b c d t:=λ_ _ _ _ _=>Flm.within;have A:=AX hF b;have J:(xs.map Key.int).length=xs.length:=av _;have U:(ys.map Key.int).length=ys.length:=av _;have ok:=mz.ok hF b;have hm:fX 0 0 L:=fX.of ok.2 λt _=>#[bh _,bh _];have hb:=pA (na:=(xs.map Key.int).length) (nb:=(ys.map Key.int).length) (i:=0) (j:=0) (k:=0) (L:=L) (λh=>absurd h (gp 0)) λt Z=>#[(ok.1 t Z).1.2.1,(ok.1 t Z).1.2.2.2];have hM:fX 0 0 (mrg 0 0 0 L++[((xs.map Key.int).length,(ys.map Key.int).length,0)]):=IA hm (λt Z=>(ok.1 t Z).2) hb;have h1:=DE hM;have h2:=RI (KC A);apply#[A,?_,?_]<;>(first|show V9 .aP [[1,1,1,1,1,1,1,1]] .aL (.k .C (.n 63)) .cI (.e .F .C) (.k .A .a6) (.e (.a .G .O) .D) (.e (.a .H .O) .F) hx B J U h1 (ae (jf .bF .f)) (ae (jf .bF .f)) Ar.y|show V8 .aP [[1,1,1,1,1,1,1,1,1]] .aL (.k .C (.n 63)) .cI (.e .F .C) (.k .G (.a .H .I)) (.k .A .G) (.e (.a .H .O) .D) (.e (.a .I .O) .F) hx B J U h1 h2 (ae (jf .bF .f)) (ae (jf .bF .f)) Ar.y|omega)
end R5
namespace R5
variable {ρ:Fr}{σ:St}
def w9 {C:Cal}{k:Nat}{es:Exs}{Q:V->St->Prop}:wpE C (.call k es) ρ σ Q=vq C es ρ σ λvs σ=>C k vs σ Q:=rfl
abbrev gD (g:List O5):PyData:=.list (g.map dO)
def SA (g:List O5):PyData.eqv (gD g) (gD g)=true:=by simp[gD,PyData.eqv,tD]
def tC:∀G:List (List O5),PyData.eqvAll (G.map gD) (G.map gD)=true
 | []=>by simp[PyData.eqvAll]
 |g::G=>by simp[PyData.eqvAll,SA,tC G]
def PU {a:Addr}{T:List (Addr×List O5)}(h:σ.L a=some (T.map λq=>V.L q.1))(Z:∀q∈T,σ.L q.1=some (q.2.map oV))(ok:∀q∈T,Tok q.2):dK σ 6 (.L a)=some (.list ((T.map (·.2)).map gD)):=by
 show((σ.L a).bind λxs=>(xs.mapM (dK σ 5)).map PyData.list)=_;rw[h];show((T.map λq=>V.L q.1).mapM (dK σ 5)).map PyData.list=_;rw[mapM_map (g:=λq:Addr×List O5=>gD q.2) λq U=>CT (n:=3) (Z q U) (ok q U),pn];rfl
def wY {a b:Addr}{T U:List (Addr×List O5)}(O:σ.L a=some (T.map λq=>V.L q.1))(hb:σ.L b=some (U.map λq=>V.L q.1))(B:∀q∈T,σ.L q.1=some (q.2.map oV))(J:∀q∈U,σ.L q.1=some (q.2.map oV))(e:T.map (·.2)=U.map (·.2))(ok:∀g∈T.map (·.2),Tok g):mP .eq (.L a) (.L b) σ λr=>r=true:=by
 have d1:=PU O B λq Z=>ok _ (cj.mpr #[q,Z,rfl]);have d2:=PU hb J λq Z=>ok _ (by rw[e];show cj.mpr #[q,Z,rfl]);rw[<- e]at d2;apply#[_,_,d1,d2,?_];show PyData.eqv (.list ((T.map (·.2)).map gD)) (.list ((T.map (·.2)).map gD))=true;rw[PyData.eqv];show tC _
def LF {CS:List O5}(h:∀c∈CS,PyData.strOk c.1=true):Tok (stL CS):=by
 intro t Z;have#[c,U,Z]:=List.mem_flatMap.mp Z;unfold stp at Z;split at Z
 ·have#[k,_,rfl]:=cj.mp Z;show gU
 ·have rfl:=au.mp Z;show h _ U
abbrev vU (fl:Fl)(ρ:Fr)(σ:St):Prop:=fl=.next/\∃(n:Nat) (m due:Addr) (Kf:List V->St->Prop),ρ 1=some (.int n)/\ρ 10=some (.L due)/\ρ 11=some (.obj m)/\(σ.I m).isSome=true/\(∀out σ,Kf out σ->out.length<=bq) /\
 (∀S out σ',Kf out σ'->¬σ'.dom S->mP .eq (.L S) (.L due) (σ'.cw S out) λr=>r=true) /\
 ∀ags,(ags=[]/\n=3)\/ags=[.int n]->GW (fq P 3) g0 gI gT gC g1 (.l 9) g2 g3 gL (.l 9) 1000 Kf (frameOf #[2,[.int 3],.nil] (.obj m::ags)) σ
def RB {ss:jo}{KK:Fl->Fr->St->Prop}{vj:V}{la lb:Addr}{n:Nat}{xs ys:List Int}{jk:Int->Bool}(r1:ρ 1=some (.int n))(r4:ρ 4=some vj)(r5:ρ 5=some (.L la))(r6:ρ 6=some (.L lb))(ao:σ.L la=some (iV xs))(ai:σ.L lb=some (iV ys))(U:xs.length<=63)(hy:ys.length<=63)(hJ:fZ (fq P 2) vj jk)
  (k:∀(gl:Addr) (T:List (Addr×List O5)) (σ':St) (L:List T3) (js:List Key),(∀a zs,σ.L a=some zs->σ'.L a=some zs)->σ'.L gl=some (T.map λq=>V.L q.1)->(∀q∈T,σ'.L q.1=some (q.2.map oV))->JIs jk ys js->FH xs ys jk js L->T.map (·.2)=grp n (codes 0 0 (mrg 0 0 0 L++[((xs.map Key.int).length,(ys.map Key.int).length,0)]))->(∀g∈T.map (·.2),Tok g)->dk (fq P 6) ss (upd ρ 10 (.L gl)) σ' KK) :
  dk (fq P 6) (.cons (.a [(.v 10)] (.call 11 %[.call 10 %[.meth (.n %[.l 4,.l 5,.l 6|0]) 7 .nil|0],.l 1|0])) ss) ρ σ KK:=by
 apply vR ?_;rw[w9,ux,w9,ux,w8,w7];apply#[_,r4,_,r5,_,r6,λx d be=>?_];apply PH (P:=P) rfl rfl rfl rfl rfl (n:=2) (as:=[]) (.inr #[rfl,rfl]) (d:=d) (br _ _ _) ao ai (ef .aP .a .a3 hy) hJ λbd db sj js Z=>#[rfl,x,rfl,?_,?_]
 ·have#[f,U,_]:=Z.I;rw[U];rfl
 have#[f,aa,f4,f5]:=Z.I;apply C3 (P:=P) rfl rfl rfl (n:=3) Z.M aa f4 f5 (CD _) (CD _) (by rw[av];(show ef (.l .A .aB) .a .a3 hy)) (by rw[av];(show ef .bG .a .a3 U)) λσ2 c L g E2 b hc O _ _ ag=>?_;have ok:=PV b U hy;have A:=ok.alt;have tk:Tok (stL (codes 0 0 (mrg 0 0 0 L++[((xs.map Key.int).length,(ys.map Key.int).length,0)]))):=LF yB;apply IM (P:=P) (kf:=10) (n:=5) rfl ag (λc hc he=>?_) (by have:=ok.st;(show ef .cU .a .aP this)) λsl bb E3 bl ab=>?_
 ·have#[i,m,j,_,e]:=KC A c hc he;apply#[i,m,j,e]
 rw[ux];apply#[_,r1,?_];apply EG (P:=P) (kf:=11) (m:=5) rfl ab tk ok.st λgl T B H eT=>?_;have ar:=eT.trans (N5 A);apply k gl T B L js (λa zs e=>H.ext.L _ _ (E3.L _ _ (E2.L _ _ (Z.L _ _ e)))) H.lg H.at_ Z.J b ar ?_;rw[eT];have G:=CH (n:=n) tk (kq (stL (codes 0 0 (mrg 0 0 0 L++[((xs.map Key.int).length,(ys.map Key.int).length,0)]))) n) (k:=0) (m:=0) (G:=[]) #[bh _,λg O=>nomatch O];show λg O=>(G.all g O).2
def MV {vj:V}{la lb gl:Addr}{n:Nat}{xs ys:List Int}{jk:Int->Bool}{T:List (Addr×List O5)}{L:List T3}{js:List Key}(r1:ρ 1=some (.int n))(r4:ρ 4=some vj)(r5:ρ 5=some (.L la))(r6:ρ 6=some (.L lb))(ag:ρ 10=some (.L gl))(ar:σ.L la=some (iV xs))(ao:σ.L lb=some (iV ys))(hx:xs.length<=63)(hy:ys.length<=63)(hJ:fZ (fq P 2) vj jk)
  (hg:σ.L gl=some (T.map λq=>V.L q.1)) (ha:∀q∈T,σ.L q.1=some (q.2.map oV)) (J:JIs jk ys js) (b:FH xs ys jk js L) (eT:T.map (·.2)=grp n (codes 0 0 (mrg 0 0 0 L++[((xs.map Key.int).length,(ys.map Key.int).length,0)]))) (ok:∀g∈T.map (·.2),Tok g) :
  dk (fq P 6) %[.a [(.v 11)] (.n %[.l 4,.l 5,.l 6|0])|0] ρ σ vU:=by
 apply vR ?_;rw[w7];apply#[_,r4,_,r5,_,r6,λx d bd=>?_];apply PH (P:=P) rfl rfl rfl rfl rfl (n:=2) (as:=[]) (.inr #[rfl,rfl]) (d:=d) (br _ _ _) ar ao (ef .aP .a .a3 hy) hJ λO db sj bb Md=>#[rfl,ow #[rfl,?_]];have#[f,B,f4,f5]:=Md.I;have hz:=(PV b hx hy).len;have aa:=Md.L _ _ hg;have ab:∀q∈T,O.L q.1=some (q.2.map oV):=λq Z=>Md.L _ _ (ha q Z);apply#[n,x,gl,KF O (grp n (codes 0 0 (mrg 0 0 0 L++[((xs.map Key.int).length,(ys.map Key.int).length,0)]))),r1,ag,rfl,by rw[B];rfl,λout σ' h=>?_,λS out σ' h hd=>?_,λbe ai=>?_]
 ·have#[_,_,_,_,_,h]:=h;unfold bq;(show ef .bQ .a (.k .A (.n 1000)) h)
 ·have#[U,rfl,eU,aU,old,_]:=h;have ne:∀b xs,σ'.L b=some xs->b≠S:=λb xs e q=>hd (q▸.inl (by rw[e];rfl));apply wY (T:=U) (U:=T) (br _ _ _) ((cv (ne _ _ (old _ _ aa))).trans (old _ _ aa)) (λq Z=>(cv (ne _ _ (aU q Z))).trans (aU q Z)) (λq Z=>(cv (ne _ _ (old _ _ (ab q Z)))).trans (old _ _ (ab q Z))) (eU.trans eT.symm) ?_;rw[eU,<- eT];show ok
 ·show gw5 (P:=P) rfl rfl rfl (m:=0) Md.M B f4 f5 (CD _) (CD _) (by rw[av];(show ef (.l .A .aB) .a .a3 hy)) (by rw[av];(show ef .bG .a .a3 hx)) ai (λL2 b2=>by rw[K3 J Md.J b b2]) (ef (.l .A (.n 800)) .a .aP hz)
end R5
namespace R5
variable {σ:St}
def Q3 {C:Cal}{ρ:Fr}{K:Fl->Fr->St->Prop}{ss:jo}{c e:Ex}{x:Nat}{a:Addr}{Z:List Int}{i:Int}{b:Bool}(hc:evT σ ρ c=some b)(J:ρ x=some (.L a))(O:σ.L a=some (iV Z))(B:evV σ ρ e=some (.int i))(hz:Z.length<1000)
  (k:∀U σ',U.length<=Z.length+1->σ'.L a=some (iV U)->(∀b,b≠a->σ'.L b=σ.L b)->dk C ss ρ σ' K):dk C (.cons (.C c %[.expr (.bm .append (.l x) %[e|0])|0] .nil) ss) ρ σ K:=by
 apply fY b hc ?_;cases b with
 |true =>
  apply xu (iT (.int i) J O B (by rw[av];unfold bq;(show ef .aI .a .a4 hz)) (qe (k (Z++[i]) _ (by rw[ax];show az _) ?_ λb hb=>cv hb)));rw[show iV (Z++[i])=Z.map V.int++[V.int i] from cm];show br _ _ _
 |false=>show ti (qe (k Z σ (xj _) O λ_ _=>rfl))
structure RD (ρ:Fr)(vj:V)(n m:Nat)(la lb:Addr):Prop where
 r1:ρ 1=some (.int n)
 r3:ρ 3=some (.int m)
 r4:ρ 4=some vj
 r5:ρ 5=some (.L la)
 r6:ρ 6=some (.L lb)
def NO {ρ:Fr}{m:Nat}{x:Int}(Z:ρ 3=some (.int m))(U:ρ 7=some (.int x)):∃i,evV σ ρ (.I (.c .gt (.l 3) (.int 0)) (.b .mod (.b .fdiv (.l 7) (.int 16)) (.l 3)) (.b .fdiv (.l 7) (.int 16)))=some (.int i):=by
 have ed:evV σ ρ (.b .fdiv (.l 7) (.int 16))=some (.int (x/16)):=by
  rw[tc,fx,U];rfl
 have O:evT σ ρ (.c .gt (.l 3) (.int 0))=some (decide ((m:Int)>0)):=by rw[nq,fx,Z];rfl
 show ∃i,(evT σ ρ (.c .gt (.l 3) (.int 0))).bind (λt=>if t then evV σ ρ (.b .mod (.b .fdiv (.l 7) (.int 16)) (.l 3)) else evV σ ρ (.b .fdiv (.l 7) (.int 16)))=_;rw[O];show ∃i,(if decide ((m:Int)>0)=true then evV σ ρ (.b .mod (.b .fdiv (.l 7) (.int 16)) (.l 3)) else evV σ ρ (.b .fdiv (.l 7) (.int 16)))=_;by_cases h:(m:Int)>0
 ·rw[bx (dp h),tc,ed,fx,Z];apply#[x/16%m,?_];show vf ((0:Int)<(m:Int)) (V.int (x/16%m))=_;unfold vf;show bx h
 ·rw[ay (λq=>h (aq q)),ed];apply#[_,rfl]
def ET {C:Cal}{σ:St}{ρ:Fr}{K:Fl->Fr->St->Prop}{vj:V}{n m:Nat}{la lb:Addr}{xs ys:List Int}{x:Int}(R:RD ρ vj n m la lb)(r7:ρ 7=some (.int x))(aa:la≠lb)(ha:σ.L la=some (iV xs))(hb:σ.L lb=some (iV ys))(hx:xs.length<1000)(hy:ys.length<1000)
  (k:∀ρ' J O σ',RD ρ' vj n m la lb->J.length<=xs.length+1->O.length<=ys.length+1->σ'.L la=some (iV J)->σ'.L lb=some (iV O)->(∀b,b≠la->b≠lb->σ'.L b=σ.L b)->K .next ρ' σ'):dk C CQ ρ σ K:=by
 unfold CQ;apply nA (.int (x%16)) (by rw[tc,fx,r7];rfl) ?_;have#[i,hi]:=NO (σ:=σ) (ρ:=upd ρ 8 (.int (x%16))) (m:=m) (x:=x) R.r3 r7;apply nA (.int i) hi ?_;have R2:RD (upd (upd ρ 8 (.int (x%16))) 9 (.int i)) vj n m la lb:=#[R.r1,R.r3,R.r4,R.r5,R.r6];have r8:upd (upd ρ 8 (.int (x%16))) 9 (.int i) 8=some (.int (x%16)):=rfl;have r9:upd (upd ρ 8 (.int (x%16))) 9 (.int i) 9=some (.int i):=rfl;generalize upd (upd ρ 8 (.int (x%16))) 9 (.int i)=Z at R2 r8 r9;have ht:∀(σ:St) (j:Int),∃b,evT σ Z (.c .ne (.l 8) (.int j))=some b:=λσ j=>#[_,by rw[nq,fx,r8];rfl];have#[b1,h1]:=ht σ 1;apply Q3 h1 R2.r5 ha (e:=.l 9) (by rw[fx,r9]) hx λJ U ag ar hr=>?_;have ai:=(hr lb aa.symm).trans hb;have#[b2,h2]:=ht U 0;have#[j,hj]:∃j,evV U Z (.I (.c .eq (.l 8) (.int 2)) (.b .add (.l 9) (.int 1)) (.l 9))=some (.int j):=by
  have et:evT U Z (.c .eq (.l 8) (.int 2))=some (decide (x%16=2)):=by rw[nq,fx,r8];rfl
  show ∃j,(evT U Z (.c .eq (.l 8) (.int 2))).bind (λt=>if t then evV U Z (.b .add (.l 9) (.int 1)) else evV U Z (.l 9))=_;rw[et];show ∃j,(if decide (x%16=2)=true then evV U Z (.b .add (.l 9) (.int 1)) else evV U Z (.l 9))=_;rw[tc,fx,r9];split
  ·apply#[i+1,rfl]
  ·apply#[i,rfl]
 apply Q3 h2 R2.r6 ai hj hy λO σ2 ab ao B=>ow ?_;show k Z J O σ2 R2 ag ab ((B la aa).trans ar) ao λb q1 q2=>(B b q2).trans (hr b q1)
def CC {ρ:Fr}{vj:V}{n m:Nat}{c:Addr}{ws:List Int}{jk:Int->Bool}(r0:ρ 0=some (.L c))(r1:ρ 1=some (.int n))(r3:ρ 3=some (.int m))(r4:ρ 4=some vj)(hc:σ.L c=some (iV ws))(hz:ws.length<=63)(hJ:fZ (fq P 2) vj jk):dk (fq P 6) iH ρ σ vU:=by
 unfold iH;rw[vZ,KY,ux];apply#[bh _,λla cl=>#[bh _,λlb ab=>#[bc rfl,_,rfl,rfl,?_]]];have cp:c≠la:=λq=>by rw[q,cl]at hc;cases hc
 have bu:la≠lb:=λq=>by
  rw[<- q]at ab;have:(σ.cw la []).L la=some []:=br _ _ _;rw[this]at ab;cases ab
 have bb:(σ.cw la []).L c=some (iV ws):=(cv cp).trans hc;have cn:c≠lb:=λq=>by rw[q,ab]at bb;cases bb
 have ha:((σ.cw la []).cw lb []).L la=some (iV []):=(cv bu).trans (br _ _ _);have hb:((σ.cw la []).cw lb []).L lb=some (iV []):=br _ _ _;have bn:((σ.cw la []).cw lb []).L c=some (iV ws):=(cv cn).trans bb;have R:RD (ez [5,6] [.L la,.L lb] ρ) vj n m la lb:=#[r1,r3,r4,rfl,rfl];have r0:ez [5,6] [.L la,.L lb] ρ 0=some (.L c):=r0;show dk _ _ (ez [5,6] [.L la,.L lb] ρ) ((σ.cw la []).cw lb []) _;generalize ez [5,6] [.L la,.L lb] ρ=df at R r0;generalize (σ.cw la []).cw lb []=σ1 at ha hb bn;apply#[_,r0,iV ws,2,(iV ws).length,bn,rfl,rfl,by decide,by rw[av];(show(Ar.nab _).elim (λq1=>(gz .a6 .b .aL (.ie .L .M) hz q1.2)) λq1=>(bt .a6 .a (.ie .L (.g .M)) q1.2)),λd hd=>?_];generalize ck:((iV ws).take (gx (iV ws).length ((iV ws).length:Nat))).drop (gx (iV ws).length 2)=vs;have#[ms,rfl,B]:∃ms:List Int,vs=iV ms/\ms.length<=63:=by
  apply#[(ws.take (gx (iV ws).length ((iV ws).length:Nat))).drop (gx (iV ws).length 2),?_,?_]
  ·rw[<- ck,iV,iV,List.map_drop,List.map_take]
  ·rw[ja,gu];(show mi .a3 .e .aL .G .J hz (Ar.kx _ _).2.1 (nz _ _))
 have bl:la≠d:=λq=>by rw[<- q,ha]at hd;cases hd
 have be:lb≠d:=λq=>by rw[<- q,hb]at hd;cases hd
 have ha:(σ1.cw d (iV ms)).L la=some (iV []):=(cv bl).trans ha;have hb:(σ1.cw d (iV ms)).L lb=some (iV []):=(cv be).trans hb;have ar:(σ1.cw d (iV ms)).L d=some (iV ms):=br _ _ _;generalize σ1.cw d (iV ms)=σ2 at ha hb ar;apply#[_,ar,?_];apply si (λt ρ σ=>∃xs ys:List Int,RD ρ vj n m la lb/\σ.L la=some (iV xs)/\σ.L lb=some (iV ys)/\xs.length<=t/\ys.length<=t/\σ.L d=some (iV ms)) ?_ ?_ #[[],[],R,ha,hb,az _,az _,ar]
 ·intro t v aa bd hv zz;have#[xs,ys,Z,ao,ai,hx,hy,ag]:=zz;rw[cu]at hv;have#[x,cc,rfl]:=omap hv;have ht:t<ms.length:=(bw.mp cc).1;apply#[ag,λkk cx=>?_];have R3:RD (upd aa 7 (.int x)) vj n m la lb:=#[Z.r1,Z.r3,Z.r4,Z.r5,Z.r6];show dk _ CQ (upd aa 7 (.int x)) bd _;show ET R3 rfl bu ao ai (mi .a4 .e .aL .J .O B hx ht) (mi .a4 .e .aL .J .O B hy ht) λρ' ca bv σ' R' cd cb da ct hr=>cx _ _ #[ca,bv,R',da,ct,by show fk .U .b .G (.k .A .R) hx cd,by show fk .U .b .G (.k .A .R) hy cb,(hr d bl.symm be.symm).trans ag]
 ·intro aa bd zz;have#[xs,ys,Z,ao,ai,hx,hy,ag]:=zz;rw[av]at hx hy;apply#[ag,?_];apply RB Z.r1 Z.r4 Z.r5 Z.r6 ao ai (gz .a3 .b .aL .A B hx) (gz .a3 .b .aL .A B hy) hJ λgl T dc L js E hg hq J b eT ok=>?_;show MV (ρ:=upd aa 10 (.L gl)) Z.r1 Z.r4 Z.r5 Z.r6 rfl (E _ _ ao) (E _ _ ai) (gz .a3 .b .aL .A B hx) (gz .a3 .b .aL .A B hy) hJ hg hq J b eT ok
def UA:fZ (fq P 2) (.clo 0 []) λy=>decide (y%3=0):=.inr ⟨0,[],rfl,λy σ Q h=>by
 apply#[fnL,rfl,az 1,az 1,?_];have Z:frameOf fnL (.int y::[]) 0=some (.int y):=rfl;show dk _ %[.ret xP|0] (frameOf fnL (.int y::[])) σ _;generalize frameOf fnL (.int y::[])=ρ at Z;apply D7 (.bool (decide (y%3=0))) ?_ (h _ λσ K q=>q);show((evV σ ρ (.b .mod (.l 0) (.int 3))).bind λO=>(evV σ ρ (.int 0)).bind λU=>(dI σ .eq O U).map V.bool)=_;rw[tc,fx,Z];rfl⟩
def UB:fZ (fq P 2) .none λ_=>false:=.inl #[rfl,λ_=>rfl]
def WE (ns:List Int):∃a b:Int,(ns.map V.int++[V.int 0,V.int 0]).take 2=[.int a,.int b]:=by
 cases ns with
 |nil=>refine#[0,0,rfl]
 |cons a ns =>
  cases ns with
  |nil=>refine#[a,0,rfl]
  |cons b ns=>refine#[a,b,rfl]
def W4 (ns:List Int)(bu:ns.length<=63)(σ:St):dk (fq P 6) oR (frameOf #[1,[],oR] [.ro ns]) σ λfl ρ σ=>fl=.next/\wpT (fq P 6) cT ρ σ λb σ=>(b=true->dk (fq P 6) iH (upd ρ 4 (.clo 0 [])) σ vU)/\(b=false->dk (fq P 6) iH (upd ρ 4 .none) σ vU):=by
 have h0:frameOf #[1,[],oR] [.ro ns] 0=some (.ro ns):=rfl;generalize frameOf #[1,[],oR] [.ro ns]=ρ at h0;have hz:ns.length<=bq:=by unfold bq;(show ef .bQ .a .a3 bu)
 unfold oR;apply vR ?_;apply#[_,h0,0,63,hz,rfl,rfl,by decide,by decide,λc hc=>?_];have ao:((ns.take (gx ns.length 63)).drop (gx ns.length 0)).length<=63:=by rw[ja,gu];(show mi .a3 .e .aL .G .J bu (Ar.kx _ _).2.1 (nz _ _))
 generalize (ns.take (gx ns.length 63)).drop (gx ns.length 0)=ws at ao;have bb:(σ.cw c (ws.map V.int)).L c=some (ws.map V.int):=br _ _ _;generalize σ.cw c (ws.map V.int)=σ1 at bb;have r0:upd ρ 0 (.L c) 0=some (.L c):=rfl;show dk _ _ (upd ρ 0 (.L c)) σ1 _;generalize upd ρ 0 (.L c)=ab at r0;apply#[_,r0,bc rfl,λc1 bl=>?_];have n1:c≠c1:=λq=>by rw[<- q,bb]at bl;cases bl
 have ar:(σ1.cw c1 [V.int 0,V.int 0]).L c=some (ws.map V.int):=(cv n1).trans bb;apply#[ws.map V.int,[.int 0,.int 0],ar,br _ _ _,by rw[av];unfold bq;show ws.length+2<=_;(show ef (.k .aS .X) .a .a3 ao),λc2 ai=>?_];have n2:c≠c2:=λq=>by rw[<- q,ar]at ai;cases ai
 have be:((σ1.cw c1 [V.int 0,V.int 0]).cw c2 (ws.map V.int++[V.int 0,V.int 0])).L c=some (ws.map V.int):=(cv n2).trans ar;apply#[_,0,2,br _ _ _,rfl,rfl,by decide,by decide,λc3 ag=>?_];have n3:c≠c3:=λq=>by rw[<- q,be]at ag;cases ag
 have#[ct,Z,e2]:=WE ws;have e3:((ws.map V.int++[V.int 0,V.int 0]).take (gx (ws.map V.int++[V.int 0,V.int 0]).length 2)).drop (gx (ws.map V.int++[V.int 0,V.int 0]).length 0)=[.int ct,.int Z]:=by
  rw[AL,gN,show gx (ws.map V.int++[V.int 0,V.int 0]).length 2=2 from EY (i:=2) (by rw[ax];show Nat.le_add_left 2 _)];show e2
 rw[e3];apply#[_,br _ _ _,rfl,?_];have aa:(((σ1.cw c1 [V.int 0,V.int 0]).cw c2 (ws.map V.int++[V.int 0,V.int 0])).cw c3 [V.int ct,V.int Z]).L c=some (iV ws):=(cv n3).trans be;have r0:ez [1,2] [.int ct,.int Z] ab 0=some (.L c):=r0;have r1:ez [1,2] [.int ct,.int Z] ab 1=some (.int ct):=rfl;have r2:ez [1,2] [.int ct,.int Z] ab 2=some (.int Z):=rfl;show dk _ _ (ez [1,2] [.int ct,.int Z] ab) _ _;generalize ez [1,2] [.int ct,.int Z] ab=U at r0 r1 r2;generalize ((σ1.cw c1 [V.int 0,V.int 0]).cw c2 (ws.map V.int++[V.int 0,V.int 0])).cw c3 [V.int ct,V.int Z]=σ2 at aa;clear h0 e3 e2 bl ar be n1 n2 n3 ai ag bb;have#[n,hn]:∃n:Nat,evV σ2 U (.I (.c .lt (.l 1) (.int 0)) (.neg (.l 1)) (.b .mod (.l 1) (.int 6)))=some (.int n):=by
  have et:evT σ2 U (.c .lt (.l 1) (.int 0))=some (decide (ct<0)):=by rw[nq,fx,r1];rfl
  show ∃n:Nat,(evT σ2 U (.c .lt (.l 1) (.int 0))).bind (λt=>if t then evV σ2 U (.neg (.l 1)) else evV σ2 U (.b .mod (.l 1) (.int 6)))=_;rw[et];show ∃n:Nat,(if decide (ct<0)=true then evV σ2 U (.neg (.l 1)) else evV σ2 U (.b .mod (.l 1) (.int 6)))=_;by_cases h:ct<0
  ·rw[bx (dp h)];apply#[(-ct).toNat,?_];show(evV σ2 U (.l 1)).bind _=_;rw[fx,r1];show some (V.int (-ct))=_;rw[Int.toNat_of_nonneg (qd (.ik .O (.g .A)) .a (.il .A .O) h)]
  ·rw[ay (λq=>h (aq q)),tc,fx,r1];apply#[(ct%6).toNat,?_];show some (V.int (ct%6))=_;rw[Int.toNat_of_nonneg (Int.emod_nonneg _ (by decide))]
 apply nA (.int n) hn ?_;have r0:upd U 1 (.int n) 0=some (.L c):=r0;have r1:upd U 1 (.int n) 1=some (.int n):=rfl;have r2:upd U 1 (.int n) 2=some (.int Z):=r2;generalize upd U 1 (.int n)=B at r0 r1 r2;apply vR ?_;apply#[bc rfl,λd hd=>?_];have hcd:c≠d:=λq=>by rw[<- q,aa]at hd;cases hd
 have aa:(σ2.cw d [V.int 0,.int 2,.int 3,.int 7]).L c=some (iV ws):=(cv hcd).trans aa;have bv:(σ2.cw d [V.int 0,.int 2,.int 3,.int 7]).L d=some [V.int 0,.int 2,.int 3,.int 7]:=br _ _ _;show wpE _ (.b .mod (.l 2) (.int 4)) B (σ2.cw d [V.int 0,.int 2,.int 3,.int 7]) _;generalize σ2.cw d [V.int 0,.int 2,.int 3,.int 7]=bn at aa bv;have h4:=Int.emod_nonneg Z (show(4:Int)≠0 by decide);have h5:=Int.emod_lt_of_pos Z (show(0:Int)<4 by decide);apply iw (v:=.int (Z%4)) _ (by rw[tc,fx,r2];rfl) ?_;have#[m,hm]:∃m:Nat,[V.int 0,.int 2,.int 3,.int 7][(Z%4).toNat]?=some (.int m):=by
  have hl:(Z%4).toNat<4:=by(show(Ar.ton _).elim (λq1=>(dQ (.l .A (.n 4)) .b (.il .A (.n 4)) .cK h5 q1.2)) λq1=>(ef (.l .A (.n 4)) .a .M q1.2))
  have:∀i:Fin 4,∃m:Nat,[V.int 0,.int 2,.int 3,.int 7][i.1]?=some (.int m):=λi=>match i with
   |0=>#[0,rfl]
   |1=>#[2,rfl]
   |2=>#[3,rfl]
   |3=>#[7,rfl]
  show this #[_,hl]
 have hi:ee ([V.int 0,.int 2,.int 3,.int 7]).length (Z%4)=Z%4:=by unfold ee;rw[ay (qd (.ig .A .O) .a .aR h4)]
 apply#[_,_,bv,by rw[hi];show h4,by rw[hi];show hm,?_];have r0:upd B 3 (.int m) 0=some (.L c):=r0;have r1:upd B 3 (.int m) 1=some (.int n):=r1;have r2:upd B 3 (.int m) 2=some (.int Z):=r2;have r3:upd B 3 (.int m) 3=some (.int m):=rfl;show dk _ .nil (upd B 3 (.int m)) bn _;generalize upd B 3 (.int m)=bd at r0 r1 r2 r3;apply ow #[rfl,?_];apply pz (b:=decide (Z%3=1)) cT (by
  show(evV bn bd (.b .mod (.l 2) (.int 3))).bind _=_;rw[tc,fx,r2];rfl) #[λ_=>?_,λ_=>?_]
 ·show CC (ρ:=upd bd 4 (.clo 0 [])) r0 r1 r3 rfl aa ao UA
 ·show CC (ρ:=upd bd 4 .none) r0 r1 r3 rfl aa ao UB
end R5
end MP
end
section
open PySem PySem.W PyProof.Rows
set_option maxHeartbeats 0
namespace Mine
open MP
variable {env:Env}{A:Around}{E:QqV}{hb:Heap}
abbrev st0:MP.St:=#[λ_=>none,λ_=>none,λ_=>none,λ_=>none,λ_=>none]
def VW (G:Stc):Rel G st0 G.hb:=by
 apply#[λ_ _ e=>?_,λ_ _ e=>?_,λ_ _ e=>?_,λ_ _ _ e=>?_,λ_ _ e=>?_,λ_ _ e=>?_,λ_ _ e=>?_,λ_ _ _ _ _ e=>?_,λ_ _ _ e=>?_,λ_ _ _ _ _ _ e=>?_,λb d=>?_,λ_ _ e=>e]
 all_goals first|cases e|skip
 unfold MP.St.dom at d;simp[st0]at d
def TQ (G:Stc){h:Heap}(hk:∀b o,G.hb.get? b=some o->h.get? b=some o):Rel G st0 h:=by
 have R:=VW G;apply#[λ_ _ e=>(by cases e),λ_ _ e=>(by cases e),λ_ _ e=>(by cases e),λ_ _ _ e=>(by cases e),λ_ _ e=>(by cases e),R.Ll,R.Dl,R.inj,R.apart,R.sep,R.new,hk]
def ao0:AOk callerA 16:=#[rfl,by decide,by decide]
section
variable {P:Params}{h:Heap}
def VQ {v:Value}{x:WData}(W:Well P h v x)(Z:WShape.has [] x .int=true):∃i t,v=.int i t/\x=.int i:=by
 cases W with
 |int i t=>refine#[i,t,rfl,rfl]
 |_=>show Bool.noConfusion (show false=true from Z)
def TH {v:Value}{x:WData}(W:Well P h v x)(Z:WShape.has [] x (.list .int)=true):∃a vs xs,v=.ref a/\x=.list xs/\h.get? a=some {cls:=.type "list",data:=.seq vs.toArray}/\WellAll P h vs xs/\WShape.hasItems [] xs .int=true:=by
 cases W with
 | @list a vs xs e U=>refine#[a,vs,xs,rfl,rfl,e,U,(jP _).symm.trans (show(WShape.hasItems [] xs .int||false)=true from Z)]
 |_=>show Bool.noConfusion (show false=true from Z)
def L0 {vs:List Value}{xs:List WData}(W:WellAll P h vs xs):(vs=[]/\xs=[])\/∃v us x ys,vs=v::us/\xs=x::ys/\Well P h v x/\WellAll P h us ys:=by
 cases W with
 |nil=>show .inl #[rfl,rfl]
 |cons W Z=>show .inr #[_,_,_,_,rfl,rfl,W,Z]
def ints_of {vs:List Value}:∀{xs:List WData},WellAll P h vs xs->WShape.hasItems [] xs .int=true->∃ns:List Int,xs=ns.map WData.int/\IntsAre vs ns:=by
 induction vs with
 |nil =>
  intro xs W Z;rcases L0 W with ⟨_,rfl⟩|⟨_,_,_,_,e,_⟩
  ·apply#[[],rfl,.nil]
  ·cases e
 |cons v vs U =>
  intro xs W Z;rcases L0 W with ⟨e,_⟩|⟨_,_,x,ys,e,rfl,W1,B⟩
  ·cases e
  ·cases e;have#[J,O]:=MP.band (show(WShape.has [] x .int&&WShape.hasItems [] ys .int)=true from Z);clear Z;have#[ns,rfl,I]:=U B O;have#[i,t,rfl,rfl]:=VQ W1 J;apply#[i::ns,rfl,.cons i t I]
def OC {args:List WData}{vals:List Value}(W:WellAll P h vals args)(Z:WShape.hasAll [] args [.list .int]=true):∃(l:Addr) (vs:List Value) (ns:List Int),vals=[.ref l]/\args=[.list (ns.map WData.int)]/\h.get? l=some {cls:=.type "list",data:=.seq vs.toArray}/\IntsAre vs ns:=by
 rcases L0 W with ⟨_,rfl⟩|⟨v,us,x,ys,rfl,rfl,W1,U⟩
 ·cases Z
 ·have#[B,J]:=MP.band (show(WShape.has [] x (.list .int)&&WShape.hasAll [] ys [])=true from Z);rcases L0 U with ⟨rfl,rfl⟩|⟨_,_,_,_,_,rfl,_⟩
  ·have#[a,vs,xs,rfl,rfl,e,U,Z]:=TH W1 B;have O:=ints_of U Z;clear Z;have#[ns,rfl,I]:=O;apply#[_,_,ns,rfl,rfl,e,I]
  ·show Bool.noConfusion (show false=true from J)
end
def TS (xs:List WData)(h:rw5.pre.holds [] {args:=[.list xs]}=true):xs.length<=63:=by
 have e:rw5.pre=.and (.not (.lt (.lit (.int 63)) (.len (.arg 0)))) (.lit (.bool true)):=by rfl
 rw[e]at h;have hl:WTm.value [] (.lt (.lit (.int 63)) (.len (.arg 0))) {args:=[.list xs]}=(less? (.int 63) (.int xs.length)).map WData.bool:=by rfl
 have J:less? (.int 63) (.int xs.length)=some (decide ((63:Int)<xs.length)):=by first|rfl|simp[less?]
 rw[J]at hl;by_cases Z:(63:Int)<xs.length
 ·have U:WTm.value [] (.not (.lt (.lit (.int 63)) (.len (.arg 0)))) {args:=[.list xs]}=some (.bool false):=by
   show(match WTm.value [] (.lt (.lit (.int 63)) (.len (.arg 0))) {args:=[.list xs]} with|some (.bool b)=>some (WData.bool (!b))|_=>none)=_;rw[hl];simp[Z]
  have O:WTm.value [] (.and (.not (.lt (.lit (.int 63)) (.len (.arg 0)))) (.lit (.bool true))) {args:=[.list xs]}=some (.bool false):=by
   show(match WTm.value [] (.not (.lt (.lit (.int 63)) (.len (.arg 0)))) {args:=[.list xs]} with
    |some (.bool false)=>some (WData.bool false)
    |some (.bool true)=>some (.bool true)
    |_=>none)=_
   rw[U]
  unfold WTm.holds at h;rw[O]at h;cases h
 ·(show ef .a3 .a (.ig (.n 63) .L) Z)
def QV:(λ(x y:List WData)=>rw5.row.claim.post x (WData.bool true) y)=λx y=>true:=by kernel_rfl
def dG {h:Heap}{a:Addr}{o:Obj}(e:(frees h).get? a=some o):a≠258/\h.get? a=some o:=by
 unfold frees at e;by_cases c:a=258
 ·subst c;have e2:(h.update 258 λ_=>{cls:=.none,data:=.freed}).get? 258=none:=by
   unfold Heap.update Heap.get?;dsimp only;rw[Array.getElem?_modify];cases h.objs[(258:Nat)]?<;>rfl
  rw[e2]at e;cases e
 ·apply#[c,(gv _ _ (wi c)).symm.trans e]
def kH {h:Heap}{a:Addr}{o:Obj}(c:a≠258)(e:h.get? a=some o):(frees h).get? a=some o:=(gv _ _ (wi c)).trans e
def t7:(xs ys:List Stmt)->execs (xs++ys) env=(execs xs env>>=λf=>match f with|.next=>execs ys env|f=>pure f)
 | [],ys=>by
  rw[eO];show(pure_bind (m:=Sem) Flow.next (λf=>match f with|.next=>execs ys env|f=>pure f)).symm
 |x::xs,ys=>by
  rw[zx,execs_cons,execs_cons,bind_assoc];apply bz _ (funext λf=>?_);cases f with
  |next=>show t7 xs ys
  |_=>show(pure_bind _ _).symm
def t8 {M:Model}(xs ys:List Stmt){s:Shared}{Q:Flow->Shared->Prop}(h:wpAny M A (execs xs env) (λf s'=>f=.next/\wpAny M A (execs ys env) Q E s') E s):wpAny M A (execs (xs++ys) env) Q E s:=by
 rw[t7];apply af (bg h (λf s' q=>?_) λ_ _ x=>x);have#[rfl,q]:=q;show q
public abbrev noc:Nat->List V->Addr->Prop:=λ_ _ _=>False
def U6 {l:Arguments×Expr×Scope×Pos}(h:RL l=true):B4 l.1 l.2.2.1/\okE R5.tab R5.xP l.2.2.1 l.2.1=true:=by
 unfold RL at h;have#[d1,h]:=MP.band h;have#[d2,h]:=MP.band h;have#[d3,h]:=MP.band h;have#[d4,h]:=MP.band h;have#[d5,h]:=MP.band h;have#[d6,h]:=MP.band h;have#[d7,h]:=MP.band h;have#[d8,d9]:=MP.band h;apply#[#[aq d1,(fg _).mp d2,(fg _).mp d3,aq d4,d5,aq d6,nk.mp d7,nk.mp d8],d9]
structure KQ (h0:Heap):Prop where
 e0:h0.isNs mainGlobals=true
 code:∀h:Heap,(∀b o,h0.get? b=some o->h.get? b=some o)->CodeHd h 262 258
 built:∀h:Heap,(∀b o,h0.get? b=some o->h.get? b=some o)->h.BuiltinsAt (h0.nsMap mainGlobals) 258
def KQ.U9 {h0 h:Heap}(L:KQ h0){G:Stc}{σ:MP.St}{pl:Array Value}(R:Rel G σ h)(hk:∀b o,h0.get? b=some o->G.hb.get? b=some o)(U:env.code=.ref 262)(Z:h.get? 258=some (tabObj pl))(hb:G.hb.get? 258=none)(hd:¬σ.dom 258)(O:258∉envX env):KR G σ env h (h0.nsMap mainGlobals) 262 258 pl:=
 have k:=λb o e=>R.base b o (hk b o e)
 #[(ui L.e0).keeps k,U,L.code h k,Z,by decide,L.built h k,hb,hd,O]
def RJ {h0:Heap}(e0:h0.isNs mainGlobals=true)(l3:codeOk h0=true)(l4:vK h0=true):KQ h0/\∃o fd O U,h0.get? 263=some o/\o.data=.func fd/\fd.code=.ref 262/\h0.get? 262=some O/\O.cls=.type "code"/\O.data=.fields U/\U[11]?=some (.ref 258):=by
 unfold codeOk at l3;have#[m1,Z]:=MP.band l3;have#[B,be,m1]:=MP.any_some m1;have#[aa,ab,ai]:=gS be;have J:aa.data=.func B:=yb ai;have m1:B.code=.ref 262:=aq m1;have#[O,ag,Z]:=MP.any_some Z;have#[m3,Z]:=MP.band Z;have#[U,ao,Z]:=MP.any_some Z;unfold PW at Z;have#[v1,Z]:=MP.band Z;have#[v2,Z]:=MP.band Z;have#[v3,Z]:=MP.band Z;have#[v4,Z]:=MP.band Z;have#[v5,v6]:=MP.band Z;have ar:O.data=.fields U:=iR ao;unfold vK at l4;have#[n1,n2]:=MP.band l4;have#[om,bd,n2]:=MP.any_some n2;have#[n3,n2]:=MP.band n2;have#[n4,n5]:=MP.band n2;have bb:om.data=.plain:=by
  cases hq:om.data<;>first|show rfl|(rw[hq]at n5;show Bool.noConfusion (show false=true from n5))
 apply#[#[e0,λh k=>#[O,U,_,_,_,_,_,_,_,k _ _ ag,aq m3,ar,aq v1,aq v2,aq v3,aq v4,aq v5,aq v6,by decide],λh k=>#[4,om,aq n1,by decide,by decide,by decide,k _ _ bd,aq n3,aq n4,bb]],aa,B,O,U,ab,J,m1,ag,aq m3,ar,aq v1]
def PY {w:World}{h0:Heap}{clo:Nat->List V->Addr->Prop}{kk:Nat}{f:Addr}{G2:Stc}(D:D5 (GG w h0 hb clo) G2 kk f):G2=GG w h0 G2.hb G2.clo:=by
 have#[pr,w2,aa,ao,ai,ar,ab,ag,B]:=G2;have#[g1,g2,g3,J,O,U,Z,_,_]:=D;dsimp only at g1 g2 g3 J O U Z;subst g1 g2 g3 J O U Z;rfl
section
variable {w:World}{h0:Heap}(ob:Obs w.params h0)
include ob
def TR {clo:Nat->List V->Addr->Prop}(hk:∀b o,h0.get? b=some o->hb.get? b=some o){e:Expr}{sc:Scope}{f:Addr}{G2:Stc}(U:∀k cs a,¬clo k cs a)(D:D5 (GG w h0 hb clo) G2 0 f)(L:tS G2 f 1 [] sc (reE R5.tab R5.xP sc e))(h:okE R5.tab R5.xP sc e=true):qU (GG w h0 G2.hb G2.clo) R5.tab R5.P:=by
 have O:∀b o,h0.get? b=some o->G2.hb.get? b=some o:=λb o e=>D.hb _ _ (hk b o e);have Z:=D.clo;rw[PY D]at L;show PA (clo:=G2.clo) ob O λk cs a q=>by
  rcases (Z k cs a).mp q with q|⟨rfl,rfl,rfl⟩
  ·show absurd q (U _ _ _)
  ·apply#[1,_,_,R5.xP,rfl,L,h,rfl]
def PL {clo:Nat->List V->Addr->Prop}(hk:∀b o,h0.get? b=some o->hb.get? b=some o)(PO:qU (GG w h0 hb clo) R5.tab R5.P)(ao:AOk A 14){σ:MP.St}{vs:List V}{Kf:List V->MP.St->Prop}(g1:vs.length<=2)(g2:2<=vs.length+1)(J:∀out σ,Kf out σ->out.length<=bq)
  (hG:GW (fq R5.P 3) R5.g0 R5.gI R5.gT R5.gC R5.g1 (.l 9) R5.g2 R5.g3 R5.gL (.l 9) 1000 Kf (frameOf #[2,[.int 3],.nil] vs) σ):yW (GG w h0 hb clo) E A 218 vs σ Kf:=by
 have#[hc,hl]:=nZ PO 3;have T:TabOk (GG w h0 hb clo) R5.tab (fq R5.P 3) 9:=PO.base.tab hc hl (by decide);have e1:=ob.gen;unfold CF at e1;have#[l1,e1]:=MP.band e1;have#[Z,_]:=MP.band e1;have#[x,hx,GA]:=RU (G:=GG w h0 hb clo) hk (IJ ob hk) l1;have hB:=ob.genB;rw[hx]at hB Z;have O:=bz Prod.snd (ak hB);have Z:RV x=true:=Z;unfold RV at Z;have#[c1,Z]:=MP.band Z;have#[c2,Z]:=MP.band Z;have#[c3,Z]:=MP.band Z;have#[c4,Z]:=MP.band Z;have#[c5,Z]:=MP.band Z;have#[c6,Z]:=MP.band Z;have#[c7,Z]:=MP.band Z;have#[c8,Z]:=MP.band Z;have#[c9,B]:=MP.band Z;rw[O]at GA;have U:okE R5.tab (.l 9) x.1 (yd (gEY x))=true:=c7;show λs ws Q R vr k=>JA (eP T R5.g0 x.2 c1) (wM T R5.gI x.1 _ _ c3) (bO c4) (OY T R5.gT _ c2) (iD T R5.gC x.1 _ rfl c5) (eP T R5.g1 _ c6) (jv T (.l 9) x.1 _ c7) (eP T R5.g2 _ c8) (eP T R5.g3 _ c9) (iD T R5.gL x.1 _ rfl B) (jv T (.l 9) x.1 _ U) GA ao R vr g1 g2 J hG k
def OZ {clo:Nat->List V->Addr->Prop}(hk:∀b o,h0.get? b=some o->hb.get? b=some o)(O:qU (GG w h0 hb clo) R5.tab R5.P){x:Scope×List Stmt}(o1:iF R5.tab x.1 R5.iH (x.2.drop 5)=true)(Z:QP x.1 (at9 x)=true){ρ:Fr}{σ:MP.St}{s:Shared}(cx:Cx (GG w h0 hb clo) x.1 15 A env ρ σ s)(q:dk (fq R5.P 6) R5.iH ρ σ R5.vU) :
  wpAny (GG w h0 hb clo).M A (execs (f9 R5.tab x.1 R5.iH (x.2.drop 5)++[BV x.1 (at9 x)]) env) (λf s'=>f=.ret (.bool true)/\s'.os=s.os/\(AllBare s.gens->AllBare s'.gens)/\∃σ',Rel (GG w h0 hb clo) σ' s'.heap/\Evo (envX env) σ s.heap σ' s'.heap) E s:=by
 have#[hc,hl]:=nZ O 6;have T:TabOk (GG w h0 hb clo) R5.tab (fq R5.P 6) 15:=O.base.tab hc hl (by decide);apply t8 _ _ (bg (eP T R5.iH _ o1 cx q) (λf s4 lf=>?_) λ_ _ q=>q);have#[fl,bv,bu,fr,q4,F4,R4,x4]:=lf;have#[rfl,n,m,cb,Kf,r1,ar,J,hI,ab,hK,ag]:=q4;cases fr;apply#[rfl,?_];have be:=cx.at F4 R4;unfold QP at Z;have#[c1,Z]:=MP.band Z;have#[c2,Z]:=MP.band Z;have#[c3,Z]:=MP.band Z;have#[c4,Z]:=MP.band Z;have#[c5,Z]:=MP.band Z;have#[c6,Z]:=MP.band Z;have#[c7,Z]:=MP.band Z;have#[c8,Z]:=MP.band Z;have#[c9,Z]:=MP.band Z;have#[bn,bl]:=MP.band Z;unfold glob at c1;have#[d1,c1]:=MP.band c1;have#[d2,d3]:=MP.band c1;have#[og,ca,M,bb,bd]:=TZ (clo:=clo) ob hk;have U:AOk A 14:=#[cx.ao.handled,by have:=cx.ao.depth;(show bt (.l (.a (.a .A (.m 3 (.n 14))) (.n 20)) .B) .a (.l (.a (.a .A (.m 3 (.n 15))) (.n 20)) .B) this),by have:=cx.ao.units;(show bt (.l (.a (.a .A (.m 30 (.n 14))) .aC) .B) .a (.l (.a (.a .A (.m 30 (.n 15))) .aC) .B) this)];have aa:okE R5.tab (.l 11) x.1 (kid 0 (kid 0 (rA 2 (at9 x))))=true:=c3;apply mj (bg (HO (C:=fq R5.P 6) (cT:=R5.cR) (eo:=.l 11) (ea:=.l 1) (ed:=.l 10) (Kf:=Kf) O.base.g M bb bd (aq d1) d2 (O.base.gl _ _ (aq d3)) (iD T R5.cR x.1 _ rfl c2) (jv T (.l 11) x.1 _ c3) (jv T (.l 11) x.1 _ aa) (jv T (.l 1) x.1 _ c4) (jv T (.l 10) x.1 _ c5) c6 c7 c8 c9 bn ((fg _).mp bl) be ?_ λS out σ' h1 h2=>#[_,ar,hK S out σ' h1 h2]) (λf s5 l=>?_) λ_ _ q=>q)
 ·apply pz (b:=decide (n=3)) R5.cR (SM.uZ (a:=.l 1) (b:=.int 3) (n:=3) r1 rfl) #[λh=>#[_,J,m,rfl,hI,?_],λ_=>#[_,J,m,rfl,hI,_,r1,?_]]
  ·show PL ob hk O U (vs:=[.obj m]) (xj 1) (az 2) ab (ag [] (.inl #[rfl,aq h]))
  ·show PL ob hk O U (vs:=[.obj m,.int n]) (az 2) (xj 2) ab (ag [.int n] (.inr rfl))
 ·have#[l1,l2,l3,ai,R5,x5]:=l;subst l1;apply#[rfl,l2.trans x4.o,λhb=>l3 (by rw[x4.g];show hb),ai,R5,x4.e.trans (x5.more λ_ h=>nomatch h)]
end
def WC (df:∀ns:List Int,ns.length<=63->dk (fq R5.P 6) R5.oR (frameOf #[1,[],R5.oR] [.ro ns]) st0 λfl ρ σ=>fl=.next/\wpT (fq R5.P 6) R5.cT ρ σ λb σ=>(b=true->dk (fq R5.P 6) R5.iH (upd ρ 4 (.clo 0 [])) σ R5.vU)/\(b=false->dk (fq R5.P 6) R5.iH (upd ρ 4 .none) σ R5.vU)):rw5.Holds:=by
 apply head λd eG hd w s₀ s₁ mg mb Gr bv a o pm cd doc dV kV ho dx hcd et ct bd args vals as cc dc ag ar cb=>?_;clear cb ag dc et hcd dx ho;have#[ob,eu]:=W0 w;have dr:∀b o,(H1 w).get? b=some o->s₁.heap.get? b=some o:=bv;have U:(WShape.hasAll [] args [.list .int]&&rw5.pre.holds [] {args:=args})=true:=cc;rw[dg]at U;have#[l,vs,ns,rfl,rfl,hl,I]:=OC ar U.1;have da:ns.length<=63:=by
  simpa using TS _ U.2
 have hP:s₁.heap.get? 258=some (tabObj #v[]):=dr _ _ eu;have hk:∀b o,(frees (H1 w)).get? b=some o->(frees s₁.heap).get? b=some o:=λb o e=>kH (dG e).1 (dr _ _ (dG e).2);generalize frees (H1 w)=h0 at ob hk;have dv:∀b o,h0.get? b=some o->s₁.heap.get? b=some o:=λb o e=>(dG (hk b o e)).2;have e0:=(xE ob).1;have ha:a=263:=by
  have e1:=Gr.T.g.eq_nsMap;have e4:=gl8 ob "law" (.ref 263) (by decide +kernel);have e2:=((ui e0).keeps dv).eq_nsMap;have e3:d.name=("law":Str):=by
   have:(defOf qv rw5.row.name).map (λp=>p.1.name)=some ("law":Str):=by kernel_rfl
   rw[hd]at this;show ak this
  rw[e1,<- e2,e3]at ct;unfold NK at e4;rw[ct]at e4;cases e4;rfl
 subst ha;have lim:=IJ (hb:=frees s₁.heap) ob hk;have e1:=ob.law;unfold IP at e1;have#[l1,e1]:=MP.band e1;have#[Z,e1]:=MP.band e1;have#[l3,l4]:=MP.band e1;have en:∀k cs a,¬noc k cs a:=λ_ _ _ q=>q;have#[x,hx,FA,ej]:=JC (G:=GG w h0 (frees s₁.heap) noc) hk lim l1;have hB:=ob.lawB;rw[hx]at hB Z;have ei:=bz Prod.snd (ak hB);have Z:RK x=true:=Z;unfold RK at Z;have#[c1,Z]:=MP.band Z;have#[c2,Z]:=MP.band Z;have#[c3,Z]:=MP.band Z;have#[c4,c5]:=MP.band Z;have#[LO,eb]:=U6 c3;have#[LW,ed,ev,oc,ex,ck,bb,m1,em,cp,cn,cl]:=RJ e0 l3 l4;have bu:=PA (clo:=noc) ob hk λk cs a (q:False)=>q.elim;have#[dy,dn]:=nZ bu 6;have T0:TabOk (GG w h0 (frees s₁.heap) noc) R5.tab (fq R5.P 6) 15:=bu.base.tab dy dn (by decide);have base:Rel (GG w h0 (frees s₁.heap) noc) st0 s₁.heap:=TQ _ λb o e=>(dG e).2;have er:(frees s₁.heap).get? l=some {cls:=.type "list",data:=.seq vs.toArray}:=kH (λq=>by
  subst q;rw[hP]at hl;cases hl) hl
 apply nh (yC (G:=GG w h0 (frees s₁.heap) noc) (b:=R5.oR) (σ:=st0) (vs:=[.ro ns]) (d:=15) FA (λA' E' env s' cx be x' hX=>?_) ao0 base %[.ro er I|0] (az 1) (az 1));have ai:env.code=.ref 262:=by
  rw[be ed ev (hk _ _ ck) bb];show m1
 have B:258∉envX env:=λq=>by
  have:=hX _ q;rw[hP]at this;cases this
 have ca:∀b,¬st0.dom b:=λb O=>by
  unfold MP.St.dom at O;simp[st0]at O
 have eg:(frees s₁.heap).get? 258=none:=by
  cases hq:(frees s₁.heap).get? 258 with
  |none=>rfl
  |some o=>show absurd rfl (dG hq).1
 rw[ei];apply t8 _ _ (bg (eP T0 R5.oR x.2 ej cx (df ns da)) (λf s2 lf=>?_) λ_ _ q=>q);have#[fl,ρ,σ,fr,q,Fb,Rb,x2]:=lf;have#[rfl,q]:=q;cases fr;apply#[rfl,?_];have xx:=x'.trans x2;have J:=xx.keep _ _ hP (ca _) B;have dL:∀b,σ.dom b->s₁.heap.get? b=none:=λb O=>(xx.dom b O).resolve_left (ca b);have ab:¬σ.dom 258:=λO=>by
  have:=dL _ O;rw[hP]at this;cases this
 have eT:∀b o,h0.get? b=some o->(GG w h0 (frees s₁.heap) noc).hb.get? b=some o:=hk;have fin:∀(f:Flow) (s6:Shared),f=.ret (.bool true)->s6.os=s₁.os->AllBare s6.gens->(∀b o,b≠258->s₁.heap.get? b=some o->s6.heap.get? b=some o)->(∃ps,s6.heap.get? 258=some (tabObj ps))->GoodWG rw5.row.claim (classAt s₀.heap) (ExcName.means s₀.heap) [.list (ns.map WData.int)] s₁ (.ok f) s6:=by
  intro f s6 rfl ho hg kept zz;have#[ps,dz]:=zz;apply#[.inl #[.bool true,.bool true,[],rfl,λcls=>rfl,.bool true,?_,λ_=>#[List.nodup_nil,λa h=>nomatch h]],#[λb o e=>?_,λb o e=>?_],ho,hg]
  ·show ic (ic QV _) _
  ·by_cases c:b=258
   ·subst c;have rfl:=ak (hP.symm.trans e);apply .inr (.inl #[#[262,oc,ex,dv _ _ em,cp,cn,cl],rfl,#v[],ps,rfl,?_]);rw[dz,Array.empty_append]
   ·show .inl (kept b o c e)
  ·by_cases c:b=258
   ·subst c;apply#[_,dz]
   ·apply#[o,kept b o c e]
 have aa:AllBare s₁.gens:=.of_eq bd;apply mj ?_;apply A9 (C:=fq R5.P 6) (d:=15) (kk:=0) (ivar:=4) (kd:=.«local») (c:=262) (P:=258) (mg:=h0.nsMap mainGlobals) (pl:=#v[]) (PT:=λσ=>dk (fq R5.P 6) R5.iH (upd ρ 4 (.clo 0 [])) σ R5.vU) (PF:=λσ=>dk (fq R5.P 6) R5.iH (upd ρ 4 .none) σ R5.vU) LO (iD T0 R5.cT x.1 _ rfl c4) (jv T0 .none x.1 _ rfl) (cx.at Fb Rb) lim (by rw[cx.es];show aq c2) (λ_ _=>#[rfl,λh=>nomatch h]) (λσ1 s1 r x1=>?_) trivial rfl rfl rfl q
  (λσ1 s1 G2 f s3 c' q x1 D LA F3 R3 bl eS sm=>?_) λσ1 s3 q F3 R3 x3=>?_
 ·apply LW.U9 r hk ai (x1.e.keep _ _ J ab λh=>nomatch h) eg (λO=>?_) B;rcases x1.e.dom _ O with q|q
  ·show ab q
  ·rw[J]at q;cases q
 ·have ey:=TR ob hk en D LA eb;have e2:=PY D;have bn:¬σ1.dom 258:=λO=>by
   rcases x1.e.dom _ O with q|q
   ·show ab q
   ·rw[J]at q;cases q
  have kb:∀b o,(frees s₁.heap).get? b=some o->G2.hb.get? b=some o:=D.hb;rw[e2]at F3 R3;show wpAny (GG w h0 G2.hb G2.clo).M A' (execs (f9 R5.tab x.1 R5.iH (x.2.drop 5)++[BV x.1 (at9 x)]) env) _ _ _;apply bg (OZ ob (λb o e=>kb b o (hk b o e)) ey c1 c5 #[cx.ao,cx.es,cx.eo,F3,R3] q) (λf s6 l=>?_) λ_ _ q=>q;have#[l1,Z,l3,ea,R6,x6]:=l;subst l1;show fin _ s6 rfl (Z.trans (sm.2.trans (x1.o.trans xx.o))) (l3 (by rw[sm.1,x1.g,xx.g];show aa)) (λb o hn e=>R6.base b o (kb b o (kH hn e))) #[_,x6.keep _ _ bl bn B]
 ·have bn:¬σ1.dom 258:=λO=>by
   rcases x3.e.dom _ O with q|q
   ·show ab q
   ·rw[J]at q;cases q
  have bl:=x3.e.keep _ _ J ab B;show wpAny (GG w h0 (frees s₁.heap) noc).M A' (execs (f9 R5.tab x.1 R5.iH (x.2.drop 5)++[BV x.1 (at9 x)]) env) _ _ _;apply bg (OZ ob hk bu c1 c5 (cx.at F3 R3) q) (λf s6 l=>?_) λ_ _ q=>q;have#[l1,Z,l3,ea,R6,x6]:=l;subst l1;show fin _ s6 rfl (Z.trans (x3.o.trans xx.o)) (l3 (by rw[x3.g,xx.g];show aa)) (λb o hn e=>R6.base b o (kH hn e)) #[_,x6.keep _ _ bl bn B]
end Mine
end
section
open PySem PySem.W PyProof.Rows
namespace Mine
def WA:rw5.Holds:=WC λns h=>MP.R5.W4 ns h st0
end Mine
end
end Mine.Internal
theorem PySem.Challenge.cw_dm0056_05_holds : PySem.Challenge.rw_dm0056_05.Holds :=
 Mine.Internal.Mine.WA
