import PyProof.Rows.All
import Wide.All
import OpenK.AllK
import Wide.FinOn
import Open.Tops
import PyProof.DictItems
import KE.KDictList
import KE.KLam
import PyProof.Rows.MinMaxN
import PyProof.Rows.SortWalk
import PyProof.RulesDelMore
import OpenK.KWalk
import PySem.Challenge.RW_dm0056_10
set_option Elab.async false
set_option linter.all false
set_option tactic.hygienic false
set_option maxRecDepth 100000
set_option compiler.extract_closed false
set_option genCtorIdx false
namespace Mine.Internal
namespace Aq
open Lean
def T(s:String)(l:List Syntax):Syntax:=.node .none (.str `Lean.Parser.Tactic s) l.toArray
def M(s:String)(l:List Syntax):Syntax:=.node .none (.str `Lean.Parser.Term s) l.toArray
def R(s:String)(l:List Syntax):Syntax:=.node .none (.str `Lean.Parser.Tactic.rcasesPat s) l.toArray
def L(l:List Syntax):Syntax:=.node .none `null l.toArray
def a(s:String):Syntax:=.atom .none s
def id(s:String):Syntax:=mkIdent (.str .anonymous s)
def is(s:String)(x:Syntax):Bool:=x.getKind==.str `Lean.Parser.Term s
def mp(f:Syntax->Syntax)(l:List Syntax):List Syntax:=l.foldr (λx r=>f x::r) []
def fm(f:Nat->List Syntax)(n:Nat):List Syntax:=(List.range n).foldr (λi r=>f i++r) []
def sp(s:String)(l:List Syntax):Syntax:=L (l.foldr (λx r=>if r.isEmpty then [x] else x::a s::r) [])
def ar(x:Syntax):List Syntax:=x.getSepArgs.toList
def qs(l:List Syntax):Syntax:=T "tacticSeq" [T "tacticSeq1Indented" [sp ";" l]]
def qp(l:List Syntax):Syntax:=T "paren" [a "(",qs l,a ")"]
def qz(l:List Syntax):Syntax:=T "first" [a "first",L (mp (λx=>.node .none `group (.mk [a "|",qs [x]])) (l++[T "fail" [a "fail",L []]]))]
def qh:Syntax:=M "syntheticHole" [a "?",a "_"]
def ap(f:Syntax)(l:List Syntax):Syntax:=M "app" [f,L l]
def re(x:Syntax):Syntax:=T "refine" [a "refine",x]
def qr(s:String)(l:List Syntax):Syntax:=re (ap (mkIdent (.str `Ar s)) l)
def us:String:="e2_0 e2_1 i2_1 e3_0 e3_1 i3_1 e3_2 i3_2 e4_0 e4_1 i4_1 e4_2 i4_2 e4_3 i4_3 e5_0 e5_1 i5_1 e5_2 i5_2 e5_3 i5_3 e5_4 i5_4 e6_1 e6_2 i6_2 e6_3 i6_3 e6_4 i6_4 e6_5 i6_5 e7_0 i7_1 e7_2 i7_2 e7_3 i7_3 e7_4 i7_4 e8_2 i8_2 e8_3 i8_3 e8_4 i8_4 e9_0 e9_2 e9_3 i9_3 e9_4 i9_4 e9_5 i9_5 e9_7 i9_7 e9_8"
def ql(c:String)(n j:Nat)(l:List Syntax):List Syntax:=
 let x:=c++toString n++"_"++toString (n-j)
 if (us.splitOn " ").contains x then [qr x l] else []
def it(l:List Syntax):Syntax:=T "intro" [a "intro",L l]
def ty(x:Syntax):Syntax:=T "tacticTry_" [a "try",qs [x]]
def cl(x:Syntax):Syntax:=ty (T "clear" [a "clear",L [x]])
def sw(x:Syntax):Syntax:=T "show" [a "show",x]
def ho:Syntax:=M "hole" [a "_"]
def pt(j m:Nat):Syntax:=Nat.repeat (λt=>ap (id "Exists") [M "fun" [a "fun",M "basicFun" [L [ho],L [],a "=>",t]]]) j (Nat.repeat (λt=>ap (id "And") [ho,t]) (m-1) ho)
def mm(o:Option Syntax):MacroM Syntax:=o.elim Macro.throwUnsupported pure
def f1(x:Syntax):Option Syntax:=if x[3].getNumArgs>0||x[1][0].getNumArgs>0 then none else some (qp (mp (λr=>qz [qr (if r[0].getNumArgs==0 then "rwm" else "rwn") [ap r[1] [M "ellipsis" [a ".."]],qh],T "rewriteSeq" [a "rewrite",x[1],T "rwRuleSeq" [a "[",L [r],a "]"],x[3]]]) (ar x[2][1])++[ty (T "withReducible" [a "with_reducible",qs [T "tacticRfl" [a "rfl"]]])]))
def ob(r z:Syntax):Syntax:=T "obtain" [a "obtain",L [r],L [],L [a ":=",L [z]]]
def ot(r:Syntax):Syntax:=
 let y:=r[0][0][0]
 if r[1].getNumArgs==0&&r[0][0].getNumArgs==1&&y.getKind== `Lean.Parser.Tactic.rcasesPat.one&&y[0].getId != `rfl then it [y[0]] else qp [it [id "ζ"],ob r[0] (id "ζ")]
def f2(x:Syntax):Option Syntax:=
 let p:=x[1][0][0]
 let q:=ar p[0][1]
 let n:=q.length
 let t:=x[3][1][0]
 if p.getNumArgs != 1||x[2].getNumArgs != 0||n<2 then none else
 let k:=min n 9
 some (qp (qz (fm (λj=>ql "e" k (j+1) [t,qh]) k)::(if t.isIdent then [cl t] else [])++mp ot (if n<10 then q else q.take 8)++(if n<10 then [] else [qp [it [id "ζ"],ob (x[1][0].setArg 0 (p.setArg 0 (p[0].setArg 1 (sp "," (q.drop 8))))) (id "ζ")]])))
def f3(x:Syntax):Option Syntax:=
 let l:=ar x[1][1]
 let n:=l.length
 if !(is "anonymousCtor" x[1]||x[1].getKind== `«term#[_,]»)||n<2 then none else
 some (qp [sw (ap (id "Exists") [ho]),qz (fm (λi=>
  let k:=9-i
  let b:=l.take (k-1)
  if k==n||2<k&&k<n&&!b.any λs=>(s.find? (is "syntheticHole")).isSome then fm (λj=>mp (λs=>qp (sw (pt (k-j-1) (j+1))::s::(if k==n then [] else [x.setArg 1 (x[1].setArg 1 (sp "," (l.drop (k-1))))]))) (ql "i" k (j+1) (if k==n then l else b++[qh]))) (k-1) else []) 8)])
def f4(x:Syntax):Option Syntax:=
 let y:=x[1][0][1]
 let z:=id "ζ"
 let w:=id "ξ"
 let c (z:Syntax):Syntax:=x.setArg 1 (x[1].setArg 0 (x[1][0].setArg 1 z))
 let g (f:String) (v l:List Syntax):Syntax:=qp (qr f [y,qh]::cl y::it v::l)
 if !y.isIdent||x[1].getNumArgs != 1||x[1][0][0].getNumArgs+x[2].getNumArgs+x[3].getNumArgs != 0 then none else
 some (qz [g "x8" [z] [T "subst" [a "subst",L [z]]],qr "x0" [y],qr "x1" [y],g "x2" [z] [c z],g "x3" [z,w] [c z,c w],qr "x4" [y],qr "x5" [y]])
def dt(s:String):Syntax:=M "dotIdent" [a ".",id s]
def pa:Nat->Syntax->Syntax:=Nat.rec (λs=>s) λ_ f s=>T "rcasesPatMed" [L [if s.getKind== `«term#[_,]» then R "tuple" [a "⟨",sp "," (mp (λr=>T "rcasesPatLo" [f r,L []]) (ar s[1])),a "⟩"] else if is "hole" s then R "ignore" [s] else R "one" [s]]]
end Aq
open Lean in
local macro_rules (kind:=Lean.Parser.Tactic.show)
 |x=>Aq.mm (some (Aq.qz [Aq.T "exact" [Aq.a "exact",x[1]],Aq.re (Aq.M "typeAscription" [Aq.M "hygienicLParen" [Aq.a "(",.node .none `hygieneInfo (.mk [mkIdent .anonymous])],Aq.qh,Aq.a ":",Aq.L [x[1]],Aq.a ")"])]))
open Lean in
local macro_rules (kind:=Lean.Parser.Tactic.rwSeq)
 |x=>Aq.mm (Aq.f1 x)
open Lean in
local macro_rules (kind:=Lean.Parser.Tactic.obtain)
 |x=>Aq.mm (Aq.f2 x)
open Lean in
local macro_rules (kind:=Lean.Parser.Tactic.refine)
 |x=>Aq.mm (Aq.f3 x)
open Lean in
local macro_rules (kind:=Lean.Parser.Tactic.cases)
 |x=>Aq.mm (Aq.f4 x)
open Lean in
local macro_rules (kind:=Lean.Parser.Tactic.apply)
 |x=>Aq.mm (some (Aq.re x[1]))
open Lean in
local macro_rules (kind:=«term%[_|_]»)
 |x=>Aq.mm (if x[3].isNatLit? == some 0 then some ((Aq.ar x[1]).foldr (λe r=>Aq.ap (Aq.dt "cons") [e,r]) (Aq.dt "nil")) else none)
open Lean in
local macro_rules (kind:=Lean.Parser.Tactic.tacticHave__)
 |x=>
  let d:=x[2][0]
  let b:=d[0].getKind== `«term#[_,]»
  Aq.mm (if b||d[0][0].getId== `rfl then some (Aq.T "obtain" [Aq.a "obtain",Aq.L [Aq.pa 9 (if b then d[0] else d[0][0])],Aq.L d[2][0].getArgs.toList,Aq.L [Aq.a ":=",Aq.L [d[4]]]]) else none)
open Lean in
local macro_rules (kind:=Vector.«term#v[_,]»)
 |x=>Aq.mm (some (Aq.ap (mkIdent `List.toArray) [.node .none `«term[_]» (.mk [Aq.a "[",x[1],Aq.a "]"])]))
open Lean in
def Ar.st(x:Syntax):Syntax:=
 let y:=x.rewriteBottomUp λs=>match s with
 |.node _ k a=>.node .none k a
 |.atom _ v=>.atom .none v
 |.ident _ r v p=>.ident .none r v p
 |s=>s
 let d:=y[1]
 let f:=d.getKind== `Lean.Parser.Command.definition
 let a:=d.getKind== `Lean.Parser.Command.abbrev
 let m k l:=((y.setArg 0 ((y[0].setArg 2 mkNullNode).setArg 4 (mkNullNode (.mk [mkNode `Lean.Parser.Command.noncomputable (.mk [mkAtom "noncomputable"])])))).setArg 1 (mkNode k (.mk ([d[0],d[1],d[2],d[3]]++l))))
 if y[0][1].getNumArgs+y[0][4].getNumArgs != 0 then y
 else if f&&d[2][1].getNumArgs != 0&&!(d[2][0].getNumArgs==0&&[`N,`E,`P].contains d[2][1][0][1].getId) then y.setArg 1 (mkNode `Lean.Parser.Command.theorem (.mk [d[0],d[1],mkNode `Lean.Parser.Command.declSig (.mk [d[2][0],d[2][1][0]]),d[3]]))
 else if f||a&&y[0][2].getNumArgs != 0 then m `Lean.Parser.Command.abbrev []
 else if a then m `Lean.Parser.Command.definition [mkNullNode] else y
open Lean in
local macro_rules (kind:=Lean.Parser.Command.declaration)
 |x=>if x.getPos?.isNone||x[1][1][0].getId.getRoot==`PySem then Macro.throwUnsupported else return Ar.st x
open Lean in
local macro_rules (kind:=«term#[_,]»)
 |x=>return mkNode `Lean.Parser.Term.anonymousCtor #[mkAtom "⟨",x[1],mkAtom "⟩"]
def QqV:=PySem.Value->PySem.Shared->Prop
set_option bootstrap.genMatcherCode false
namespace Mine.Z
abbrev aa:=@Nat.sub_add_cancel
abbrev ae:=@PySem.wpAny_bind
abbrev af:=@PySem.wpAny_pure
abbrev ah:=@Option.some.inj
abbrev ak:=@List.length_map
abbrev aq:=@List.mem_singleton
abbrev au:=@Nat.lt_or_gt_of_ne
abbrev av:=@PySem.Heap.get?_push_of_some
abbrev aw:=@if_neg
abbrev ay:=@of_decide_eq_true
abbrev az:=@Nat.le_refl
abbrev ba:=@Nat.le_of_ble_eq_true
abbrev bc:=@List.getElem?_eq_some_iff
abbrev bh:=@Nat.zero_le
abbrev bq:=@List.getElem?_eq_getElem
abbrev br:=@if_pos
abbrev bt:=@Option.isSome_iff_exists
abbrev bw:=@List.mem_cons
abbrev bx:=@congrArg
abbrev cf:=@PySem.Heap.get?_push_size
abbrev cg:=@PySem.wpAny_mono
abbrev cj:=@List.getElem?_map
abbrev cm:=@PySem.wpAny_holding
abbrev cq:=@List.mem_map
abbrev cu:=@List.map_append
abbrev cv:=@List.size_toArray
abbrev cw:=@List.mem_of_getElem?
abbrev cy:=@List.mem_append
abbrev dg:=@List.append_nil
abbrev dh:=@PySem.builtinLookup_eq_fast
abbrev di:=@decide_eq_true
abbrev dk:=@decide_eq_false
abbrev dq:=@List.mem_append_left
abbrev dw:=@Bool.and_eq_true
abbrev ee:=@List.length_singleton
abbrev eh:=@Bool.false_eq_true
abbrev ew:=@List.mem_append_right
abbrev fb:=@PySem.wpAny_of_eq
abbrev fc:=@Option.bind_eq_some_iff
abbrev fh:=@Bool.not_eq_true'
abbrev fj:=@PySem.typeLookup_type
abbrev fp:=@Nat.lt_irrefl
abbrev fs:=@Option.some.injEq
abbrev fu:=@Nat.not_lt_zero
abbrev fx:=@PySem.wpAny_call_entry
abbrev gc:=@List.length_take
abbrev gf:=@Classical.not_and_iff_not_or_not
abbrev gh:=@Array.length_toList
abbrev gj:=@PySem.wpAny_standAt
abbrev gm:=@Option.map_eq_some_iff
abbrev gn:=@Nat.ne_of_lt
abbrev gp:=@Nat.le_trans
abbrev gq:=@Nat.add_assoc
abbrev gr:=@PySem.Heap.size_push
abbrev gu:=@PySem.Heap.SameBut.update
abbrev gv:=@PySem.Heap.lt_size
abbrev gy:=@congrFun
abbrev gz:=@Nat.lt_of_lt_of_le
abbrev ib:=@List.pairwise_cons
abbrev ip:=@Nat.le_of_not_lt
abbrev iq:=@Nat.lt_succ_self
abbrev ir:=@List.length_drop
abbrev iw:=@List.mem_iff_getElem
abbrev ix:=@Array.getElem?_eq_getElem
abbrev iz:=@Nat.lt_or_eq_of_le
abbrev ja:=@List.all_eq_true
abbrev jf:=@List.length_replicate
abbrev jh:=@PySem.isSubtype_type
abbrev ji:=@List.append_assoc
abbrev jj:=@Int.toNat_natCast
abbrev jt:=@PySem.wpAny_newObj_type
abbrev ju:=@List.map_cons
abbrev jx:=@PySem.wpAny_callSpecial?_slot
abbrev jz:=@decide_eq_decide
abbrev kc:=@PySem.Obj.data_mapFields
abbrev ke:=@List.getElem?_append_left
abbrev kh:=@if_false
abbrev kl:=@PySem.Heap.get?_update_self
abbrev km:=@List.length_cons
abbrev kr:=@List.take_succ_eq_append_getElem
abbrev kx:=@List.getElem?_eq_none_iff
abbrev ky:=@List.drop_eq_getElem_cons
abbrev lg:=@List.getElem?_eq_none
abbrev lh:=@PySem.Heap.get?_update_other
abbrev ll:=@Nat.le_add_right
abbrev lq:=@List.not_mem_nil
abbrev lr:=@List.getElem_mem
abbrev mh:=@Nat.le_of_lt
abbrev mj:=@PySem.wpAny_execs_cons
abbrev mr:=@List.exists_cons_of_length_eq_add_one
abbrev nh:=@PySem.Heap.get?_none_of_le
abbrev nk:=@Nat.zero_add
abbrev nr:=@Prod.mk.injEq
abbrev nt:=@List.lookup_cons
abbrev oe:=@Nat.lt_of_le_of_lt
abbrev og:=@List.forIn_nil
abbrev oh:=@Int.lt_or_gt_of_ne
abbrev oj:=@Array.getElem?_eq_some_iff
abbrev oq:=@List.length_filter_le
abbrev pg:=@Classical.byContradiction
abbrev ph:=@beq_false_of_ne
abbrev pj:=@List.forIn_cons
abbrev qc:=@PySem.wpAny_seqItems
abbrev qd:=@PySem.wpAny_call
abbrev qe:=@PySem.F.slot_tuple_iterator_next
abbrev qg:=@Nat.le_of_lt_succ
abbrev qi:=@List.map_map
abbrev rf:=@PySem.wpAny_truthy_bool
abbrev rg:=@PySem.wpAny_loadPart_at
abbrev rh:=@decide_eq_false_iff_not
abbrev rj:=@beq_self_eq_true
abbrev rk:=@List.take_length
abbrev rl:=@List.lookup_eq_none_iff
abbrev rn:=@List.filter_cons_of_pos
abbrev rv:=@Prod.mk.inj
abbrev sd:=@Nat.not_lt
abbrev sf:=@List.filter_append
abbrev sg:=@Bool.false_ne_true
abbrev su:=@PySem.wpAny_setField
abbrev sv:=@List.nil_append
abbrev sy:=@Bool.or_eq_true
abbrev tq:=@List.length_range
abbrev uf:=@PySem.codeAny_of_tree
abbrev ug:=@List.getElem?_append_right
abbrev uh:=@PySem.Heap.Ns.of_isNs
abbrev uj:=@PySem.Obj.isFreed_of_fields
abbrev uk:=@Nat.succ.inj
abbrev um:=@List.isEmpty_iff
abbrev uo:=@Int.zero_add
abbrev uv:=@Option.isNone_iff_eq_none
abbrev vi:=@beq_eq_false_iff_ne
abbrev vm:=@List.length_reverse
abbrev wd:=@PySem.wpAny_rule
abbrev we:=@Bool.or_false
abbrev wg:=@Int.emod_nonneg
abbrev wo:=@PySem.wpAny_askSetting
abbrev wq:=@beq_iff_eq
abbrev wt:=@Option.isSome_none
abbrev wu:=@Nat.sub_le
abbrev xd:=@Int.natCast_nonneg
abbrev xf:=@Int.emod_lt_of_pos
abbrev xg:=@List.pairwise_singleton
abbrev xt:=@PySem.wpAny_setEntries_of
abbrev yh:=@PySem.wpAny_attempt
abbrev yi:=@not_or
abbrev yj:=@if_true
abbrev yk:=@decide_eq_true_eq
abbrev yl:=@bne_self_eq_false
abbrev ym:=@Nat.lt_succ_of_lt
abbrev yn:=@Nat.le_succ_of_le
abbrev yo:=@List.reverse_cons
abbrev yp:=@List.drop_zero
abbrev yq:=@Classical.not_not
abbrev yr:=@PySem.codeAny_builtin
abbrev yu:=@PySem.wpAny_load
abbrev zg:=@Nat.sub_eq_zero_of_le
abbrev zh:=@List.take_append_drop
abbrev zt:=@Nat.succ_ne_zero
abbrev zu:=@Bool.not_true
abbrev dU:=@PySem.wpAny_setState_of
abbrev dW:=@PySem.wpAny_pyIter_slot
abbrev f9:=@List.filterMap_cons
abbrev fF:=@PySem.entryFor_of_tree
abbrev fG:=@Int.le_of_eq
abbrev gA:=@le_of_le_of_eq
abbrev gB:=@PySem.codeAny_call_builtin
abbrev gC:=@PyProof.Rows.callWith_type
abbrev gD:=@Option.none_or
abbrev gE:=@Nat.sub_right_comm
abbrev gF:=@Nat.pos_of_ne_zero
abbrev gG:=@Nat.not_le
abbrev gH:=@Nat.eq_zero_or_pos
abbrev gI:=@List.mem_range
abbrev gJ:=@List.length_eraseIdx_of_lt
abbrev gK:=@Int.fmod_eq_emod_of_nonneg
abbrev gL:=@Int.fdiv_eq_ediv_of_nonneg
abbrev gM:=@Array.perm_iff_toList_perm
abbrev gN:=@PySem.Around.under_plainId
abbrev iG:=@PySem.wpAny_specialOf
abbrev iH:=@PySem.wpAny_execs_nil
abbrev iI:=@List.pairwise_iff_getElem
abbrev j4:=@Ne.symm
abbrev j5:=@List.getElem_take
abbrev j6:=@List.flatten_cons
abbrev j7:=@List.flatMap_cons
abbrev jX:=@PySem.wpAny_typeOf
abbrev jY:=@PySem.F.slot_list_append
abbrev lJ:=@PySem.wpAny_loadPart
abbrev lK:=@PySem.evalPart_none_step
abbrev lL:=@PySem.entryFor_alias
abbrev lM:=@PySem.F.plainAttrs_dict
abbrev lN:=@Nat.succ_le_succ
abbrev lO:=@List.length_eq_zero_iff
abbrev lP:=@List.flatten_nil
abbrev lQ:=@List.filter_cons_of_neg
abbrev lR:=@List.filter_cons
abbrev lS:=@PySem.Code.quiet_builtin
abbrev mP:=@Nat.lt_of_succ_lt_succ
abbrev mQ:=@List.pairwise_lt_range
abbrev nB:=@PySem.wpAny_field
abbrev nC:=@PySem.slot_list_getitem
abbrev nD:=@PySem.getMethod_builtin
abbrev nE:=@PySem.Obj.cls_mapFields
abbrev nF:=@List.mem_filter
abbrev nG:=@PySem.Calls.spliced_nil
abbrev nR:=@PySem.signature?_of
abbrev qZ:=@PySem.wpAny_isInstance
abbrev rA:=@List.pairwise_append
abbrev rB:=@Bool.and_eq_true_iff
abbrev tO:=@List.ne_and_not_mem_of_not_mem_cons
abbrev vT:=@PySem.F.args_tuple_iterator_next_1
abbrev vU:=@PySem.F.entry_tuple_iterator_next
end Mine.Z
open Mine.Z
section
namespace Ar
set_option genSizeOf false
set_option genInjectivity false
inductive N where
 |v (i:Nat)
 |n (k:Nat)
 |a (x y:N)
 |m (k:Nat) (x:N)
 |r (x:N) (k:Nat)
inductive E where
 |v (i:Nat)
 |n (k:Int)
 |a (x y:E)
 |s (x y:E)
 |m (k:Int) (x:E)
 |r (x:E) (k:Int)
 |g (x:E)
 |t (x:N)
set_option genCtorIdx true in
inductive R where
 |lt|le|eq|ge|gt|ne
inductive P where
 |i (r:R) (x y:E)
 |n (r:R) (x y:N)
 |ff
structure Q where
 r:R
 x:E
 y:E
public abbrev hd (d:α):List α->α
 | []=>d
 |x::_=>x
public abbrev tl:List α->List α
 | []=>[]
 |_::l=>l
public abbrev nth (d:α):Nat->List α->α
 |0=>hd d
 |i+1=>λl=>nth d i (tl l)
public abbrev N.d (k:List Nat):N->Nat
 |.v i=>nth 0 i k
 |.n c=>c
 |.a x y=>x.d k+y.d k
 |.m c x=>c*x.d k
 |.r x c=>x.d k*c
public abbrev E.d (c:List Int)(k:List Nat):E->Int
 |.v i=>nth 0 i c
 |.n j=>j
 |.a x y=>x.d c k+y.d c k
 |.s x y=>x.d c k-y.d c k
 |.m i x=>i*x.d c k
 |.r x i=>x.d c k*i
 |.g x=>- x.d c k
 |.t x=>(x.d k:Int)
public abbrev R.i (a b:Int):R->Prop
 |.lt=>a<b
 |.le=>a<=b
 |.eq=>a=b
 |.ge=>¬a<b
 |.gt=>¬a<=b
 |.ne=>¬a=b
public abbrev R.n (a b:Nat):R->Prop
 |.lt=>a<b
 |.le=>a<=b
 |.eq=>a=b
 |.ge=>¬a<b
 |.gt=>¬a<=b
 |.ne=>¬a=b
public abbrev P.h (c:List Int)(k:List Nat):P->Prop
 |.i r x y=>r.i (x.d c k) (y.d c k)
 |.n r x y=>r.n (x.d k) (y.d k)
 |.ff=>False
def R.n_i {a b:Nat}:(r:R)->r.n a b->r.i (a:Int) (b:Int)
 |.lt=>Int.ofNat_lt.mpr
 |.le=>Int.ofNat_le.mpr
 |.eq=>λh=>bx _ h
 |.ge=>λh e=>h (Int.ofNat_lt.mp e)
 |.gt=>λh e=>h (Int.ofNat_le.mp e)
 |.ne=>λh e=>h (Int.ofNat.inj e)
def R.i_n {a b:Nat}:(r:R)->r.i (a:Int) (b:Int)->r.n a b
 |.lt=>Int.ofNat_lt.mp
 |.le=>Int.ofNat_le.mp
 |.eq=>λh=>Int.ofNat.inj h
 |.ge=>λh e=>h (Int.ofNat_lt.mpr e)
 |.gt=>λh e=>h (Int.ofNat_le.mpr e)
 |.ne=>λh e=>h (bx _ e)
def ad {a b c d:Int}(h:a=c)(e:b=d):a+b=c+d:=h▸e▸rfl
def sb {a b c d:Int}(h:a=c)(e:b=d):a-b=c-d:=h▸e▸rfl
def aac (a b c d:Int):a+b+(c+d)=a+c+(b+d):=by omega
def XH {a b:Int}(h:a<0)(e:b<=0):a+b<0:=Int.add_neg_of_neg_of_nonpos h e
def ltd {a b:Int}(h:a<b):0<=b-a+-1:=by omega
abbrev S:List Int->(Nat->Int)->Int
 | []=>λ_=>0
 |y::l=>λf=>f 0*y+S l λj=>f (j+1)
abbrev dl (i j:Nat):Int:=bif Nat.beq i j then 1 else 0
def KV:(l:List Int)->(f g:Nat->Int)->S l (λj=>f j+g j)=S l f+S l g
 | [],_,_=>rfl
 |y::l,f,g=>(ad (Int.add_mul (f 0) (g 0) y) (KV l (λj=>f (j+1)) λj=>g (j+1))).trans (aac _ _ _ _)
def KU (i:Int):(l:List Int)->(f:Nat->Int)->S l (λj=>i*f j)=i*S l f
 | [],_=>(Int.mul_zero i).symm
 |y::l,f=>(ad (Int.mul_assoc i (f 0) y) (KU i l λj=>f (j+1))).trans (Int.mul_add ..).symm
def mO:(l:List Int)->S l (λ_=>0)=0
 | []=>rfl
 |y::l=>(ad (Int.zero_mul y) (mO l)).trans (uo 0)
def CM:(i:Nat)->(l:List Int)->S l (dl i)=nth 0 i l
 |0,[]=>rfl
 |0,y::l=>(ad (Int.one_mul y) (mO l)).trans (Int.add_zero y)
 |i+1,[]=>CM i []
 |i+1,y::l=>(ad (Int.zero_mul y) (CM i l)).trans (uo _)
abbrev up:List Nat->List Int
 | []=>[]
 |x::l=>(x:Int)::up l
def zD:(i:Nat)->(l:List Nat)->nth 0 i (up l)=(nth 0 i l:Nat)
 |0,[]=>rfl
 |0,_::_=>rfl
 |i+1,[]=>zD i []
 |i+1,_::l=>zD i l
structure L where
 k:Int
 c:Nat->Int
 n:Nat->Int
abbrev L.d (c k:List Int)(l:L):Int:=l.k+(S c l.c+S k l.n)
abbrev L.add (l m:L):L:=#[l.k+m.k,λj=>l.c j+m.c j,λj=>l.n j+m.n j]
abbrev L.scl (i:Int)(l:L):L:=#[i*l.k,λj=>i*l.c j,λj=>i*l.n j]
abbrev L.num (i:Int):L:=#[i,λ_=>0,λ_=>0]
def L.y0 {c k:List Int}(l m:L):(l.add m).d c k=l.d c k+m.d c k:=
 (bx (l.k+m.k+·) ((ad (KV ..) (KV ..)).trans (aac _ _ _ _))).trans (aac _ _ _ _)
def L.q8 {c k:List Int}(i:Int)(l:L):(l.scl i).d c k=i*l.d c k:=
 (bx (i*l.k+·) ((ad (KU ..) (KU ..)).trans (Int.mul_add ..).symm)).trans (Int.mul_add ..).symm
def L.xZ {c k:List Int}(i:Int):(L.num i).d c k=i:=
 (bx (i+·) ((ad (mO c) (mO k)).trans (uo 0))).trans (Int.add_zero i)
abbrev N.l:N->L
 |.v i=>#[0,λ_=>0,dl i]
 |.n c=>.num c
 |.a x y=>x.l.add y.l
 |.m c x=>x.l.scl c
 |.r x c=>x.l.scl c
abbrev E.l:E->L
 |.v i=>#[0,dl i,λ_=>0]
 |.n j=>.num j
 |.a x y=>x.l.add y.l
 |.s x y=>x.l.add (y.l.scl (-1))
 |.m i x=>x.l.scl i
 |.r x i=>x.l.scl i
 |.g x=>x.l.scl (-1)
 |.t x=>x.l
def N.l_d {c:List Int}{k:List Nat}:(x:N)->x.l.d c (up k)=(x.d k:Nat)
 |.v i=>(uo _).trans ((ad (mO c) ((CM i (up k)).trans (zD i k))).trans (uo _))
 |.n i=>L.xZ (i:Int)
 |.a x y=>(L.y0 x.l y.l).trans ((ad (N.l_d x) (N.l_d y)))
 |.m i x=>(L.q8 i x.l).trans ((bx ((i:Int)*·) (N.l_d x)))
 |.r x i=>(L.q8 i x.l).trans ((bx ((i:Int)*·) (N.l_d x)).trans (Int.mul_comm ..))
def rV {c k:List Int}(x y:L):(x.add (y.scl (-1))).d c k=x.d c k-y.d c k:=
 (L.y0 ..).trans (bx (x.d c k+·) ((L.q8 ..).trans (Int.neg_one_mul _)))
def E.l_d {c:List Int}{k:List Nat}:(x:E)->x.l.d c (up k)=x.d c k
 |.v i=>(uo _).trans ((ad (CM i c) (mO (up k))).trans (Int.add_zero _))
 |.n i=>L.xZ i
 |.a x y=>(L.y0 x.l y.l).trans ((ad (E.l_d x) (E.l_d y)))
 |.s x y=>(rV x.l y.l).trans ((sb (E.l_d x) (E.l_d y)))
 |.m i x=>(L.q8 i x.l).trans ((bx (i*·) (E.l_d x)))
 |.r x i=>(L.q8 i x.l).trans ((bx (i*·) (E.l_d x)).trans (Int.mul_comm ..))
 |.g x=>(L.q8 (-1) x.l).trans ((Int.neg_one_mul _).trans (bx (- ·) (E.l_d x)))
 |.t x=>N.l_d x
abbrev R.l (x y:L):R->L
 |.lt=>(y.add (x.scl (-1))).add (.num (-1))
 |.le=>y.add (x.scl (-1))
 |.eq=>y.add (x.scl (-1))
 |.ge=>x.add (y.scl (-1))
 |.gt=>(x.add (y.scl (-1))).add (.num (-1))
 |.ne=>.num 0
def less {c k:List Int}{x y:L}(h:x.d c k<y.d c k):0<=((y.add (x.scl (-1))).add (.num (-1))).d c k:=
 gA (ltd h) ((L.y0 ..).trans (ad (rV y x) (L.xZ (-1)))).symm
def R.l_d {c k:List Int}{x y:L}:(r:R)->r.i (x.d c k) (y.d c k)->0<=(r.l x y).d c k
 |.lt=>λh=>less h
 |.le=>λh=>gA (Int.sub_nonneg_of_le h) (rV y x).symm
 |.eq=>λh=>gA (Int.sub_nonneg_of_le (fG h)) (rV y x).symm
 |.ge=>λh=>gA (Int.sub_nonneg_of_le (Int.not_lt.mp h)) (rV x y).symm
 |.gt=>λh=>less (Int.not_le.mp h)
 |.ne=>λ_=>fG (L.xZ 0).symm
def R.XS {a b a' b':Int}(r:R)(Y:a=a')(Z:b=b')(h:r.i a' b'):r.i a b:=by subst Y Z;show h
abbrev Q.h (c:List Int)(k:List Nat)(q:Q):Prop:=q.r.i (q.x.d c k) (q.y.d c k)
abbrev Q.l (q:Q):L:=q.r.l q.x.l q.y.l
def Q.l_d {c:List Int}{k:List Nat}{q:Q}(h:q.h c k):0<=q.l.d c (up k):=
 R.l_d q.r (R.XS q.r (E.l_d q.x) (E.l_d q.y) h)
abbrev R.e:R->Bool
 |.eq=>true
 |_=>false
def R.e_d {a b:Int}:(r:R)->r.e=true->r.i a b->r=.eq/\a=b
 |.eq=>λ_ h=>#[rfl,h]
 |.lt=>λe=>Bool.noConfusion e
 |.le=>λe=>Bool.noConfusion e
 |.ge=>λe=>Bool.noConfusion e
 |.gt=>λe=>Bool.noConfusion e
 |.ne=>λe=>Bool.noConfusion e
def Q.e_d {c:List Int}{k:List Nat}{q:Q}(e:q.r.e=true)(h:q.h c k):q.l.d c (up k)=0:=by
 have#[r,x,y]:=q;have#[rfl,h]:=R.e_d r e h;show(rV y.l x.l).trans ((sb (E.l_d y) (E.l_d x)).trans (Int.sub_eq_zero_of_eq h.symm))
abbrev P.q:P->Q
 |.i r x y=>#[r,x,y]
 |.n r x y=>#[r,.t x,.t y]
 |.ff=>#[.ne,.n 0,.n 0]
def P.to {c:List Int}{k:List Nat}:{p:P}->p.h c k->p.q.h c k
 |.i _ _ _=>id
 |.n r _ _=>R.n_i r
 |.ff=>False.elim
def P.of {c:List Int}{k:List Nat}:(p:P)->p.q.h c k->p.h c k
 |.i _ _ _=>id
 |.n r _ _=>R.i_n r
 |.ff=>λh=>h rfl
abbrev sum:List Q->List Int->L
 | []=>λ_=>.num 0
 |q::qs=>λms=>(q.l.scl (ms.headD 0)).add (sum qs ms.tail)
abbrev good:List Q->List Int->Bool
 | []=>λ_=>true
 |q::qs=>λms=>(q.r.e||decide (0<=ms.headD 0))&&good qs ms.tail
abbrev All (c:List Int)(k:List Nat):List Q->Prop
 | []=>True
 |q::qs=>q.h c k/\All c k qs
def band {a b:Bool}:(a&&b)=true->a=true/\b=true:=(dw a b).mp
def PK {c:List Int}{k:List Nat}:(qs:List Q)->(Z:List Int)->good qs Z=true->All c k qs->0<=(sum qs Z).d c (up k)
 | []=>λ_ _ _=>fG (L.xZ 0).symm
 |q::qs=>λZ Y h=>gA
   (Int.add_nonneg (((sy ..).mp (band Y).1).elim
    (λe=>fG ((bx (Z.headD 0*·) (Q.e_d e h.1)).trans (Int.mul_zero _)).symm)
    (λe=>Int.mul_nonneg (ay e) (Q.l_d h.1))) (PK qs Z.tail (band Y).2 h.2))
   ((L.y0 ..).trans (ad (L.q8 ..) rfl)).symm
abbrev zero:List Int->(Nat->Int)->Bool
 | []=>λ_=>true
 |_::l=>λf=>decide (f 0=0)&&zero l λj=>f (j+1)
abbrev RP:List Nat->(Nat->Int)->Bool
 | []=>λ_=>true
 |_::l=>λf=>decide (f 0<=0)&&RP l λj=>f (j+1)
def FN:(l:List Int)->(f:Nat->Int)->zero l f=true->S l f=0
 | []=>λ_ _=>rfl
 |y::l=>λf h=>(ad ((bx (·*y) (ay (band h).1)).trans (Int.zero_mul y)) (FN l _ (band h).2)).trans (uo 0)
def I9:(l:List Nat)->(f:Nat->Int)->RP l f=true->S (up l) f<=0
 | []=>λ_ _=>Int.le_refl _
 |y::l=>λf h=>Int.add_le_add (Int.mul_nonpos_of_nonpos_of_nonneg (ay (band h).1) (xd y)) (I9 l _ (band h).2)
abbrev ok (c:List Int)(k:List Nat)(qs:List Q)(ms:List Int):Bool:=
 good qs ms&&(decide ((sum qs ms).k<0)&&(zero c (sum qs ms).c&&RP k (sum qs ms).n))
def XC {c:List Int}{k:List Nat}{qs:List Q}{Z:List Int}(h:ok c k qs Z=true)(W:All c k qs):False:=
 have X:=band (band h).2;have Y:=band X.2
 Int.not_lt.mpr (PK qs Z (band h).1 W) (XH (ay X.1) (Int.le_trans (fG ((ad (FN c _ Y.1) rfl).trans (uo _))) (I9 k _ Y.2)))
abbrev R.RT:R->List R
 |.lt=>[.ge]
 |.le=>[.gt]
 |.eq=>[.lt,.gt]
 |.ge=>[.lt]
 |.gt=>[.le]
 |.ne=>[.eq]
def R.neg {a b:Int}:(r:R)->(∀s,s∈r.RT->¬s.i a b)->r.i a b
 |.lt=>λh=>Decidable.not_not.mp (h .ge (.head _))
 |.le=>λh=>Decidable.not_not.mp (h .gt (.head _))
 |.eq=>λh=>Int.le_antisymm (Decidable.not_not.mp (h .gt (.tail _ (.head _)))) (Int.not_lt.mp (h .lt (.head _)))
 |.ge=>λh=>h .lt (.head _)
 |.gt=>λh=>h .le (.head _)
 |.ne=>λh=>h .eq (.head _)
abbrev oks (c:List Int)(k:List Nat)(x y:E)(qs:List Q):List R->List (List Int)->Bool
 | []=>λ_=>true
 |r::rs=>λms=>ok c k (#[r,x,y]::qs) (ms.headD [])&&oks c k x y qs rs ms.tail
def PR {c:List Int}{k:List Nat}{x y:E}{qs:List Q}(X:All c k qs):(Y:List R)->(Z:List (List Int))->oks c k x y qs Y Z=true->∀s,s∈Y->¬s.i (x.d c k) (y.d c k)
 |_,_,h,_,.head _=>λW=>XC (band h).1 #[W,X]
 |_,Z,h,s,.tail _ m=>PR X _ Z.tail (band h).2 s m
abbrev chk (c:List Int)(k:List Nat)(g:P)(ps:List P)(ms:List (List Int)):Bool:=
 oks c k g.q.x g.q.y (ps.map P.q) g.q.r.RT ms
def main {c:List Int}{k:List Nat}{g:P}(ps:List P){Z:List (List Int)}(h:chk c k g ps Z=true)(Y:All c k (ps.map P.q)):g.h c k:=
 P.of g (R.neg g.q.r (PR Y g.q.r.RT Z h))
def M:=List (List Int)
def a0 (c:List Int)(k:List Nat)(g:P)(Z:M)(Y:chk c k g [] Z=true:=by show Ar.y):g.h c k:=main [] Y trivial
def a1 (c:List Int)(k:List Nat)(g:P)(Y:M)(Z:P)(W:Z.h c k)(X:chk c k g [Z] Y=true:=by show Ar.y):g.h c k:=main [Z] X #[P.to W,trivial]
def a2 (c:List Int)(k:List Nat)(g:P)(X:M)(Y Z:P)(T:Y.h c k)(U:Z.h c k)(W:chk c k g [Y,Z] X=true:=by show Ar.y):g.h c k:=main [Y,Z] W #[P.to T,P.to U,trivial]
def a3 (c:List Int)(k:List Nat)(g:P)(W:M)(X Y Z:P)(K:X.h c k)(O:Y.h c k)(T:Z.h c k)(U:chk c k g [X,Y,Z] W=true:=by show Ar.y):g.h c k:=main [X,Y,Z] U #[P.to K,P.to O,P.to T,trivial]
def a4 (c:List Int)(k:List Nat)(g:P)(U:M)(W X Y Z:P)(I:W.h c k)(J:X.h c k)(K:Y.h c k)(O:Z.h c k)(T:chk c k g [W,X,Y,Z] U=true:=by show Ar.y):g.h c k:=main [W,X,Y,Z] T #[P.to I,P.to J,P.to K,P.to O,trivial]
def a5 (c:List Int)(k:List Nat)(g:P)(T:M)(U W X Y Z:P)(G:U.h c k)(H:W.h c k)(I:X.h c k)(J:Y.h c k)(K:Z.h c k)(O:chk c k g [U,W,X,Y,Z] T=true:=by show Ar.y):g.h c k:=main [U,W,X,Y,Z] O #[P.to G,P.to H,P.to I,P.to J,P.to K,trivial]
def a6 (c:List Int)(k:List Nat)(g:P)(O:M)(T U W X Y Z:P)(C:T.h c k)(D:U.h c k)(G:W.h c k)(H:X.h c k)(I:Y.h c k)(J:Z.h c k)(K:chk c k g [T,U,W,X,Y,Z] O=true:=by show Ar.y):g.h c k:=main [T,U,W,X,Y,Z] K #[P.to C,P.to D,P.to G,P.to H,P.to I,P.to J,trivial]
def a7 (c:List Int)(k:List Nat)(g:P)(K:M)(O T U W X Y Z:P)(A:O.h c k)(B:T.h c k)(C:U.h c k)(D:W.h c k)(G:X.h c k)(H:Y.h c k)(I:Z.h c k)(J:chk c k g [O,T,U,W,X,Y,Z] K=true:=by show Ar.y):g.h c k:=main [O,T,U,W,X,Y,Z] J #[P.to A,P.to B,P.to C,P.to D,P.to G,P.to H,P.to I,trivial]
def a8 (c:List Int)(k:List Nat)(g:P)(J:M)(K O T U W X Y Z:P)(x:K.h c k)(z:O.h c k)(A:T.h c k)(B:U.h c k)(C:W.h c k)(D:X.h c k)(G:Y.h c k)(H:Z.h c k)(I:chk c k g [K,O,T,U,W,X,Y,Z] J=true:=by show Ar.y):g.h c k:=main [K,O,T,U,W,X,Y,Z] I #[P.to x,P.to z,P.to A,P.to B,P.to C,P.to D,P.to G,P.to H,trivial]
def y:true=true:=rfl
def N.A:N:=.v 0
def E.A:E:=.v 0
def N.B:N:=.v 1
def E.B:E:=.v 1
def N.C:N:=.v 2
def E.C:E:=.v 2
def N.D:N:=.v 3
def E.D:E:=.v 3
def N.F:N:=.v 4
def N.G:N:=.v 5
def N.H:N:=.v 6
def N.I:N:=.v 7
def N.J:N:=.v 8
def N.K:N:=.v 9
def N.O:N:=.n 0
def E.O:E:=.n 0
def N.U:N:=.n 1
def E.U:E:=.n 1
def N.W:N:=.n 2
def E.W:E:=.n 2
public abbrev P.l (x y:N):P:=.n .lt x y
public abbrev P.il (x y:E):P:=.i .lt x y
public abbrev P.k (x y:N):P:=.n .le x y
public abbrev P.ik (x y:E):P:=.i .le x y
public abbrev P.e (x y:N):P:=.n .eq x y
public abbrev P.ie (x y:E):P:=.i .eq x y
public abbrev P.g (x y:N):P:=.n .ge x y
public abbrev P.ig (x y:E):P:=.i .ge x y
public abbrev P.j (x y:N):P:=.n .gt x y
public abbrev P.ij (x y:E):P:=.i .gt x y
public abbrev P.u (x y:N):P:=.n .ne x y
public abbrev P.iu (x y:E):P:=.i .ne x y
public abbrev E.ng (k:Int):E:=.n (-k)
def GB (x y:Nat):x<=x-y+y:=Nat.sub_le_iff_le_add.mp (az _)
def imp {a b:Prop}(h:a->b):¬a\/b:=(Classical.em a).elim (λx=>.inr (h x)) .inl
def zm (x k:Nat)(h:0<k):x%k<k/\k*(x/k)+x%k=x:=#[Nat.mod_lt x h,Nat.div_add_mod x k]
def imod (x k:Int)(h:0<k):0<=x%k/\x%k<k/\k*(x/k)+x%k=x:=#[wg x (Int.ne_of_gt h),xf x h,Int.mul_ediv_add_emod x k]
def nv (x y:Nat):min x y<=x/\min x y<=y/\(x<=min x y\/y<=min x y):=#[Nat.min_le_left x y,Nat.min_le_right x y,(Nat.le_total x y).imp (λh=>Nat.le_min.mpr #[az x,h]) λh=>Nat.le_min.mpr #[h,az y]]
def RQ (x y:Nat):x<=max x y/\y<=max x y/\(max x y<=x\/max x y<=y):=#[Nat.le_max_left x y,Nat.le_max_right x y,(Nat.le_total y x).imp (λh=>Nat.max_le.mpr #[az x,h]) λh=>Nat.max_le.mpr #[h,az y]]
def ton (x:Int):(0<=x/\(x.toNat:Int)=x)\/(x<=0/\x.toNat=0):=
 (Int.le_total 0 x).elim (λh=>.inl #[h,Int.toNat_of_nonneg h]) λh=>.inr #[h,Int.toNat_of_nonpos h]
def nab (x:Int):(0<=x/\(x.natAbs:Int)=x)\/(x<=0/\(x.natAbs:Int)=-x):=
 (Int.le_total 0 x).elim (λh=>.inl #[h,Int.natAbs_of_nonneg h]) λh=>.inr #[h,Int.ofNat_natAbs_of_nonpos h]
def sub {p:Prop}(x y:Nat)(Y:y<=x->x-y+y=x->p)(Z:x<=y->x-y=0->p):p:=
 (Nat.le_total y x).elim (λh=>Y h (aa h)) λh=>Z h (zg h)
@[elab_as_elim] theorem rwm {Z:Sort u}{a b:Z}{p:Z->Prop}(h:a=b)(q:p b):p a:=Eq.rec (motive:=λx _=>p x) q h.symm
@[elab_as_elim] theorem rwn {Z:Sort u}{a b:Z}{p:Z->Prop}(h:b=a)(q:p b):p a:=Eq.rec (motive:=λx _=>p x) q h
def x0 {Z:Type u}{x:Z}{p:Prop}(h:none=some x):p:=Option.noConfusion rfl (heq_of_eq h)
def x1 {Z:Type u}{x:Z}{p:Prop}(h:some x=none):p:=x0 h.symm
def x2 {Z:Type u}{x y:Z}{p:Prop}(h:some x=some y)(k:x=y->p):p:=k (ah h)
def x3 {Y:Type u}{Z:Type v}{a b:Y}{c d:Z}{p:Prop}(h:(a,c)=(b,d))(k:a=b->c=d->p):p:=k (bx Prod.fst h) (bx Prod.snd h)
def x4 {p:Prop}(h:false=true):p:=Bool.noConfusion h
def x5 {p:Prop}(h:true=false):p:=Bool.noConfusion h
def x8 {Z:Type u}{a b:Z}{p:Prop}(h:a=b)(k:a=b->p):p:=k h
section
variable {r:Prop}
def e2_0 {p q:Prop}(h:p/\q)(k:p->q->r):r:=k h.1 h.2
def e2_1 {p:A->Prop}(h:∃a,p a)(k:∀a,p a->r):r:=h.elim λa g=>k a g
def i2_1 {p:A->Prop}(a:A)(h:p a):∃a,p a:=#[a,h]
def e3_0 {p q s:Prop}(h:p/\q/\s)(k:p->q->s->r):r:=k h.1 h.2.1 h.2.2
def e3_1 {p q:A->Prop}(h:∃a,p a/\q a)(k:∀a,p a->q a->r):r:=h.elim λa g=>k a g.1 g.2
def i3_1 {p q:A->Prop}(a:A)(h:p a)(i:q a):∃a,p a/\q a:=#[a,h,i]
def e3_2 {p:A->B->Prop}(h:∃a b,p a b)(k:∀a b,p a b->r):r:=h.elim λa g=>g.elim λb g=>k a b g
def i3_2 {p:A->B->Prop}(a:A)(b:B)(h:p a b):∃a b,p a b:=#[a,b,h]
def e4_0 {p q s t:Prop}(h:p/\q/\s/\t)(k:p->q->s->t->r):r:=k h.1 h.2.1 h.2.2.1 h.2.2.2
def e4_1 {p q s:A->Prop}(h:∃a,p a/\q a/\s a)(k:∀a,p a->q a->s a->r):r:=h.elim λa g=>k a g.1 g.2.1 g.2.2
def i4_1 {p q s:A->Prop}(a:A)(h:p a)(i:q a)(j:s a):∃a,p a/\q a/\s a:=#[a,h,i,j]
def e4_2 {p q:A->B->Prop}(h:∃a b,p a b/\q a b)(k:∀a b,p a b->q a b->r):r:=h.elim λa g=>g.elim λb g=>k a b g.1 g.2
def i4_2 {p q:A->B->Prop}(a:A)(b:B)(h:p a b)(i:q a b):∃a b,p a b/\q a b:=#[a,b,h,i]
def e4_3 {p:A->B->C->Prop}(h:∃a b c,p a b c)(k:∀a b c,p a b c->r):r:=h.elim λa g=>g.elim λb g=>g.elim λc g=>k a b c g
def i4_3 {p:A->B->C->Prop}(a:A)(b:B)(c:C)(h:p a b c):∃a b c,p a b c:=#[a,b,c,h]
def e5_0 {p q s t u:Prop}(h:p/\q/\s/\t/\u)(k:p->q->s->t->u->r):r:=k h.1 h.2.1 h.2.2.1 h.2.2.2.1 h.2.2.2.2
def e5_1 {p q s t:A->Prop}(h:∃a,p a/\q a/\s a/\t a)(k:∀a,p a->q a->s a->t a->r):r:=h.elim λa g=>k a g.1 g.2.1 g.2.2.1 g.2.2.2
def i5_1 {p q s t:A->Prop}(a:A)(h:p a)(i:q a)(j:s a)(l:t a):∃a,p a/\q a/\s a/\t a:=#[a,h,i,j,l]
def e5_2 {p q s:A->B->Prop}(h:∃a b,p a b/\q a b/\s a b)(k:∀a b,p a b->q a b->s a b->r):r:=h.elim λa g=>g.elim λb g=>k a b g.1 g.2.1 g.2.2
def i5_2 {p q s:A->B->Prop}(a:A)(b:B)(h:p a b)(i:q a b)(j:s a b):∃a b,p a b/\q a b/\s a b:=#[a,b,h,i,j]
def e5_3 {p q:A->B->C->Prop}(h:∃a b c,p a b c/\q a b c)(k:∀a b c,p a b c->q a b c->r):r:=h.elim λa g=>g.elim λb g=>g.elim λc g=>k a b c g.1 g.2
def i5_3 {p q:A->B->C->Prop}(a:A)(b:B)(c:C)(h:p a b c)(i:q a b c):∃a b c,p a b c/\q a b c:=#[a,b,c,h,i]
def e5_4 {p:A->B->C->D->Prop}(h:∃a b c d,p a b c d)(k:∀a b c d,p a b c d->r):r:=h.elim λa g=>g.elim λb g=>g.elim λc g=>g.elim λd g=>k a b c d g
def i5_4 {p:A->B->C->D->Prop}(a:A)(b:B)(c:C)(d:D)(h:p a b c d):∃a b c d,p a b c d:=#[a,b,c,d,h]
def e6_1 {p q s t u:A->Prop}(h:∃a,p a/\q a/\s a/\t a/\u a)(k:∀a,p a->q a->s a->t a->u a->r):r:=h.elim λa g=>k a g.1 g.2.1 g.2.2.1 g.2.2.2.1 g.2.2.2.2
def e6_2 {p q s t:A->B->Prop}(h:∃a b,p a b/\q a b/\s a b/\t a b)(k:∀a b,p a b->q a b->s a b->t a b->r):r:=h.elim λa g=>g.elim λb g=>k a b g.1 g.2.1 g.2.2.1 g.2.2.2
def i6_2 {p q s t:A->B->Prop}(a:A)(b:B)(h:p a b)(i:q a b)(j:s a b)(l:t a b):∃a b,p a b/\q a b/\s a b/\t a b:=#[a,b,h,i,j,l]
def e6_3 {p q s:A->B->C->Prop}(h:∃a b c,p a b c/\q a b c/\s a b c)(k:∀a b c,p a b c->q a b c->s a b c->r):r:=h.elim λa g=>g.elim λb g=>g.elim λc g=>k a b c g.1 g.2.1 g.2.2
def i6_3 {p q s:A->B->C->Prop}(a:A)(b:B)(c:C)(h:p a b c)(i:q a b c)(j:s a b c):∃a b c,p a b c/\q a b c/\s a b c:=#[a,b,c,h,i,j]
def e6_4 {p q:A->B->C->D->Prop}(h:∃a b c d,p a b c d/\q a b c d)(k:∀a b c d,p a b c d->q a b c d->r):r:=h.elim λa g=>g.elim λb g=>g.elim λc g=>g.elim λd g=>k a b c d g.1 g.2
def i6_4 {p q:A->B->C->D->Prop}(a:A)(b:B)(c:C)(d:D)(h:p a b c d)(i:q a b c d):∃a b c d,p a b c d/\q a b c d:=#[a,b,c,d,h,i]
def e6_5 {p:A->B->C->D->F->Prop}(h:∃a b c d f,p a b c d f)(k:∀a b c d f,p a b c d f->r):r:=h.elim λa g=>g.elim λb g=>g.elim λc g=>g.elim λd g=>g.elim λf g=>k a b c d f g
def i6_5 {p:A->B->C->D->F->Prop}(a:A)(b:B)(c:C)(d:D)(f:F)(h:p a b c d f):∃a b c d f,p a b c d f:=#[a,b,c,d,f,h]
def e7_0 {p q s t u v w:Prop}(h:p/\q/\s/\t/\u/\v/\w)(k:p->q->s->t->u->v->w->r):r:=k h.1 h.2.1 h.2.2.1 h.2.2.2.1 h.2.2.2.2.1 h.2.2.2.2.2.1 h.2.2.2.2.2.2
def i7_1 {p q s t u v:A->Prop}(a:A)(h:p a)(i:q a)(j:s a)(l:t a)(m:u a)(n:v a):∃a,p a/\q a/\s a/\t a/\u a/\v a:=#[a,h,i,j,l,m,n]
def e7_2 {p q s t u:A->B->Prop}(h:∃a b,p a b/\q a b/\s a b/\t a b/\u a b)(k:∀a b,p a b->q a b->s a b->t a b->u a b->r):r:=h.elim λa g=>g.elim λb g=>k a b g.1 g.2.1 g.2.2.1 g.2.2.2.1 g.2.2.2.2
def i7_2 {p q s t u:A->B->Prop}(a:A)(b:B)(h:p a b)(i:q a b)(j:s a b)(l:t a b)(m:u a b):∃a b,p a b/\q a b/\s a b/\t a b/\u a b:=#[a,b,h,i,j,l,m]
def e7_3 {p q s t:A->B->C->Prop}(h:∃a b c,p a b c/\q a b c/\s a b c/\t a b c)(k:∀a b c,p a b c->q a b c->s a b c->t a b c->r):r:=h.elim λa g=>g.elim λb g=>g.elim λc g=>k a b c g.1 g.2.1 g.2.2.1 g.2.2.2
def i7_3 {p q s t:A->B->C->Prop}(a:A)(b:B)(c:C)(h:p a b c)(i:q a b c)(j:s a b c)(l:t a b c):∃a b c,p a b c/\q a b c/\s a b c/\t a b c:=#[a,b,c,h,i,j,l]
def e7_4 {p q s:A->B->C->D->Prop}(h:∃a b c d,p a b c d/\q a b c d/\s a b c d)(k:∀a b c d,p a b c d->q a b c d->s a b c d->r):r:=h.elim λa g=>g.elim λb g=>g.elim λc g=>g.elim λd g=>k a b c d g.1 g.2.1 g.2.2
def i7_4 {p q s:A->B->C->D->Prop}(a:A)(b:B)(c:C)(d:D)(h:p a b c d)(i:q a b c d)(j:s a b c d):∃a b c d,p a b c d/\q a b c d/\s a b c d:=#[a,b,c,d,h,i,j]
def e8_2 {p q s t u v:A->B->Prop}(h:∃a b,p a b/\q a b/\s a b/\t a b/\u a b/\v a b)(k:∀a b,p a b->q a b->s a b->t a b->u a b->v a b->r):r:=h.elim λa g=>g.elim λb g=>k a b g.1 g.2.1 g.2.2.1 g.2.2.2.1 g.2.2.2.2.1 g.2.2.2.2.2
def i8_2 {p q s t u v:A->B->Prop}(a:A)(b:B)(h:p a b)(i:q a b)(j:s a b)(l:t a b)(m:u a b)(n:v a b):∃a b,p a b/\q a b/\s a b/\t a b/\u a b/\v a b:=#[a,b,h,i,j,l,m,n]
def e8_3 {p q s t u:A->B->C->Prop}(h:∃a b c,p a b c/\q a b c/\s a b c/\t a b c/\u a b c)(k:∀a b c,p a b c->q a b c->s a b c->t a b c->u a b c->r):r:=h.elim λa g=>g.elim λb g=>g.elim λc g=>k a b c g.1 g.2.1 g.2.2.1 g.2.2.2.1 g.2.2.2.2
def i8_3 {p q s t u:A->B->C->Prop}(a:A)(b:B)(c:C)(h:p a b c)(i:q a b c)(j:s a b c)(l:t a b c)(m:u a b c):∃a b c,p a b c/\q a b c/\s a b c/\t a b c/\u a b c:=#[a,b,c,h,i,j,l,m]
def e8_4 {p q s t:A->B->C->D->Prop}(h:∃a b c d,p a b c d/\q a b c d/\s a b c d/\t a b c d)(k:∀a b c d,p a b c d->q a b c d->s a b c d->t a b c d->r):r:=h.elim λa g=>g.elim λb g=>g.elim λc g=>g.elim λd g=>k a b c d g.1 g.2.1 g.2.2.1 g.2.2.2
def i8_4 {p q s t:A->B->C->D->Prop}(a:A)(b:B)(c:C)(d:D)(h:p a b c d)(i:q a b c d)(j:s a b c d)(l:t a b c d):∃a b c d,p a b c d/\q a b c d/\s a b c d/\t a b c d:=#[a,b,c,d,h,i,j,l]
def e9_0 {p q s t u v w k J:Prop}(h:p/\q/\s/\t/\u/\v/\w/\k/\J)(k:p->q->s->t->u->v->w->k->J->r):r:=k h.1 h.2.1 h.2.2.1 h.2.2.2.1 h.2.2.2.2.1 h.2.2.2.2.2.1 h.2.2.2.2.2.2.1 h.2.2.2.2.2.2.2.1 h.2.2.2.2.2.2.2.2
def e9_2 {p q s t u v w:A->B->Prop}(h:∃a b,p a b/\q a b/\s a b/\t a b/\u a b/\v a b/\w a b)(k:∀a b,p a b->q a b->s a b->t a b->u a b->v a b->w a b->r):r:=h.elim λa g=>g.elim λb g=>k a b g.1 g.2.1 g.2.2.1 g.2.2.2.1 g.2.2.2.2.1 g.2.2.2.2.2.1 g.2.2.2.2.2.2
def e9_3 {p q s t u v:A->B->C->Prop}(h:∃a b c,p a b c/\q a b c/\s a b c/\t a b c/\u a b c/\v a b c)(k:∀a b c,p a b c->q a b c->s a b c->t a b c->u a b c->v a b c->r):r:=h.elim λa g=>g.elim λb g=>g.elim λc g=>k a b c g.1 g.2.1 g.2.2.1 g.2.2.2.1 g.2.2.2.2.1 g.2.2.2.2.2
def i9_3 {p q s t u v:A->B->C->Prop}(a:A)(b:B)(c:C)(h:p a b c)(i:q a b c)(j:s a b c)(l:t a b c)(m:u a b c)(n:v a b c):∃a b c,p a b c/\q a b c/\s a b c/\t a b c/\u a b c/\v a b c:=#[a,b,c,h,i,j,l,m,n]
def e9_4 {p q s t u:A->B->C->D->Prop}(h:∃a b c d,p a b c d/\q a b c d/\s a b c d/\t a b c d/\u a b c d)(k:∀a b c d,p a b c d->q a b c d->s a b c d->t a b c d->u a b c d->r):r:=h.elim λa g=>g.elim λb g=>g.elim λc g=>g.elim λd g=>k a b c d g.1 g.2.1 g.2.2.1 g.2.2.2.1 g.2.2.2.2
def i9_4 {p q s t u:A->B->C->D->Prop}(a:A)(b:B)(c:C)(d:D)(h:p a b c d)(i:q a b c d)(j:s a b c d)(l:t a b c d)(m:u a b c d):∃a b c d,p a b c d/\q a b c d/\s a b c d/\t a b c d/\u a b c d:=#[a,b,c,d,h,i,j,l,m]
def e9_5 {p q s t:A->B->C->D->F->Prop}(h:∃a b c d f,p a b c d f/\q a b c d f/\s a b c d f/\t a b c d f)(k:∀a b c d f,p a b c d f->q a b c d f->s a b c d f->t a b c d f->r):r:=h.elim λa g=>g.elim λb g=>g.elim λc g=>g.elim λd g=>g.elim λf g=>k a b c d f g.1 g.2.1 g.2.2.1 g.2.2.2
def i9_5 {p q s t:A->B->C->D->F->Prop}(a:A)(b:B)(c:C)(d:D)(f:F)(h:p a b c d f)(i:q a b c d f)(j:s a b c d f)(l:t a b c d f):∃a b c d f,p a b c d f/\q a b c d f/\s a b c d f/\t a b c d f:=#[a,b,c,d,f,h,i,j,l]
def e9_7 {p q:A->B->C->D->F->G->H->Prop}(h:∃a b c d f y z,p a b c d f y z/\q a b c d f y z)(k:∀a b c d f y z,p a b c d f y z->q a b c d f y z->r):r:=h.elim λa g=>g.elim λb g=>g.elim λc g=>g.elim λd g=>g.elim λf g=>g.elim λy g=>g.elim λz g=>k a b c d f y z g.1 g.2
def i9_7 {p q:A->B->C->D->F->G->H->Prop}(a:A)(b:B)(c:C)(d:D)(f:F)(y:G)(z:H)(h:p a b c d f y z)(i:q a b c d f y z):∃a b c d f y z,p a b c d f y z/\q a b c d f y z:=#[a,b,c,d,f,y,z,h,i]
def e9_8 {p:A->B->C->D->F->G->H->I->Prop}(h:∃a b c d f y z o,p a b c d f y z o)(k:∀a b c d f y z o,p a b c d f y z o->r):r:=h.elim λa g=>g.elim λb g=>g.elim λc g=>g.elim λd g=>g.elim λf g=>g.elim λy g=>g.elim λz g=>g.elim λo g=>k a b c d f y z o g
end
public abbrev M.j:M:=[[1]]
public abbrev M.a:M:=[[1,1]]
public abbrev M.r:M:=[[0,1]]
public abbrev M.x:M:=[[-1,1]]
public abbrev M.E:M:=[[1,-1]]
public abbrev M.b:M:=[[1,1,1]]
public abbrev M.c:M:=[[0,1,1]]
public abbrev M.n:M:=[[1],[1]]
public abbrev M.G:M:=[[1,2,1]]
public abbrev M.d:M:=[[1,1,-1]]
public abbrev M.z:M:=[[1,-1,1]]
public abbrev M.H:M:=[[0,-1,1]]
public abbrev M.h:M:=[[1,1,1,1]]
public abbrev M.o:M:=[[0,1,1,1]]
public abbrev M.k:M:=[[1,1,1,-1]]
public abbrev M.m:M:=[[1,1,-1,1]]
public abbrev M.p:M:=[[0,1],[0,1]]
public abbrev M.t:M:=[[1,0],[1,1]]
public abbrev M.y:M:=[[1,1,1,1,1]]
public abbrev M.e:M:=[[1,1],[1,-1]]
public abbrev M.f:M:=[[1,-1],[1,1]]
public abbrev M.A:M:=[[1,1,1,-1,1]]
public abbrev M.F:M:=[[1,1,1,1,1,1]]
public abbrev M.g:M:=[[0,1,1],[0,1,1]]
public abbrev M.i:M:=[[1,0,1],[1,1,0]]
public abbrev M.s:M:=[[1,1,0],[1,0,1]]
public abbrev M.u:M:=[[1,0,0],[1,1,1]]
def N.aT:N:=.n 4
def N.aZ:N:=.n 3
public abbrev M.l:M:=[[1,-1,1],[1,1,-1]]
def E.L:E:=.t .A
def E.P:E:=.t .B
def N.aL:N:=.n 200
def E.V:E:=.t .C
def N.b0:N:=.n 300
public abbrev M.q:M:=[[1,1,0,1],[1,0,1,0]]
public abbrev M.B:M:=[[1,0,0,0],[1,1,1,1]]
public abbrev M.C:M:=[[0,1,1,1],[0,1,1,1]]
public abbrev M.w:M:=[[1,1,0,-1],[1,0,1,0]]
def N.aP:N:=.n 400000
def N.Z:N:=.n 1000000
public abbrev M.v:M:=[[1,-1,1,-1],[1,1,-1,1]]
public abbrev M.I:M:=[[1,-1,1,1],[1,1,-1,-1]]
public abbrev M.J:M:=[[1,-1,-1,-1],[1,1,1,1]]
def E.M:E:=.n (2^63)
def E.Q:E:=.n (2^64)
public abbrev M.D:M:=[[1,-1,1,-1,1],[1,1,-1,1,-1]]
def P.A:P:=.k .A .B
def N.L:N:=.a .B .U
def N.M:N:=.a .A .B
def N.P:N:=.a .A .U
def P.B:P:=.l .A .B
def P.C:P:=.e .A .B
def N.Q:N:=.a .C .U
def N.R:N:=.a .B .C
def P.D:P:=.k .U .A
def N.S:N:=.a .C .D
def N.T:N:=.a .A .D
def P.G:P:=.e .A .O
def P.H:P:=.l .O .A
def P.I:P:=.k .A .C
def N.V:N:=.a .D .U
def N.X:N:=.a .A .C
def N.Y:N:=.a .F .U
def P.N:P:=.l .C .B
def P.O:P:=.l .A .C
def P.Q:P:=.k .C .B
def P.R:P:=.l .C .D
def P.S:P:=.l .B .A
def N.a0:N:=.a .D .F
def N.a1:N:=.a .C .B
def P.X:P:=.l .D .C
def P.Y:P:=.k .C .D
def P.Z:P:=.e .D .O
def N.a2:N:=.a .D .C
def P.a1:P:=.e .B .O
def N.a4:N:=.a .G .U
def N.a5:N:=.a .D .B
def N.a6:N:=.a .B .F
def P.aA:P:=.k .C .A
def N.a8:N:=.a .A .O
def P.aF:P:=.k .B .C
def P.aG:P:=.e .F .O
def P.aI:P:=.l .O .B
def N.aA:N:=.a .A .F
def P.aJ:P:=.l .B .C
def P.aK:P:=.e .C .O
def P.aQ:P:=.k .B .A
def P.aR:P:=.l .B .D
def N.aB:N:=.a .C .F
def P.aV:P:=.k .A .D
def N.aC:N:=.a .D .A
def N.aD:N:=.a .B .D
def P.b7:P:=.l .O .C
def P.b8:P:=.e .B .A
def P.b9:P:=.g .B .A
def N.aG:N:=.a .F .G
def P.bK:P:=.e .C .D
def P.bL:P:=.g .A .B
def N.aH:N:=.a .F .D
def P.bW:P:=.e .G .O
def P.bY:P:=.l .A .O
def N.aJ:N:=.a .B .A
def P.c0:P:=.e .B .D
def P.cB:P:=.l .D .F
def P.cC:P:=.l .O .D
def P.cI:P:=.k .B .U
def N.aM:N:=.a .A .W
def P.cK:P:=.k .D .F
def N.aN:N:=.a .A .G
def P.cL:P:=.k .D .B
def P.cP:P:=.l .U .A
def N.aS:N:=.a .O .B
def E.T:E:=.a .U .A
def N.aU:N:=.a .C .G
def P.cX:P:=.e .C .A
def P.cY:P:=.u .A .B
def N.aV:N:=.a .O .A
def P.cZ:P:=.e .B .C
def N.aW:N:=.a .G .H
def N.aY:N:=.a .F .B
def P.d0:P:=.e .H .O
def P.d1:P:=.j .B .A
def P.d2:P:=.e .D .C
def P.d3:P:=.l .C .O
def P.a4:P:=.ik .O .A
def P.a7:P:=.ie .A .B
def P.b0:P:=.il .A .B
def P.bD:P:=.ik .A .O
def P.bF:P:=.ig .A .B
def P.bQ:P:=.il .O .A
def P.bT:P:=.il .B .A
def P.cA:P:=.ie .C .D
def P.d7:P:=.ie .B .A
def P.c5:P:=.k (.n 6) .A
def P.aH:P:=.l .B (.n 64)
def P.aM:P:=.l .A (.n 64)
def P.cH:P:=.l (.n 13) .A
def P.c6:P:=.l .B (.n 100)
def P.T:P:=.l .A (.n 1000)
def P.aZ:P:=.ie .L .A
def P.cJ:P:=.l .A (.n 4000)
def P.aW:P:=.l .A .Z
def P.bH:P:=.k .A .Z
def P.W:P:=.l .A (.n (2^60))
def P.a8:P:=.l .A (.n (2^40))
def P.bA:P:=.k .A (.n 16777216)
def P.b3:P:=.il .A .M
def P.aP:P:=.k .A (.m 2 .B)
def P.bU:P:=.k .A (.m 2 .C)
def N.aQ:N:=.a (.m 2 .B) .U
def N.aR:N:=.a (.m 2 .C) .U
def P.F:P:=.k .P .B
def P.J:P:=.l .A .L
def P.K:P:=.k .M .C
def P.L:P:=.l .M .C
def P.U:P:=.k .A .L
def P.V:P:=.e .M .C
def P.a0:P:=.e (.a .C .A) .B
def P.a2:P:=.e .aJ .C
def P.a5:P:=.e .X .D
def N.a3:N:=.a .M .C
def P.aB:P:=.e .A .L
def N.a7:N:=.a .A .L
def N.a9:N:=.a .A .Q
def P.aS:P:=.k .U .P
def P.aX:P:=.e (.a .G .A) .C
def P.b1:P:=.k .A .R
def P.b2:P:=.e .A .R
def P.b5:P:=.e .T .C
def P.b6:P:=.e .S .B
def N.aF:N:=.a .B .Q
def P.bB:P:=.e .a1 .D
def P.bC:P:=.e .S .F
def P.bI:P:=.k .C .L
def P.bJ:P:=.e .R .D
def N.aI:N:=.a .M .U
def P.bM:P:=.k .U .M
def P.bN:P:=.e .R .F
def P.bP:P:=.e .P .B
def P.bX:P:=.e .L .D
def P.c1:P:=.e .T .F
def P.c8:P:=.k .a0 .C
def P.c9:P:=.e .a2 .B
def P.cD:P:=.e (.a .D .G) .F
def P.cM:P:=.e .a6 .G
def P.cN:P:=.e .Y .D
def P.cS:P:=.e .L .C
def P.cT:P:=.k .S .B
def E.S:E:=.a .A (.s .B .U)
def P.cU:P:=.l .P .C
def P.cV:P:=.l .P .B
def P.cW:P:=.e .P .C
def N.aX:N:=.a .A .R
def P.d4:P:=.e .a0 .G
def P.d5:P:=.e .aD .F
def P.d6:P:=.e .aC .F
def P.dA:P:=.e (.a .B .G) .F
def P.dC:P:=.k .A (.a .B .O)
def N.b1:N:=.a .A (.a .O .U)
def E.R:E:=.s .L .P
def P.bG:P:=.ie .L (.g .A)
def P.a9:P:=.ik (.g .M) .A
def P.a6:P:=.k .A (.m 2 (.n 61))
def P.b4:P:=.e .B (.a .A .aZ)
def P.M:P:=.k .a7 .C
def P.a3:P:=.k (.a .O .U) .P
def P.aC:P:=.k .P .L
def P.aD:P:=.k (.a .P .B) .C
def P.aL:P:=.e (.a .A .V) .F
def P.bV:P:=.e .Q .V
def P.bZ:P:=.k .M .S
def P.c3:P:=.e (.a .A (.a .B .O)) .C
def P.cQ:P:=.e .a9 .D
def P.cR:P:=.e .a8 .L
def P.d9:P:=.e (.a .A .Y) .C
def P.dB:P:=.k .A (.a .L .O)
def P.dF:P:=.e .A (.a .R .D)
def P.dG:P:=.k .A (.a .L .C)
def P.aT:P:=.ie (.a .A .B) (.a .A (.n 9))
def P.d8:P:=.e (.a (.m 2 .A) .D) .a1
def P.aN:P:=.e (.a .C (.a .O .U)) .L
def P.aY:P:=.e .M (.a .X .D)
def P.bS:P:=.e .a3 .T
def N.aK:N:=.a (.a (.a .S .F) .G) .H
def P.cF:P:=.e .M (.a .X .U)
def P.cG:P:=.k (.a .P .U) .L
def P.dD:P:=.k .P (.a .L .U)
def P.aU:P:=.ie (.s (.t .P) .U) .L
def P.c4:P:=.e (.a .C (.a .V .U)) .Y
def P.c7:P:=.e .a7 (.a .P .B)
def P.c2:P:=.l (.a (.a .A (.m 3 .L)) (.n 20)) .C
def P.bR:P:=.e (.a .M .Q) (.a .a7 .C)
end Ar
namespace Mine.Z
abbrev fy:=λ{k0 k1}=>@Ar.a2 [] [k0,k1]
abbrev fe:=λ{k0 k1 k2}=>@Ar.a2 [] [k0,k1,k2]
abbrev ax:=λ{k0 k1}=>@Ar.a1 [] [k0,k1]
abbrev mf:=λ{k0 k1 k2 k3}=>@Ar.a3 [] [k0,k1,k2,k3]
abbrev eQ:=λ{k0 k1 k2 k3}=>@Ar.a4 [] [k0,k1,k2,k3]
abbrev dp:=λ{k0}=>@Ar.a1 [] [k0]
abbrev tH:=λ{c0 k0}=>@Ar.a1 [c0] [k0]
abbrev KO:=λ{c0 k0}=>@Ar.a3 [c0] [k0]
abbrev QD:=λ{c0 k0 k1}=>@Ar.a3 [c0] [k0,k1]
abbrev Y1:=λ{k0 k1 k2}=>@Ar.a4 [] [k0,k1,k2]
abbrev jT:=λ{k0}=>@Ar.a2 [] [k0]
abbrev mq:=λ{c0}=>@Ar.a1 [c0] []
abbrev dj:=λ{k0 k1 k2 k3}=>@Ar.a2 [] [k0,k1,k2,k3]
abbrev wk:=λ{k0 k1 k2 k3 k4 k5}=>@Ar.a4 [] [k0,k1,k2,k3,k4,k5]
abbrev dt:=λ{k0 k1 k2}=>@Ar.a1 [] [k0,k1,k2]
abbrev pq:=λ{k0 k1 k2}=>@Ar.a3 [] [k0,k1,k2]
abbrev qK:=λ{c0}=>@Ar.a0 [c0] []
abbrev fE:=λ{k0 k1}=>@Ar.a0 [] [k0,k1]
abbrev jd:=λ{k0 k1 k2 k3 k4}=>@Ar.a3 [] [k0,k1,k2,k3,k4]
abbrev lE:=λ{k0 k1 k2 k3 k4 k5}=>@Ar.a5 [] [k0,k1,k2,k3,k4,k5]
abbrev yJ:=λ{k0 k1 k2 k3 k4}=>@Ar.a4 [] [k0,k1,k2,k3,k4]
abbrev FG:=λ{k0 k1 k2 k3 k4 k5 k6}=>@Ar.a4 [] [k0,k1,k2,k3,k4,k5,k6]
abbrev iy:=λ{k0}=>@Ar.a0 [] [k0]
abbrev pz:=λ{k0 k1 k2 k3}=>@Ar.a1 [] [k0,k1,k2,k3]
abbrev ui:=λ{k0 k1 k2 k3 k4 k5}=>@Ar.a3 [] [k0,k1,k2,k3,k4,k5]
abbrev OP:=λ{k0 k1 k2}=>@Ar.a0 [] [k0,k1,k2]
abbrev QB:=λ{c0 c1 k0 k1 k2}=>@Ar.a5 [c0,c1] [k0,k1,k2]
abbrev TA:=λ{k0 k1 k2 k3 k4 k5}=>@Ar.a6 [] [k0,k1,k2,k3,k4,k5]
abbrev iF:=@Ar.a0 [] []
abbrev FH:=λ{k0 k1 k2 k3 k4 k5}=>@Ar.a2 [] [k0,k1,k2,k3,k4,k5]
abbrev Y0:=λ{k0 k1 k2 k3 k4 k5 k6 k7 k8}=>@Ar.a4 [] [k0,k1,k2,k3,k4,k5,k6,k7,k8]
abbrev TC:=λ{k0 k1 k2 k3 k4 k5 k6 k7 k8}=>@Ar.a3 [] [k0,k1,k2,k3,k4,k5,k6,k7,k8]
abbrev OO:=λ{k0 k1 k2 k3 k4 k5 k6 k7}=>@Ar.a5 [] [k0,k1,k2,k3,k4,k5,k6,k7]
abbrev WC:=λ{k0 k1 k2 k3 k4 k5 k6 k7}=>@Ar.a3 [] [k0,k1,k2,k3,k4,k5,k6,k7]
abbrev dN:=λ{c0 c1}=>@Ar.a2 [c0,c1] []
abbrev QC:=λ{c0 c1 c2}=>@Ar.a4 [c0,c1,c2] []
abbrev WE:=λ{c0 c1 c2}=>@Ar.a1 [c0,c1,c2] []
abbrev TF:=λ{k0 k1}=>@Ar.a3 [] [k0,k1]
abbrev yH:=λ{k0 k1 k2 k3 k4 k5 k6}=>@Ar.a5 [] [k0,k1,k2,k3,k4,k5,k6]
abbrev yI:=λ{k0 k1 k2 k3 k4}=>@Ar.a5 [] [k0,k1,k2,k3,k4]
abbrev vg:=λ{k0 k1 k2 k3 k4}=>@Ar.a2 [] [k0,k1,k2,k3,k4]
abbrev T9:=λ{k0 k1 k2 k3 k4 k5 k6}=>@Ar.a6 [] [k0,k1,k2,k3,k4,k5,k6]
abbrev vK:=λ{k0 k1 k2 k3 k4}=>@Ar.a1 [] [k0,k1,k2,k3,k4]
abbrev Y2:=λ{k0 k1 k2 k3 k4 k5 k6}=>@Ar.a1 [] [k0,k1,k2,k3,k4,k5,k6]
abbrev WG:=@Ar.a1 [] []
abbrev XZ:=λ{k0 k1 k2 k3 k4 k5 k6 k7 k8 k9}=>@Ar.a6 [] [k0,k1,k2,k3,k4,k5,k6,k7,k8,k9]
abbrev XW:=λ{k0 k1 k2 k3 k4 k5 k6 k7 k8 k9 k10}=>@Ar.a7 [] [k0,k1,k2,k3,k4,k5,k6,k7,k8,k9,k10]
abbrev WD:=λ{k0 k1 k2 k3 k4 k5 k6}=>@Ar.a3 [] [k0,k1,k2,k3,k4,k5,k6]
abbrev uu:=λ{c0 k0}=>@Ar.a2 [c0] [k0]
abbrev WH:=λ{c0 c1 c2}=>@Ar.a0 [c0,c1,c2] []
abbrev ud:=λ{c0 c1}=>@Ar.a1 [c0,c1] []
abbrev QE:=λ{c0 c1 k0}=>@Ar.a3 [c0,c1] [k0]
abbrev KP:=λ{c0}=>@Ar.a2 [c0] []
abbrev lF:=λ{c0 c1 c2 c3}=>@Ar.a2 [c0,c1,c2,c3] []
abbrev tG:=λ{c0 c1 c2}=>@Ar.a2 [c0,c1,c2] []
abbrev XX:=λ{k0 k1 k2 k3 k4 k5 k6 k7}=>@Ar.a7 [] [k0,k1,k2,k3,k4,k5,k6,k7]
abbrev XU:=λ{k0 k1 k2 k3 k4 k5 k6 k7}=>@Ar.a8 [] [k0,k1,k2,k3,k4,k5,k6,k7]
abbrev XY:=λ{k0 k1 k2 k3 k4 k5 k6}=>@Ar.a7 [] [k0,k1,k2,k3,k4,k5,k6]
abbrev QF:=λ{c0 k0 k1}=>@Ar.a2 [c0] [k0,k1]
end Mine.Z
end
section
set_option tactic.hygienic true
set_option backward.match.sparseCases false
namespace MP
set_option genSizeOf false
set_option genInjectivity false
open PySem
structure EV where
 ks:List Expr
 s:Str
 k:Nat
 op:BoolOp
 g:List Comprehension×Scope
 b:Option Expr×Option Expr
 c:Const
abbrev vk (ks:List Expr):EV:=#[ks,"",0,.And,([],default),(none,none),.none]
abbrev v0:EV:=vk []
abbrev vw (x:Expr):EV:=Expr.casesOn (motive_1:=λ_=>EV) x
 (λop xs _=>#[xs,"",0,op,([],default),(none,none),.none])
 (λ_ _ _=>v0)
 (λl _ r _=>vk [l,r])
 (λ_ y _=>vk [y])
 (λ_ _ _ _=>v0)
 (λu y z _=>vk [u,y,z])
 (λ_ _ _=>v0)
 (λ_ _ _=>v0)
 (λy gs sc _=>#[[y],"",0,.And,(gs,sc),(none,none),.none])
 (λ_ _ _ _=>v0)
 (λ_ _ _ _ _=>v0)
 (λ_ _ _ _=>v0)
 (λ_ _=>v0)
 (λ_ _=>v0)
 (λ_ _=>v0)
 (λl _ r _=>vk (l::r))
 (λf xs _ _=>vk (f::xs))
 (λ_ _ _ _=>v0)
 (λ_ _=>v0)
 (λc k _=>#[[],"",k,.And,([],default),(none,none),c])
 (λy _ _=>vk [y])
 (λy z _=>vk [y,z])
 (λ_ _=>v0)
 (λy _=>#[[],y,0,.And,([],default),(none,none),.none])
 (λxs _=>vk xs)
 (λxs k _=>#[xs,"",k,.And,([],default),(none,none),.none])
 (λl h st _=>#[st.toList,"",0,.And,([],default),(l,h),.none])
abbrev kT (k:Nat)(x:Expr):Bool:=Nat.beq x.ctorIdx k
abbrev kids (x:Expr):List Expr:=(vw x).ks
abbrev kid (i:Nat)(x:Expr):Expr:=(kids x).getD i default
abbrev lj (x:Expr):Str:=(vw x).s
abbrev exK (x:Expr):Nat:=(vw x).k
abbrev C7 (x:Expr):Str:=match (vw x).c with
 |.str t=>t
 |_=>""
structure SV where
 es:List Expr
 b:List Stmt
 c:List Stmt
abbrev s0:SV:=#[[],[],[]]
abbrev sw (x:Stmt):SV:=Stmt.casesOn (motive_2:=λ_=>SV) x
 (λ_ _ _ _ _ _ _ _ _ _=>s0)
 (λ_ _ _ _ _ _ _ _ _ _=>s0)
 (λ_ _ _ b _ _ _ _ _ _ _=>#[[],b,[]])
 (λe _=>#[e.toList,[],[]])
 (λts _=>#[ts,[],[]])
 (λts e _=>#[e::ts,[],[]])
 (λ_ _ _ _ _ _ _=>s0)
 (λt _ e _=>#[[e,t],[],[]])
 (λ_ _ _ _ _=>s0)
 (λt e b _ _=>#[[e,t],b,[]])
 (λ_ _ _ _ _=>s0)
 (λe b _ _=>#[[e],b,[]])
 (λe b c _=>#[[e],b,c])
 (λ_ _ _=>s0)
 (λ_ _ _=>s0)
 (λ_ _ _=>s0)
 (λ_ _ _=>s0)
 (λ_ _ _ _ _=>s0)
 (λ_ _ _ _ _=>s0)
 (λ_ _ _=>s0)
 (λ_ _=>s0)
 (λ_ _ _ _=>s0)
 (λ_ _=>s0)
 (λ_ _=>s0)
 (λe _=>#[[e],[],[]])
 (λ_=>s0)
 (λ_=>s0)
 (λ_=>s0)
abbrev e8 (x:Stmt):List Expr:=(sw x).es
abbrev st0 (x:Stmt):Expr:=(e8 x).headD default
end MP
end
section
set_option backward.match.sparseCases false
open PySem PySem.W PyProof.Rows
set_option maxHeartbeats 0
namespace Mine
public abbrev pw:Program:=PySem.Challenge.pw_dm0056_10
public abbrev an:Option Value:=some (Value.ref 6)
public abbrev p0:Pos:=#[0,0,0,0]
public abbrev TB:String->Option Builtin:=PySem.W.Fast.tw14364793385576792824
def goT:=PySem.W.Fast.tw10295753902157049106
def U9:=PySem.W.Fast.tw10110043849684766642
public abbrev RR:Builtin:=PySem.W.Fast.tw4202317264376624991
public abbrev B0:List Frame:=[topFrame p0]
abbrev mG (x:Stmt):Str:=MP.C7 (MP.st0 ((MP.sw x).b.headD default))
abbrev XR (d:Str)(x:Stmt):Stmt:=.Expr (.Constant (.str d) (MP.exK (MP.st0 x)) (MP.st0 x).pos) x.pos
abbrev OB (d:Str):Stmt->Stmt
 |.ClassDef n b k bo dl tp sc ts bd sa pos=>.ClassDef n b k (bo.modify 0 (XR d)) dl tp sc ts bd sa pos
 |s=>s
abbrev Q6 (i:Nat)(d:Str)(p:Program):Program:={p with main:={p.main with body:=p.main.body.modify i (OB d)}}
abbrev Ds:{s:String // mG (pw.main.body.getD 5 default)=Str.ofString s}:=#[_,rfl]
abbrev Q5:{cs:List Char // String.ofList cs=Ds.1}:=#[_,rfl]
abbrev VX:Str:=#[(PySem.W.R.mapR Char.toNat Q5.1).toArray]
def OC:mG (pw.main.body.getD 5 default)=VX:=by
 rw[Ds.2,<- Q5.2,Fast.ofString_ofList,PySem.W.R.mapR_eq];rfl
abbrev pwF:Program:=Q6 5 VX pw
def RD:pwF=pw:=by
 have h:Q6 5 (mG (pw.main.body.getD 5 default)) pw=pw:=by kernel_rfl
 rw[OC]at h;show h
abbrev S0 (w:World)(os:OsState):Shared:=#[boot_heap w.params,#[[]],boot_drawn,boot_toks,os]
public abbrev bE:List Stmt:=behindTheImports pw
public abbrev bF:List Stmt:=behindTheImports pwF
def WA:bF=bE:=bx behindTheImports RD
public abbrev O6:Env:={scope:=pw.main.scope,locals:=mainNs,globals:=mainNs,cells:=[],code:=Value.ref 13,frame:=some 14}
public abbrev cE:Code:=Code.body bE O6
abbrev X0 (w:World)(os:OsState):Option (Shared×Thread):=topGo TB pw w 11 an 12 (S0 w os) (topStub pw)
abbrev ob (w:World)(os:OsState)(i:Nat):Obj:=((X0 w os).elim (S0 w os) (·.1)).heap.objs.toList.getD i default
abbrev T4 (w:World)(os:OsState):BT:=
 .node (ob w os 0)
  (.node (ob w os 1) (.node (ob w os 3) (.node (ob w os 7) .nil .nil) (.node (ob w os 11) .nil .nil)) (.node (ob w os 5) (.node (ob w os 9) .nil .nil) (.node (ob w os 13) .nil .nil)))
  (.node (ob w os 2) (.node (ob w os 4) (.node (ob w os 8) .nil .nil) (.node (ob w os 12) .nil .nil)) (.node (ob w os 6) (.node (ob w os 10) .nil .nil) (.node (ob w os 14) .nil .nil)))
abbrev S4 (w:World)(os:OsState):SharedT:={tree:=T4 w os,n:=15,life:={},gens:=#[[]],drawn:={},toks:=187,os:=os}
def pre:(λw os=>topGo TB pw w 11 an 12 (S0 w os) (topStub pw))=λw os=>some ((S4 w os).abs,#[denote TB cE,cE,p0,B0]):=by kernel_rfl
def blk:(λw os=>segRun TB pw w 11 an 1 1 (S4 w os).abs (blockOf bE O6 cE p0 B0))=λw os=>some (Flow.next,(S4 w os).abs,cE,p0):=by kernel_rfl
def fin:(λw c q s=>topRun TB pw w 11 an 2 s #[doneF .next,c,q,B0])=λw c q s=>some s:=by kernel_rfl
end Mine
end
section
set_option backward.match.sparseCases false
open PySem PySem.W PyProof.Rows
set_option maxHeartbeats 0
namespace Mine
abbrev C6 (as:Array Nat)(p:Nat->Bool)(start stop:Nat):Bool:=
 match Nat.beq start 0,Nat.beq stop as.size with
 |true,true=>PySem.W.R.anyR as.toList p
 |_,_=>Array.any as p start stop
def A0:@Array.any Nat=C6:=by
 funext as p start stop
 unfold C6;split
 ·rename_i Y Z;have U:=Nat.eq_of_beq_eq_true Y;have X:=Nat.eq_of_beq_eq_true Z;subst U X;rw[<- PySem.W.R.anyR_eq,Array.any_toList]
 ·rfl
abbrev th0:Thread:=piecesOf bF O6 cE p0 B0
abbrev XA (w:World)(os:OsState):Option (SharedT×Thread):=goT TB pw w 11 an 1 1966 (S4 w os) th0
abbrev sA (w:World)(os:OsState):SharedT:=(XA w os).elim (S4 w os) (·.1)
abbrev tA (w:World)(os:OsState):Thread:=(XA w os).elim th0 (·.2)
abbrev jS (t:Thread):Args:=match t.code with|.builtin _ a=>a|_=>{}
def atA:(λw os=>((XA w os).isSome,(tA w os).cur))=λw os=>(true,RR (jS (tA w os))):=by kernel_rfl
end Mine
end
section
set_option backward.match.sparseCases false
namespace MP
set_option genSizeOf false
open PySem
set_option genCtorIdx true in
inductive Key where
 |int (i:Int)
 |str (s:Str)
 deriving DecidableEq
variable {α:Type}{i:Addr}{j:Nat}{f:Addr->Prop}{vs:List V}
inductive V where
 |none
 |bool (b:Bool)
 |int (i:Int)
 |str (s:Str)
 |L (a:Addr)
 |dct (a:Addr)
 |set (a:Addr)
 |obj (a:Addr)
 |T (xs:List V)
 |mt (xs:List V)
 |iE (a:Addr)
 |jC (a:Addr)
 |clo (k:Nat) (cs:List V)
 |ro (ns:List Int)
abbrev V.pD:V->Option Key
 |.int i=>some (.int i)
 |.str s=>some (.str s)
 |_=>Option.none
abbrev Key.v:Key->V
 |.int i=>.int i
 |.str s=>.str s
structure St where
 L:Addr->Option (List V)
 D:Addr->Option (List (Key×V))
 S:Addr->Option (List Key)
 I:Addr->Option (Addr×(Nat->Option V))
 Z:Addr->Option Obj
def Fr:=Nat->Option V
abbrev upd {α:Type}(f:Nat->Option α)(i:Nat)(v:α):Nat->Option α:=λj=>if j=i then some v else f j
def bg (f:Nat->Option α)(i:Nat)(v:α):upd f i v i=some v:=by simp[upd]
def bz {f:Nat->Option α}{i:Nat}{v:α}(h:j≠i):upd f i v j=f j:=by simp[upd,h]
abbrev St.cz (σ:St)(a:Addr)(xs:List V):St:={σ with L:=upd σ.L a xs}
abbrev clr {α:Type}(f:Nat->Option α)(i:Nat):Nat->Option α:=λj=>if j=i then none else f j
def qB {f:Nat->Option α}{i:Nat}{v:α}(h:clr f i j=some v):j≠i/\f j=some v:=by
 unfold clr at h;by_cases q:j=i
 ·rw[br q]at h;cases h
 ·rw[aw q]at h;apply#[q,h]
def JU {f:Nat->Option α}{i:Nat}(h:j≠i):clr f i j=f j:=aw h
abbrev St.qu (σ:St)(a:Addr)(es:List (Key×V)):St:={σ with D:=upd σ.D a es,Z:=clr σ.Z a}
abbrev St.kG (σ:St)(a:Addr)(ks:List Key):St:={σ with S:=upd σ.S a ks,Z:=clr σ.Z a}
abbrev St.fJ (σ:St)(a:Addr)(o:Obj):St:={σ with Z:=upd σ.Z a o}
abbrev St.jv (σ:St)(a:Addr)(d:Addr)(f:Nat->Option V):St:={σ with I:=upd σ.I a (d,f)}
abbrev St.dom (σ:St)(b:Addr):Prop:=(σ.L b).isSome\/(σ.D b).isSome\/(σ.S b).isSome\/(σ.I b).isSome\/(σ.Z b).isSome\/∃a f,σ.I a=some (b,f)
set_option genInjectivity false
set_option genCtorIdx true in
inductive Bop where
 |add|sub|mul|fdiv|mod|pow
set_option genCtorIdx true in
inductive Cop where
 |eq|ne|lt|le|gt|ge|is|isNot|isIn|notIn
set_option genCtorIdx true in
inductive BM where
 |append
 |pop
 |insert|extend
 |sort
 |index|count|get|setdefault|add
set_option genCtorIdx true in
inductive BF where
 |len
 |set
 |maxL|sorted
inductive Tg where
 |v (x:Nat)
 |T (xs:List Nat)
mutual
inductive Ex where
 |none
 |bool (b:Bool)
 |int (i:Int)
 |str (s:Str)
 |l (x:Nat)
 |b (op:Bop) (a b:Ex)
 |neg (a:Ex)
 |not (a:Ex)
 |and (a b:Ex)
 |or (a b:Ex)
 |c (op:Cop) (a b:Ex)
 |I (c a b:Ex)
 |L (es:Exs)
 |T (es:Exs)
 |dct0
 |call (f:Nat) (es:Exs)
 |meth (e:Ex) (m:Nat) (es:Exs)
 |attr (e:Ex) (a:Nat)
 |g (e:Ex)
 |h (e:Ex)
 |bm (k:BM) (e:Ex) (es:Exs)
 |bf (k:BF) (es:Exs)
 |w (f:Nat) (es:Exs)
 |sub (e i:Ex)
 |slc (e lo hi:Ex)
 |rev (e:Ex)
 |K (fv:List (Nat×Nat)) (it:It) (t:Tg) (cs:Exs) (more:Gens)
 |n (es:Exs)
 |N (a b c:Ex)
 |M (e:Ex)
 |dead
inductive Exs where
 |nil
 |cons (e:Ex) (es:Exs)
inductive It where
 |rng1 (e:Ex)
 |rng2 (a b:Ex)
 |enum (e:Ex)
 |seq (e:Ex)
 |keys (e:Ex)
 |items (e:Ex)
inductive Gens where
 |elt (e:Ex)
 |cons (it:It) (t:Tg) (cs:Exs) (more:Gens)
end
inductive Tgt where
 |v (x:Nat)
 |attr (o:Ex) (a:Nat)
 |sub (o i:Ex)
 |T (xs:List Nat)
mutual
inductive Stm where
 |a (ts:List Tgt) (e:Ex)
 |aug (x:Nat) (op:Bop) (e:Ex)
 |delD (o i:Ex)
 |expr (e:Ex)
 |C (c:Ex) (t e:jw)
 |loop (c:Ex) (b:jw)
 |each (t:Tg) (it:It) (b:jw)
 |ret (e:Ex)
 |brk
 |cont
 |pass
 |dead
inductive jw where
 |nil
 |cons (s:Stm) (ss:jw)
end
set_option genCtorIdx true in
inductive Fl where
 |next|brk|cont
 |ret (v:V)
abbrev fU (σ:St):Nat->V->Option PyData
 |_,.none=>some .none
 |_,.bool b=>some (.bool b)
 |_,.int i=>some (.int i)
 |_,.str s=>if PyData.strOk s then some (.str s) else Option.none
 |n+1,.T xs=>(xs.mapM (fU σ n)).map .tuple
 |n+1,.L a=>(σ.L a).bind λxs=>(xs.mapM (fU σ n)).map .list
 |_,_=>Option.none
abbrev bp:Nat:=1000000
abbrev J3 (a b:Int):Prop:=a.natAbs<2^60\/b.natAbs<2^60
abbrev vInt:V->Option Int
 |.int i=>some i|_=>none
abbrev vStr:V->Option Str
 |.str i=>some i|_=>none
abbrev nH:V->Option Addr
 |.L i=>some i|_=>none
abbrev LG:V->Option Addr
 |.dct i=>some i|_=>none
abbrev QL:V->Option Addr
 |.obj i=>some i|_=>none
abbrev vRo:V->Option (List Int)
 |.ro i=>some i|_=>none
abbrev QJ:V->Option (List V)
 |.T i=>some i|_=>none
def iv {x:α}{p:Prop}(h:none=some x):p:=by cases h
def rp {v:V}{i:Int}(h:vInt v=some i):v=.int i:=by
 cases v<;>first|show bx _ (ah h)|show iv h
def gP {v:V}{i:Str}(h:vStr v=some i):v=.str i:=by
 cases v<;>first|show bx _ (ah h)|show iv h
def kA {v:V}(h:nH v=some i):v=.L i:=by
 cases v<;>first|show bx _ (ah h)|show iv h
def LD {v:V}(h:LG v=some i):v=.dct i:=by
 cases v<;>first|show bx _ (ah h)|show iv h
def AY {v:V}(h:QL v=some i):v=.obj i:=by
 cases v<;>first|show bx _ (ah h)|show iv h
def QK {v:V}{i:List Int}(h:vRo v=some i):v=.ro i:=by
 cases v<;>first|show bx _ (ah h)|show iv h
def LC {v:V}{i:List V}(h:QJ v=some i):v=.T i:=by
 cases v<;>first|show bx _ (ah h)|show iv h
abbrev kI (v:V)(f:Int->Prop):Prop:=match v with
 |.int i=>f i
 |_=>False
def xn {v:V}{f:Int->Prop}(h:kI v f):∃i,v=.int i/\f i:=by
 cases v<;>first|refine⟨_,rfl,h⟩|show False.elim h
abbrev fR (v:V)(f:Addr->Prop):Prop:=match v with
 |.L i=>f i
 |_=>False
def xk {v:V}(h:fR v f):∃i,v=.L i/\f i:=by
 cases v<;>first|refine⟨_,rfl,h⟩|show False.elim h
abbrev kJ (v:V)(f:Addr->Prop):Prop:=match v with
 |.dct i=>f i
 |_=>False
def yz {v:V}(h:kJ v f):∃i,v=.dct i/\f i:=by
 cases v<;>first|refine⟨_,rfl,h⟩|show False.elim h
abbrev onSet (v:V)(f:Addr->Prop):Prop:=match v with
 |.set i=>f i
 |_=>False
def BO {v:V}(h:onSet v f):∃i,v=.set i/\f i:=by
 cases v<;>first|refine⟨_,rfl,h⟩|show False.elim h
abbrev on0 (vs:List V)(p:Prop):Prop:=match vs with
 | []=>p
 |_::_=>False
abbrev on1 (vs:List V)(f:V->Prop):Prop:=match vs with
 | []=>False
 |v::r=>on0 r (f v)
abbrev on2 (vs:List V)(f:V->V->Prop):Prop:=match vs with
 | []=>False
 |v::r=>on1 r (f v)
abbrev on3 (vs:List V)(f:V->V->V->Prop):Prop:=match vs with
 | []=>False
 |v::r=>on2 r (f v)
def BP {p:Prop}(h:on0 vs p):vs=[]/\p:=by
 cases vs
 ·apply#[rfl,h]
 ·show False.elim h
def mW {f:V->Prop}(h:on1 vs f):∃v,vs=[v]/\f v:=by
 cases vs with
 |nil=>show False.elim h
 |cons v r=>have#[rfl,h]:=BP (p:=f v) h;apply#[v,rfl,h]
def sI {f:V->V->Prop}(h:on2 vs f):∃v u,vs=[v,u]/\f v u:=by
 cases vs with
 |nil=>show False.elim h
 |cons v r=>have#[u,rfl,h]:=mW (f:=f v) h;apply#[v,u,rfl,h]
def UW {f:V->V->V->Prop}(h:on3 vs f):∃v u z,vs=[v,u,z]/\f v u z:=by
 cases vs with
 |nil=>show False.elim h
 |cons v r=>have#[u,z,rfl,h]:=sI (f:=f v) h;apply#[v,u,z,rfl,h]
abbrev yO (op:Bop)(a b:Int)(σ:St)(Q:V->St->Prop):Prop:=match op with
 |.add=>Q (.int (a+b)) σ
 |.sub=>Q (.int (a-b)) σ
 |.mul=>J3 a b/\Q (.int (a*b)) σ
 |.fdiv=>b≠0/\b.natAbs<2^60/\Q (.int (a.fdiv b)) σ
 |.mod=>b≠0/\Q (.int (a.fmod b)) σ
 |.pow=>0<=b/\b<=1000/\a.natAbs<2^64/\Q (.int (a^b.toNat)) σ
abbrev itemsOf (a:V)(σ:St):Option (List V):=match nH a with
 |some l=>σ.L l
 |none=>(vRo a).map λns=>ns.map V.int
abbrev PH (a:V)(b:Addr)(σ:St)(Q:V->St->Prop):Prop:=∃xs ys,itemsOf a σ=some xs/\σ.L b=some ys/\xs.length+ys.length<=bp/\∀c,σ.L c=Option.none->Q (.L c) (σ.cz c (xs++ys))
abbrev PD (a:Addr)(n:Int)(σ:St)(Q:V->St->Prop):Prop:=∃xs,σ.L a=some xs/\xs.length*n.toNat<=bp/\n.natAbs<2^60/\∀c,σ.L c=Option.none->Q (.L c) (σ.cz c ((List.replicate n.toNat xs).flatten))
abbrev eU (op:Bop)(a b:V)(σ:St)(Q:V->St->Prop):Prop:=match vInt a,vInt b with
 |some i,some j=>yO op i j σ Q
 |none,some n=>match op,nH a with
  |.mul,some l=>PD l n σ Q
  |_,_=>False
 |none,none=>match op,nH b with
  |.add,some m=>PH a m σ Q
  |_,_=>False
 |_,_=>False
def w7 {op:Bop}{a b:V}{σ:St}{Q:V->St->Prop}(h:eU op a b σ Q):(∃i j,a=.int i/\b=.int j/\yO op i j σ Q)\/(op=.mul/\∃l n,a=.L l/\b=.int n/\PD l n σ Q)\/(op=.add/\∃m,b=.L m/\PH a m σ Q):=by
 unfold eU at h;cases W:vInt a with
 |some i =>
  cases Y:vInt b with
  |some j=>rw[W,Y]at h;show .inl #[i,j,rp W,rp Y,h]
  |none=>rw[W,Y]at h;show h.elim
 |none =>
  cases Y:vInt b with
  |some j =>
   rw[W,Y]at h;cases Z:nH a with
   |none=>rw[Z]at h;cases op<;>show h.elim
   |some l =>
    rw[Z]at h;cases op with
    |mul=>show .inr (.inl #[rfl,l,j,kA Z,rp Y,h])
    |_=>show h.elim
  |none =>
   rw[W,Y]at h;cases Z:nH b with
   |none=>rw[Z]at h;cases op<;>show h.elim
   |some m =>
    rw[Z]at h;cases op with
    |add=>show .inr (.inr #[rfl,m,kA Z,h])
    |_=>show h.elim
abbrev AV (a b:V)(σ:St)(K:Bool->Prop):Prop:=∃d e,fU σ 6 a=some d/\fU σ 6 b=some e/\K (PyData.eqv d e)
abbrev vX (a b:V)(σ:St)(K:Bool->Prop):Prop:=match vInt a with
 |some i=>match vInt b with
  |some j=>K (i==j)
  |none=>AV a b σ K
 |none=>match vStr a with
  |some x=>match vStr b with
   |some y=>K (x==y)
   |none=>AV a b σ K
  |none=>AV a b σ K
def o8 {a b:V}{σ:St}{K:Bool->Prop}(h:vX a b σ K):(∃i j,a=.int i/\b=.int j/\K (i==j))\/(∃x y,a=.str x/\b=.str y/\K (x==y))\/AV a b σ K:=by
 unfold vX at h;cases W:vInt a with
 |some i =>
  rw[W]at h;cases Z:vInt b with
  |some j=>rw[Z]at h;show .inl #[i,j,rp W,rp Z,h]
  |none=>rw[Z]at h;show .inr (.inr h)
 |none =>
  rw[W]at h;cases Y:vStr a with
  |none=>rw[Y]at h;show .inr (.inr h)
  |some x =>
   rw[Y]at h;cases Z:vStr b with
   |some y=>rw[Z]at h;show .inr (.inl #[x,y,gP Y,gP Z,h])
   |none=>rw[Z]at h;show .inr (.inr h)
abbrev isNone:V->Bool
 |.none=>true
 |_=>false
abbrev PG (b:Addr)(v:V)(σ:St)(K:Bool->Prop):Prop:=match v with
 |.L a=>(σ.L a).isSome/\(σ.L b).isSome/\K (a==b)
 |.none=>K false
 |_=>False
abbrev L4 (v w:V)(σ:St)(K:Bool->Prop):Prop:=match w with
 |.none=>K (isNone v)
 |.L b=>PG b v σ K
 |_=>False
abbrev L5 (a b:V)(σ:St)(K:Bool->Prop):Prop:=kI a λi=>fR b λl=>∃ns:List Int,σ.L l=some (ns.map V.int)/\K (ns.contains i)
abbrev X8 (op:Cop)(a b:Int)(K:Bool->Prop):Prop:=match op with
 |.lt=>K (decide (a<b))
 |.le=>K (decide (a<=b))
 |.gt=>K (decide (b<a))
 |.ge=>K (decide (b<=a))
 |_=>False
abbrev PE (op:Cop)(a b:V)(K:Bool->Prop):Prop:=kI a λi=>kI b λj=>X8 op i j K
abbrev iJ:Cop->V->V->St->(Bool->Prop)->Prop
 |.eq,a,b,σ,K=>vX a b σ K
 |.ne,a,b,σ,K=>vX a b σ λr=>K (!r)
 |.is,a,b,σ,K=>L4 a b σ K
 |.isNot,a,b,σ,K=>L4 a b σ λr=>K (!r)
 |.isIn,a,b,σ,K=>L5 a b σ K
 |.notIn,a,b,σ,K=>L5 a b σ λr=>K (!r)
 |op,a,b,σ,K=>PE op a b K
abbrev tc:V->St->(Bool->Prop)->Prop
 |.none,_,K=>K false
 |.bool b,_,K=>K b
 |.int i,_,K=>K (i != 0)
 |.str s,_,K=>s.cps.size<=bp/\K (s.cps.size != 0)
 |.L a,σ,K=>∃xs,σ.L a=some xs/\K (!xs.isEmpty)
 |.ro ns,_,K=>ns.length<=bp/\K (!ns.isEmpty)
 |.clo _ _,_,K=>K true
 |_,_,_=>False
abbrev gk (n:Nat)(i:Int):Int:=if i<0 then i+n else i
abbrev fq (n:Nat)(i:Int):Nat:=min n (gk n i).toNat
abbrev rR (a b:V)(σ:St)(K:V->Prop):Prop:=match a with
 |.L a=>kI b λi=>∃xs v,σ.L a=some xs/\0<=gk xs.length i/\xs[(gk xs.length i).toNat]?=some v/\K v
 |.ro ns=>kI b λi=>∃n,ns.length<=bp/\0<=gk ns.length i/\ns[(gk ns.length i).toNat]?=some n/\K (.int n)
 |.T xs=>kI b λi=>∃v,i.natAbs<2^60/\0<=gk xs.length i/\xs[(gk xs.length i).toNat]?=some v/\K v
 |.dct a=>∃es kk v,σ.D a=some es/\b.pD=some kk/\es.lookup kk=some v/\K v
 |_=>False
abbrev kQ (d:Nat):V->Option Int
 |.none=>some d
 |.int i=>some i
 |_=>Option.none
abbrev AS (a lo hi:V)(σ:St)(Q:V->St->Prop):Prop:=match a with
 |.L a=>∃xs i j,σ.L a=some xs/\kQ 0 lo=some i/\kQ xs.length hi=some j/\i.natAbs<2^60/\j.natAbs<2^60 /\
   ∀c,σ.L c=Option.none->Q (.L c) (σ.cz c ((xs.take (fq xs.length j)).drop (fq xs.length i)))
 |.ro ns=>∃i j,ns.length<=bp/\kQ 0 lo=some i/\kQ ns.length hi=some j/\i.natAbs<2^60/\j.natAbs<2^60 /\
   ∀c,σ.L c=Option.none->Q (.L c) (σ.cz c (((ns.take (fq ns.length j)).drop (fq ns.length i)).map V.int))
 |_=>False
abbrev TV (v:V)(σ:St)(Q:V->St->Prop):Prop:=fR v λa=>∃xs,σ.L a=some xs/\∀c,σ.L c=Option.none->Q (.L c) (σ.cz c xs.reverse)
abbrev putD (es:List (Key×V))(k:Key)(v:V):List (Key×V):=
 if es.any (λe=>e.1==k) then es.map (λe=>if e.1=k then (k,v) else e) else es++[(k,v)]
abbrev delD (es:List (Key×V))(k:Key):List (Key×V):=es.filter λe=>e.1 != k
abbrev ru:List Int->List Int->Bool
 |a::as,b::bs=>if a=b then ru as bs else decide (a<b)
 |_,_=>false
abbrev tI (t:Int×Int×Int):V:=.T [.int t.1,.int t.2.1,.int t.2.2]
abbrev mtV (t:Int×Int×Int):V:=.mt [.int t.1,.int t.2.1,.int t.2.2]
abbrev leT (s t:Int×Int×Int):Bool:=!ru [t.1,t.2.1,t.2.2] [s.1,s.2.1,s.2.2]
abbrev TZ (k:BM)(v:V)(vs:List V)(σ:St)(Q:V->St->Prop):Prop:=match k with
 |.append=>fR v λa=>on1 vs λx=>∃xs,σ.L a=some xs/\xs.length<bp/\Q .none (σ.cz a (xs++[x]))
 |.pop=>fR v λa=>on0 vs (∃xs x,σ.L a=some (xs++[x])/\Q x (σ.cz a xs))
 |.insert=>False
 |.extend=>False
 |.sort=>fR v λa=>on0 vs (∃ts:List (Int×Int×Int),σ.L a=some (ts.map mtV)/\ts.length<64/\Q .none (σ.cz a ((ts.mergeSort leT).map mtV)))
 |.index=>False
 |.count=>False
 |.get=>kJ v λa=>on2 vs λk d=>∃es kk,σ.D a=some es/\k.pD=some kk/\Q ((es.lookup kk).getD d) σ
 |.setdefault=>kJ v λa=>on2 vs λk d=>∃es kk,σ.D a=some es/\k.pD=some kk/\es.length<bp/\Q ((es.lookup kk).getD d) (σ.qu a (if (es.lookup kk).isSome then es else es++[(kk,d)]))
 |.add=>onSet v λa=>on1 vs λk=>kI k λi=>∃ks,σ.S a=some ks/\ks.length<4000/\Q .none (σ.kG a (if Key.int i∈ks then ks else ks++[Key.int i]))
abbrev W6 (k:BM)(v:V)(σ:St):Prop:=match k with
 |.get=>kJ v λa=>(σ.D a).isSome=true
 |.setdefault=>kJ v λa=>(σ.D a).isSome=true
 |.add=>onSet v λa=>(σ.S a).isSome=true
 |_=>fR v λa=>(σ.L a).isSome=true
abbrev TX (v:V)(σ:St)(Q:V->St->Prop):Prop:=match v with
 |.L a=>∃xs,σ.L a=some xs/\Q (.int xs.length) σ
 |.T xs=>xs.length<=bp/\Q (.int xs.length) σ
 |.ro ns=>ns.length<=bp/\Q (.int ns.length) σ
 |.dct a=>∃es,σ.D a=some es/\Q (.int es.length) σ
 |_=>False
abbrev CW (k:BF)(vs:List V)(σ:St)(Q:V->St->Prop):Prop:=match k with
 |.len=>on1 vs λv=>TX v σ Q
 |.set=>on0 vs (∀c,σ.S c=Option.none->σ.D c=Option.none->Q (.set c) (σ.kG c []))
 |.maxL=>on1 vs λv=>fR v λa=>∃ns:List Int,σ.L a=some (ns.map V.int)/\ns≠[]/\∀m∈ns,(∀n∈ns,n<=m)->Q (.int m) σ
 |.sorted=>on1 vs λv=>fR v λa=>∃ns:List Int,σ.L a=some (ns.map V.int)/\ns.length<64/\∀ns':List Int,ns'.Perm ns->ns'.Pairwise (·<=·)->∀c,σ.L c=Option.none->Q (.L c) (σ.cz c (ns'.map V.int))
abbrev LI:V->St->Option (List V)
 |.T vs,_=>some vs
 |.mt vs,_=>some vs
 |.L a,σ=>σ.L a
 |_,_=>Option.none
abbrev ry:List Nat->List V->Fr->Fr
 |x::xs,v::vs,ρ=>ry xs vs (upd ρ x v)
 |_,_,ρ=>ρ
abbrev pe:Tg->V->St->Fr->(Fr->Prop)->Prop
 |.v x,v,_,ρ,K=>K (upd ρ x v)
 |.T xs,v,σ,ρ,K=>∃vs,LI v σ=some vs/\xs.length=vs.length/\K (ry xs vs ρ)
abbrev ux (a b:Int):List V:=(List.range (b-a).toNat).map λi:Nat=>V.int (a+i)
def Cal:=Nat->List V->St->(V->St->Prop)->Prop
abbrev TG (f:V)(vs:List V)(C:Cal)(nclo:Nat)(σ:St)(Q:V->St->Prop):Prop:=match f with
 |.iE a=>on2 vs λk d=>∃es kk,σ.D a=some es/\k.pD=some kk/\Q ((es.lookup kk).getD d) σ
 |.jC a=>on1 vs λk=>∃ks kk,σ.S a=some ks/\k.pD=some kk/\Q (.bool (decide (kk∈ks))) σ
 |.clo k cs=>C (nclo+k) (vs++cs) σ Q
 |_=>False
abbrev jR (fv:List (Nat×Nat))(ρ:Fr):Fr:=λi=>(fv.lookup i).bind ρ
abbrev nN:List V->(St->Prop)->(V->Fr->List V->St->(Fr->List V->St->Prop)->Prop)->Fr->List V->St->(Fr->List V->St->Prop)->Prop
 | [],G,_,ρ,acc,σ,K=>G σ/\K ρ acc σ
 |v::vs,G,T,ρ,acc,σ,K=>G σ/\T v ρ acc σ λρ acc σ=>nN vs G T ρ acc σ K
abbrev PB (v:V)(σ:St)(K:List V->(St->Prop)->St->Prop):Prop:=match v with
 |.L a=>∃xs,σ.L a=some xs/\K xs (λτ=>τ.L a=some xs) σ
 |.T xs=>K xs (λ_=>True) σ
 |.set a=>∃ks,σ.S a=some ks/\∀(o:Obj) (ks':List Key),(∀k,k∈ks'↔k∈ks)->ks'.length=ks.length->K (ks'.map Key.v) (λτ=>τ.Z a=some o) (σ.fJ a o)
 |_=>False
abbrev FQ (v:V)(σ:St)(K:List V->(St->Prop)->St->Prop):Prop:=kJ v λa=>∃es,σ.D a=some es/\∀o:Obj,K (es.map λe=>e.1.v) (λτ=>τ.Z a=some o) (σ.fJ a o)
abbrev AU (v:V)(σ:St)(K:List V->(St->Prop)->St->Prop):Prop:=kJ v λa=>∃es,σ.D a=some es/\∀o:Obj,K (es.map λe=>V.T [e.1.v,e.2]) (λτ=>τ.Z a=some o) (σ.fJ a o)
mutual
noncomputable def wpE (C:Cal):Ex->Fr->St->(V->St->Prop)->Prop
 |.none,_,σ,Q=>Q .none σ
 |.bool b,_,σ,Q=>Q (.bool b) σ
 |.int i,_,σ,Q=>Q (.int i) σ
 |.str s,_,σ,Q=>Q (.str s) σ
 |.l x,ρ,σ,Q=>∃v,ρ x=some v/\Q v σ
 |.b op a b,ρ,σ,Q=>wpE C a ρ σ λva σ=>wpE C b ρ σ λvb σ=>eU op va vb σ Q
 |.neg a,ρ,σ,Q=>wpE C a ρ σ λv σ=>∃i,v=.int i/\Q (.int (-i)) σ
 |.not a,ρ,σ,Q=>wpE C a ρ σ λv σ=>tc v σ λb=>Q (.bool !b) σ
 |.and a b,ρ,σ,Q=>wpE C a ρ σ λv σ=>tc v σ λt=>if t then wpE C b ρ σ Q else Q v σ
 |.or a b,ρ,σ,Q=>wpE C a ρ σ λv σ=>tc v σ λt=>if t then Q v σ else wpE C b ρ σ Q
 |.c op a b,ρ,σ,Q=>wpE C a ρ σ λva σ=>wpE C b ρ σ λvb σ=>iJ op va vb σ λr=>Q (.bool r) σ
 |.I c a b,ρ,σ,Q=>wpT C c ρ σ λt σ=>if t then wpE C a ρ σ Q else wpE C b ρ σ Q
 |.L es,ρ,σ,Q=>wh C es ρ σ λvs σ=>vs.length<=bp/\∀c,σ.L c=Option.none->Q (.L c) (σ.cz c vs)
 |.T es,ρ,σ,Q=>wh C es ρ σ λvs σ=>vs.length<=bp/\Q (.T vs) σ
 |.dct0,_,σ,Q=>∀c,σ.D c=Option.none->Q (.dct c) (σ.qu c [])
 |.call f es,ρ,σ,Q=>wh C es ρ σ λvs σ=>C f vs σ Q
 |.meth e m es,ρ,σ,Q=>wpE C e ρ σ λv σ=>∃a,v=.obj a/\(σ.I a).isSome/\wh C es ρ σ λvs σ=>C m (v::vs) σ Q
 |.attr e x,ρ,σ,Q=>wpE C e ρ σ λv σ=>∃a d f u,v=.obj a/\σ.I a=some (d,f)/\f x=some u/\Q u σ
 |.g e,ρ,σ,Q=>wpE C e ρ σ λv σ=>∃a,v=.dct a/\(σ.D a).isSome/\Q (.iE a) σ
 |.h e,ρ,σ,Q=>wpE C e ρ σ λv σ=>∃a,v=.set a/\(σ.S a).isSome/\Q (.jC a) σ
 |.bm k e es,ρ,σ,Q=>wpE C e ρ σ λv σ=>W6 k v σ/\wh C es ρ σ λvs σ=>TZ k v vs σ Q
 |.bf k es,ρ,σ,Q=>wh C es ρ σ λvs σ=>CW k vs σ Q
 |.w f es,ρ,σ,Q=>∃v,ρ f=some v/\wh C es ρ σ λvs σ=>TG v vs C 1000 σ Q
 |.sub e i,ρ,σ,Q=>wpE C e ρ σ λv σ=>wpE C i ρ σ λj σ=>rR v j σ λr=>Q r σ
 |.slc e lo hi,ρ,σ,Q=>wpE C e ρ σ λv σ=>wpE C lo ρ σ λa σ=>wpE C hi ρ σ λb σ=>AS v a b σ Q
 |.rev e,ρ,σ,Q=>wpE C e ρ σ λv σ=>TV v σ Q
 |.K fv it t cs more,ρ,σ,Q=>vW C it ρ σ λvs G σ =>
   nN vs G (λv ρ' acc σ K=>pe t v σ ρ' λρ'=>dX C cs ρ' σ λok σ=>if ok then j8 C more ρ' acc σ K else K ρ' acc σ) (jR fv ρ) [] σ
    λ_ acc σ=>∀c,σ.L c=Option.none->Q (.L c) (σ.cz c acc)
 |.n es,ρ,σ,Q=>wh C es ρ σ λvs σ=>∀a d,σ.I a=Option.none->C 0 (.obj a::vs) (σ.jv a d λ_=>Option.none) λv σ=>v=.none/\Q (.obj a) σ
 |.N a b c,ρ,σ,Q=>wpE C a ρ σ λx σ=>wpE C b ρ σ λy σ=>wpE C c ρ σ λz σ=>Q (.mt [x,y,z]) σ
 |.M e,ρ,σ,Q=>wpE C e ρ σ λv σ=>∃a,∃ts:List (List V),v=.L a/\σ.L a=some (ts.map V.T)/\(∀t∈ts,t.length=3)/\∀c,σ.L c=Option.none->Q (.L c) (σ.cz c (ts.map V.mt))
 |.dead,_,_,_=>False
noncomputable def wpT (C:Cal):Ex->Fr->St->(Bool->St->Prop)->Prop
 |.not a,ρ,σ,Q=>wpT C a ρ σ λb σ=>Q (!b) σ
 |.and a b,ρ,σ,Q=>wpT C a ρ σ λt σ=>if t then wpT C b ρ σ Q else Q false σ
 |.or a b,ρ,σ,Q=>wpT C a ρ σ λt σ=>if t then Q true σ else wpT C b ρ σ Q
 |.c op a b,ρ,σ,Q=>wpE C a ρ σ λva σ=>wpE C b ρ σ λvb σ=>iJ op va vb σ λr=>Q r σ
 |.I c a b,ρ,σ,Q=>wpT C c ρ σ λt σ=>if t then wpT C a ρ σ Q else wpT C b ρ σ Q
 |.l x,ρ,σ,Q=>∃v,ρ x=some v/\tc v σ λb=>Q b σ
 |.int i,_,σ,Q=>Q (i != 0) σ
 |.bool b,_,σ,Q=>Q b σ
 |.attr e x,ρ,σ,Q=>wpE C e ρ σ λv σ=>∃a d f u,v=.obj a/\σ.I a=some (d,f)/\f x=some u/\tc u σ λb=>Q b σ
 |.w f es,ρ,σ,Q=>∃v,ρ f=some v/\wh C es ρ σ λvs σ=>TG v vs C 1000 σ λr σ=>tc r σ λb=>Q b σ
 |.sub e i,ρ,σ,Q=>wpE C e ρ σ λv σ=>wpE C i ρ σ λj σ=>rR v j σ λr=>tc r σ λb=>Q b σ
 |.b op a b,ρ,σ,Q=>wpE C a ρ σ λva σ=>wpE C b ρ σ λvb σ=>eU op va vb σ λr σ=>tc r σ λb=>Q b σ
 |_,_,_,_=>False
noncomputable def wh (C:Cal):Exs->Fr->St->(List V->St->Prop)->Prop
 |.nil,_,σ,Q=>Q [] σ
 |.cons e es,ρ,σ,Q=>wpE C e ρ σ λv σ=>wh C es ρ σ λvs σ=>Q (v::vs) σ
noncomputable def dX (C:Cal):Exs->Fr->St->(Bool->St->Prop)->Prop
 |.nil,_,σ,Q=>Q true σ
 |.cons e es,ρ,σ,Q=>wpT C e ρ σ λb σ=>if b then dX C es ρ σ Q else Q false σ
noncomputable def vW (C:Cal):It->Fr->St->(List V->(St->Prop)->St->Prop)->Prop
 |.rng1 e,ρ,σ,K=>wpE C e ρ σ λv σ=>∃n:Int,v=.int n/\n.natAbs<2^40/\K (ux 0 n) (λ_=>True) σ
 |.rng2 a b,ρ,σ,K=>wpE C a ρ σ λv σ=>wpE C b ρ σ λu σ=>∃m n:Int,v=.int m/\u=.int n/\m.natAbs<2^40/\n.natAbs<2^40/\K (ux m n) (λ_=>True) σ
 |.enum e,ρ,σ,K=>wpE C e ρ σ λv σ=>∃a xs,v=.L a/\σ.L a=some xs/\K (xs.zipIdx.map λp=>V.T [.int p.2,p.1]) (λτ=>τ.L a=some xs) σ
 |.seq e,ρ,σ,K=>wpE C e ρ σ λv σ=>PB v σ K
 |.keys e,ρ,σ,K=>wpE C e ρ σ λv σ=>FQ v σ K
 |.items e,ρ,σ,K=>wpE C e ρ σ λv σ=>AU v σ K
noncomputable def j8 (C:Cal):Gens->Fr->List V->St->(Fr->List V->St->Prop)->Prop
 |.elt e,ρ,acc,σ,K=>wpE C e ρ σ λv σ=>acc.length<bp/\K ρ (acc++[v]) σ
 |.cons it t cs more,ρ,acc,σ,K=>vW C it ρ σ λvs G σ =>
   nN vs G (λv ρ acc σ K=>pe t v σ ρ λρ=>dX C cs ρ σ λok σ=>if ok then j8 C more ρ acc σ K else K ρ acc σ) ρ acc σ K
end
abbrev CU (u k v:V)(σ:St)(K:St->Prop):Prop:=kJ u λa=>∃es kk,σ.D a=some es/\k.pD=some kk/\es.length<bp/\K (σ.qu a (putD es kk v))
abbrev PA (C:Cal):Tgt->V->Fr->St->(Fr->St->Prop)->Prop
 |.v x,v,ρ,σ,K=>K (upd ρ x v) σ
 |.attr o a,v,ρ,σ,K=>wpE C o ρ σ λu σ=>∃x d f,u=.obj x/\σ.I x=some (d,f)/\K ρ (σ.jv x d (upd f a v))
 |.sub o i,v,ρ,σ,K=>wpE C o ρ σ λu σ=>wpE C i ρ σ λj σ=>CU u j v σ λσ=>K ρ σ
 |.T xs,v,ρ,σ,K=>pe (.T xs) v σ ρ λρ=>K ρ σ
abbrev lT (C:Cal):List Tgt->V->Fr->St->(Fr->St->Prop)->Prop
 | [],_,ρ,σ,K=>K ρ σ
 |t::ts,v,ρ,σ,K=>PA C t v ρ σ λρ σ=>lT C ts v ρ σ K
abbrev QH (a b:Addr)(σ:St)(Q:V->St->Prop):Prop:=∃xs ys,a≠b/\σ.L a=some xs/\σ.L b=some ys/\xs.length+ys.length<=bp/\Q (.L a) (σ.cz a (xs++ys))
abbrev FY (op:Bop)(v u:V)(σ:St)(Q:V->St->Prop):Prop:=match v with
 |.L a=>fR u λb=>match op with
  |.add=>QH a b σ Q
  |_=>False
 |.int a=>kI u λb=>yO op a b σ Q
 |_=>False
abbrev TY (u k:V)(σ:St)(K:St->Prop):Prop:=kJ u λa=>∃es kk,σ.D a=some es/\k.pD=some kk/\(es.lookup kk).isSome=true/\K (σ.qu a (delD es kk))
abbrev BV (T:(Fr->St->Prop)->Fr->St->Prop):Nat->Fr->St->Prop
 |0,_,_=>False
 |n+1,ρ,σ=>T (BV T n) ρ σ
abbrev uS:List V->(St->Prop)->(V->Fr->St->(Fr->St->Prop)->Prop)->Fr->St->(Fr->St->Prop)->Prop
 | [],G,_,ρ,σ,K=>G σ/\K ρ σ
 |v::vs,G,T,ρ,σ,K=>G σ/\T v ρ σ λρ σ=>uS vs G T ρ σ K
abbrev rU (again:Fr->St->Prop)(K:Fl->Fr->St->Prop):Fl->Fr->St->Prop
 |.next,ρ,σ=>again ρ σ
 |fl,ρ,σ=>K fl ρ σ
abbrev uq (again:Fr->St->Prop)(K:Fl->Fr->St->Prop):Fl->Fr->St->Prop
 |.next,ρ,σ=>again ρ σ
 |.cont,ρ,σ=>again ρ σ
 |.brk,ρ,σ=>K .next ρ σ
 |.ret v,ρ,σ=>K (.ret v) ρ σ
mutual
noncomputable def wpS (C:Cal):Stm->Fr->St->(Fl->Fr->St->Prop)->Prop
 |.a ts e,ρ,σ,K=>wpE C e ρ σ λv σ=>lT C ts v ρ σ λρ σ=>K .next ρ σ
 |.aug x op e,ρ,σ,K=>∃v,ρ x=some v/\wpE C e ρ σ λu σ=>FY op v u σ λr σ=>K .next (upd ρ x r) σ
 |.delD o i,ρ,σ,K=>wpE C o ρ σ λu σ=>wpE C i ρ σ λj σ=>TY u j σ λσ=>K .next ρ σ
 |.expr e,ρ,σ,K=>wpE C e ρ σ λv σ=>v=.none/\K .next ρ σ
 |.C c t e,ρ,σ,K=>wpT C c ρ σ λb σ=>if b then fw C t ρ σ K else fw C e ρ σ K
 |.loop c b,ρ,σ,K=>∃n,BV (λagain ρ σ=>wpT C c ρ σ λt σ=>if t then fw C b ρ σ (uq again K) else K .next ρ σ) n ρ σ
 |.each t it b,ρ,σ,K=>vW C it ρ σ λvs G σ=>uS vs G (λv ρ σ k=>pe t v σ ρ λρ=>fw C b ρ σ (uq k K)) ρ σ λρ σ=>K .next ρ σ
 |.ret e,ρ,σ,K=>wpE C e ρ σ λv σ=>K (.ret v) ρ σ
 |.brk,ρ,σ,K=>K .brk ρ σ
 |.cont,ρ,σ,K=>K .cont ρ σ
 |.pass,ρ,σ,K=>K .next ρ σ
 |.dead,_,_,_=>False
noncomputable def fw (C:Cal):jw->Fr->St->(Fl->Fr->St->Prop)->Prop
 |.nil,ρ,σ,K=>K .next ρ σ
 |.cons s ss,ρ,σ,K=>wpS C s ρ σ (rU (λρ σ=>fw C ss ρ σ K) K)
end
structure Fn where
 n:Nat
 dflt:List V
 body:jw
abbrev jS (f:Fn)(vs:List V):List V:=vs++f.dflt.drop (f.dflt.length-(f.n-vs.length))
abbrev frameOf (f:Fn)(vs:List V):Fr:=λi=>(jS f vs)[i]?
abbrev jD (Q:V->St->Prop):Fl->Fr->St->Prop
 |.ret v,_,σ=>Q v σ
 |.next,_,σ=>Q .none σ
 |_,_,_=>False
abbrev fk (P:Nat->Option Fn):Nat->Cal
 |0,_,_,_,_=>False
 |d+1,f,vs,σ,Q=>∃fn,P f=some fn/\vs.length<=fn.n/\fn.n<=vs.length+fn.dflt.length/\fw (fk P d) fn.body (frameOf fn vs) σ (jD Q)
end MP
end
section
namespace MP
open PySem PyProof.Rows
variable {led:Bool}{t:SetTable}{xs:Array Nat}{j:Nat}
abbrev lG (l:List Nat):Prop:=l.Pairwise (·<·)
structure Tbl (led:Bool)(t:SetTable):Prop where
 led:t.led=led
 nod:t.dummies=#v[]
 rise:lG t.place.toList
def yv (h:t.led=led)(n:Nat):Tbl led (t.standIn n):=⟨h,rfl,by
 show lG (Array.range n).toList;rw[Array.toList_range];show mQ⟩
def lG.at (h:lG xs.toList){i x y:Nat}(W:xs[i]?=some x)(Y:xs[j]?=some y)(Z:i<j):x<y:=by
 have#[a,I]:=oj.mp W;have#[b,U]:=oj.mp Y;have:=iI.mp h i j (by simpa using a) (by simpa using b) Z;simp only[Array.getElem_toList]at this;rw[I,U]at this;show this
def qH (h:lG xs.toList):∀(f lo hi:Nat),lo<=hi->hi<=xs.size->hi-lo<=f->(∀i x,xs[i]?=some x->i<lo->x<j)->(∀i x,xs[i]?=some x->hi<=i->j<=x) ->
  SetTable.below.go xs j f lo hi<=xs.size/\(∀i x,xs[i]?=some x->i<SetTable.below.go xs j f lo hi->x<j)/\∀i x,xs[i]?=some x->SetTable.below.go xs j f lo hi<=i->j<=x
 |0=>λlo hi h1 h2 h3 h4 h5=>#[gp h1 h2,h4,λi x e q=>h5 i x e (gp (Nat.sub_eq_zero_iff_le.mp (Nat.le_zero.mp h3)) q)]
 |f+1=>λlo hi h1 h2 h3 h4 h5=>by
  dsimp only[SetTable.below.go];by_cases c:lo<hi
  ·rw[br c];have U:lo<=(lo+hi)/2:=by(show mf .A [[2,1,1,-1]] .O (.l .D .W) (.e (.a (.m 2 .B) .D) .X) c (Ar.zm _ 2 (by decide)).1 (Ar.zm _ 2 (by decide)).2)
   have Z:(lo+hi)/2<hi:=by(show dj .B [[2,1,1]] .N .d8 c (Ar.zm _ 2 (by decide)).2)
   have hm:(lo+hi)/2<xs.size:=gz Z h2;have eg:xs.getD ((lo+hi)/2) j=xs[(lo+hi)/2]:=by simp[Array.getD,hm]
   have es:xs[(lo+hi)/2]?=some xs[(lo+hi)/2]:=ix hm;rw[eg];by_cases d:xs[(lo+hi)/2]<j
   ·rw[br d];apply qH h f _ hi Z h2 (wk .A .A .bI .cK (.e .S .G) (.e (.a .A .Y) .G) h3 U (aa (fe .A .b .I .N U Z)) (aa (ax .F .a .B Z))) (λi x e q=>?_) h5;rcases iz (qg q) with q|rfl
    ·show Nat.lt_trans (h.at e es q) d
    ·rw[es]at e;cases e;show d
   ·rw[aw d];apply qH h f lo _ U (mh hm) (wk .A .A .bI .cB (.e .aU .F) (.e .aN .D) h3 Z (aa (fe .A .b .I .N U Z)) (aa (ax .A .a .A U))) h4 (λi x e q=>?_);rcases iz q with q|rfl
    ·show gp (ip d) (mh (h.at es e q))
    ·rw[es]at e;cases e;show ip d
  ·rw[aw c];apply#[gp h1 h2,h4,λi x e q=>h5 i x e (gp (ip c) q)]
def below_at (h:lG xs.toList)(j:Nat):SetTable.below xs j<=xs.size/\(∀i x,xs[i]?=some x->i<SetTable.below xs j->x<j)/\∀i x,xs[i]?=some x->SetTable.below xs j<=i->j<=x:=
 qH h xs.size 0 xs.size (bh _) (az _) (az _) (λi x e q=>absurd q (fu _)) λi x e q=>by
  have#[a,_]:=oj.mp e;show absurd a (sd.mpr q)
def AL (h:lG xs.toList){k x:Nat}(hk:xs[k]?=some x):SetTable.below xs (x+1)=k+1:=by
 have#[b1,b2,b3]:=below_at h (x+1);have#[W,_]:=oj.mp hk;rcases Nat.lt_trichotomy (SetTable.below xs (x+1)) (k+1) with c|c|c
 ·show absurd (b3 k x hk (qg c)) (gG.mpr (iq x))
 ·show c
 ·have Z:k+1<xs.size:=gz c b1;have e:=ix Z;have:=b2 (k+1) _ e c;have:=h.at hk e (iq k)
  (rename_i Y;show mf .aB [[1,1,0,0],[0,0,1,1]] (.l .L .A) (.l .C .V) .X c Y this)
def AK (h:lG xs.toList):SetTable.below xs 0=0:=by
 have#[b1,b2,b3]:=below_at h 0;rcases gH (SetTable.below xs 0) with c|c
 ·show c
 ·have e:=ix (gz c b1);show absurd (b2 0 _ e c) (fu _)
def rI (h:lG xs.toList)(hn:xs[SetTable.below xs j]?≠some j):lG (SetTable.insertAt xs (SetTable.below xs j) j).toList:=by
 have#[b1,b2,b3]:=below_at h j;rw[SetTable.toList_insertAt];have U:∀i (W:i<xs.toList.length),xs[i]?=some xs.toList[i]:=λi W=>by
  rw[Array.getElem_toList];show ix (by simpa using W)
 unfold lG;rw[rA];apply#[List.Pairwise.sublist (List.take_sublist _ _) h,ib.mpr #[λy hy=>?_,List.Pairwise.sublist (List.drop_sublist _ _) h],λx hx y hy=>?_]
 ·have#[i,W,rfl]:=iw.mp hy;rw[List.getElem_drop];have Y:SetTable.below xs j+i<xs.toList.length:=by rw[ir]at W;(show Ar.sub _ _ (λq1 p1=>(dj .L .b .aR (.e .aC .C) W p1)) λq1 p1=>(dj .L .c .aR .Z W p1))
  rcases iz (b3 _ _ (U _ Y) (ll _ _)) with c|c
  ·show c
  ·exfalso
   rcases gH i with rfl|hp
   ·show hn ((U _ Y).trans (bx some c.symm))
   ·have h0:SetTable.below xs j<xs.toList.length:=by(show dt .B .a (.l .X .B) Y)
    have:=h.at (U _ h0) (U _ Y) (ax (.l .A .M) .a .aI hp);have:=b3 _ _ (U _ h0) (az _)
    (rename_i z1;show pq .ff [[0,-1,1,1]] .C .N .I c z1 this)
 ·have#[i,W,rfl]:=iw.mp hx;rw[gc]at W;have Y:i<xs.toList.length:=by(show fe .B .b .O .Q W (Ar.nv _ _).2.1)
  rw[j5];have ab:=b2 _ _ (U i Y) (fe .B .b .O .Q W (Ar.nv _ _).1);rcases bw.mp hy with rfl|hy
  ·show ab
  ·have zz:=iw.mp hy;clear hy;have#[k,hk,rfl]:=zz;rw[List.getElem_drop];have ag:SetTable.below xs j+k<xs.toList.length:=by rw[ir]at hk;(show Ar.sub _ _ (λq1 p1=>(dj .L .b .aR (.e .aC .C) hk p1)) λq1 p1=>(dj .L .c .aR .Z hk p1))
   show h.at (U i Y) (U _ ag) (dj (.l .A .R) .b (.l .A .D) .cL W (Ar.nv _ _).1)
def has_none (j:Nat):SetTable.has #v[] j=false:=rfl
def wN (hd:t.dummies=#v[]){f:Nat->Int}{h:Int}(Y:∀i,(f i==h)=false):∀(n:Nat) (p:SetTable.Probe) (m:SetTable.Met),p.dummy=none->SetTable.probe.go t f h n p=some m ->
  ∃j,m=.empty j none/\t.place[SetTable.below t.place j]?≠some j
 |0=>λp m Z e=>by cases e
 |n+1=>λp m Z e=>by
  dsimp only[SetTable.probe.go]at e;unfold SetTable.slot at e;rw[hd,has_none]at e;by_cases c:(t.place[SetTable.below t.place p.j]?==some p.j)=true
  ·simp only[c,yj,Y]at e;apply wN hd Y n _ m ?_ e;unfold SetTable.advance;split
   ·show Z
   ·show Z
  ·simp only[c]at e;simp at e;apply#[p.j,by rw[<- e,Z],λq=>c (by rw[q];show rj _)]
def xO (hd:t.dummies=#v[]){h:Int}{r:Nat×Bool}(e:t.freeSlot h=some r):r.2=false/\t.place[SetTable.below t.place r.1]?≠some r.1:=by
 unfold SetTable.freeSlot SetTable.probe at e;cases q:SetTable.probe.go t (λ_=>h+1) h (10*SetTable.turns t.mask) (t.probeStart h) with
 |none=>rw[q]at e;cases e
 |some m =>
  have#[j,rfl,Z]:=wN hd (λi=>by simp;(show qK (.iu (.a .A .U) .A) .j)) _ _ _ rfl q;rw[q]at e;cases e;apply#[rfl,Z]
def zM (H:Tbl led t)(es:Array (Int×Value))(h:Int)(x:Value):Tbl led (layNew t es h x).2.1/\(layNew t es h x).2.2.1=false:=by
 unfold layNew;cases e:t.freeSlot h with
 |none=>refine#[yv H.led _,rfl]
 |some r =>
  have#[Y,Z]:=xO H.nod e;apply#[?_,Y];show Tbl led ((t.put r.1).1.orStandIn _);unfold SetTable.orStandIn;split
  ·apply#[H.led,?_,rI H.rise Z];show(if SetTable.has t.dummies r.1=true then _ else t.dummies)=#v[];rw[H.nod];rfl
  ·show yv H.led _
def yd {α:Type}(f:Nat->Option α):∀(l:List Nat),lG l->lG ((l.filterMap λj=>(f j).map (j,·)).map (·.1))
 | []=>λ_=>.nil
 |a::l=>λh=>by
  have#[B,Y]:=ib.mp h;rw[f9];cases e:f a with
  |none=>show yd f l Y
  |some b =>
   apply ib.mpr #[λy Z=>?_,yd f l Y];have W:=cq.mp Z;clear Z;have#[p,U,rfl]:=W;have#[j,I,e]:=List.mem_filterMap.mp U;cases q:f j with
   |none=>rw[q]at e;cases e
   |some c=>rw[q]at e;cases e;show B j I
def tY (H:Tbl led t)(es:Array (Int×Value))(n:Nat):Tbl led (relayAll t es n).2.1:=by
 unfold relayAll SetTable.relaid SetTable.laid;cases SetTable.layClean (SetTable.sizeAbove n-1) (es.map (·.1)) with
 |none=>show yv H.led _
 |some o =>
  show Tbl led (if _=true then _ else _:Array (Int×Value)×SetTable×Bool).2.1;split
  ·apply#[H.led,rfl,?_];show lG (List.toArray _).toList;show yd (λj=>o.getD j none) _ mQ
  ·show yv H.led _
end MP
end
section
namespace MP
set_option genSizeOf false
set_option genInjectivity false
open PySem
structure Stc where
 prog:Program
 w:World
 hb:Heap
 cM:Addr
 cS:Addr
 attrs:List Str
 gl:Str->Option Value
 cap:Str->Bool
 clo:Nat->List V->Addr->Prop
abbrev Frz (o:Obj):Prop:=
 (o.cls≠.type "list"/\∃xs n,o.data=.seq xs n)\/((o.cls=.type "builtin_function_or_method"\/o.cls=.type "method-wrapper")/\∃vs,o.data=.fields vs)\/∃fd,o.data=.func fd
mutual
noncomputable def VR (G:Stc)(h:Heap):V->Value->Prop
 |.none=>λw=>w=.none
 |.bool b=>λw=>w=.bool b
 |.int i=>λw=>∃t,w=.int i t
 |.str s=>λw=>∃t,w=.str s t
 |.L a=>λw=>w=.ref a
 |.dct a=>λw=>w=.ref a
 |.set a=>λw=>w=.ref a
 |.obj a=>λw=>w=.ref a
 |.T xs=>λw=>∃a ws n,w=.ref a/\IsT h a ws.toArray n/\VRs G h xs ws
 |.mt xs=>λw=>∃a ws n dd,w=.ref a/\h.get? a=some {cls:=.ref G.cM,dict:=dd,data:=.seq ws.toArray n,slots:=#v[]}/\VRs G h xs ws
 |.iE a=>λw=>∃q o,w=.ref q/\h.get? q=some o/\o.cls=.type "builtin_function_or_method"/\o.data=.fields #v[.builtin "dict.get",.ref a]
 |.jC a=>λw=>∃q o,w=.ref q/\h.get? q=some o/\o.cls=.type "builtin_function_or_method"/\o.data=.fields #v[.builtin "set.__contains__",.ref a]
 |.clo k cs=>λw=>∃a o,w=.ref a/\G.clo k cs a/\G.hb.get? a=some o/\o.cls=.type "function"
 |.ro ns=>λw=>∃a ws n,w=.ref a/\IsL G.hb a ws.toArray n/\PyProof.Rows.IntsAre ws ns
noncomputable def VRs (G:Stc)(h:Heap):List V->List Value->Prop
 | []=>λws=>ws=[]
 |v::vs=>λws=>∃w us,ws=w::us/\VR G h v w/\VRs G h vs us
end
section
variable {xs:List V}{ws:List Value}{n:Nat}{o:Obj}{v:V}{w:Value}{es:List (Key×V)}{ks:List Key}{X:List Addr}{b d:Addr}{f:Nat->Option V}
variable {G:Stc}{h:Heap}
def VR.none:VR G h .none .none:=rfl
def VR.bool (b:Bool):VR G h (.bool b) (.bool b):=rfl
def VR.int (i:Int)(t:Tok):VR G h (.int i) (.int i t):=#[t,rfl]
def VR.str (s:Str)(t:Tok):VR G h (.str s) (.str s t):=#[t,rfl]
def VR.L (a:Addr):VR G h (.L a) (.ref a):=rfl
def VR.dct (a:Addr):VR G h (.dct a) (.ref a):=rfl
def VR.set (a:Addr):VR G h (.set a) (.ref a):=rfl
def VR.obj (a:Addr):VR G h (.obj a) (.ref a):=rfl
def VR.T {a:Addr}(g:IsT h a ws.toArray n)(r:VRs G h xs ws):VR G h (.T xs) (.ref a):=#[a,ws,n,rfl,g,r]
def VR.mt {a:Addr}{dd:Option Addr}(g:h.get? a=some {cls:=.ref G.cM,dict:=dd,data:=.seq ws.toArray n,slots:=#v[]})(r:VRs G h xs ws):VR G h (.mt xs) (.ref a):=#[a,ws,n,dd,rfl,g,r]
def VR.iE {q a:Addr}(g:h.get? q=some o)(c:o.cls=.type "builtin_function_or_method")(d:o.data=.fields #v[.builtin "dict.get",.ref a]):VR G h (.iE a) (.ref q):=#[q,o,rfl,g,c,d]
def VR.jC {q a:Addr}(g:h.get? q=some o)(c:o.cls=.type "builtin_function_or_method")(d:o.data=.fields #v[.builtin "set.__contains__",.ref a]):VR G h (.jC a) (.ref q):=#[q,o,rfl,g,c,d]
def VR.ro {a:Addr}{ns:List Int}(g:IsL G.hb a ws.toArray n)(r:PyProof.Rows.IntsAre ws ns):VR G h (.ro ns) (.ref a):=#[a,ws,n,rfl,g,r]
def VRs.nil:VRs G h [] []:=rfl
def VRs.cons {vs:List V}(a:VR G h v w)(r:VRs G h vs ws):VRs G h (v::vs) (w::ws):=#[w,ws,rfl,a,r]
end
abbrev je (h h':Heap):Prop:=∀b o,h.get? b=some o->Frz o->h'.get? b=some o
mutual
theorem VR.mono {G:Stc}{h h':Heap}(hk:je h h'):{v:V}->{w:Value}->VR G h v w->VR G h' v w
 |.none=>λx=>x
 |.bool _=>λx=>x
 |.int _=>λx=>x
 |.str _=>λx=>x
 |.L _=>λx=>x
 |.dct _=>λx=>x
 |.set _=>λx=>x
 |.obj _=>λx=>x
 |.T _=>λZ=>by have#[a,ws,n,e,g,r]:=Z;apply#[a,ws,n,e,hk _ _ g (.inl #[show Value.type "tuple" ≠ .type "list" by decide,_,_,rfl]),VRs.mono hk r]
 |.mt _=>λZ=>by have#[a,ws,n,dd,e,g,r]:=Z;apply#[a,ws,n,dd,e,hk _ _ g (.inl #[λx=>(nomatch x),_,_,rfl]),VRs.mono hk r]
 |.iE _=>λZ=>by have#[q,o,e,g,c,d]:=Z;apply#[q,o,e,hk _ _ g (.inr (.inl #[.inl c,_,d])),c,d]
 |.jC _=>λZ=>by have#[q,o,e,g,c,d]:=Z;apply#[q,o,e,hk _ _ g (.inr (.inl #[.inl c,_,d])),c,d]
 |.clo _ _=>λx=>x
 |.ro _=>λx=>x
theorem VRs.mono {G:Stc}{h h':Heap}(hk:je h h'):{vs:List V}->{ws:List Value}->VRs G h vs ws->VRs G h' vs ws
 | []=>λx=>x
 |_::_=>λZ=>by have#[w,us,e,a,r]:=Z;apply#[w,us,e,VR.mono hk a,VRs.mono hk r]
end
def VR.inv {G:Stc}{h:Heap}(x:VR G h v w):VR G h v w:=x
section
variable {G:Stc}{h:Heap}
def VRs.length:{vs:List V}->{ws:List Value}->VRs G h vs ws->vs.length=ws.length
 | []=>λe=>e▸rfl
 |_::_=>λZ=>by have#[_,_,e,_,r]:=Z;show e▸bx (·+1) (VRs.length r)
def VRs.get {vs:List V}(x:VRs G h vs ws){i:Nat}(e:vs[i]?=some v):∃w,ws[i]?=some w/\VR G h v w:=by
 induction vs generalizing ws i with
 |nil=>cases e
 |cons u vs Z =>
  have#[w,us,q,a,r]:=x;subst q;cases i with
  |zero=>refine#[w,rfl,ah e▸a]
  |succ i=>show Z r e
def VRs.append:{vs us:List V}->{ws xs:List Value}->VRs G h vs ws->VRs G h us xs->VRs G h (vs++us) (ws++xs)
 | []=>λe b=>e▸b
 |_::_=>λZ b=>by have#[_,_,e,a,r]:=Z;show e▸.cons a (VRs.append r b)
def VRs.take:{vs:List V}->{ws:List Value}->(n:Nat)->VRs G h vs ws->VRs G h (vs.take n) (ws.take n)
 | []=>λn e=>by have rfl:=e;rw[List.take_nil,List.take_nil];rfl
 |_::_=>λn x=>by
  cases n with
  |zero=>show .nil
  |succ n=>have#[_,_,rfl,a,r]:=x;show .cons a (VRs.take n r)
def VRs.drop:{vs:List V}->{ws:List Value}->(n:Nat)->VRs G h vs ws->VRs G h (vs.drop n) (ws.drop n)
 | []=>λn e=>by have rfl:=e;rw[List.drop_nil,List.drop_nil];rfl
 |_::_=>λn x=>by
  cases n with
  |zero=>show x
  |succ n=>have#[_,_,rfl,_,r]:=x;show VRs.drop n r
def VRs.reverse:{vs:List V}->{ws:List Value}->VRs G h vs ws->VRs G h vs.reverse ws.reverse
 | []=>λe=>by subst e;show .nil
 |_::_=>λZ=>by have#[_,_,e,a,r]:=Z;subst e;rw[yo,yo];show VRs.append (VRs.reverse r) %[a|0]
end
def pR {prog:Program}{w:World}{A:Around}{E:QqV}{s:Shared}{a:Int}{t:Tok}{b:Str}{u:Tok}{Q:Bool->Shared->Prop}(h:Q false s):wpAny (model prog w) A (eqBool (.int a t) (.str b u)) Q E s:=by
 unfold eqBool;show ae (PySem.EqMixed.eq_int_str (rf h))
def pQ {prog:Program}{w:World}{A:Around}{E:QqV}{s:Shared}{a:Str}{t:Tok}{b:Int}{u:Tok}{Q:Bool->Shared->Prop}(h:Q false s):wpAny (model prog w) A (eqBool (.str a t) (.int b u)) Q E s:=by
 unfold eqBool;show ae (PySem.EqMixed.eq_str_int (rf h))
abbrev BY:Key->Value->Bool
 |.int i,v=>Value.isInt i v
 |.str s,v=>Value.isStrOf s v
abbrev keyHash (w:World):Key->Int
 |.int i=>hashInt i
 |.str s=>hashStr w s
def my {k:Key}{v:Value}(h:BY k v=true):(∃i t,k=.int i/\v=.int i t)\/∃s t,k=.str s/\v=.str s t:=by
 cases k with
 |int i=>have#[t,rfl]:=Value.isInt_shape h;show .inl #[i,t,rfl,rfl]
 |str s=>have#[t,rfl]:=Value.isStrOf_shape h;show .inr #[s,t,rfl,rfl]
abbrev keyKind (prog:Program)(w:World):KeyKind prog w Key where
 is:=BY
 hash:=keyHash w
 inj:=λv a b ha hb=>by
  rcases my ha with ⟨i,t,rfl,rfl⟩|⟨x,t,rfl,rfl⟩<;>rcases my hb with ⟨j,u,rfl,e⟩|⟨y,u,rfl,e⟩<;>cases e<;>rfl
 byValue:=λk v h=>by rcases my h with ⟨i,t,rfl,rfl⟩|⟨x,t,rfl,rfl⟩<;>rfl
 pyHash:=λhv h=>by
  rcases my hv with ⟨i,t,rfl,rfl⟩|⟨x,t,rfl,rfl⟩
  ·show wpAny_pyHash_int h
  ·show wpAny_pyHash_str h
 eqBool:=λhu hv h=>by
  rcases my hu with ⟨i,t,rfl,rfl⟩|⟨x,t,rfl,rfl⟩<;>rcases my hv with ⟨j,u,rfl,rfl⟩|⟨y,u,rfl,rfl⟩
  ·apply wpAny_eqBool_int ?_;simpa[Bool.beq_eq_decide_eq] using h
  ·show pR (by simpa using h)
  ·show pQ (by simpa using h)
  ·show wpAny_eqBool_str (by simpa using h)
 «strs»:=λk x t v h=>by
  rcases my h with ⟨i,u,rfl,e⟩|⟨y,u,rfl,e⟩
  ·skip
   cases e
  ·cases e;cases v<;>rfl
public abbrev Stc.kk (G:Stc):KeyKind G.prog G.w Key:=keyKind G.prog G.w
abbrev DRs (G:Stc)(h:Heap):List (Key×V)->List (Key×Value)->Prop
 | []=>λds=>ds=[]
 |e::es=>λds=>∃w us,ds=(e.1,w)::us/\VR G h e.2 w/\DRs G h es us
def DRs.nil {G:Stc}{h:Heap}:DRs G h [] []:=rfl
def DRs.cons {G:Stc}{h:Heap}{k:Key}{ds:List (Key×Value)}(a:VR G h v w)(r:DRs G h es ds):DRs G h ((k,v)::es) ((k,w)::ds):=#[w,ds,rfl,a,r]
def DRs.mono {G:Stc}{h h':Heap}(hk:je h h'):{es:List (Key×V)}->{ds:List (Key×Value)}->DRs G h es ds->DRs G h' es ds
 | []=>λx=>x
 |_::_=>λZ=>by have#[w,us,e,a,r]:=Z;apply#[w,us,e,a.mono hk,r.mono hk]
abbrev OV (G:Stc)(h:Heap):Option V->Option Value->Prop
 |none,none=>True
 |some v,some w=>VR G h v w
 |_,_=>False
def OV.mono {G:Stc}{h h':Heap}(hk:je h h'){v:Option V}{w:Option Value}(x:OV G h v w):OV G h' v w:=by
 cases v<;>cases w<;>first|show x|show VR.mono hk x
structure fZ (G:Stc)(h:Heap)(a d:Addr)(f:Nat->Option V):Prop where
 here:∃o,h.get? a=some o/\o.cls=.ref G.cS/\o.dict=some d/\∀c,o.data≠.cls c
 ns:∃m,h.Ns1 d m/\(∀i x,G.attrs[i]?=some x->OV G h (f i) (m x))/\∀x,x∉G.attrs->m x=none
 ne:d≠a
public abbrev Stc.led (G:Stc):Bool:=!G.w.params.followText "set-order"
abbrev dR (G:Stc)(h:Heap)(a:Addr)(ks:List Key):Prop:=
 ∃o es ep t,h.get? a=some o/\o.ExactSet/\o.data=.set es ep t/\ElemsOf G.kk es.toList/\(∀k,decide (k∈ks)=true↔∃e∈es.toList,G.kk.is k e.2=true) /\
  es.size<scanBound/\t.fits es.size=true/\es.size=ks.length/\Tbl G.led t
def dR.of {G:Stc}{h:Heap}{a:Addr}(x:dR G h a ks):h.SetOf G.kk a (λk=>decide (k∈ks)) ks.length:=by
 have#[o,es,ep,t,h1,h2,B,I,U,W,Y,Z,_]:=x;apply#[o,es,ep,t,h1,h2,B,I,U,W,Y,Z]
structure Rel (G:Stc)(σ:St)(h:Heap):Prop where
 L:∀a xs,σ.L a=some xs->∃ws n,IsL h a ws.toArray n/\VRs G h xs ws
 D:∀a es,σ.D a=some es->∃ds,h.DictOf G.kk a ds/\DRs G h es ds
 S:∀a ks,σ.S a=some ks->dR G h a ks
 I:∀a d f,σ.I a=some (d,f)->fZ G h a d f
 Z:∀a o,σ.Z a=some o->h.get? a=some o/\((σ.D a).isSome\/(σ.S a).isSome)
 Ll:∀a xs,σ.L a=some xs->xs.length<=bp
 Dl:∀a es,σ.D a=some es->es.length<=bp
 inj:∀a a' d f f',σ.I a=some (d,f)->σ.I a'=some (d,f')->a=a'
 apart:∀a d f,σ.I a=some (d,f)->σ.D d=none
 sep:∀a d f a' d' f',σ.I a=some (d,f)->σ.I a'=some (d',f')->a≠d'
 new:∀b,σ.dom b->G.hb.get? b=none
 base:∀b o,G.hb.get? b=some o->h.get? b=some o
structure Evo (X:List Addr)(σ:St)(h:Heap)(σ':St)(h':Heap):Prop where
 keep:∀b o,h.get? b=some o->¬σ.dom b->b∉X->h'.get? b=some o
 frz:je h h'
 dom:∀b,σ'.dom b->σ.dom b\/h.get? b=none
 there:∀b o,h.get? b=some o->∃o',h'.get? b=some o'
def Evo.refl (X:List Addr)(σ:St)(h:Heap):Evo X σ h σ h:=#[λ_ _ e _ _=>e,λ_ _ e _=>e,λ_ d=>.inl d,λ_ o e=>#[o,e]]
def Evo.trans {σ σ₁ σ₂:St}{h h₁ Z:Heap}(x:Evo X σ h σ₁ h₁)(y:Evo X σ₁ h₁ σ₂ Z):Evo X σ h σ₂ Z:=by
 apply#[λb o e nd W=>y.keep b o (x.keep b o e nd W) (λd=>?_) W,λb o e f=>y.frz b o (x.frz b o e f) f,λb d=>?_,λb o e=>?_]
 ·rcases x.dom b d with d|d
  ·show nd d
  ·rw[e]at d;cases d
 ·rcases y.dom b d with d|d
  ·show x.dom b d
  ·cases hq:h.get? b with
   |none=>show .inr rfl
   |some o=>have#[o',U]:=x.there b o hq;rw[U]at d;cases d
 ·have#[Y,e₁]:=x.there b o e;show y.there b Y e₁
def Evo.more {Y:List Addr}{σ σ':St}{h h':Heap}(x:Evo X σ h σ' h')(U:∀b∈X,b∈Y):Evo Y σ h σ' h':=
 #[λb o e nd Z=>x.keep b o e nd λW=>Z (U b W),x.frz,x.dom,x.there]
def Evo.less {Y:List Addr}{σ σ':St}{h h':Heap}(x:Evo X σ h σ' h')(U:∀b∈X,b∈Y\/h.get? b=none):Evo Y σ h σ' h':=
 #[λb o e nd Z=>x.keep b o e nd λW=>(U b W).elim Z λq=>(by rw[e]at q;cases q),x.frz,x.dom,x.there]
def za {xs:Array Value}(c:o.cls=.type "list")(d:o.data=.seq xs n):¬Frz o:=by
 rintro (⟨h,_⟩|⟨_,_,h⟩|⟨_,h⟩)
 ·show h c
 ·rw[d]at h;cases h
 ·rw[d]at h;cases h
def tn {es:Array DictEntry}(d:o.data=.dict es n):¬Frz o:=by
 rintro (⟨_,_,_,h⟩|⟨_,_,h⟩|⟨_,h⟩)<;>(rw[d]at h;cases h)
def vD {v:Option Value}(d:o.data=.cell v):¬Frz o:=by
 rintro (⟨_,_,_,h⟩|⟨_,_,h⟩|⟨_,h⟩)<;>(rw[d]at h;cases h)
def vq {h h':Heap}{a:Addr}(Z:Heap.SameBut a h h')(Y:∀o,h.get? a=some o->¬Frz o):je h h':=λb o e f=>by
 by_cases hb:b=a
 ·subst hb;show absurd f (Y o e)
 ·rw[Z.2 b hb];show e
def zi {h h':Heap}{a:Addr}{o':Obj}(Z:Heap.SameBut a h h')(Y:h'.get? a=some o'):∀b o,h.get? b=some o->∃o',h'.get? b=some o':=λb o e=>by
 by_cases hb:b=a
 ·subst hb;apply#[_,Y]
 ·apply#[o,by rw[Z.2 b hb];show e]
def none_at_size (h:Heap):h.get? h.objs.size=none:=by
 cases hq:h.get? h.objs.size with
 |none=>rfl
 |some o=>show absurd (gv hq) (fp _)
def wK {es:Array (Int×Value)}{t:SetTable}(d:o.data=.set es n t):¬Frz o:=by
 rintro (⟨_,_,_,h⟩|⟨_,_,h⟩|⟨_,h⟩)<;>(rw[d]at h;cases h)
def Rel.mx {G:Stc}{σ:St}{h:Heap}(R:Rel G σ h)(d:σ.dom b):∃o,h.get? b=some o:=by
 rcases d with d|d|d|d|d|⟨a,f,d⟩
 ·have#[xs,e]:=bt.mp d;have#[ws,n,Y,_]:=R.L b xs e;apply#[_,Y]
 ·have#[xs,e]:=bt.mp d;have#[ds,#[o,es,ep,Y,_,dd,_],_]:=R.D b xs e;apply#[o,Y]
 ·have#[xs,e]:=bt.mp d;have#[o,es,ep,t,Y,_,dd,_]:=R.S b xs e;apply#[o,Y]
 ·have#[#[d,f],e]:=bt.mp d;have#[o,Y,_]:=(R.I b d f e).here;apply#[o,Y]
 ·have#[o,e]:=bt.mp d;apply#[o,(R.Z b o e).1]
 ·have#[m,#[o',es,ep,W,dd,_],_]:=(R.I a b f d).ns;apply#[o',W]
def Rel.same {G:Stc}{σ:St}{h h':Heap}(R:Rel G σ h)(hk:∀b o,h.get? b=some o->σ.dom b->h'.get? b=some o)(U:je h h')(hb:∀b o,G.hb.get? b=some o->h'.get? b=some o):Rel G σ h' where
 L:=λa xs e=>by
  have#[ws,n,Y,v]:=R.L a xs e;apply#[ws,n,hk a _ Y (.inl (by rw[e];rfl)),v.mono U]
 D:=λa xs e=>by
  have#[ds,#[o,es,ep,Y,r],v]:=R.D a xs e;apply#[ds,#[o,es,ep,hk a o Y (.inr (.inl (by rw[e];rfl))),r],v.mono U]
 S:=λa xs e=>by
  have#[o,es,ep,t,Y,r]:=R.S a xs e;apply#[o,es,ep,t,hk a o Y (.inr (.inr (.inl (by rw[e];rfl)))),r]
 I:=λa d f e=>by
  have#[#[o,Y,r],#[m,#[o',es,ep,W,r'],v,B],ne]:=R.I a d f e;have dd:σ.dom d:=.inr (.inr (.inr (.inr (.inr #[a,f,e]))));apply#[#[o,hk a o Y (.inr (.inr (.inr (.inl (by rw[e];rfl))))),r],#[m,#[o',es,ep,hk d o' W dd,r'],λi x hx=>(v i x hx).mono U,B],ne]
 Z:=λa o e=>#[hk a o (R.Z a o e).1 (.inr (.inr (.inr (.inr (.inl (by rw[e];rfl)))))),(R.Z a o e).2]
 Ll:=R.Ll
 Dl:=R.Dl
 inj:=R.inj
 apart:=R.apart
 sep:=R.sep
 new:=R.new
 base:=hb
def Rel.push {G:Stc}{σ:St}{h:Heap}(R:Rel G σ h)(o:Obj):Rel G σ (h.push o):=
 R.same (λ_ _ e _=>av o e) (λ_ _ e _=>av o e) λb o' e=>av o (R.base b o' e)
def Evo.push (X:List Addr)(σ:St)(h:Heap)(o:Obj):Evo X σ h σ (h.push o):=
 #[λ_ _ e _ _=>av o e,λ_ _ e _=>av o e,λ_ d=>.inl d,λ_ o' e=>#[o',av o e]]
def dJ {σ:St}{a:Addr}(d:(σ.cz a xs).dom b):σ.dom b\/b=a:=by
 by_cases h:b=a
 ·show .inr h
 ·apply .inl ?_;rcases d with d|d
  ·show .inl (by simpa[St.cz,upd,h] using d)
  ·show .inr d
def pY {σ:St}{a:Addr}{xs:List (Key×V)}(d:(σ.qu a xs).dom b):σ.dom b\/b=a:=by
 by_cases h:b=a
 ·show .inr h
 ·apply .inl ?_;rcases d with d|d|d
  ·show .inl d
  ·show .inr (.inl (by simpa[St.qu,upd,h] using d))
  ·show .inr (.inr (by simpa[St.qu,clr,h] using d))
def xY {σ:St}{a:Addr}{xs:List Key}(d:(σ.kG a xs).dom b):σ.dom b\/b=a:=by
 by_cases h:b=a
 ·show .inr h
 ·apply .inl ?_;rcases d with d|d|d|d
  ·show .inl d
  ·show .inr (.inl d)
  ·show .inr (.inr (.inl (by simpa[St.kG,upd,h] using d)))
  ·show .inr (.inr (.inr (by simpa[St.kG,clr,h] using d)))
def kY {σ:St}{a:Addr}(hd:(σ.jv a d f).dom b):σ.dom b\/b=a\/b=d:=by
 by_cases h:b=a
 ·show .inr (.inl h)
 ·by_cases h':b=d
  ·show .inr (.inr h')
  ·apply .inl ?_;rcases hd with q|q|q|q|q|⟨c,g,q⟩
   ·show .inl q
   ·show .inr (.inl q)
   ·show .inr (.inr (.inl q))
   ·show .inr (.inr (.inr (.inl (by simpa[St.jv,upd,h] using q))))
   ·show .inr (.inr (.inr (.inr (.inl q))))
   ·apply .inr (.inr (.inr (.inr (.inr #[c,g,?_]))));by_cases Z:c=a
    ·simp only[St.jv,upd,Z,yj,fs,nr]at q;show absurd q.1.symm h'
    ·simpa[St.jv,upd,Z] using q
def pX {σ:St}{a:Addr}(hd:σ.dom a)(d:(σ.fJ a o).dom b):σ.dom b:=by
 by_cases h:b=a
 ·show h▸hd
 ·rcases d with d|d|d|d|d|d
  ·show .inl d
  ·show .inr (.inl d)
  ·show .inr (.inr (.inl d))
  ·show .inr (.inr (.inr (.inl d)))
  ·show .inr (.inr (.inr (.inr (.inl (by simpa[St.fJ,upd,h] using d)))))
  ·show .inr (.inr (.inr (.inr (.inr d))))
structure At (a:Addr)(h h':Heap):Prop where
 other:∀b o,b≠a->h.get? b=some o->h'.get? b=some o
 here:∃o,h'.get? a=some o
 BR:∀o,h.get? a=some o->¬Frz o
def At.frz {a:Addr}{h h':Heap}(x:At a h h'):je h h':=λb o e f=>x.other b o (λhb=>x.BR o (hb▸e) f) e
def At.there {a:Addr}{h h':Heap}(x:At a h h'):∀b o,h.get? b=some o->∃o',h'.get? b=some o':=λb o e=>by
 by_cases hb:b=a
 ·subst hb;show x.here
 ·apply#[o,x.other b o hb e]
def At.push (h:Heap)(Z:o.isFreed=false:=by rfl):At h.objs.size h (h.push o):=
 #[λ_ _ _ e=>av o e,#[o,cf _ Z],λo' e=>by rw[none_at_size]at e;cases e]
def At.oT {a:Addr}{h h':Heap}{o':Obj}(Y:Heap.SameBut a h h')(U:h.get? a=some o)(W:¬Frz o)(Z:h'.get? a=some o'):At a h h':=
 #[λb _ hb e=>by rw[Y.2 b hb];show e,#[o',Z],λ_ e=>by rw[U]at e;cases e;show W]
section
variable {G:Stc}{σ:St}{h h':Heap}{a:Addr}
def Rel.atL (R:Rel G σ h)(x:At a h h')(hb:b≠a)(e:σ.L b=some xs):∃ws n,IsL h' b ws.toArray n/\VRs G h' xs ws:=by
 have#[ws,n,Z,v]:=R.L b xs e;apply#[ws,n,x.other b _ hb Z,v.mono x.frz]
def Rel.atD (R:Rel G σ h)(x:At a h h')(hb:b≠a)(e:σ.D b=some es):∃ds,h'.DictOf G.kk b ds/\DRs G h' es ds:=by
 have#[ds,#[o,Z,ep,Y,r],v]:=R.D b es e;apply#[ds,#[o,Z,ep,x.other b o hb Y,r],v.mono x.frz]
def Rel.atS (R:Rel G σ h)(x:At a h h')(hb:b≠a)(e:σ.S b=some ks):dR G h' b ks:=by
 have#[o,Z,ep,t,Y,r]:=R.S b ks e;apply#[o,Z,ep,t,x.other b o hb Y,r]
def Rel.atI (R:Rel G σ h)(x:At a h h')(hb:b≠a)(hd:d≠a)(e:σ.I b=some (d,f)):fZ G h' b d f:=by
 have#[#[o,B,r],#[m,#[o',es,ep,Z,W],v,Y],ne]:=R.I b d f e;apply#[#[o,x.other b o hb B,r],#[m,#[o',es,ep,x.other d o' hd Z,W],λi y U=>(v i y U).mono x.frz,Y],ne]
def Rel.vC (R:Rel G σ h)(e:σ.L a=some xs):∃o,h.get? a=some o/\o.cls=.type "list":=by
 have#[ws,n,Z,_]:=R.L a xs e;apply#[_,Z,rfl]
def Rel.JT (R:Rel G σ h)(e:σ.D a=some es):∃o,h.get? a=some o/\o.cls=.type "dict":=by
 have#[ds,#[o,Y,ep,Z,c,_],_]:=R.D a es e;apply#[o,Z,c.1]
def Rel.JS (R:Rel G σ h)(e:σ.S a=some ks):∃o,h.get? a=some o/\o.cls=.type "set":=by
 have#[o,Y,ep,t,Z,c,_]:=R.S a ks e;apply#[o,Z,c.1]
def Rel.T6 (R:Rel G σ h)(e:σ.I a=some (d,f)):∃o,h.get? a=some o/\o.cls=.ref G.cS:=by
 have#[o,Z,c,_]:=(R.I a d f e).here;apply#[o,Z,c]
def Rel.JP (R:Rel G σ h)(e:σ.I a=some (d,f)):∃o es ep,h.get? d=some o/\o.data=.dict es ep:=by
 have#[m,#[o',es,ep,Z,dd,_],_]:=(R.I a d f e).ns;apply#[o',es,ep,Z,dd]
def Rel.V0 (R:Rel G σ h)(e:σ.L b=some xs)(W:σ.I a=some (d,f)):d≠b:=by
 rintro rfl;have#[o,es,ep,Y,hd]:=R.JP W;have#[ws,n,Z,_]:=R.L _ _ e;have rfl:=ah (Y.symm.trans Z);cases hd
def Rel.RV (R:Rel G σ h){xs:List Key}(e:σ.S b=some xs)(e':σ.I a=some (d,f)):d≠b:=by
 rintro rfl;have#[o,es,ep,W,hd]:=R.JP e';have#[o',U,B,t',Z,_,Y,_]:=R.S _ _ e;rw[W]at Z;cases Z;rw[hd]at Y;cases Y
def Rel.ID (R:Rel G σ h)(e:h.get? b=none)(Y:σ.I a=some (d,f)):d≠b:=by
 rintro rfl;have#[o,es,ep,Z,hd]:=R.JP Y;rw[Z]at e;cases e
def Rel.XT (R:Rel G σ h)(e:σ.Z b=some o):(∃o,h.get? b=some o/\o.cls=.type "dict")\/∃o,h.get? b=some o/\o.cls=.type "set":=
 (R.Z b o e).2.imp (λq=>by
  have#[x,q]:=bt.mp q;show R.JT q) λq=>by
  have#[x,q]:=bt.mp q;show R.JS q
def Rel.atZ (R:Rel G σ h)(x:At a h h')(n:∀b o,σ.Z b=some o->b≠a):∀b o,σ.Z b=some o->h'.get? b=some o/\((σ.D b).isSome\/(σ.S b).isSome):=λb o e=>#[x.other b o (n b o e) (R.Z b o e).1,(R.Z b o e).2]
def Rel.yZ (R:Rel G σ h)(e:h.get? b=some o)(d:(σ.D b).isSome\/(σ.S b).isSome):Rel G (σ.fJ b o) h:=
 ⟨R.L,R.D,R.S,R.I,λc o' q=>by
  by_cases Y:c=b
  ·subst Y;have rfl:=ah ((bg σ.Z c o).symm.trans q);apply#[e,d]
  ·show R.Z c o' ((bz Y).symm.trans q),R.Ll,R.Dl,R.inj,R.apart,R.sep,λc q=>R.new c (pX (d.elim (λd=>.inr (.inl d)) λd=>.inr (.inr (.inl d))) q),R.base⟩
def Evo.yZ (d:(σ.D b).isSome\/(σ.S b).isSome):Evo X σ h (σ.fJ b o) h:=
 #[λ_ _ e _ _=>e,λ_ _ e _=>e,λc q=>.inl (pX (d.elim (λd=>.inr (.inl d)) λd=>.inr (.inr (.inl d))) q),λ_ o e=>#[o,e]]
def Rel.putL (R:Rel G σ h)(x:At a h h')(B:σ.L a=none->h.get? a=none)(hl:IsL h' a ws.toArray n)(hv:VRs G h xs ws)(hz:xs.length<=bp):Rel G (σ.cz a xs) h':=by
 have old:∀b o,h.get? b=some o->∀c:Value,o.cls=c->c≠.type "list"->b≠a:=λb o e c hc W hb=>by
  subst hb;cases Y:σ.L b with
  |none=>rw[B Y]at e;cases e
  |some ys=>have#[o',U,c']:=R.vC Y;rw[e]at U;cases U;show W (hc.symm.trans c')
 have Z:∀b c,(∃o,h.get? b=some o/\o.cls=c)->c≠.type "list"->b≠a:=λb c ab W=>by have#[o,ho,hc]:=ab;show old b o ho c hc W
 apply⟨λb ys e=>?_,λb es e=>R.atD x (Z b _ (R.JT e) (by decide)) e,λb ks e=>R.atS x (Z b _ (R.JS e) (by decide)) e,
  λb d f e=>R.atI x (Z b _ (R.T6 e) (λq=>nomatch q)) (by
   cases Y:σ.L a with
   |none=>show R.ID (B Y) e
   |some ys=>show R.V0 Y e) e,R.atZ x λb o e=>(R.XT e).elim (λq=>Z b _ q (by decide)) λq=>Z b _ q (by decide),λb ys e=>?_,R.Dl,R.inj,R.apart,R.sep,λb d=>?_,λb o e=>?_⟩
 ·by_cases hb:b=a
  ·subst hb;simp only[St.cz,bg,fs]at e;subst e;apply#[ws,n,hl,hv.mono x.frz]
  ·simp only[St.cz,bz hb]at e;show R.atL x hb e
 ·by_cases hb:b=a
  ·subst hb;simp only[St.cz,bg,fs]at e;show e▸hz
  ·simp only[St.cz,bz hb]at e;show R.Ll b ys e
 ·rcases dJ d with d|rfl
  ·show R.new b d
  ·cases Y:G.hb.get? b with
   |none=>rfl
   |some o =>
    cases I:σ.L b with
    |none=>have:=R.base b o Y;rw[B I]at this;cases this
    |some ys=>have:=R.new b (.inl (by rw[I];rfl));rw[Y]at this;cases this
 ·apply x.other b o (λhb=>?_) (R.base b o e);subst hb;cases I:σ.L b with
  |none=>have:=R.base b o e;rw[B I]at this;cases this
  |some ys=>have:=R.new b (.inl (by rw[I];rfl));rw[e]at this;cases this
def Evo.putL (x:At a h h')(Y:σ.L a=none->h.get? a=none)(xs:List V):Evo X σ h (σ.cz a xs) h':=by
 apply#[λb o e nd _=>x.other b o (λhb=>?_) e,x.frz,λb d=>?_,x.there]
 ·subst hb;cases Z:σ.L b with
  |none=>rw[Y Z]at e;cases e
  |some ys=>show nd (.inl (by rw[Z];rfl))
 ·rcases dJ d with d|rfl
  ·show .inl d
  ·cases Z:σ.L b with
   |none=>show .inr (Y Z)
   |some ys=>show .inl (.inl (by rw[Z];rfl))
def Rel.putD (R:Rel G σ h)(x:At a h h')(hn:σ.D a=none->h.get? a=none)(hi:∀b f,σ.I b≠some (a,f)){xs:List (Key×V)}{ds:List (Key×Value)}(hl:h'.DictOf G.kk a ds)(hv:DRs G h xs ds)(hz:xs.length<=bp):Rel G (σ.qu a xs) h':=by
 have old:∀b o,h.get? b=some o->∀c:Value,o.cls=c->c≠.type "dict"->b≠a:=λb o e c hc W hb=>by
  subst hb;cases U:σ.D b with
  |none=>rw[hn U]at e;cases e
  |some ys=>have#[o',B,c']:=R.JT U;rw[e]at B;cases B;show W (hc.symm.trans c')
 have Y:∀b c,(∃o,h.get? b=some o/\o.cls=c)->c≠.type "dict"->b≠a:=λb c ab W=>by have#[o,ho,hc]:=ab;show old b o ho c hc W
 apply⟨λb es e=>R.atL x (Y b _ (R.vC e) (by decide)) e,λb ys e=>?_,λb ks e=>R.atS x (Y b _ (R.JS e) (by decide)) e,
  λb d f e=>R.atI x (Y b _ (R.T6 e) (λq=>nomatch q)) (λhd=>hi b f (hd▸e)) e,λb o e=>(by
   have#[hb,e]:=qB e;have#[q,r]:=R.Z b o e;apply#[x.other b o hb q,?_];show(upd σ.D a xs b).isSome=true\/_;rw[bz hb];show r),R.Ll,λb ys e=>?_,R.inj,λb d f e=>?_,R.sep,λb d=>?_,λb o e=>?_⟩
 ·by_cases hb:b=a
  ·clear Y old;subst hb;simp only[St.qu,bg,fs]at e;subst e;apply#[ds,hl,hv.mono x.frz]
  ·simp only[St.qu,bz hb]at e;show R.atD x hb e
 ·by_cases hb:b=a
  ·subst hb;simp only[St.qu,bg,fs]at e;show e▸hz
  ·simp only[St.qu,bz hb]at e;show R.Dl b ys e
 ·have hd:d≠a:=λhd=>hi b f (hd▸e);simp only[St.qu,bz hd];show R.apart b d f e
 ·rcases pY d with d|rfl
  ·show R.new b d
  ·cases U:G.hb.get? b with
   |none=>rfl
   |some o =>
    cases hL:σ.D b with
    |none=>have:=R.base b o U;rw[hn hL]at this;cases this
    |some ys=>have:=R.new b (.inr (.inl (by rw[hL];rfl)));rw[U]at this;cases this
 ·apply x.other b o (λhb=>?_) (R.base b o e);subst hb;cases hL:σ.D b with
  |none=>have:=R.base b o e;rw[hn hL]at this;cases this
  |some ys=>have:=R.new b (.inr (.inl (by rw[hL];rfl)));rw[e]at this;cases this
def Evo.putD (x:At a h h')(Y:σ.D a=none->h.get? a=none)(xs:List (Key×V)):Evo X σ h (σ.qu a xs) h':=by
 apply#[λb o e nd _=>x.other b o (λhb=>?_) e,x.frz,λb d=>?_,x.there]
 ·subst hb;cases Z:σ.D b with
  |none=>rw[Y Z]at e;cases e
  |some ys=>show nd (.inr (.inl (by rw[Z];rfl)))
 ·rcases pY d with d|rfl
  ·show .inl d
  ·cases Z:σ.D b with
   |none=>show .inr (Y Z)
   |some ys=>show .inl (.inr (.inl (by rw[Z];rfl)))
def Rel.HR (R:Rel G σ h)(x:At a h h')(hn:σ.S a=none->h.get? a=none){xs:List Key}(hl:dR G h' a xs):Rel G (σ.kG a xs) h':=by
 have old:∀b o,h.get? b=some o->∀c:Value,o.cls=c->c≠.type "set"->b≠a:=λb o e c hc U hb=>by
  subst hb;cases W:σ.S b with
  |none=>rw[hn W]at e;cases e
  |some ys=>have#[o',I,c']:=R.JS W;rw[e]at I;cases I;show U (hc.symm.trans c')
 have Y:∀b c,(∃o,h.get? b=some o/\o.cls=c)->c≠.type "set"->b≠a:=λb c ab U=>by have#[o,ho,hc]:=ab;show old b o ho c hc U
 apply⟨λb es e=>R.atL x (Y b _ (R.vC e) (by decide)) e,λb ks e=>R.atD x (Y b _ (R.JT e) (by decide)) e,λb ys e=>?_,
  λb d f e=>R.atI x (Y b _ (R.T6 e) (λq=>nomatch q)) (by
   cases W:σ.S a with
   |none=>show R.ID (hn W) e
   |some ys=>show R.RV W e) e,λb o e=>(by
   have#[hb,e]:=qB e;have#[q,r]:=R.Z b o e;apply#[x.other b o hb q,?_];show _\/(upd σ.S a xs b).isSome=true;rw[bz hb];show r),R.Ll,R.Dl,R.inj,R.apart,R.sep,λb d=>?_,λb o e=>?_⟩
 ·by_cases hb:b=a
  ·clear Y old;subst hb;simp only[St.kG,bg,fs]at e;subst e;show hl
  ·simp only[St.kG,bz hb]at e;show R.atS x hb e
 ·rcases xY d with d|rfl
  ·show R.new b d
  ·cases W:G.hb.get? b with
   |none=>rfl
   |some o =>
    cases B:σ.S b with
    |none=>have:=R.base b o W;rw[hn B]at this;cases this
    |some ys=>have:=R.new b (.inr (.inr (.inl (by rw[B];rfl))));rw[W]at this;cases this
 ·apply x.other b o (λhb=>?_) (R.base b o e);subst hb;cases B:σ.S b with
  |none=>have:=R.base b o e;rw[hn B]at this;cases this
  |some ys=>have:=R.new b (.inr (.inr (.inl (by rw[B];rfl))));rw[e]at this;cases this
def Evo.HR (x:At a h h')(Y:σ.S a=none->h.get? a=none)(xs:List Key):Evo X σ h (σ.kG a xs) h':=by
 apply#[λb o e nd _=>x.other b o (λhb=>?_) e,x.frz,λb d=>?_,x.there]
 ·subst hb;cases Z:σ.S b with
  |none=>rw[Y Z]at e;cases e
  |some ys=>show nd (.inr (.inr (.inl (by rw[Z];rfl))))
 ·rcases xY d with d|rfl
  ·show .inl d
  ·cases Z:σ.S b with
   |none=>show .inr (Y Z)
   |some ys=>show .inl (.inr (.inr (.inl (by rw[Z];rfl))))
def Rel.RE (R:Rel G σ h){f':Nat->Option V}(e:σ.I a=some (d,f))(x:At d h h')(hl:fZ G h' a d f'):Rel G (σ.jv a d f') h':=by
 have ao:d≠a:=hl.ne;have W:∀c d' g,(σ.jv a d f').I c=some (d',g)->∃ab,σ.I c=some (d',ab):=λc d' g q=>by
  by_cases hc:c=a
  ·subst hc;simp only[St.jv,bg,fs,nr]at q;apply#[f,q.1▸e]
  ·apply#[g,by simpa[St.jv,upd,hc] using q]
 apply⟨λb es Y=>R.atL x (R.V0 Y e).symm Y,λb ks Y=>R.atD x (λhb=>?_) Y,λb ys Y=>R.atS x (R.RV Y e).symm Y,λb d' g Y=>?_,R.atZ x λb o Y hb=>((R.Z b o Y).2.elim (λq=>(by subst hb;rw[R.apart a b f e]at q;cases q)) λq=>(by
  have#[ks,q]:=bt.mp q;show R.RV q e hb.symm)),R.Ll,R.Dl,λb b' d' g g' e1 e2=>?_,λb d' g Y=>?_,λb d' g b' aj g' e1 e2=>?_,λb hd=>?_,λb o Y=>?_⟩
 ·subst hb;have ag:σ.D b=some ks:=Y;rw[R.apart a b f e]at ag;cases ag
 ·by_cases hb:b=a
  ·subst hb;simp only[St.jv,bg,fs,nr]at Y;have#[rfl,rfl]:=Y;show hl
  ·simp only[St.jv,bz hb]at Y;show R.atI x (R.sep _ _ _ _ _ _ Y e) (λhd=>hb (R.inj b a d g f (hd▸Y) e)) Y
 ·have#[B,q1]:=W b d' g e1;have#[U,q2]:=W b' d' g' e2;show R.inj b b' d' B U q1 q2
 ·by_cases hb:b=a
  ·clear hl;subst hb;simp only[St.jv,bg,fs,nr]at Y;show Y.1▸R.apart b d f e
  ·show R.apart b d' g (by simpa[St.jv,upd,hb] using Y)
 ·have#[B,q1]:=W b d' g e1;have#[U,q2]:=W b' aj g' e2;show R.sep _ _ _ _ _ _ q1 q2
 ·have ha:σ.dom a:=.inr (.inr (.inr (.inl (by rw[e];rfl))));have ai:σ.dom d:=.inr (.inr (.inr (.inr (.inr #[a,f,e]))));rcases kY hd with q|rfl|rfl
  ·show R.new b q
  ·show R.new _ ha
  ·show R.new _ ai
 ·apply x.other b o (λhb=>?_) (R.base b o Y);clear W;subst hb;have:=R.new b (.inr (.inr (.inr (.inr (.inr #[a,f,e])))));rw[Y]at this;cases this
def Evo.RE (Z:Nat->Option V)(e:σ.I a=some (d,f))(x:At d h h'):Evo X σ h (σ.jv a d Z) h':=by
 apply#[λb o Y nd _=>x.other b o (λhb=>nd (hb▸.inr (.inr (.inr (.inr (.inr #[a,f,e])))))) Y,x.frz,λb hd=>.inl ?_,x.there];rcases kY hd with q|rfl|rfl
 ·show q
 ·show .inr (.inr (.inr (.inl (by rw[e];rfl))))
 ·show .inr (.inr (.inr (.inr (.inr #[a,f,e]))))
def Rel.RS (R:Rel G σ h)(ha:h.get? a=none)(hd:h.get? d=none)(ag:d≠a)(hk:∀b o,h.get? b=some o->h'.get? b=some o)(hl:fZ G h' a d λ_=>none):Rel G (σ.jv a d λ_=>none) h':=by
 have R':=R.same (λb o e _=>hk b o e) (λb o e _=>hk b o e) λb o e=>hk b o (R.base b o e);have Y:∀b,h.get? b=none->¬σ.dom b:=λb hb q=>by have#[o,ho]:=R.mx q;rw[hb]at ho;cases ho
 have ab:∀b g,σ.I b≠some (d,g):=λb g q=>Y d hd (.inr (.inr (.inr (.inr (.inr #[b,g,q])))));have aj:σ.I a=none:=by
  cases hq:σ.I a with
  |none=>rfl
  |some p=>show absurd (.inr (.inr (.inr (.inl (by rw[hq];rfl))))) (Y a ha)
 have base:∀c d' g,(σ.jv a d λ_=>none).I c=some (d',g)->(c=a/\d'=d)\/(c≠a/\σ.I c=some (d',g)):=λc d' g q=>by
  by_cases B:c=a
  ·subst B;simp only[St.jv,bg,fs,nr]at q;show .inl #[rfl,q.1.symm]
  ·show .inr #[B,by simpa[St.jv,upd,B] using q]
 apply#[R'.L,R'.D,R'.S,λb d' g e'=>?_,R'.Z,R.Ll,R.Dl,λb b' d' g g' e1 e2=>?_,λb d' g e'=>?_,λb d' g b' ai g' e1 e2=>?_,λb q=>?_,R'.base]
 ·by_cases hb:b=a
  ·subst hb;simp only[St.jv,bg,fs,nr]at e';have#[rfl,rfl]:=e';show hl
  ·show R'.I b d' g (by simpa[St.jv,upd,hb] using e')
 ·rcases base b d' g e1 with ⟨rfl,rfl⟩|⟨_,U⟩<;>rcases base b' d' g' e2 with ⟨h1,h2⟩|⟨_,q2⟩
  ·show h1.symm
  ·show absurd q2 (ab _ _)
  ·show absurd (h2▸U) (ab _ _)
  ·show R.inj b b' d' g g' U q2
 ·rcases base b d' g e' with ⟨rfl,rfl⟩|⟨_,U⟩
  ·show σ.D d'=none;cases hq:σ.D d' with
   |none=>rfl
   |some p=>show absurd (.inr (.inl (by rw[hq];rfl))) (Y d' hd)
  ·show R.apart b d' g U
 ·have W:∀c d' g,σ.I c=some (d',g)->σ.dom c/\σ.dom d':=λc d' g q=>#[.inr (.inr (.inr (.inl (by rw[q];rfl)))),.inr (.inr (.inr (.inr (.inr #[c,g,q]))))];rcases base b d' g e1 with ⟨rfl,rfl⟩|⟨_,U⟩<;>rcases base b' ai g' e2 with ⟨h1,h2⟩|⟨_,q2⟩
  ·rw[h2];show ag.symm
  ·rintro rfl;show Y _ ha (W _ _ _ q2).2
  ·rw[h2];rintro rfl;show Y _ hd (W _ _ _ U).1
  ·show R.sep _ _ _ _ _ _ U q2
 ·have fresh:∀c,h.get? c=none->G.hb.get? c=none:=λc B=>by
   cases hq:G.hb.get? c with
   |none=>rfl
   |some o=>rw[R.base c o hq]at B;cases B
  rcases kY q with q|rfl|rfl
  ·show R.new b q
  ·show fresh _ ha
  ·show fresh _ hd
def Evo.RS (f:Nat->Option V)(Z:h.get? a=none)(hd:h.get? d=none)(hk:∀b o,h.get? b=some o->h'.get? b=some o):Evo X σ h (σ.jv a d f) h':=by
 apply#[λb o e _ _=>hk b o e,λb o e _=>hk b o e,λb q=>?_,λb o e=>#[o,hk b o e]];rcases kY q with q|rfl|rfl
 ·show .inl q
 ·show .inr Z
 ·show .inr hd
end
end MP
end
section
namespace MP
open PySem PyProof.Rows
variable {env:Env}{ρ:Fr}{h:Heap}{Q:V->St->Prop}{w:Value}{b:Bool}
structure AOk (A:Around)(d:Nat):Prop where
 handled:A.handled=none
 depth:A.depth+3*d+20<recursionLimit
 units:A.units+30*d+300<cLine
structure yg (env:Env):Prop where
 kind:env.scope.kind=.function
 nd:(env.scope.names.map (·.1)).Nodup
 globals:env.globals=mainGlobals
 builtins:env.builtins=builtinsNs
structure FR (G:Stc)(σ:St)(env:Env)(ρ:Fr)(h:Heap):Prop where
 ns:∃m,h.Ns env.locals m/\∀i x,env.scope.names[i]?=some (x,.local)->OV G h (ρ i) (m x)
 cells:∀(i:Nat) (x:Str) (k:NameKind),env.scope.names[i]?=some (x,k)->k=.cell\/k=.free->∃c w,env.cells.lookup x=some c/\h.IsCell c w/\OV G h (ρ i) w/\¬σ.dom c/\c≠env.locals/\(G.cap x=false->G.hb.get? c=none)
 inj:∀(i j:Nat) (x y:Str) (k k':NameKind) (c:Addr),env.scope.names[i]?=some (x,k)->env.scope.names[j]?=some (y,k')->(k=.cell\/k=.free)->(k'=.cell\/k'=.free)->env.cells.lookup x=some c->env.cells.lookup y=some c->i=j
 loc:¬σ.dom env.locals
 notfrz:∀o,h.get? env.locals=some o->¬Frz o
 new:G.hb.get? env.locals=none
 allc:∀p∈env.cells,∃o,h.get? p.2=some o
def FR.evo {G:Stc}{σ σ':St}{h':Heap}(F:FR G σ env ρ h)(x:Evo [] σ h σ' h'):FR G σ' env ρ h':=by
 have#[m,#[o,es,ep,U,r],hm]:=F.ns;have W:=x.keep _ _ U F.loc (by simp);have Z:∀b o,h.get? b=some o->¬σ.dom b->¬σ'.dom b:=λb o e nd d=>(x.dom b d).elim nd λq=>by rw[e]at q;cases q
 apply#[#[m,#[o,es,ep,W,r],λi y e=>(hm i y e).mono x.frz],λi y k e hk=>?_,F.inj,Z _ _ U F.loc,λab e=>?_,F.new,λp hp=>by have#[o,e]:=F.allc p hp;show x.there _ o e]
 ·have#[c,w,h1,#[B,Y,hd],h3,I,h5]:=F.cells i y k e hk;apply#[c,w,h1,#[B,x.keep _ _ Y I (by simp),hd],h3.mono x.frz,Z _ _ Y I,h5]
 ·rw[W]at e;cases e;show F.notfrz o U
structure Go (X:List Addr)(σ:St)(s:Shared)(σ':St)(s':Shared):Prop where
 e:Evo X σ s.heap σ' s'.heap
 g:s'.gens=s.gens
 o:s'.os=s.os
inductive jg (G:Stc)(X:List Addr)(σ:St)(s:Shared)(Q:V->St->Prop)(w:Value)(s':Shared):Prop
 |mk (v:V) (σ':St):Q v σ'->VR G s'.heap v w->Rel G σ' s'.heap->Go X σ s σ' s'->jg G X σ s Q w s'
inductive kz (G:Stc)(X:List Addr)(σ:St)(s:Shared)(Q:Bool->St->Prop)(b:Bool)(s':Shared):Prop
 |mk (σ':St):Q b σ'->Rel G σ' s'.heap->Go X σ s σ' s'->kz G X σ s Q b s'
inductive KX (G:Stc)(X:List Addr)(σ:St)(s:Shared)(Q:List V->St->Prop)(ws:List Value)(s':Shared):Prop
 |mk (vs:List V) (σ':St):Q vs σ'->VRs G s'.heap vs ws->Rel G σ' s'.heap->Go X σ s σ' s'->KX G X σ s Q ws s'
section
variable {G:Stc}{X:List Addr}{σ σ₁ σ₂:St}{s s₁ s₂:Shared}{tk:Nat}{M:Model}{A:Around}{E:QqV}
def Go.refl:Go X σ s σ s:=#[Evo.refl _ _ _,rfl,rfl]
def Go.trans (x:Go X σ s σ₁ s₁)(y:Go X σ₁ s₁ σ₂ s₂):Go X σ s σ₂ s₂:=#[x.e.trans y.e,y.g.trans x.g,y.o.trans x.o]
def Go.frz (x:Go X σ s σ₁ s₁):je s.heap s₁.heap:=x.e.frz
def Go.keep (x:Go X σ s σ₁ s₁):∀b o,s.heap.get? b=some o->¬σ.dom b->b∉X->s₁.heap.get? b=some o:=x.e.keep
def Go.dom (x:Go X σ s σ₁ s₁):∀b,σ₁.dom b->σ.dom b\/s.heap.get? b=none:=x.e.dom
def Go.there (x:Go X σ s σ₁ s₁):∀b o,s.heap.get? b=some o->∃o',s₁.heap.get? b=some o':=x.e.there
def Go.new (x:Go X σ s σ₁ s₁){b:Addr}(e:s₁.heap.get? b=none):s.heap.get? b=none:=by
 cases hq:s.heap.get? b with
 |none=>rfl
 |some o=>have#[o',Z]:=x.there _ _ hq;rw[e]at Z;cases Z
def Go.more {Y:List Addr}(x:Go X σ s σ₁ s₁)(Z:∀b∈X,b∈Y):Go Y σ s σ₁ s₁:=#[x.e.more Z,x.g,x.o]
def Go.less {Y:List Addr}(x:Go X σ s σ₁ s₁)(Z:∀b∈X,b∈Y\/s.heap.get? b=none):Go Y σ s σ₁ s₁:=#[x.e.less Z,x.g,x.o]
def Go.to {Z:Drawn}(x:Go X σ s σ₁ s₁)(y:Evo X σ₁ s₁.heap σ₂ h):Go X σ s σ₂ #[h,s₁.gens,Z,tk,s₁.os]:=#[x.e.trans y,x.g,x.o]
def Go.tok (x:Go X σ s σ₁ s₁):Go X σ s σ₁ {s₁ with toks:=tk}:=#[x.e,x.g,x.o]
def jg.back {s':Shared}(x:Go X σ s σ₁ s₁):jg G X σ₁ s₁ Q w s'->jg G X σ s Q w s'
 |⟨v,σ',q,vr,r,e⟩=>#[v,σ',q,vr,r,x.trans e]
def kz.back {Q:Bool->St->Prop}{s':Shared}(x:Go X σ s σ₁ s₁):kz G X σ₁ s₁ Q b s'->kz G X σ s Q b s'
 |⟨σ',q,r,e⟩=>#[σ',q,r,x.trans e]
def Go.back {t:Sem Value}(x:Go X σ s σ₁ s₁)(h:wpAny M A t (jg G X σ₁ s₁ Q) E s₂):wpAny M A t (jg G X σ s Q) E s₂:=cg h (λ_ _=>jg.back x) λ_ _ x=>x
def Go.yD {t:Sem Bool}{Q:Bool->St->Prop}(x:Go X σ s σ₁ s₁)(h:wpAny M A t (kz G X σ₁ s₁ Q) E s₂):wpAny M A t (kz G X σ s Q) E s₂:=cg h (λ_ _=>kz.back x) λ_ _ x=>x
def jg.here {v:V}(q:Q v σ)(vr:VR G s.heap v w)(r:Rel G σ s.heap):jg G X σ s Q w {s with toks:=tk}:=#[v,σ,q,vr,r,Evo.refl _ _ _,rfl,rfl]
def jg.cO {v:V}(q:Q v σ)(vr:VR G s.heap v w)(r:Rel G σ s.heap):jg G X σ s Q w s:=#[v,σ,q,vr,r,.refl]
def kz.here {Q:Bool->St->Prop}(q:Q b σ)(r:Rel G σ s.heap):kz G X σ s Q b s:=#[σ,q,r,.refl]
def kz.cO {Q:Bool->St->Prop}(q:Q b σ)(r:Rel G σ s.heap):kz G X σ s Q b {s with toks:=tk}:=#[σ,q,r,Evo.refl _ _ _,rfl,rfl]
end
public abbrev Stc.M (G:Stc):Model:=model G.prog G.w
structure Cx (G:Stc)(sc:Scope)(d:Nat)(A:Around)(env:Env)(ρ:Fr)(σ:St)(s:Shared):Prop where
 ao:AOk A d
 es:env.scope=sc
 eo:yg env
 F:FR G σ env ρ s.heap
 R:Rel G σ s.heap
def Cx.go {G:Stc}{sc:Scope}{d:Nat}{A:Around}{σ σ₁:St}{s s₁:Shared}(c:Cx G sc d A env ρ σ s)(r:Rel G σ₁ s₁.heap)(x:Go [] σ s σ₁ s₁):Cx G sc d A env ρ σ₁ s₁:=#[c.ao,c.es,c.eo,c.F.evo x.e,r]
def Cx.at {G:Stc}{sc:Scope}{d:Nat}{A:Around}{Z:Fr}{σ σ₁:St}{s s₁:Shared}(c:Cx G sc d A env ρ σ s)(F:FR G σ₁ env Z s₁.heap)(R:Rel G σ₁ s₁.heap):Cx G sc d A env Z σ₁ s₁:=#[c.ao,c.es,c.eo,F,R]
abbrev fg (G:Stc)(C:Cal)(sc:Scope)(d:Nat)(e:Ex)(ex:Expr):Prop:=
 ∀⦃A E env ρ σ Q s⦄,Cx G sc d A env ρ σ s->wpE C e ρ σ Q->wpAny G.M A (eval ex env) (jg G [] σ s Q) E s
abbrev tu (G:Stc)(C:Cal)(sc:Scope)(d:Nat)(e:Ex)(ex:Expr):Prop:=
 ∀⦃A E env ρ σ Q s⦄,Cx G sc d A env ρ σ s->wpT C e ρ σ Q->wpAny G.M A (isTrue ex env (eval ex env)) (kz G [] σ s Q) E s
abbrev qa (G:Stc)(C:Cal)(sc:Scope)(d:Nat)(es:Exs)(exs:List Expr):Prop:=
 ∀⦃A E env ρ σ Q s pos⦄,Cx G sc d A env ρ σ s->wh C es ρ σ Q->wpAny G.M A (spliced (backTo pos (starEach exs env))) (KX G [] σ s Q) E s
section
variable {G:Stc}{A:Around}{E:QqV}{s:Shared}{σ:St}{α:Type}
def nj {t:Sem Value}{P:V->St->Prop}{R:QqV}(h:wpAny G.M A t (jg G [] σ s P) E s)
  (k:∀v σ₁ s₁ w,P v σ₁->VR G s₁.heap v w->Rel G σ₁ s₁.heap->Go [] σ s σ₁ s₁->R w s₁):wpAny G.M A t R E s:=
 cg h (λ_ _ Z=>by have#[v,σ',q,vr,r,x]:=Z;show k v σ' _ _ q vr r x) λ_ _ x=>x
def rG {t:Sem Bool}{P:Bool->St->Prop}{R:Bool->Shared->Prop}(h:wpAny G.M A t (kz G [] σ s P) E s)
  (k:∀b σ₁ s₁,P b σ₁->Rel G σ₁ s₁.heap->Go [] σ s σ₁ s₁->R b s₁):wpAny G.M A t R E s:=
 cg h (λ_ _ Z=>by have#[σ',q,r,x]:=Z;show k _ σ' _ q r x) λ_ _ x=>x
def oN {t:Sem (List Value)}{P:List V->St->Prop}{R:List Value->Shared->Prop}(h:wpAny G.M A t (KX G [] σ s P) E s)
  (k:∀vs σ₁ s₁ ws,P vs σ₁->VRs G s₁.heap vs ws->Rel G σ₁ s₁.heap->Go [] σ s σ₁ s₁->R ws s₁):wpAny G.M A t R E s:=
 cg h (λ_ _ Z=>by have#[v,σ',q,vr,r,x]:=Z;show k v σ' _ _ q vr r x) λ_ _ x=>x
end
def qT {G:Stc}{σ:St}{a:Addr}{xs:List V}{ws:List Value}(R:Rel G σ h)(e:σ.L a=some xs)(v:VRs G h xs ws):ws.length<=bp:=v.length▸R.Ll a xs e
def E9 {n:Nat}(h:n<=bp):(n:Int)<2^63:=Int.lt_of_le_of_lt (Int.ofNat_le.mpr h) (by decide)
def RU (n:Nat):((n:Int) != 0)=(n != 0):=by
 cases n<;>rfl
def sX {α Z:Type}{ws:List α}{ns:List Z}(q:ws.length=ns.length):ws.toArray.isEmpty=ns.isEmpty:=by
 cases ws<;>cases ns<;>first|rfl|cases q
set_option maxRecDepth 100000 in
def D0 {prog:Program}{w:World}{A:Around}{E:QqV}{s:Shared}{a:Addr}{o:Obj}{Q:Bool->Shared->Prop}(Z:s.heap.get? a=some o)(Y:o.cls=.type "function")(h:Q true s):wpAny (model prog w) A (truthy (.ref a)) Q E s:=by
 have hT:s.TypeIs (.ref a) "function":=#[o,Z,Y];unfold truthy
 first
  |refine ae (wpAny_callSpecial?_none (name:=Str.ofString "__bool__") hT (by rw[fj,dh];kernel_rfl) ?_)
  |refine ae (af (ae (wpAny_callSpecial?_none (name:=Str.ofString "__bool__") hT (by rw[fj,dh];kernel_rfl) ?_)))
 first
  |refine ae (iG (name:=Str.ofString "__len__") (r:=none) hT (by rw[fj,dh];kernel_rfl) ?_)
  |refine ae (af (ae (iG (name:=Str.ofString "__len__") (r:=none) hT (by rw[fj,dh];kernel_rfl) ?_)))
 show af h
def gQ {G:Stc}{A:Around}{E:QqV}{s:Shared}{σ:St}{v:V}{K:Bool->Prop}(R:Rel G σ s.heap)(vr:VR G s.heap v w)(h:tc v σ K){Q:Bool->Shared->Prop}
  (k:∀b tk,K b->Q b {s with toks:=tk}):wpAny G.M A (truthy w) Q E s:=by
 cases v
 case none=>have rfl:=vr;show truthy_none (k _ s.toks h)
 case bool=>have rfl:=vr;show rf (k _ s.toks h)
 case int=>have#[t,rfl]:=vr;show truthy_int (k _ s.toks h)
 case str =>
  have#[t,rfl]:=vr;show PySem.P.truthy_str (Int.not_le.mpr (E9 h.1)) (k _ _ (by rw[RU];show h.2))
 case L =>
  have rfl:=vr;have#[xs,e,hk]:=h;have#[ws,n,Z,Y]:=R.L _ xs e;show wpAny_truthy_list Z.isList (E9 (qT R e Y)) (k _ _ (by rw[sX Y.length.symm];show hk))
 case ro =>
  have#[a,ws,n,rfl,g,r]:=vr;show wpAny_truthy_list #[_,R.base _ _ g,rfl,_,rfl] (E9 (gp (Nat.le_of_eq r.length) h.1)) (k _ _ (by rw[sX r.length];show h.2))
 case clo =>
  have#[a,o,rfl,_,W,U]:=vr;show D0 (R.base _ _ W) U (k _ s.toks h)
 all_goals first|show False.elim h|show False.elim vr
abbrev binOp:Bop->Operator
 |.add=>.Add|.sub=>.Sub|.mul=>.Mult|.fdiv=>.FloorDiv|.mod=>.Mod|.pow=>.Pow
abbrev n7:Cop->CmpOp
 |.eq=>.Eq|.ne=>.NotEq|.lt=>.Lt|.le=>.LtE|.gt=>.Gt|.ge=>.GtE|.is=>.Is|.isNot=>.IsNot|.isIn=>.In|.notIn=>.NotIn
def log2_lt_of {b:Int}(h:b.natAbs<2^60):b.natAbs.log2<9000:=by
 by_cases h0:b.natAbs=0
 ·rw[h0];decide +kernel
 ·have:=(Nat.log2_lt h0).mpr h;(show dp (.l .A (.n 9000)) .a (.l .A (.n 60)) this)
section
variable {G:Stc}{A:Around}{E:QqV}{s:Shared}{σ:St}
def oF {op:Bop}{a b:Int}{t u:Tok}(R:Rel G σ s.heap)(h:eU op (.int a) (.int b) σ Q):wpAny G.M A (binaryOp (binOp op) (.int a t) (.int b u)) (jg G [] σ s Q) E s:=by
 cases op with
 |add=>show add_int (jg.here h (.int _ _) R)
 |sub=>show sub_int (jg.here h (.int _ _) R)
 |mul =>
  apply mul_int (jg.here h.2 (.int _ _) R) ?_;rcases h.1 with q|q
  ·show IntMulOk.of_left (intBits_le_64 ((Ar.nab _).elim (λZ=>(mq (.il (.g .Q) .A) .a .a4 Z.1)) λZ=>(uu (.il (.g .Q) .A) .d .W .bG q Z.2)) ((Ar.nab _).elim (λZ=>(uu (.il .A .Q) .d .W .aZ q Z.2)) λZ=>(mq (.il .A .Q) .a .bD Z.1)))
  ·show IntMulOk.of_right (intBits_le_64 ((Ar.nab _).elim (λZ=>(mq (.il (.g .Q) .A) .a .a4 Z.1)) λZ=>(uu (.il (.g .Q) .A) .d .W .bG q Z.2)) ((Ar.nab _).elim (λZ=>(uu (.il .A .Q) .d .W .aZ q Z.2)) λZ=>(mq (.il .A .Q) .a .bD Z.1)))
 |fdiv=>show floordiv_int h.1 (jg.here h.2.2 (.int _ _) R) (.inl (PyProof.noPylong_of_log2 (log2_lt_of h.2.1)))
 |mod=>show mod_int' h.1 (jg.here h.2 (.int _ _) R)
 |pow =>
  have#[h0,I,U,Y]:=h;show pow_int_small h0 (mq (.ik .A (.n 1000000)) .a (.ik .A (.n 1000)) I) U (jg.here Y (.int _ _) R)
end
section
variable {k:Nat}{pos:Pos}{x e₁:Expr}{a b:Ex}{rest xs:List Expr}
variable {G:Stc}{C:Cal}{sc:Scope}{d:Nat}
def GN:fg G C sc d .none (.Constant .none k pos):=λ_ _ _ _ _ _ _ c h=>Constant_none (jg.cO h .none c.R)
def H0 {b:Bool}:fg G C sc d (.bool b) (.Constant (.bool b) k pos):=λ_ _ _ _ _ _ _ c h=>Constant_bool (jg.cO h (.bool b) c.R)
def B9 {i:Int}:fg G C sc d (.int i) (.Constant (.int i) k pos):=λ_ _ _ _ _ _ _ c h=>wpAny_Constant_int (jg.here h (.int _ _) c.R)
def M1 {x:Str}:fg G C sc d (.str x) (.Constant (.str x) k pos):=λ_ _ _ _ _ _ _ c h=>by
 show wpAny _ _ (mkText x) _ _ _;show wpAny_mkText (jg.here h (.str _ _) c.R)
def vn {names:List (Str×NameKind)}(nd:(names.map (·.1)).Nodup):∀{i:Nat} {x:Str} {k:NameKind},names[i]?=some (x,k)->names.lookup x=some k:=by
 induction names with
 |nil=>intro i x k e;simp at e
 |cons p r Y =>
  intro i x k e;have#[y,k']:=p;simp only[ju,List.nodup_cons]at nd;cases i with
  |zero=>simp only[List.getElem?_cons_zero,fs,nr]at e;have#[rfl,rfl]:=e;simp
  |succ i =>
   simp only[List.getElem?_cons_succ]at e;have Z:x≠y:=λq=>nd.1 (by
    subst q;show cq.mpr #[(x,k),cw e,rfl])
   rw[nt,vi.mpr Z];show Y nd.2 e
abbrev isVar (k:NameKind):Bool:=k==.local||k==.cell||k==.free
abbrev jl (x:Str):Bool:=!(x==("__debug__":Str))&&!(x==("__classdict__":Str))
def kE {A:Around}{E:QqV}{env:Env}{ρ:Fr}{σ:St}{s:Shared}{i:Nat}{x:Str}{k:NameKind}{v:V}{Q:QqV}(U:yg env)(F:FR G σ env ρ s.heap)
  (hi:env.scope.names[i]?=some (x,k)) (hk:isVar k=true) (B:jl x=true) (hv:ρ i=some v) (h:∀w,VR G s.heap v w->Q w s):wpAny G.M A (loadName env x) Q E s:=by
 have Z:env.kindOf x=some k:=vn U.nd hi;simp only[jl,dw,fh]at B;have get:∀{w:Option Value},OV G s.heap (ρ i) w->∃W,w=some W/\VR G s.heap v W:=λ{w} o=>by
  rw[hv]at o;cases w with
  |none=>show o.elim
  |some W=>refine#[W,rfl,o]
 cases k with
 | «local» =>
  have#[m,hn,hm]:=F.ns;have#[W,e,vr]:=get (hm i x hi);show wpAny_loadName_local U.kind Z hn e (h W vr)
 |cell =>
  have#[c,w,I,Y,o,_,_,_]:=F.cells i x _ hi (.inl rfl);have#[W,rfl,vr]:=get o;show wpAny_loadName_cell U.kind Z I Y (h W vr)
 |free =>
  have#[c,w,I,Y,o,_,_,_]:=F.cells i x _ hi (.inr rfl);have#[W,rfl,vr]:=get o;show wpAny_loadName_free U.kind Z I Y (h W vr) B.2
 |_=>cases hk
def nU {i:Nat}{x:Str}{k:NameKind}(U:sc.names[i]?=some (x,k))(hk:isVar k=true)(Y:jl x=true):fg G C sc d (.l i) (.Name x pos):=λ_ _ _ _ _ _ _ c h=>by
 have#[v,W,q]:=h;have Z:(x==("__debug__":Str))=false:=by simp only[jl,dw,fh]at Y;show Y.1
 show wpAny_Name (kE c.eo c.F (by rw[c.es];show U) hk Y W λw vr=>jg.cO q vr c.R) Z
def B8 (Z:fg G C sc d a x):fg G C sc d (.neg a) (.UnaryOp .USub x pos):=λ_ _ _ _ _ _ _ c h =>
 UnaryOp_ (nj (Z c h) λv σ₁ s₁ w q vr r x=>by
  have#[i,rfl,q]:=q;have#[t,rfl]:=vr;show PyProof.Rows.neg_int (jg.back x (jg.here q (.int _ _) r)))
def M7 (Y:fg G C sc d a x):fg G C sc d (.not a) (.UnaryOp .Not x pos):=λ_ _ _ _ _ _ _ c h =>
 UnaryOp_ (nj (Y c h) λv σ₁ s₁ w q vr r x=>not_of (gQ r vr q λb Z q=>jg.back x (jg.here q (.bool _) r)))
def snd_and {Z:Expr}(W:fg G C sc d a e₁)(hb:fg G C sc d b (.BoolOp .And (Z::rest) pos)):fg G C sc d (.and a b) (.BoolOp .And (e₁::Z::rest) pos):=λ_ _ _ _ _ _ _ c h =>
 BoolOp_and (nj (W c h) λv σ₁ s₁ w q vr r x=>gQ r vr q λt Y q=>by
  cases t with
  |true=>show x.tok.back (hb (c.go r x.tok) q)
  |false=>show jg.back x (jg.here q vr r))
def QU {Z:Expr}(W:fg G C sc d a e₁)(hb:fg G C sc d b (.BoolOp .Or (Z::rest) pos)):fg G C sc d (.or a b) (.BoolOp .Or (e₁::Z::rest) pos):=λ_ _ _ _ _ _ _ c h =>
 BoolOp_or (nj (W c h) λv σ₁ s₁ w q vr r x=>gQ r vr q λt Y q=>by
  cases t with
  |false=>show x.tok.back (hb (c.go r x.tok) q)
  |true=>show jg.back x (jg.here q vr r))
def MA {c:Ex}{y z:Expr}(Z:tu G C sc d c x)(Y:fg G C sc d a y)(hb:fg G C sc d b z):fg G C sc d (.I c a b) (.IfExp x y z pos):=λ_ _ _ _ _ _ _ c h =>
 IfExp_ (rG (Z c h) λt σ₁ s₁ q r x=>by
  cases t with
  |true=>show x.back (Y (c.go r x) q)
  |false=>show x.back (hb (c.go r x) q))
def H7 (Y:tu G C sc d a x):tu G C sc d (.not a) (.UnaryOp .Not x pos):=λ_ _ _ _ _ _ _ c h =>
 isTrue_not (cg (Y c h) (λ_ _ Z=>by have#[a,q,r,x]:=Z;apply#[a,q,r,x]) λ_ _ x=>x)
def HA (Z:tu G C sc d a e₁)(hb:tu G C sc d b (.BoolOp .And rest pos)):tu G C sc d (.and a b) (.BoolOp .And (e₁::rest) pos):=λ_ _ _ _ _ _ _ c h =>
 isTrue_and (rG (Z c h) λt σ₁ s₁ q r x=>by
  cases t with
  |true=>show x.yD (hb (c.go r x) q)
  |false=>show kz.back x (kz.here q r))
def MJ (Z:tu G C sc d a e₁)(hb:tu G C sc d b (.BoolOp .Or rest pos)):tu G C sc d (.or a b) (.BoolOp .Or (e₁::rest) pos):=λ_ _ _ _ _ _ _ c h =>
 isTrue_or (rG (Z c h) λt σ₁ s₁ q r x=>by
  cases t with
  |false=>show x.yD (hb (c.go r x) q)
  |true=>show kz.back x (kz.here q r))
def H8 {c:Ex}{y z:Expr}(Z:tu G C sc d c x)(Y:tu G C sc d a y)(hb:tu G C sc d b z):tu G C sc d (.I c a b) (.IfExp x y z pos):=λ_ _ _ _ _ _ _ c h =>
 isTrue_IfExp (rG (Z c h) λt σ₁ s₁ q r x=>by
  cases t with
  |true=>show x.yD (Y (c.go r x) q)
  |false=>show x.yD (hb (c.go r x) q))
def xw {e:Ex}(U:fg G C sc d e x)(W:∀env whole,isTrue x env whole=(do let v←whole;standAt x.pos;holding [v] (truthy v)))
  (Y:∀ρ σ Q,wpT C e ρ σ Q->wpE C e ρ σ λv σ=>tc v σ λb=>Q b σ):tu G C sc d e x:=λ_ _ _ _ _ _ _ c h =>
 isTrue_plain (nj (U c (Y _ _ _ h)) λv σ₁ s₁ w q vr r y=>gQ r vr q λb Z q=>kz.back y (kz.cO q r)) (W _ _)
def md:qa G C sc d .nil []:=λ_ _ _ _ _ _ _ _ c h=>nG #[[],_,h,.nil,c.R,.refl]
def jy {e:Ex}{r:Exs}(he:fg G C sc d e x)(B:qa G C sc d r xs)(I:∀env,starEach (x::xs) env=(false,eval x env)::starEach xs env):qa G C sc d (.cons e r) (x::xs):=λ_ _ _ _ _ _ _ _ c h =>
 spliced_more (nj (he c h) λv σ₁ s₁ w q vr U x =>
  oN (B (c.go U x) q) λvs σ₂ s₂ ws Y W r₂ Z =>
   #[v::vs,σ₂,Y,.cons (vr.mono Z.frz) W,r₂,x.trans Z]) (I _)
def B6 {es:Exs}(h₀:qa G C sc d es xs):fg G C sc d (.T es) (.Tuple xs k pos):=λA E env ρ σ Q s c h =>
 Tuple_ (oN (h₀ c h) λvs σ₁ s₁ ws q Z r x=>by
  have hz:=q.1;rw[Z.length]at hz;unfold bp at hz;apply jt (?_:jg G [] σ s Q (.ref s₁.heap.objs.size) _) (by show ws.toArray.size<=sizeLine;rw[cv,show sizeLine=16777216 from rfl];(show dp .bA .a .bH hz));apply#[.T vs,σ₁,q.2,.T (IsT.new _ _) (Z.mono λ_ _ e _=>av _ e),r.push _,x.to (Evo.push _ _ _ _)])
def M8 {es:Exs}(h₀:qa G C sc d es xs):fg G C sc d (.L es) (.List xs pos):=λA E env ρ σ Q s c h =>
 List_ (oN (h₀ c h) λvs σ₁ s₁ ws q Z r x=>by
  have hz:=q.1;have W:=hz;rw[Z.length]at hz;unfold bp at hz;have I:σ₁.L s₁.heap.objs.size=none:=by
   cases hq:σ₁.L s₁.heap.objs.size with
   |none=>rfl
   |some ys=>have#[o,U,_]:=r.vC hq;rw[none_at_size]at U;cases U
  apply jt (?_:jg G [] σ s Q (.ref s₁.heap.objs.size) _) (by show ws.toArray.size<=sizeLine;rw[cv,show sizeLine=16777216 from rfl];(show dp .bA .a .bH hz));have Y:At s₁.heap.objs.size s₁.heap (s₁.heap.push {cls:=.type "list",data:=.seq ws.toArray}):=At.push s₁.heap;apply#[.L _,_,q.2 _ I,.L _,r.putL Y (λ_=>none_at_size _) (IsL.new _ _) Z W,x.to (Evo.putL Y (λ_=>none_at_size _) _)])
end
end MP
end
section
namespace MP
open PySem PyProof.Rows
section
variable {a:Addr}{ks:List Key}
variable {G:Stc}{A:Around}{E:QqV}{s:Shared}
public abbrev DL (G:Stc):Obj:={cls:=.type "set",dict:=none,data:=.set #v[] 0 (.fresh 0 0 G.led)}
def DJ (h:Heap):dR G (h.push (DL G)) h.objs.size []:=
 #[_,#v[],0,_,cf _ rfl,#[rfl,rfl,rfl],rfl,λe Z=>by simp at Z,λk=>by simp,by decide,by rfl,by rfl,#[rfl,rfl,.nil]]
def vA {Q:QqV}(h:Q (.ref s.heap.objs.size) {s with heap:=s.heap.push (DL G)}) :
  codeAny G.M A (.call (.builtin "set.__new__") #[[.type "set"],[]]) (wants Q E) s:=by
 apply uf ?_;show wpAny _ A.in1 (do checkBuiltinCall "set.__new__" #[[.type "set"],[]];again (.builtin "set.__new__" #[[.type "set"],[]])) _ _ s;apply ae (fb F.newCall_set_0 (af #[plainId_quiet F.plain_set_new _,yr F.entry_set_new ?_]));rw[gN F.plain_set_new _];unfold Builtin.«set.__new__» Builtin.Frozenset.newClass;have Z:=sub_set_self;have#[Y,g,d,tk,os]:=s;dsimp only
 wp_walk
 apply wo (af ?_);dsimp only;simp only[newObj];apply ae (wpAny_alloc (af ?_));show af h
set_option maxHeartbeats 1000000 in
set_option maxRecDepth 100000 in
def vE {Q:QqV}(h:Q (.ref s.heap.objs.size) {s with heap:=s.heap.push (DL G)}):wpAny G.M A (call (.type "set") []) Q E s:=by
 have#[c,tl,B]:=F.called_set.mro;have U:=F.called_set.made;have I:=F.called_set.sub;apply qd (uf ?_);show wpAny _ _ (callAny (.type "set") _) _ _ _;apply af #[lS _ (by decide +kernel),yr F.entry_type_call ?_];rw[Around.under_plain (weight_type_call_type "set" [] []) rfl];have h1:=F.called_set.notType;have h2:=F.called_set.canCreate;have ag:=F.typeCall_set_0
 repeat (any_goals (first|assumption|wp_step))
 apply codeAny_mono (vA (E:=E) (Q:=λobj s₁=>obj=.ref s.heap.objs.size/\s₁={s with heap:=s.heap.push (DL G)}) #[rfl,rfl]) λr s₁ W=>?_;cases r with
 |error e=>show W
 |ok fl =>
  cases fl with
  |ret obj =>
   have#[rfl,rfl]:=W;have hT:Shared.TypeIs {s with heap:=s.heap.push (DL G)} (.ref s.heap.objs.size) "set":=#[_,cf _ rfl,rfl];have ab:=F.called_set.init.lookup;have ai:=F.called_set.init.bind (.ref s.heap.objs.size)
   repeat (any_goals (first|assumption|wp_step))
   apply codeAny_mono (gB (R:=wants (λr s₂=>r=.none/\Q (.ref s.heap.objs.size) s₂) E) F.called_set.init.plain F.entry_set_init (check_set_init hT ?_)) λr₂ s₂ Z=>?_
   ·unfold Builtin.«set.__init__» noKeywords
    wp_walk
    apply#[rfl,h]
   ·cases r₂ with
    |error e=>show Z
    |ok Y =>
     cases Y with
     |ret r =>
      have#[rfl,hq]:=Z
      repeat (any_goals (first|assumption|wp_step))
     |_=>show Z.elim
  |_=>show W.elim
def oJ {o:Obj}{es Z:Array (Int×Value)}{ep:Nat}{t W:SetTable}(ho:s.heap.get? a=some o)(hex:o.ExactSet)(hd:o.data=.set es ep t)
  (U:ElemsOf G.kk Z.toList) (Y:∀k,decide (k∈ks)=true↔∃e∈Z.toList,G.kk.is k e.2=true) (hb:Z.size<scanBound) (B:W.fits Z.size=true) (hn:Z.size=ks.length) (hT:Tbl G.led W) :
  (s.heap.update a (Obj.putSet Z W)).get? a=some {o with data:=.set Z (ep+1) W}/\dR G (s.heap.update a (Obj.putSet Z W)) a ks:=by
 have#[I,_]:=SetOf_store (knd:=G.kk) ho hex hd U Y hb B;apply#[I,_,Z,ep+1,W,I,hex,rfl,U,Y,hb,B,hn,hT]
def yK {g:Bool->Sem Unit}(hg:∀(b:Bool) (s₁:Shared) (Q':Unit->Shared->Prop),Q' () s₁->wpAny G.M A (g b) Q' E s₁)
  {o:Obj} {es Z:Array (Int×Value)} {ep:Nat} {t Y:SetTable} (ho:s.heap.get? a=some o) (hex:o.ExactSet) (hd:o.data=.set es ep t)
  (U:ElemsOf G.kk Z.toList) (W:∀k,decide (k∈ks)=true↔∃e∈Z.toList,G.kk.is k e.2=true) (hb:Z.size<scanBound) (hf:Y.fits Z.size=true) (hn:Z.size=ks.length) (hT:Tbl G.led Y)
  {R:Option Bool->Shared->Prop} (h:∀h',Heap.SameBut a s.heap h'->dR G h' a ks->R (some true) {s with heap:=h'}) :
  wpAny G.M A (do
    storeSet a Z Y
    if (!false&&Y.tooFull)=true then do
      g (relayAll Y Z (SetTable.grown Z.size)).2.2
      storeSet a (relayAll Y Z (SetTable.grown Z.size)).1 (relayAll Y Z (SetTable.grown Z.size)).2.1
      pure (some true)
     else pure (some true)) R E s:=by
 have I:=gu s.heap a (Obj.putSet Z Y);apply ae (wpAny_storeSet_of ho hd ?_ (fits_of_scanBound hb));have#[ab,_]:=SetOf_store (knd:=G.kk) ho hex hd U W hb hf;split
 ·have B:=relayAll_perm Y Z (SetTable.grown Z.size);have ag:=relayAll_fits Y Z (SetTable.grown Z.size);have aj:=tY hT Z (SetTable.grown Z.size);generalize relayAll Y Z (SetTable.grown Z.size)=L at B ag aj ⊢;have sz:L.1.size=Z.size:=by rw[<- gh,B.length_eq,gh]
  have ai:L.1.size<scanBound:=by rw[sz];show hb
  apply ae (hg _ _ _ (ae (wpAny_storeSet_of ab rfl (af (h _ (I.trans (gu _ a _)) ?_)) (fits_of_scanBound ai))));show(oJ (s:={s with heap:=s.heap.update a (Obj.putSet Z Y)}) ab hex rfl (U.perm B) (λk=>(W k).trans #[λ⟨e,he,q⟩=>#[e,B.mem_iff.mpr he,q],λ⟨e,he,q⟩=>#[e,B.mem_iff.mp he,q]]) ai ag (sz.trans hn) aj).2
 ·show af (h _ I (oJ (s:=s) ho hex hd U W hb hf hn hT).2)
def NV {b:Bool}{Q:Unit->Shared->Prop}(h:Q () s):wpAny G.M A (match b with|true=>rule "set.scan.the-table-gave-way" |false=>pure ()) Q E s:=by
 cases b
 ·show af h
 ·show wd h
def AP {k:Key}{x:Value}{Q:Bool->Shared->Prop}(I:G.kk.is k x=true)(ag:x.scannable=true)(bu:plainKind x=true)(hS:dR G s.heap a ks)(ai:ks.length+1<scanBound)
  (h:∀b h',Heap.SameBut a s.heap h'->dR G h' a (if k∈ks then ks else ks++[k])->Q b {s with heap:=h'}):wpAny G.M A (setAddHashed a x (G.kk.hash k)) Q E s:=by
 have#[o,es,ep,t,ho,hex,hd,ao,U,hb,hf,hn,hT]:=id hS;unfold setAddHashed setAddHashedIn;apply cm (ae (dU ho hd hf ?_));dsimp only;rw[byScan_of ag hb ao];simp only[↓reduceIte];unfold setAddByScan;apply ae (ae (wd (ae (wpAny_setScan_of I ho hd hf ao ?_))));cases hr:List.findIdx? (λe=>G.kk.is k e.2) es.toList with
 |some j =>
  have#[hj,bn,_]:=List.findIdx?_eq_some_iff_getElem.mp hr;have hk:k∈ks:=ay ((U k).mpr #[es.toList[j],lr hj,bn]);have:=h false s.heap (Heap.SameBut.refl a s.heap) (by rw[br hk];show hS);show af (af this)
 |none =>
  have hk:k∉ks:=λq=>by
   have#[e,he,hp]:=(U k).mp (di q);have:=List.findIdx?_eq_none_iff.mp hr e he;rw[hp]at this;cases this
  rw[aw hk]at h;have Z:=layNew_perm t es (G.kk.hash k) x;have Y:=layNew_fits t es (G.kk.hash k) x;have be:=zM hT es (G.kk.hash k) x;dsimp only;generalize layNew t es (G.kk.hash k) x=L at Z Y be ⊢;rw[Array.toList_push]at Z;have ab:ElemsOf G.kk L.1.toList:=(ao.push I ag).perm Z;have W:∀k',decide (k'∈ks++[k])=true↔∃e∈L.1.toList,G.kk.is k' e.2=true:=λk'=>by
   have:=mem_push_iff (S:=λk=>decide (k∈ks)) I U Z k';simpa using this
  have aj:L.1.size=(ks++[k]).length:=by rw[<- gh,Z.length_eq,List.length_append,List.length_append,gh,hn];rfl
  have bd:L.1.size<scanBound:=by rw[aj,List.length_append];show ai
  have#[B,hw]:=be;have aE:∀b:Bool,(if b=true then L.2.1 else {L.2.1 with plain:=false}).fits L.1.size=true:=λb=>by
   cases b
   ·show SetTable.fits_plain_off Y
   ·show Y
  have bl:∀b:Bool,Tbl G.led (if b=true then L.2.1 else {L.2.1 with plain:=false}):=λb=>by
   cases b
   ·apply#[B.led,B.nod,B.rise]
   ·show B
  apply ae (NV ?_);rw[hw];split
  ·apply ae ?_;rw[hashByValue_scannable 8 ag];apply af (yK (λb s₁ Q' hq=>by cases b<;>first|show af hq|show wd hq) ho hex hd ab W bd (aE _) aj (bl _) λh' hs ar=>af (h _ h' hs ar))
  ·apply ae ?_;apply af (yK (λb s₁ Q' hq=>by cases b<;>first|show af hq|show wd hq) ho hex hd ab W bd (aE _) aj (bl _) λh' hs ar=>af (h _ h' hs ar))
def K7 {k:Key}{x:Value}{Q:QqV}(Z:G.kk.is k x=true)(W:x.scannable=true)(U:plainKind x=true)(B:dR G s.heap a ks)(Y:ks.length+1<scanBound)
  (h:∀h',Heap.SameBut a s.heap h'->dR G h' a (if k∈ks then ks else ks++[k])->Q .none {s with heap:=h',toks:=s.toks+1}):wpAny G.M A (call (.builtin "set.add") [.ref a,x]) Q E s:=by
 apply fx F.slot_set_add B.of.typeIs F.entry_set_add ?_ (F.args_set_add_2 _ _);unfold Builtin.«set.add» Builtin.Frozenset.oneOther;simp only[List.isEmpty_nil,bind_assoc];unfold Builtin.Frozenset.addrOf setAdd;apply ae (af ?_)
 try dsimp only
 apply ae (af ?_)
 try dsimp only
 apply ae (cm (ae (G.kk.pyHash Z (AP (s:={s with toks:=s.toks+1}) Z W U B Y λb h' hs I=>?_))));show wpAny _ _ (ret Value.none) _ _ _;show af #[_,rfl,h h' hs I]
end
end MP
end
section
set_option tactic.hygienic true
namespace MP
open PySem PyProof.Rows
variable {h:Heap}{a b:V}{x y:Value}{K:Bool->Prop}{Q:QqV}
abbrev TM (h:Heap)(w:Value)(d:PyData)(n:Nat):Prop:=∃as,Reads h w d as/\d.canLay0=true/\d.depth<=n
abbrev WK (h:Heap)(ws:List Value)(ds:List PyData)(n:Nat):Prop:=∃as,ReadsAll h ws ds as/\PyData.canLayAll0 ds=true/\PyData.depthAll ds<=n
def lW {G:Stc}{σ:St}(n:Nat)(Z:∀{v:V} {w:Value} {d:PyData},fU σ n v=some d->VR G h v w->TM h w d n) :
  {xs:List V}->{ws:List Value}->{ds:List PyData}->xs.mapM (fU σ n)=some ds->VRs G h xs ws->WK h ws ds n
 | []=>λe vr=>by
  have rfl:=vr;have rfl:=ah (e:some []=some _);apply#[[],.nil,rfl,bh _]
 |x::xs=>λe z=>by
  have#[w,us,q,a,r]:=z;subst q;rw[List.mapM_cons]at e;have#[d,e1,U]:=fc.mp e;have#[ab,B,I]:=fc.mp U;clear e;have rfl:=ah I;have#[as,W,c1,d1]:=Z e1 a;have#[bs,Y,c2,d2]:=lW n Z B r;apply#[as++bs,.cons W Y,by simp[PyData.canLayAll0,c1,c2],Nat.max_le.mpr #[d1,d2]]
def HP {x:Str}{t:Tok}{d:PyData}{n:Nat}(e:(if PyData.strOk x then some (PyData.str x) else Option.none)=some d):TM h (.str x t) d n:=by
 cases c:PyData.strOk x with
 |true=>rw[c]at e;have rfl:=ah e;apply#[[],.str _ _,by simpa[PyData.canLay0] using c,bh _]
 |false=>rw[c]at e;show iv e
def kH {G:Stc}{σ:St}(R:Rel G σ h):(n:Nat)->{v:V}->{w:Value}->{d:PyData}->fU σ n v=some d->VR G h v w->TM h w d n:=by
 intro n;induction n with
 |zero =>
  intro v w d e vr;cases v
  case none=>have rfl:=vr;have rfl:=ah e;apply#[[],.none,rfl,bh _]
  case bool=>have rfl:=vr;have rfl:=ah e;apply#[[],.bool _,rfl,bh _]
  case int=>have#[t,rfl]:=vr;have rfl:=ah e;apply#[[],.int _ _,rfl,bh _]
  case str=>have#[t,rfl]:=vr;show HP e
  all_goals show iv e
 |succ n Z =>
  intro v w d e vr;cases v
  case none=>have rfl:=vr;have rfl:=ah e;apply#[[],.none,rfl,bh _]
  case bool=>have rfl:=vr;have rfl:=ah e;apply#[[],.bool _,rfl,bh _]
  case int=>have#[t,rfl]:=vr;have rfl:=ah e;apply#[[],.int _ _,rfl,bh _]
  case str=>have#[t,rfl]:=vr;show HP e
  case L =>
   have rfl:=vr;have#[xs,Y,e]:=fc.mp e;have#[ds,hd,rfl]:=gm.mp e;have#[ws,m,U,W]:=R.L _ xs Y;have#[as,r,c,dd]:=lW n Z hd W;apply#[_,.list U rfl rfl (by simpa using r),by simpa[PyData.canLay0] using c,lN dd]
  case T =>
   have#[a,ws,m,rfl,g,r]:=vr;have#[ds,hd,rfl]:=gm.mp e;have#[as,r,c,dd]:=lW n Z hd r;apply#[_,.tuple g rfl rfl (by simpa using r),by simpa[PyData.canLay0] using c,lN dd]
  all_goals show iv e
section
variable {G:Stc}{A:Around}{E:QqV}{s:Shared}{σ:St}{d:Nat}
def gR {d:PyData}(c:d.canLay0=true)(h:d.depth<=6):SeqAt.shaped d=true:=by
 unfold SeqAt.shaped;rw[c,Bool.true_and];show di (gp h (by decide))
def AOk.u64 (Z:AOk A d):A.units+64<cLine:=by have:=Z.units;(show dt (.l (.a .A (.n 64)) .B) .a (.l (.a (.a .A (.m 30 .C)) .b0) .B) this)
def QX (ao:AOk A d)(R:Rel G σ s.heap)(Y:VR G s.heap a x)(Z:VR G s.heap b y)(h:vX a b σ K)(k:∀r,K r->Q (.bool r) s):wpAny G.M A (compareOp .Eq x y) Q E s:=by
 rcases o8 h with ⟨i,j,rfl,rfl,h⟩|⟨i,j,rfl,rfl,h⟩|⟨d,e,hd,I,hk⟩
 ·have#[t,rfl]:=Y;have#[u,rfl]:=Z;show PyProof.Rows.eq_int (k _ h)
 ·have#[t,rfl]:=Y;have#[u,rfl]:=Z;show eq_str (k _ h)
 ·have#[as,U,ca,B]:=kH R 6 hd Y;have#[bs,W,cb,db]:=kH R 6 I Z;show eq_dataH U W (gR ca B) (gR cb db) ao.u64 (k _ hk)
def QV (ao:AOk A d)(R:Rel G σ s.heap)(Y:VR G s.heap a x)(Z:VR G s.heap b y)(h:vX a b σ λr=>K (!r))(k:∀r,K r->Q (.bool r) s):wpAny G.M A (compareOp .NotEq x y) Q E s:=by
 rcases o8 h with ⟨i,j,rfl,rfl,h⟩|⟨i,j,rfl,rfl,h⟩|⟨d,e,hd,I,hk⟩
 ·have#[t,rfl]:=Y;have#[u,rfl]:=Z;show ne_int (k _ h)
 ·have#[t,rfl]:=Y;have#[u,rfl]:=Z;show ne_str (k _ h)
 ·have#[as,U,ca,B]:=kH R 6 hd Y;have#[bs,W,cb,db]:=kH R 6 I Z;show ne_dataH U W (gR ca B) (gR cb db) ao.u64 (k _ hk)
def pF {v:Value}{R:Bool->Shared->Prop}(h:R (v==.none) s):wpAny G.M A (isSame v .none) R E s:=by
 cases v<;>show fb (by rfl) (by show h)
def L8 (Z:VR G h a x):(x==.none)=isNone a:=by
 cases a
 case int=>have#[t,rfl]:=Z;rfl
 case str=>have#[t,rfl]:=Z;rfl
 case T=>have#[_,_,_,rfl,_]:=Z;rfl
 case mt=>have#[_,_,_,_,rfl,_]:=Z;rfl
 case iE=>have#[_,_,rfl,_]:=Z;rfl
 case jC=>have#[_,_,rfl,_]:=Z;rfl
 case ro=>have#[_,_,_,rfl,_]:=Z;rfl
 case clo=>have#[_,_,rfl,_]:=Z;rfl
 all_goals have rfl:=Z;rfl
def oE (R:Rel G σ s.heap)(Y:VR G s.heap a x)(W:VR G s.heap b y)(h:L4 a b σ K){Q:Bool->Shared->Prop}(k:∀r,K r->Q r s):wpAny G.M A (isSame x y) Q E s:=by
 cases b with
 |none =>
  have rfl:=W;show pF (k _ (by rw[L8 Y];show h))
 |L q =>
  have rfl:=W;have h:PG q a σ K:=h;cases a with
  |none=>have rfl:=Y;show wpAny_isSame_plain rfl (k _ h)
  |L p =>
   have rfl:=Y;have#[B,I,U]:=h;have#[xs,e1]:=bt.mp B;have#[ys,e2]:=bt.mp I;by_cases Z:p=q
   ·subst Z;show wpAny_isSame_ref_self (k _ (rj p▸U))
   ·have#[o1,g1,c1]:=R.vC e1;have#[o2,g2,c2]:=R.vC e2;show wpAny_isSame_ref_other Z g1 g2 (by rw[c1];decide) (k _ (vi.mpr Z▸U))
  |_=>show False.elim h
 |_=>show False.elim h
def tj {G:Stc}:{ns:List Int}->{ws:List Value}->VRs G h (ns.map V.int) ws->IntsAre ws ns
 | []=>λe=>by have rfl:=e;show .nil
 |_::_=>λz=>by have#[_,_,rfl,#[t,rfl],r]:=z;show .cons _ _ (tj r)
def eX (ns:List Int)(i:Int):(ns.any λx=>x==i)=ns.contains i:=by
 rw[Bool.eq_iff_iff];simp
def QW (R:Rel G σ s.heap)(Y:VR G s.heap a x)(Z:VR G s.heap b y)(h:L5 a b σ K)(k:∀r,K r->Q (.bool r) s):wpAny G.M A (compareOp .In x y) Q E s:=by
 have#[i,rfl,h]:=xn (v:=a) h;have#[l,rfl,ns,e,hk]:=xk (v:=b) h;have#[t,rfl]:=Y;have rfl:=Z;have#[ws,n,U,W]:=R.L _ _ e;show in_list_ints U.isList (tj W) (k _ (by rw[eX];show hk))
def D8 (R:Rel G σ s.heap)(Y:VR G s.heap a x)(Z:VR G s.heap b y)(h:L5 a b σ λr=>K (!r))(k:∀r,K r->Q (.bool r) s):wpAny G.M A (compareOp .NotIn x y) Q E s:=by
 have#[i,rfl,h]:=xn (v:=a) h;have#[l,rfl,ns,e,hk]:=xk (v:=b) h;have#[t,rfl]:=Y;have rfl:=Z;have#[ws,n,U,W]:=R.L _ _ e;show notin_list_ints U.isList (tj W) (k _ (by rw[eX];show hk))
def fI {op:Cop}{K:Bool->Prop}(W:AOk A d)(R:Rel G σ s.heap)(Y:VR G s.heap a x)(Z:VR G s.heap b y)(h:iJ op a b σ K)(k:∀r,K r->Q (.bool r) s):wpAny G.M A (compareOp (n7 op) x y) Q E s:=by
 have ord:PE op a b K->wpAny G.M A (compareOp (n7 op) x y) Q E s:=λh=>by
  have#[i,rfl,h]:=xn (v:=a) h;have#[j,rfl,h]:=xn (v:=b) h;have#[t,rfl]:=Y;have#[u,rfl]:=Z;cases op
  case lt=>show lt_int (k _ h)
  case le=>show le_int (k _ h)
  case gt=>show gt_int (k _ h)
  case ge=>show ge_int (k _ h)
  all_goals show False.elim h
 cases op with
 |eq=>show QX W R Y Z h k
 |ne=>show QV W R Y Z h k
 |is =>
  show wpAny G.M A (do return .bool (← isSame x y)) Q E s;show ae (oE R Y Z h λr q=>af (k _ q))
 |isNot =>
  show wpAny G.M A (do return .bool (!(← isSame x y))) Q E s;show ae (oE (K:=λr=>K (!r)) R Y Z h λr q=>af (k _ q))
 |isIn=>show QW R Y Z h k
 |notIn=>show D8 R Y Z h k
 |lt=>show ord h
 |le=>show ord h
 |gt=>show ord h
 |ge=>show ord h
end
section
variable {G:Stc}{C:Cal}{sc:Scope}{d:Nat}
def MC {op:Cop}{a b:Ex}{x y:Expr}{pos:Pos}(ha:fg G C sc d a x)(hb:fg G C sc d b y)(B:behindInMarks (n7 op) y=false):fg G C sc d (.c op a b) (.Compare x [n7 op] [y] pos):=λ_ _ _ _ _ _ _ c h =>
 wpAny_Compare1 (nj (ha c h) λv σ₁ s₁ w q vr r x =>
  nj (hb (c.go r x) q) λI σ₂ s₂ U W Y r₂ Z =>
   fI c.ao r₂ (vr.mono Z.frz) Y W λb q=>jg.back (x.trans Z) (jg.cO q (.bool _) r₂)) B
def wj {G:Stc}{A:Around}{E:QqV}{s:Shared}{env:Env}{l op r pos whole}{Q:Bool->Shared->Prop}
  (h:wpAny G.M A (eval l env) (λa s₁=>wpAny G.M A (eval r env) (λb s₂=>wpAny G.M A (compareOp op a b) (λc Z=>wpAny G.M A (truthy c) Q E Z) E s₂) E s₁) E s)
  (U:behindInMarks op r=false):wpAny G.M A (isTrue (.Compare l [op] [r] pos) env whole) Q E s:=by
 rw[isTrue_Compare1,markedBehindIn_of_false U];apply ae (cg h (λa s₁ h₁=>ae (cm (cg h₁ (λb s₂ W=>ae (gj (ae (wpAny_operating (cg W (λc Z Y=>cm Y) λ_ _ x=>x)))) ) λ_ _ x=>x))) λ_ _ x=>x)
def H9 {op:Cop}{a b:Ex}{x y:Expr}{pos:Pos}(ha:fg G C sc d a x)(hb:fg G C sc d b y)(B:behindInMarks (n7 op) y=false):tu G C sc d (.c op a b) (.Compare x [n7 op] [y] pos):=λ_ _ _ _ _ _ _ c h =>
 wj (nj (ha c h) λv σ₁ s₁ w q vr r x =>
  nj (hb (c.go r x) q) λI σ₂ s₂ U W Y r₂ Z =>
   fI c.ao r₂ (vr.mono Z.frz) Y W λb q=>rf (kz.back (x.trans Z) (kz.here q r₂))) B
end
end MP
end
section
namespace MP
open PySem PyProof.Rows
variable {ws:List Value}
def pn {n:Nat}(h:n<=bp):n<=sizeLine:=by rw[show sizeLine=16777216 from rfl];unfold bp at h;(show dp .bA .a .bH h)
section
variable {G:Stc}{σ:St}{h:Heap}
def Rel.SI (R:Rel G σ h):σ.L h.objs.size=none:=by
 cases hq:σ.L h.objs.size with
 |none=>rfl
 |some ys=>have#[o,Z,_]:=R.vC hq;rw[none_at_size]at Z;cases Z
def Rel.freshD (R:Rel G σ h):σ.D h.objs.size=none:=by
 cases hq:σ.D h.objs.size with
 |none=>rfl
 |some ys=>have#[o,Z,_]:=R.JT hq;rw[none_at_size]at Z;cases Z
def Rel.SH (R:Rel G σ h):σ.S h.objs.size=none:=by
 cases hq:σ.S h.objs.size with
 |none=>rfl
 |some ys=>have#[o,Z,_]:=R.JS hq;rw[none_at_size]at Z;cases Z
def kL {X:List Addr}{σ₁:St}{s s₁:Shared}{tk:Nat}{W:Drawn}{Q:V->St->Prop}{vs:List V}(r:Rel G σ₁ s₁.heap)(x:Go X σ s σ₁ s₁)(Y:VRs G s₁.heap vs ws)(hz:vs.length<=bp)
  (q:∀c,σ₁.L c=none->Q (.L c) (σ₁.cz c vs)):jg G X σ s Q (.ref s₁.heap.objs.size) #[s₁.heap.push {cls:=.type "list",data:=.seq ws.toArray},s₁.gens,W,tk,s₁.os]:=by
 have Z:At s₁.heap.objs.size s₁.heap (s₁.heap.push {cls:=.type "list",data:=.seq ws.toArray}):=At.push s₁.heap;apply#[.L _,_,q _ r.SI,.L _,r.putL Z (λ_=>none_at_size _) (IsL.new _ _) Y hz,x.to (Evo.putL Z (λ_=>none_at_size _) _)]
def VRs.rep {vs:List V}(x:VRs G h vs ws):∀k:Nat,VRs G h (List.replicate k vs).flatten (List.replicate k ws).flatten
 |0=>by simpa using VRs.nil
 |k+1=>by simpa[List.replicate_succ] using x.append (x.rep k)
def VRs.ints {ns:List Int}(i:IntsAre ws ns):VRs G h (ns.map V.int) ws:=by
 induction i with
 |nil=>show .nil
 |cons n t r Z=>show .cons (.int n t) Z
end
section
variable {G:Stc}{A:Around}{E:QqV}{s:Shared}{σ:St}
def uF {l:Addr}{items:Array Value}{k:Nat}{x:Int}{u:Tok}{Q:QqV}(Y:IsL s.heap l items k)(W:-(2^63:Int)<=x)(I:x<2^63)(Z:items.size*x.toNat<=2^24)
  (h:Q (.ref s.heap.objs.size) {s with heap:=s.heap.push {cls:=.type "list",data:=.seq (List.foldl (λx1 x2=>x1++x2) #v[] (List.replicate (if items.isEmpty=true then 0 else x.toNat) items))}}) :
  wpAny G.M A (binaryOp .Mult (.ref l) (.int x u)) Q E s:=
 wpAny_binaryOp_repeat_ref (T:="list") (U:="int") (by decide) #[_,Y,rfl] (λs'=>typeIs_int s' x u) noFill_list_mul F.fills_int_mul F.slot_int_rmul repeat_list F.slot_int_index.lookup
  (call_meets F.slot_int_rmul (typeIs_int s x u) F.entry_int_rmul (F.args_int_rmul_2 _ _) (int___rmul___int_list x u l items k)
   ⟨Y,rfl,#[_,Y,rfl],call_meets F.slot_list_mul #[_,Y,rfl] F.entry_list_mul (F.args_list_mul_2 _ _)
    (AutoListH.list___mul___list_int_3 l items k x u (by simp[Builtin.List.listFitsIndex];(show#[(mq (.ik (.ng 9223372036854775808) .A) .a .a9 W),(mq (.il .A (.n 9223372036854775808)) .a .b3 I)])) (eQ .bL [[8,8,1,-1,-1]] (.k .B (.n (2^24))) (.l .C (.n 8)) (.e (.a (.m 8 .A) .C) .D) (.e .V (.n (2^63))) Z (Ar.zm _ 8 (by decide)).1 (Ar.zm _ 8 (by decide)).2 (aa (iF (.k .U (.n (2^63))) .j))) (by simp[Builtin.List.listTooLong,sizeLine];(show dp .bA .a (.k .A (.n (2^24))) Z)))
    #[Y,h]⟩)
set_option maxHeartbeats 2000000 in
def H5 {op:Bop}{a b:V}{x y:Value}{Q:V->St->Prop}(R:Rel G σ s.heap)(va:VR G s.heap a x)(vb:VR G s.heap b y)(h:eU op a b σ Q):wpAny G.M A (binaryOp (binOp op) x y) (jg G [] σ s Q) E s:=by
 have ag:∀i j t u,x=.int i t->y=.int j u->eU op (.int i) (.int j) σ Q->wpAny G.M A (binaryOp (binOp op) x y) (jg G [] σ s Q) E s:=λi j t u e1 e2 q=>by
  subst e1;subst e2;show oF R q
 have Z:∀(l:Addr) (xs:List V) (ws:List Value) (i:Int) (t:Tok) (n:Nat),IsL s.heap l ws.toArray n->VRs G s.heap xs ws->xs.length*i.toNat<=bp->i.natAbs<2^60->(∀c,σ.L c=none->Q (.L c) (σ.cz c (List.replicate i.toNat xs).flatten)) ->
   x=.ref l->y=.int i t->wpAny G.M A (binaryOp .Mult x y) (jg G [] σ s Q) E s:=λl xs ws i t n B Y hz hb q e1 e2=>by
  subst e1;subst e2;have h1:=Y.length;apply uF B ((Ar.nab _).elim (λI=>(mq .a9 .a .a4 I.1)) λI=>(uu .a9 .d .W .bG hb I.2)) ((Ar.nab _).elim (λI=>(uu .b3 .d .W .aZ hb I.2)) λI=>(mq .b3 .a .bD I.1)) ?_ ?_
  ·simp only[cv];rw[<- h1];unfold bp at hz;(show dp (.k .A (.n (2^24))) .a .bH hz)
  ·have e:List.foldl (λx1 x2=>x1++x2) #v[] (List.replicate (if ws.toArray.isEmpty=true then 0 else i.toNat) ws.toArray)=((List.replicate i.toNat ws).flatten).toArray:=by
    rw[listMul_foldl];cases ws with
    |nil=>simp
    |cons w ws=>simp
   rw[e];show kL R .refl (Y.rep _) (by rw[lm_len_rep_flat,Nat.mul_comm];show hz) q
 rcases w7 h with ⟨i,j,rfl,rfl,_⟩|⟨rfl,l,n,rfl,rfl,q⟩|⟨rfl,m,rfl,q⟩
 ·have#[t,rfl]:=va.inv;have#[u,rfl]:=vb.inv;show oF R h
 ·have#[u,rfl]:=vb.inv;have rfl:=va;have#[xs,e1,hz,hb,q]:=q;have#[ws,n,B,Y]:=R.L _ _ e1;show Z _ _ _ _ _ _ B Y hz hb q rfl rfl
 ·clear Z;have rfl:=vb;have#[xs,ys,U,e5,hz,q]:=q;have#[us,m,ai,ab]:=R.L _ _ e5;have go:∀(l:Addr) (ws:List Value) (n:Nat),x=.ref l->IsL s.heap l ws.toArray n->VRs G s.heap xs ws->wpAny G.M A (binaryOp (binOp .add) x (.ref _)) (jg G [] σ s Q) E s:=λl ws n ex B Y=>by
   subst ex;have h1:=Y.length;have h2:=ab.length;apply P.add_list B ai ?_ (by simp only[cv];rw[<- h1,<- h2];show pn hz);rw[List.append_toArray];show kL R .refl (Y.append ab) (by simpa using hz) q
  unfold itemsOf at U;cases e6:nH a with
  |some l' =>
   rw[e6]at U;have e6:=kA e6;subst e6;have#[ws,n,B,Y]:=R.L _ _ U;show go _ ws n va.inv B Y
  |none =>
   rw[e6]at U;cases e7:vRo a with
   |none=>rw[e7]at U;cases U
   |some ns =>
    rw[e7]at U;cases U;have e7:=QK e7;subst e7;have#[a,ws,n,ex,g,r]:=va.inv;show go a ws n ex (R.base _ _ g) (VRs.ints (G:=G) (h:=s.heap) r)
def BB {C:Cal}{sc:Scope}{d:Nat}{op:Bop}{a b:Ex}{x y:Expr}{pos:Pos}(B:fg G C sc d a x)(hb:fg G C sc d b y):fg G C sc d (.b op a b) (.BinOp x (binOp op) y pos):=λ_ _ _ _ _ _ _ c h =>
 wpAny_BinOp (nj (B c h) λv σ₁ s₁ w q vr r x =>
  nj (hb (c.go r x) q) λI σ₂ s₂ U W Y r₂ Z =>
   (x.trans Z).back (H5 r₂ (vr.mono Z.frz) Y W))
def DRs.look {h:Heap}(k:Key):{es:List (Key×V)}->{ds:List (Key×Value)}->DRs G h es ds->OV G h (es.lookup k) (valueAt ds k)
 | []=>λe=>by have rfl:=e;show trivial
 |(k',v)::es=>λz=>by
  have#[w,us,e,a,r]:=z;subst e;by_cases hk:k'=k
  ·subst hk;rw[List.lookup_cons_self,show valueAt ((k',w)::us) k'=some w by simp[valueAt]];show a
  ·rw[nt,vi.mpr (λq=>hk q.symm)];simpa[valueAt,List.find?_cons,hk] using DRs.look k r
def key_is {v:V}{k:Key}{w:Value}{h:Heap}(hk:v.pD=some k)(vr:VR G h v w):G.kk.is k w=true:=by
 cases v
 case int=>have#[t,rfl]:=vr;have rfl:=ah hk;simp[keyKind,BY,Value.isInt]
 case str=>have#[t,rfl]:=vr;have rfl:=ah hk;simp[keyKind,BY,Value.isStrOf]
 all_goals show iv hk
def GF {a b:V}{x y:Value}{ve se:Expr}{K:V->Prop}(R:Rel G σ s.heap)(va:VR G s.heap a x)(vb:VR G s.heap b y)(h:rR a b σ K)(hs:subscripted se false x y=operate [x,y] (getItem x y)){Q:QqV}(k:∀v w tk,K v->VR G s.heap v w->Q w {s with toks:=tk}) :
  wpAny G.M A (subscriptTail ve se x y) Q E s:=by
 have listAt:∀(l:Addr) (ws:List Value) (i:Int) (t:Tok) (n:Nat) (v:Value),IsL s.heap l ws.toArray n->ws.length<=bp->0<=gk ws.length i->ws[(gk ws.length i).toNat]?=some v->x=.ref l->y=.int i t->(∀tk,Q v {s with toks:=tk})->wpAny G.M A (subscriptTail ve se x y) Q E s:=λl ws i t n v hl hz h0 Y e1 e2 hq=>by
  subst e1;subst e2;have I:(gk ws.length i).toNat<ws.length:=(bc.mp Y).1;unfold gk at h0 Y I;unfold bp at hz;by_cases hi:i<0
  ·simp only[hi,yj]at h0 Y I;show tail_any hl.isList.typeIs nC.lookup (wpAny_getItem_list_neg hl.isList hi (by simp only[cv];(show tH (.ik (.g .L) .A) .a (.ik .O (.a .A .L)) h0)) (uu .a9 .b .bH (.ik .O (.a .A .L)) hz h0) (by simpa using Y) (hq s.toks)) hs
  ·simp only[hi,kh]at h0 Y I;show tail_any hl.isList.typeIs nC.lookup (wpAny_getItem_list hl.isList (mq .a4 .a (.ig .A .O) hi) ((Ar.ton _).elim (λU=>(QD .b3 .k .bH .S (.ie .P .A) hz I U.2)) λU=>(mq .b3 .a .bD U.1)) (by simpa using Y) (hq s.toks)) hs
 have B:∀(l:Addr) (ws:List Value) (i:Int) (t:Tok) (n:Nat) (v:Value),IsT s.heap l ws.toArray n->i.natAbs<2^60->0<=gk ws.length i->ws[(gk ws.length i).toNat]?=some v->x=.ref l->y=.int i t->(∀tk,Q v {s with toks:=tk})->wpAny G.M A (subscriptTail ve se x y) Q E s:=λl ws i t n v hl hz h0 Y e1 e2 hq=>by
  subst e1;subst e2;have I:(gk ws.length i).toNat<ws.length:=(bc.mp Y).1;have hT:IsTup s.heap l ws.toArray:=#[_,hl,rfl,n,rfl];apply tail_any hT.typeIs slot_tuple_getitem.lookup (PyProof.Rows.getItem_tuple hT ((Ar.nab _).elim (λU=>(mq .a9 .a .a4 U.1)) λU=>(uu .a9 .d .W .bG hz U.2)) ((Ar.nab _).elim (λU=>(uu .b3 .d .W .aZ hz U.2)) λU=>(mq .b3 .a .bD U.1)) (j:=(gk ws.length i).toNat) ?_ (by simpa using Y) (hq s.toks)) hs;unfold seqIndex?;rw[cv]
  change (if (decide (0<=gk ws.length i)&&decide (gk ws.length i<ws.length))=true then some (gk ws.length i).toNat else none)=_
  rw[br];simp only[dw,yk];(show#[(mq .a4 .a .a4 h0),((Ar.ton _).elim (λU=>(QF (.il .A .L) .d .S (.ie .P .A) I U.2)) λU=>(QF (.il .A .L) .b .S .bD I U.1))])
 cases a with
 |L a =>
  have rfl:=va;have#[i,rfl,xs,v,e,h0,hx,hk]:=xn (v:=b) h;have#[t,rfl]:=vb;have#[ws,n,hl,Y]:=R.L _ _ e;have Z:=Y.length;have#[w,hw,vr]:=Y.get hx;rw[Z]at h0 hw;show listAt _ ws _ _ n w hl (Z▸R.Ll _ _ e) h0 hw rfl rfl λtk=>k v w tk hk vr
 |ro ns =>
  have#[i,rfl,v,hz,h0,hx,hk]:=xn (v:=b) h;have#[t,rfl]:=vb;have#[a,ws,n,rfl,g,r]:=va;have Y:=VRs.ints (G:=G) (h:=s.heap) r;have Z:=r.length.symm;have#[w,hw,vr]:=Y.get (v:=.int v) (by rw[cj,hx];rfl);rw[Z]at h0 hw;show listAt _ ws _ _ _ w (R.base _ _ g) (Z▸hz) h0 hw rfl rfl λtk=>k (.int v) w tk hk vr
 |T xs =>
  clear listAt;have#[i,rfl,v,hb,h0,hx,hk]:=xn (v:=b) h;have#[t,rfl]:=vb;have#[a,ws,n,rfl,g,r]:=va;have#[w,hw,vr]:=r.get hx;show B _ _ _ _ _ _ g hb (r.length▸h0) (r.length▸hw) rfl rfl λtk=>k v w tk hk vr
 |dct a =>
  clear B;have rfl:=va;have#[es,kk,v,e,ab,hl,hk]:=h;have#[ds,hd,Y]:=R.D _ _ e;have hh:=Y.look kk;rw[hl]at hh;cases hq:valueAt ds kk with
  |none=>rw[hq]at hh;show hh.elim
  |some w =>
   rw[hq]at hh;show tail_any hd.typeIs slot_dict_getitem.lookup (wpAny_getItem_of (key_is ab vb) hd.mapOf hq (k v w _ hk hh)) hs
 |_=>show False.elim h
end
end MP
end
section
namespace MP
open PySem PyProof.Rows
variable {a:Ex}{x:Expr}{pos:Pos}{A:Around}{E:QqV}{σ:St}{s:Shared}{h:Heap}{i:Int}
structure GOk (G:Stc):Prop where
 cls:∃N mN,ClsAt G.hb G.cS N mN/\mN "__getattribute__"=none/\mN "__getattr__"=none/\mN "__setattr__"=none/\∀x∈G.attrs,mN x=none/\typeLookup (.type "object") x=pure none
 len:G.attrs.length<=100
 nd:G.attrs.Nodup
 sys:∃o,G.hb.get? sysModules=some o
 names:∃mg mb,G.hb.Ns mainGlobals mg/\G.hb.Ns builtinsNs mb/\∀x,G.gl x=(mg x).or (mb x)
abbrev isSlice (x:Expr):Bool:=kT 26 x
def kC {Z:Expr}(h:isSlice Z=false)(x y:Value):subscripted Z false x y=operate [x,y] (getItem x y):=by
 cases Z<;>first|rfl|show Bool.noConfusion h
section
variable {G:Stc}{C:Cal}{sc:Scope}{d:Nat}
def B7 {b:Ex}{y:Expr}(ha:fg G C sc d a x)(hb:fg G C sc d b y)(B:isSlice y=false):fg G C sc d (.sub a b) (.Subscript x y pos):=λ_ _ _ _ _ _ _ c h =>
 Subscript_ (nj (ha c h) λv σ₁ s₁ w q vr r x =>
  nj (hb (c.go r x) q) λI σ₂ s₂ U W Y r₂ Z =>
   GF r₂ (vr.mono Z.frz) Y W (kC B _ _) λv w tk q vr=>jg.back (x.trans Z) (jg.here q vr r₂))
abbrev OQ (G:Stc)(C:Cal)(sc:Scope)(d:Nat)(e:Ex)(x:Option Expr):Prop:=(e=.none/\x=none)\/∃y,x=some y/\fg G C sc d e y
def OQ.at {e:Ex}{x:Option Expr}(p:OQ G C sc d e x){env:Env}{ρ:Fr}{Q:V->St->Prop}(c:Cx G sc d A env ρ σ s)(h:wpE C e ρ σ Q):wpAny G.M A (evalPart x env) (jg G [] σ s Q) E s:=by
 rcases p with ⟨rfl,rfl⟩|⟨y,rfl,p⟩
 ·show lK (jg.cO h .none c.R)
 ·show evalPart_some_step (p c h)
def N4 (a:Int)(n:Nat):(max 0 (min a n)).toNat=min n a.toNat:=by
 rcases Int.le_total a 0 with h|h
 ·rw[Int.toNat_of_nonpos h,Nat.min_zero,Int.max_eq_left (Int.le_trans (Int.min_le_left ..) h)];rfl
 ·rcases Int.le_total a n with h'|h'
  ·rw[Int.min_eq_left h',Int.max_eq_right h,Nat.min_eq_right (Int.toNat_le.mpr h')]
  ·rw[Int.min_eq_right h',Int.max_eq_right (xd n),jj,Nat.min_eq_left ((Int.le_toNat h).mpr h')]
def qC (n:Nat)(i:Int):clipAt n i=fq n i:=N4 _ n
def part_of {v:V}{w:Value}{k:Nat}(vr:VR G h v w)(e:kQ k v=some i):∃o,IsPart w o/\o.getD k=i:=by
 cases v
 case none=>have rfl:=vr;apply#[none,.none,ah e]
 case int=>have#[t,rfl]:=vr;apply#[_,.int _ _,ah e]
 all_goals show iv e
def A4 (n:Nat)(o:Option Int)(h:o.getD (0:Nat)=i):o.elim 0 (clipAt n)=fq n i:=by
 cases o with
 |none=>simp at h;subst h;simp[fq,gk]
 |some j=>simp at h;subst h;show qC n j
def A3 (n:Nat)(o:Option Int)(h:o.getD (n:Nat)=i):o.elim n (clipAt n)=fq n i:=by
 cases o with
 |none=>have rfl:=(h:(n:Int)=i);show(Nat.min_self n).symm
 |some j=>simp at h;subst h;show qC n j
def GI {a b c:V}{x y z:Value}{ve:Expr}{lo Y:Option Expr}{p:Pos}{Q:V->St->Prop}(R:Rel G σ s.heap)(va:VR G s.heap a x)(vb:VR G s.heap b y)(vc:VR G s.heap c z)(h:AS a b c σ Q) :
  wpAny G.M A (subscriptTail ve (.Slice lo Y none p) x (.ref s.heap.objs.size)) (jg G [] σ s Q) E {s with heap:=s.heap.push {cls:=.type "slice",data:=.fields #v[y,z,.none]}}:=by
 have go:∀(l:Addr) (xs:List V) (ws:List Value) (n:Nat) (i j:Int),x=.ref l->IsL s.heap l ws.toArray n->VRs G s.heap xs ws->xs.length<=bp->kQ 0 b=some i->kQ xs.length c=some j->(∀c,σ.L c=none->Q (.L c) (σ.cz c ((xs.take (fq xs.length j)).drop (fq xs.length i)))) ->
   wpAny G.M A (subscriptTail ve (.Slice lo Y none p) x (.ref s.heap.objs.size)) (jg G [] σ s Q) E {s with heap:=s.heap.push {cls:=.type "slice",data:=.fields #v[y,z,.none]}}:=λl xs ws n i j e hl I hz Y U q=>by
  subst e;have#[o1,p1,e1]:=part_of vb Y;have#[o2,p2,e2]:=part_of vc U;have W:(s.heap.push {cls:=.type "slice",data:=.fields #v[y,z,.none]}).IsList l ws.toArray:=(hl.push _).isList;have Z:=I.length;apply tail_any (T:="list") (id:="list.__getitem__") (ops:=[.ref s.heap.objs.size,.ref l]) ?_ nC.lookup (wpAny_getItem_list_slice W (Heap.IsSliceOf.new ..) p1 p2 .none (by simp) ?_ (by simp only[cv];rw[<- Z];show pn hz)) rfl
  ·show W.typeIs
  ·have e:slicePick ws.toArray o1 o2 none=((ws.take (fq ws.length j)).drop (fq ws.length i)).toArray:=by
    rw[slicePick_plain,cv,A4 ws.length o1 e1,A3 ws.length o2 (Z▸e2),List.drop_take]
   rw[e];have R':=R.push {cls:=.type "slice",data:=.fields #v[y,z,.none]};have B:=((I.take (fq xs.length j)).drop (fq xs.length i)).mono (h':=s.heap.push {cls:=.type "slice",data:=.fields #v[y,z,.none]}) λ_ _ e _=>av _ e;rw[<- Z];show kL (s₁:={s with heap:=s.heap.push {cls:=.type "slice",data:=.fields #v[y,z,.none]}}) R' #[Evo.push _ _ _ _,rfl,rfl] B (by simp only[ir,gc];(show mf .A .h .Q (.k .D .C) .aV hz (Ar.nv _ _).2.1 (wu _ _))) q
 cases a with
 |L a =>
  have rfl:=va;have#[xs,i,j,e,Y,U,_,_,q]:=h;have#[ws,n,hl,I]:=R.L _ _ e;show go _ xs ws n i j rfl hl I (R.Ll _ _ e) Y U q
 |ro ns =>
  have#[a,ws,n,rfl,g,r]:=va;have#[i,j,hz,Y,U,_,_,q]:=h;apply go _ _ _ _ i j rfl (R.base _ _ g) (VRs.ints r) (by simpa using hz) Y (by simpa using U) λc hc=>?_;have:=q c hc;simpa[List.map_drop,List.map_take] using this
 |_=>show False.elim h
def M3 {b c:Ex}{lo hi:Option Expr}{p:Pos}(ha:fg G C sc d a x)(hb:OQ G C sc d b lo)(hc:OQ G C sc d c hi):fg G C sc d (.slc a b c) (.Subscript x (.Slice lo hi none p) pos):=λ_ _ _ _ _ _ _ c h =>
 Subscript_ (nj (ha c h) λv σ₁ s₁ w q vr r x =>
  wpAny_Slice (nj (hb.at (c.go r x) q) λar σ₂ s₂ aj ab U r₂ Y =>
   nj (hc.at (c.go r₂ (x.trans Y)) ab) λao ag aE ai B W I Z =>
    lK ((x.trans (Y.trans Z)).back (GI I ((vr.mono Y.frz).mono Z.frz) (U.mono Z.frz) W B))))
abbrev mu (x:Expr):Bool:=!(kT 16 x&&(kids x).tail.isEmpty)
def eP {o:Expr}(h:mu o=true)(attr:Str)(env:Env)(whole:Sem Value):attributeBase o attr env whole=whole:=by
 cases o with
 |Call f args Z pos =>
  cases args with
  |nil=>show Bool.noConfusion h
  |cons a as=>cases f<;>rfl
 |_=>rfl
def fZ.inst {a dd:Addr}{f:Nat->Option V}(I:fZ G h a dd f){m:Str->Option Value}(W:h.Ns1 dd m):h.Inst a G.cS m:=by
 have#[o,Z,U,hd,Y]:=I.here;apply#[o,Z,U,Y,.inr #[dd,hd,I.ne,W]]
def uM {v:V}{w:Value}(vr:VR G h v w):handedOut w=pure w:=by
 cases v
 case int=>have#[t,rfl]:=vr;rfl
 case str=>have#[t,rfl]:=vr;rfl
 case T=>have#[_,_,_,rfl,_]:=vr;rfl
 case mt=>have#[_,_,_,_,rfl,_]:=vr;rfl
 case iE=>have#[_,_,rfl,_]:=vr;rfl
 case jC=>have#[_,_,rfl,_]:=vr;rfl
 case ro=>have#[_,_,_,rfl,_]:=vr;rfl
 case clo=>have#[_,_,rfl,_]:=vr;rfl
 all_goals have rfl:=vr;rfl
def wF {a dd:Addr}{f:Nat->Option V}{i:Nat}{name:Str}{u:V}{expr:Bool}{Q:QqV}(K:GOk G)(R:Rel G σ s.heap)(hI:σ.I a=some (dd,f))(hn:G.attrs[i]?=some name)(hu:f i=some u)
  (k:∀w tk,VR G s.heap u w->Q w {s with toks:=tk}):wpAny G.M A (getAttr (.ref a) name expr) Q E s:=by
 have#[N,mN,X,B,ag,ab,W]:=K.cls;have I:=R.I a dd f hI;have#[m,hm,hv,_]:=I.ns;have Y:=hv i name hn;rw[hu]at Y;cases U:m name with
 |none=>rw[U]at Y;show Y.elim
 |some w =>
  rw[U]at Y;have#[hh,g,dr,t,os]:=s;have#[nm,q,bs,sn,sub,ai,d2,k0,k1,k2,k3,k5,hC]:=(X.keeps R.base).obj;have Z:=cw hn;show load_attr hC (X.keeps R.base).ns B (W name Z).1 (W name Z).2 (I.inst hm) U (uM Y) (k w _ Y)
def wH {i:Nat}{name:Str}(K:GOk G)(U:fg G C sc d a x)(hb:mu x=true)(W:G.attrs[i]?=some name):fg G C sc d (.attr a i) (.Attribute x name pos):=λ_ _ _ _ _ _ _ c h =>
 Attribute_any_ (nj (U c h) λv σ₁ s₁ w q vr r x=>by
  have#[b,dd,f,u,rfl,I,Y,q]:=q;have rfl:=vr;show wF K r I W Y λw Z vr=>jg.back x (jg.here q vr r)) (by rw[arm_eval_Attribute,eP hb])
end
variable {a b c:Bool}{r:Prop}{args:List Expr}{A:Around}{E:QqV}{s:Shared}{σ:St}
abbrev isStar:Expr->Bool
 |.Starred _ _=>true
 |_=>false
abbrev noStar:List Expr->Bool
 | []=>true
 |e::r=>!isStar e&&noStar r
def band (h:(a&&b)=true):a=true/\b=true:=(dw a b).mp h
def QA {d:Bool}(h:(a&&(b&&(c&&d)))=true)(k:a=true->b=true->c=true->d=true->r):r:=by
 have W:=band h;have Y:=band W.2;have Z:=band Y.2;show k W.1 Y.1 Z.1 Z.2
def Q9 {d e f g:Bool}(h:(a&&(b&&(c&&(d&&(e&&(f&&g))))))=true)(k:a=true->b=true->c=true->d=true->e=true->f=true->g=true->r):r:=by
 have Y:=band h;have Z:=band Y.2;show QA Z.2 λp q s u=>k Y.1 Z.1 p q s (band u).1 (band u).2
def W9 {d e f g i j:Bool}(h:(a&&(b&&(c&&(d&&(e&&(f&&(g&&(i&&j))))))))=true)(k:a=true->b=true->c=true->d=true->e=true->f=true->g=true->i=true->j=true->r):r:=by
 have Y:=band h;have Z:=band Y.2;show Q9 Z.2 λx y z w u v m=>k Y.1 Z.1 x y z w u v m
def kD {e:Expr}(h:(!isStar e)=true)(r:List Expr)(env:Env):starEach (e::r) env=(false,eval e env)::starEach r env:=by
 cases e<;>first|rfl|show Bool.noConfusion h
def xv:{args:List Expr}->noStar args=true->(env:Env)->starEach args env=args.map λe=>(false,eval e env)
 | [],_,env=>rfl
 |e::r,h,env=>(kD (band h).1 r env).trans (bx (_::·) (xv (band h).2 env))
def gb {x:Expr}{xs:List Expr}(h:noStar (x::xs)=true):(∀env,starEach (x::xs) env=(false,eval x env)::starEach xs env)/\noStar xs=true:=
 #[kD (band h).1 xs,(band h).2]
def jm (h:noStar args=true)(pos:Pos)(env:Env):(backTo pos (starEach args env)).any (·.1)=false:=by
 rw[xv h];simp[backTo,List.any_eq_false]
def AM (h:noStar args=true)(pos:Pos)(env:Env):(backTo pos (starEach args env)).all (λx=>!x.1)=true:=by
 rw[xv h];simp[backTo]
def ou {M:Model}{f:Value}{Z:List (Bool×Sem Value)}{Q:Args->Shared->Prop}(Y:Z.any (·.1)=false)(h:wpAny M A (spliced Z) (λvs s'=>Q #[vs,[]] s') E s):wpAny M A (evalArgs f true Z []) Q E s:=by
 cases Z with
 |nil =>
  unfold evalArgs;show wpAny M A (spliced []>>=_) Q E s;apply ae (cg h (λvs s' h'=>?_) λ_ _ x=>x);apply cm ?_;show ae (af (ae (af (af h'))))
 |cons t r =>
  have#[b,x]:=t;simp only[List.any_cons,Bool.or_eq_false_iff]at Y;have#[rfl,_]:=Y;show Calls.evalArgs_plain h
section
variable {G:Stc}{C:Cal}{sc:Scope}{d:Nat}
def mw {env:Env}{o:Expr}{name:Str}{apos pos:Pos}{Q:QqV}(hb:mu o=true)(hs:noStar args=true)(I:args.length<30)(Z:(apos.endLine==pos.line)=true)
  (h:wpAny G.M A (eval o env) (λB s₁=>∀pl,wpAny G.M A (getMethod B name pl) (λp s₂=>wpAny G.M A (callWith pos p.1 p.2 (backTo pos (starEach args env)) []) Q E s₂) E s₁) E s) :
  wpAny G.M A (eval (.Call (.Attribute o name apos) args [] pos) env) Q E s:=by
 rw[arm_eval_Call,eP hb];apply ae (cg h (λB s₁ h₁=>?_) λ_ _ e=>e);apply ae (gj ?_);have Y:methodCallForm (args.length+([]:List Keyword).length) (backTo pos (starEach args env)) (backToKw pos (keywordEach [] env))=true:=by
  unfold methodCallForm;rw[AM hs];show decide (args.length<30)=true;show di I
 have U:methodCallPos true o env apos pos=pure pos:=by unfold methodCallPos;simp[Z]
 unfold methodCall;rw[Y];apply ae (cm (cg (h₁ _) (λp s₂ W=>?_) λ_ _ e=>e));show ae (fb U W)
def pk {env:Env}{ρ:Fr}{id:String}{first:List Value}{es:Exs}{pos:Pos}{P:List V->St->Prop}{Q:QqV}(Y:noStar args=true)(Z:qa G C sc d es args)(c:Cx G sc d A env ρ σ s)(h:wh C es ρ σ P)
  (k:∀vs σ₁ s₁ ws,P vs σ₁->VRs G s₁.heap vs ws->Rel G σ₁ s₁.heap->Go [] σ s σ₁ s₁->wpAny G.M A (call (.builtin id) (first++ws)) Q E s₁) :
  wpAny G.M A (callWith pos (.builtin id) first (backTo pos (starEach args env)) []) Q E s:=
 Calls.callWith_builtin (jm Y pos env) (ou (jm Y pos env) (oN (Z c h) k))
def LH {h:Heap}{a:Addr}{xs ys:List V}{ws us:List Value}{n:Nat}{f:Array Value->Array Value}(R:Rel G σ h)(e:σ.L a=some xs)(Y:IsL h a ws.toArray n)(W:VRs G h ys us)(hz:ys.length<=bp)(U:f ws.toArray=us.toArray) :
  Rel G (σ.cz a ys) (h.update a (Obj.mapSeq f))/\Evo [] σ h (σ.cz a ys) (h.update a (Obj.mapSeq f)):=by
 have Z:=Y.update f;rw[U]at Z;have x:At a h (h.update a (Obj.mapSeq f)):=⟨λb o hb B=>(lh h _ (j4 hb)).trans B,#[_,Z],λo I=>by
  have rfl:=ah (I.symm.trans Y);show za rfl rfl⟩
 apply#[R.putL x (λq=>by rw[e]at q;cases q) Z W hz,Evo.putL x (λq=>by rw[e]at q;cases q) _]
abbrev vH:BM->Str
 |.append=>"append"
 |.pop=>"pop"
 |.insert=>"insert"
 |.extend=>"extend"
 |.sort=>"sort"
 |.index=>"index"
 |.count=>"count"
 |.get=>"get"
 |.setdefault=>"setdefault"
 |.add=>"add"
abbrev W7:BM->String
 |.append=>"list.append"
 |.pop=>"list.pop"
 |.insert=>"list.insert"
 |.extend=>"list.extend"
 |.sort=>"list.sort"
 |.index=>"list.index"
 |.count=>"list.count"
 |.get=>"dict.get"
 |.setdefault=>"dict.setdefault"
 |.add=>"set.add"
def xE {h:Heap}{a:Addr}{items:Array Value}{n:Nat}(Z:IsL h a items n):∀b,Value.ref a=.ref b->∃ob,h.get? b=some ob/\ob.dict=none:=λb e=>by
 injection e with e;subst e;apply#[_,Z,rfl]
def rW {k:BM}{v:V}{w:Value}{pl:Sem Bool}{Q:Value×List Value->Shared->Prop}(R:Rel G σ s.heap)(vr:VR G s.heap v w)(h:W6 k v σ)(q:Q (.builtin (W7 k),[w]) s) :
  wpAny G.M A (getMethod w (vH k) pl) Q E s:=by
 have lst:∀(a:Addr) (name:Str) (id:String),(σ.L a).isSome=true->Slot "list" name id->typeOf (.builtin id)=pure (.type "method_descriptor")->Q (.builtin id,[.ref a]) s->wpAny G.M A (getMethod (.ref a) name pl) Q E s:=λa name id e sl Y q=>by
  have#[xs,e]:=bt.mp e;have#[ws,n,Z,_]:=R.L _ _ e;show nD #[_,Z,rfl] PySem.F.plainAttrs_list sl Y (xE Z) q
 cases k
 case get =>
  have#[a,rfl,h]:=yz (v:=v) h;have rfl:=vr;have#[xs,e]:=bt.mp h;have#[ds,hd,_]:=R.D _ _ e;show nD hd.typeIs lM PySem.F.slot_dict_get PySem.F.type_dict_get hd.mapOf.noDict q
 case setdefault =>
  have#[a,rfl,h]:=yz (v:=v) h;have rfl:=vr;have#[xs,e]:=bt.mp h;have#[ds,hd,_]:=R.D _ _ e;show nD hd.typeIs lM PySem.F.slot_dict_setdefault PySem.F.type_dict_setdefault hd.mapOf.noDict q
 case add =>
  have#[a,rfl,h]:=BO (v:=v) h;have rfl:=vr;have#[xs,e]:=bt.mp h;show getMethod_set_add (R.S _ _ e).of q
 all_goals
  have#[a,rfl,h]:=xk (v:=v) h;have rfl:=vr
 case append=>show lst _ _ _ h jY PySem.F.type_list_append q
 case pop=>show lst _ _ _ h PySem.F.slot_list_pop PySem.F.type_list_pop q
 case insert=>show lst _ _ _ h PySem.F.slot_list_insert PySem.F.type_list_insert q
 case extend=>show lst _ _ _ h PySem.F.slot_list_extend PySem.F.type_list_extend q
 case sort=>show lst _ _ _ h PySem.F.slot_list_sort PySem.F.type_list_sort q
 case index=>show lst _ _ _ h PySem.F.slot_list_index PySem.F.type_list_index q
 case count=>show lst _ _ _ h PySem.F.slot_list_count PySem.F.type_list_count q
end
section
variable {h:Heap}{k:Key}{v:V}{w:Value}{es:List (Key×V)}{a:Addr}{ws:List Value}
variable {G:Stc}{A:Around}{E:QqV}{s:Shared}{σ:St}
def gT (K:GOk G)(R:Rel G σ s.heap){b:Addr}(d:σ.dom b):(b==sysModules)=false:=by
 apply vi.mpr λe=>?_;have#[o,Z]:=K.sys;have:=R.new b d;rw[e,Z]at this;cases this
def DRs.put (vr:VR G h v w){ds:List (Key×Value)}(r:DRs G h es ds):DRs G h (putD es k v) (stored ds k w):=by
 have I:∀{es:List (Key×V)} {ds:List (Key×Value)},DRs G h es ds->(es.any λe=>e.1==k)=ds.any λY=>decide (Y.1=k):=by
  intro es;induction es with
  |nil=>intro ds r;have rfl:=r;rfl
  |cons e es Z=>intro ds r;have#[w,us,rfl,a,r]:=r;rw[List.any_cons,List.any_cons,Z r];rfl
 have W:∀{es:List (Key×V)} {ds:List (Key×Value)},DRs G h es ds->DRs G h (es.map λe=>if e.1=k then (k,v) else e) (ds.map λY=>if Y.1=k then (Y.1,w) else Y):=by
  intro es;induction es with
  |nil=>intro ds r;have rfl:=r;show .nil
  |cons e es Z =>
   intro ds r;have#[k',v']:=e;have#[B,us,rfl,a,r]:=r;rw[ju,ju];by_cases hk:k'=k
   ·subst hk;rw[br rfl,br rfl];show .cons vr (Z r)
   ·rw[aw hk,aw hk];show .cons a (Z r)
 have U:∀{es:List (Key×V)} {ds:List (Key×Value)},DRs G h es ds->DRs G h (es++[(k,v)]) (ds++[(k,w)]):=by
  intro es;induction es with
  |nil=>intro ds r;have rfl:=r;show .cons vr .nil
  |cons e es Z=>intro ds r;have#[B,us,rfl,a,r]:=r;show .cons a (Z r)
 unfold putD stored;rw[I r];split
 ·show W r
 ·show U r
def DRs.length:{es:List (Key×V)}->{ds:List (Key×Value)}->DRs G h es ds->es.length=ds.length
 | []=>λe=>e▸rfl
 |_::_=>λz=>by have#[_,_,rfl,_,r]:=z;show bx (·+1) r.length
def OV.getD {v:Option V}{w:Option Value}{u:V}{x:Value}(o:OV G h v w)(a:VR G h u x):VR G h (v.getD u) (w.getD x):=by
 cases v<;>cases w
 ·show a
 ·show False.elim o
 ·show False.elim o
 ·show o
def mU (es:List (Key×V))(k:Key)(v:V):(putD es k v).length<=es.length+1:=by
 unfold putD;split<;>simp
def OE (R:Rel G σ s.heap)(e:σ.D a=some es):∀b f,σ.I b≠some (a,f):=λb f q=>by
 have:=R.apart b a f q;rw[e]at this;cases this
def QM {h':Heap}{Z:List (Key×V)}{ds:List (Key×Value)}(R:Rel G σ s.heap)(e:σ.D a=some es)(B:Heap.SameBut a s.heap h')(hd:h'.DictOf G.kk a ds)(I:DRs G s.heap Z ds)(hz:Z.length<=bp) :
  Rel G (σ.qu a Z) h'/\Evo [] σ s.heap (σ.qu a Z) h':=by
 have#[ai,#[o,ag,ep,ho,hc,W,_],_]:=R.D _ _ e;have#[o',U,ab,Y,_]:=id hd;have x:At a s.heap h':=At.oT B ho (tn W) Y;apply#[R.putD x (λq=>by rw[e]at q;cases q) (OE R e) hd I hz,Evo.putD x (λq=>by rw[e]at q;cases q) _]
def xJ (hk:v.pD=some k)(vr:VR G h v w):w.scannable=true:=by
 cases v
 case int=>have#[t,rfl]:=vr;rfl
 case str=>have#[t,rfl]:=vr;rfl
 all_goals show iv hk
def HS (h:es.lookup k=none)(v:V):putD es k v=es++[(k,v)]:=by
 unfold putD;rw[aw];simp only[List.any_eq_true,not_exists,not_and];intro e Z hk;rw[rl]at h;have:=h e Z;simp only[wq]at hk;simp[hk]at this
def DK (R:Rel G σ s.heap)(e:σ.D a=some es):Rel G (σ.qu a es) s.heap/\Evo [] σ s.heap (σ.qu a es) s.heap:=by
 have W:upd σ.D a es=σ.D:=by
  funext b
  unfold upd;split
  ·rename_i h;rw[h,e]
  ·rfl
 have hd:∀b,(σ.qu a es).dom b->σ.dom b:=λb d=>(pY d).elim id λq=>.inr (.inl (by rw[q,e];rfl));have Y:σ.qu a es={σ with Z:=clr σ.Z a}:=by unfold St.qu;rw[W]
 apply#[?_,λ_ _ e _ _=>e,λ_ _ e _=>e,λb d=>.inl (hd b d),λ_ o e=>#[o,e]];apply#[R.L,?_,R.S,R.I,λb o q=>?_,R.Ll,?_,R.inj,?_,R.sep,λb d=>R.new b (hd b d),R.base]
 ·rw[Y];show R.D
 ·rw[Y]at q ⊢;show R.Z b o (qB q).2
 ·rw[Y];show R.Dl
 ·rw[Y];show R.apart
def WW {ks Z:List Key}{h':Heap}(R:Rel G σ s.heap)(e:σ.S a=some ks)(W:Heap.SameBut a s.heap h')(Y:dR G h' a Z) :
  Rel G (σ.kG a Z) h'/\Evo [] σ s.heap (σ.kG a Z) h':=by
 have#[o,aj,ep,tt,ho,hc,I,_]:=R.S _ _ e;have#[o',ab,ai,ag,U,_]:=id Y;have x:At a s.heap h':=At.oT W ho (wK I) U;have B:σ.S a=none->s.heap.get? a=none:=λq=>by rw[e]at q;cases q
 apply#[R.HR x B Y,Evo.HR x B _]
def VRs.one:VRs G h [v] ws->∃w,ws=[w]/\VR G h v w
 |⟨w,us,e,a,r⟩=>#[w,e.trans (bx (w::·) r),a]
def VRs.two {u:V}:VRs G h [v,u] ws->∃w Z,ws=[w,Z]/\VR G h v w/\VR G h u Z
 |⟨w,us,e,a,r⟩=>by have#[Z,Y,b]:=VRs.one r;apply#[w,Z,e.trans (bx (w::·) Y),a,b]
def yU {k:BM}{v:V}{vs:List V}{Q:V->St->Prop}(K:GOk G)(hk:k≠.sort)(R:Rel G σ s.heap)(vr:VR G s.heap v w)(ab:VRs G s.heap vs ws)(h:TZ k v vs σ Q) :
  wpAny G.M A (call (.builtin (W7 k)) (w::ws)) (jg G [] σ s Q) E s:=by
 cases k
 case append =>
  have#[a,rfl,h]:=xk (v:=v) h;have rfl:=vr;have#[x,rfl,xs,e,hz,q]:=mW (vs:=vs) h;have#[wa,rfl,va]:=ab.one;have#[us,n,W,I]:=R.L _ _ e;have Z:=I.length;apply call_meets jY #[_,W,rfl] PySem.F.entry_list_append (PySem.F.args_list_append_2 _ _) (list_append _ _ _ _ (by simp only[cv];rw[<- Z];show pn (ax .A .a .B hz))) #[W,?_];have#[r',U]:=LH (f:=λx=>x.push wa) R e W (I.append %[va|0]) (by simp;(show ax .F .a .B hz)) (by simp);apply#[.none,_,q,.none,r',U,rfl,rfl]
 case pop =>
  have#[a,rfl,h]:=xk (v:=v) h;have rfl:=vr;have#[rfl,xs,v,e,q]:=BP (vs:=vs) h;have rfl:=ab;have#[us,n,W,I]:=R.L _ _ e;have Z:=I.length;have hz:=R.Ll _ _ e;have#[u,hu,vu]:=I.get (i:=xs.length) (v:=v) (by simp);have ag:us.length=xs.length+1:=by rw[<- Z];simp
  apply call_meets PySem.F.slot_list_pop #[_,W,rfl] PySem.F.entry_list_pop (PySem.F.args_list_pop_1 _) (MeetsSeq.list_pop_last _ _ _ u (by simp only[cv];rw[ag];simpa using hu) (by simp only[cv];rw[<- Z];show pn hz)) #[W,?_];have#[r',U]:=LH (f:=λx=>x.eraseIdxIfInBounds (us.toArray.size-1)) (us:=us.take xs.length) R e W (by simpa using I.take xs.length) (by simp at hz;(show ax .A .a .F hz)) (by
   have e:us.toArray.eraseIdxIfInBounds (us.toArray.size-1)=(us.eraseIdx (us.length-1)).toArray:=by simp
   rw[e,List.eraseIdx_eq_take_drop_succ];simp[ag])
  apply#[v,_,q,vu.mono U.frz,r',U,rfl,rfl]
 case insert=>show False.elim h
 case extend=>show False.elim h
 case index=>show False.elim h
 case count=>show False.elim h
 case get =>
  have#[a,rfl,h]:=yz (v:=v) h;have rfl:=vr;have#[x,y,rfl,es,kk,e,Y,q]:=sI (vs:=vs) h;have#[wa,wb,rfl,va,vb]:=ab.two;have#[ds,hd,I]:=R.D _ _ e;have W:=I.look kk;apply call_meetsIn PySem.F.slot_dict_get hd.typeIs PySem.F.entry_dict_get (PySem.F.args_dict_get_3 _ _ _) (meets_dict_get_default G.kk _ (key_is Y va) (gT K R (.inr (.inl (by rw[e];rfl)))) _) #[_,hd.mapOf,?_];apply#[_,σ,q,W.getD vb,R,Evo.refl _ _ _,rfl,rfl]
 case setdefault =>
  have#[a,rfl,h]:=yz (v:=v) h;have rfl:=vr;have#[x,y,rfl,es,kk,e,Y,hz,q]:=sI (vs:=vs) h;have#[wa,wb,rfl,va,vb]:=ab.two;have#[ds,hd,I]:=R.D _ _ e;have W:=I.look kk;have Z:=I.length;apply call_meetsIn PySem.F.slot_dict_setdefault hd.typeIs PySem.F.entry_dict_setdefault (PySem.F.args_dict_setdefault_3 _ _ _) (kt_meets_setdefault G.kk _ (key_is Y va) (gT K R (.inr (.inl (by rw[e];rfl)))) _) #[ds,hd,by rw[<- Z];show pn (ax .A .a .B hz),λv' aj=>?_,λhn h' ar ai=>?_]
  ·rw[aj]at W;cases h1:es.lookup kk with
   |none=>rw[h1]at W;show W.elim
   |some u =>
    rw[h1]at W q;simp only[Option.getD_some,Option.isSome_some,yj]at q;have#[r',U]:=DK R e;apply#[u,_,q,W,r',U,rfl,rfl]
  ·rw[hn]at W;cases h1:es.lookup kk with
   |some u=>rw[h1]at W;show W.elim
   |none =>
    rw[h1]at q;simp only[Option.getD_none,wt,eh,kh]at q;have e2:=HS h1;have#[r',U]:=QM R e ai ar (I.put vb) (gp (mU _ _ _) (ax .F .a .B hz));rw[e2]at r' U;apply#[_,_,q,vb.mono U.frz,r',U,rfl,rfl]
 case add =>
  have#[a,rfl,h]:=BO (v:=v) h;have rfl:=vr;have#[x,rfl,h]:=mW (vs:=vs) h;have#[i,rfl,ks,e,hz,q]:=xn (v:=x) h;have#[wa,rfl,va]:=ab.one;have hS:=R.S _ _ e;have ao:plainKind wa=true:=by have#[t,rfl]:=va;rfl
  have Y:(V.int i).pD=some (.int i):=rfl;apply K7 (key_is Y va) (xJ Y va) ao hS (by rw[show scanBound=4096 from rfl];(show dp (.l .P (.n 4096)) .a .cJ hz)) λh' ai aE=>?_;have#[r',U]:=WW R e ai aE;apply#[.none,_,q,.none,r',U,rfl,rfl]
 case sort=>show absurd rfl hk
def QY {C:Cal}{sc:Scope}{d:Nat}{k:BM}{a:Ex}{es:Exs}{o:Expr}{args:List Expr}{apos pos:Pos}(K:GOk G)(hk:k≠.sort)(ha:fg G C sc d a o)(B:qa G C sc d es args)(hb:mu o=true)(hs:noStar args=true)(U:args.length<30)(Y:(apos.endLine==pos.line)=true) :
  fg G C sc d (.bm k a es) (.Call (.Attribute o (vH k) apos) args [] pos):=λ_ _ _ _ _ _ _ c h =>
 mw hb hs U Y (nj (ha c h) λv σ₁ s₁ w q vr r x pl =>
  rW r vr q.1 (pk hs B (c.go r x) q.2 λvs σ₂ s₂ ws W I r₂ Z =>
   (x.trans Z).back (yU K hk r₂ (vr.mono Z.frz) I W)))
end
variable {M:Model}{A:Around}{E:QqV}{s:Shared}
abbrev uw (p:Arguments):Bool:=p.posonlyargs.isEmpty&&p.kwonlyargs.isEmpty&&p.vararg.isNone&&p.kwarg.isNone
abbrev addDefaults:List (Str×Value)->List (Str×Value)->List (Str×Value)
 |slots,[]=>slots
 |slots,(n,d)::r=>addDefaults (if (slots.lookup n).isNone then slots++[(n,d)] else slots) r
def yc (f:Str×Value->List (Str×Value)->Sem (ForInStep (List (Str×Value))))
  (Z:∀n d slots,f (n,d) slots=if (slots.lookup n).isNone then pure (.yield (slots++[(n,d)])) else pure (.yield slots)) :
  ∀(l:List (Str×Value)) (slots:List (Str×Value)) (Q:List (Str×Value)->Shared->Prop),Q (addDefaults slots l) s->wpAny M A (forIn l slots f) Q E s
 | []=>λslots Q h=>by rw[og];show af h
 |(n,d)::r=>λslots Q h=>by
  rw[pj,Z];apply ae ?_;dsimp only[addDefaults]at h;split
  ·rename_i Y;rw[br Y]at h;show af (yc f Z r _ Q h)
  ·rename_i Y;rw[aw Y]at h;show af (yc f Z r _ Q h)
def yf:∀(l₁ l₂ slots:List (Str×Value)),addDefaults slots (l₁++l₂)=addDefaults (addDefaults slots l₁) l₂
 | []=>λ_ _=>rfl
 |(n,d)::r=>λl₂ slots=>by rw[List.cons_append];dsimp only[addDefaults];show yf r l₂ _
def dP:∀(l slots:List (Str×Value)),(∀p∈l,(slots.lookup p.1).isSome=true)->addDefaults slots l=slots
 | []=>λ_ _=>rfl
 |(n,d)::r=>λslots h=>by
  have W:=h (n,d) (.head _);dsimp only[addDefaults];rw[aw (by cases Y:slots.lookup n<;>simp_all)];show dP r slots λp Z=>h p (.tail _ Z)
def vp {slots:List (Str×Value)}{n:Str}(h:n∈slots.map (·.1)):(slots.lookup n).isSome=true:=by
 cases hq:slots.lookup n with
 |some v=>rfl
 |none =>
  rw[rl]at hq;have#[p,Z,rfl]:=cq.mp h;have:=hq p Z;simp at this
def lookup_none_of_not_mem {slots:List (Str×Value)}{n:Str}(h:n∉slots.map (·.1)):slots.lookup n=none:=by
 rw[rl];intro p Z;simp only[bne_iff_ne,ne_eq,vi];rintro rfl;show h (cq.mpr #[p,Z,rfl])
def eY:∀(l slots:List (Str×Value)),(l.map (·.1)).Nodup->(∀n∈l.map (·.1),n∉slots.map (·.1))->addDefaults slots l=slots++l
 | []=>λ_ _ _=>(dg _).symm
 |(n,d)::r=>λslots Z h=>by
  simp only[ju,List.nodup_cons]at Z;have U:=h n (.head _);dsimp only[addDefaults];rw[br (by rw[lookup_none_of_not_mem U];rfl)]
  rewrite [eY r _ Z.2 λm Y=>?_]
  ·simp
  ·have W:=h m (.tail _ Y);simp only[cu,ju,List.map_nil,cy,aq,yi];apply#[W,λe=>Z.1 (e▸Y)]
def wI {n₁ n₂:List Str}{vals d₁ d₂:List Value}(ab:(n₁++n₂).Nodup)(h1:n₁.length=vals.length)(h2:n₂.length=d₂.length)(h3:d₁.length<=n₁.length) :
  addDefaults ((n₁++n₂).zip vals) (((n₁++n₂).drop ((n₁++n₂).length-(d₁++d₂).length)).zip (d₁++d₂))=(n₁++n₂).zip (vals++d₂):=by
 have e0:(n₁++n₂).zip vals=n₁.zip vals:=by
  have:=List.zip_append (l₁:=n₁) (r₁:=n₂) (l₂:=vals) (r₂:=[]) h1;simpa using this
 have e1:(n₁++n₂).drop ((n₁++n₂).length-(d₁++d₂).length)=n₁.drop (n₁.length-d₁.length)++n₂:=by
  rw[List.length_append,List.length_append,show n₁.length+n₂.length-(d₁.length+d₂.length)=n₁.length-d₁.length by show ui .C [[1,-1,-1,1],[1,1,1,-1]] .bK (.e (.a .A .aH) (.a .G .C)) .cM h2 (aa (dj .bZ .z (.e .D .B) .I h2 h3)) (aa (ax .A .a .A h3)),List.drop_append,show n₁.length-d₁.length-n₁.length=0 by(show Ar.sub _ _ (λq1 U=>(Ar.sub _ _ (λq2 W=>(dj .G .u .V .b6 U W)) λq2 W=>(fe .G .u .V .aK U W))) λq1 U=>(dp .G .t .G U))];rfl
 have f1:(n₁.zip vals).map (·.1)=n₁:=List.map_fst_zip (ax .A .a .C h1);have f2:(n₂.zip d₂).map (·.1)=n₂:=List.map_fst_zip (ax .A .a .C h2);have hd:=List.nodup_append.mp ab;rw[e0,e1,List.zip_append (by rw[ir];(show Ar.sub _ _ (λq1 U=>(Ar.sub _ _ (λq2 W=>(dj .C .l .a5 .bB U W)) λq2 W=>(eQ .C [[1,1,-1,0,1],[1,0,1,1,0]] .aF .b5 .Q .Z h3 U q2 W))) λq1 U=>(Ar.sub _ _ (λq2 W=>(mf .C .q .Y .G (.e .a5 .C) q1 U W)) λq2 W=>(eQ .C [[1,1,1,0,1],[1,0,0,1,0]] .aF .Y .G .Z h3 q1 U W)))),yf];have e2:addDefaults (n₁.zip vals) ((n₁.drop (n₁.length-d₁.length)).zip d₁)=n₁.zip vals:=dP _ _ λp hp=>by
  apply vp ?_;rw[f1];show List.mem_of_mem_drop (List.of_mem_zip hp).1
 rw[e2,eY,List.zip_append h1]
 ·rw[f2];show hd.2.1
 ·intro n hn hm;rw[f1]at hm;rw[f2]at hn;show hd.2.2 n hm n hn rfl
def DI {ns:List Str}{vals ds:List Value}(ab:ns.Nodup)(h1:vals.length<=ns.length)(h2:ns.length<=vals.length+ds.length)(h3:ds.length<=ns.length) :
  addDefaults (ns.zip vals) ((ns.drop (ns.length-ds.length)).zip ds)=ns.zip (vals++ds.drop (ds.length-(ns.length-vals.length))):=by
 have en:=zh vals.length ns;have ed:=zh (ds.length-(ns.length-vals.length)) ds;have:=wI (n₁:=ns.take vals.length) (n₂:=ns.drop vals.length) (vals:=vals) (d₁:=ds.take (ds.length-(ns.length-vals.length))) (d₂:=ds.drop (ds.length-(ns.length-vals.length)))
  (by rw[en];show ab) (by rw[gc];(show(Ar.nv _ _).2.2.elim (λU=>(fy .C .i .A .aQ (Ar.nv _ _).1 U)) λU=>(pq .C .q .aF .A .aA h1 (Ar.nv _ _).1 U))) (by rw[ir,ir];(show Ar.sub _ _ (λU Z=>(Ar.sub _ _ (λW p2=>(dj .C [[1,1,-1],[1,-1,1]] .bJ (.e (.a .C .A) .D) Z p2)) λW p2=>(lE .C [[1,0,0,1,1,0],[1,1,1,-1,0,1]] (.k .C .a0) .b5 .dA (.k .F .A) .bW h2 (aa (ax .A .a .A h1)) Z W p2))) λU Z=>(Ar.sub _ _ (λW p2=>(mf .C [[1,0,1,0],[1,1,0,1]] .Y .a1 (.e .aC .C) U Z p2)) λW p2=>(lE .C [[1,0,0,0,1,0],[1,1,1,1,0,1]] (.k .C .a0) .b5 (.k .F .G) .a1 .bW h2 (aa (ax .A .a .A h1)) U Z p2)))) (by rw[gc,gc];(show Ar.sub _ _ (λU Z=>((Ar.nv _ _).2.2.elim (λW=>(Ar.sub _ _ (λq3 p3=>(yH .A [[1,1,1,1,1,-1]] .Y (.k .A .F) (.e .aG .C) (.k .H .B) (.e .aW .D) h3 (Ar.nv _ _).1 Z W p3)) λq3 p3=>(yH .A .F .Y (.k .A .F) (.e .aG .C) (.k .H .B) (.k .D .H) h3 (Ar.nv _ _).1 Z W q3))) λW=>(mf .A .h .Y .I .cL h3 (Ar.nv _ _).2.1 W))) λU Z=>(fe .A .b .I .aK (Ar.nv _ _).1 Z)))
 rw[en,ed]at this;show this
def wR:∀(ms:List Str) (n:Str) (u:Value) (l:List (Str×Value)),n∉ms->(ms.filterMap λm=>(((n,u)::l).lookup m).map (m,·))=ms.filterMap λm=>(l.lookup m).map (m,·)
 | []=>λ_ _ _ _=>rfl
 |m::ms=>λn u l h=>by
  simp only[bw,yi]at h;have e:((n,u)::l).lookup m=l.lookup m:=by rw[nt,vi.mpr (j4 h.1)]
  simp only[f9,e,wR ms n u l h.2]
def wU:∀{ns:List Str} {us:List Value},ns.Nodup->us.length=ns.length->(ns.filterMap λn=>((ns.zip us).lookup n).map (n,·))=ns.zip us
 | [],_,_,_=>by simp
 |n::ns,[],_,h=>by simp at h
 |n::ns,u::us,Z,h=>by
  simp only[List.nodup_cons]at Z;have Y:=wU (ns:=ns) (us:=us) Z.2 (by simpa using h);simp only[List.zip_cons_cons,f9,List.lookup_cons_self,Option.map_some];rw[wR ns n u _ Z.1,Y]
def AR {α:Type}{c:Bool}{a b:Sem α}{Q:α->Shared->Prop}(Z:c=false)(h:wpAny M A b Q E s):wpAny M A (if c=true then a else b) Q E s:=by
 subst Z;show h
section
variable {ns:List Str}{vals ds xs:List Value}
def KH (h:vals.length<=ns.length):(decide (vals.length>ns.length)&&true)=false:=by
 rw[dk (sd.mpr h)];rfl
def FD (ho:xs=ds)(h1:vals.length<=ns.length)(h2:ns.length<=vals.length+ds.length)(I:ds.length<=ns.length) :
  (!((ns.take (ns.length-(xs.drop (xs.length-ns.length)).length)).filter λn=>((ns.zip vals).lookup n).isNone).isEmpty)=false:=by
 subst ho;rw[zg I,yp,Bool.not_eq_false',um,List.filter_eq_nil_iff];intro n W hq;have e0:ns.zip vals=(ns.take vals.length).zip vals:=by
  have:=List.zip_append (l₁:=ns.take vals.length) (r₁:=ns.drop vals.length) (l₂:=vals) (r₂:=[]) (by rw[gc];(show(Ar.nv _ _).2.2.elim (λZ=>(fy .C .i .A .aQ (Ar.nv _ _).1 Z)) λZ=>(pq .C .q .aF .A .aA h1 (Ar.nv _ _).1 Z)));rw[zh,dg,List.zip_nil_right,dg]at this;show this
 have hm:n∈(ns.zip vals).map (·.1):=by
  rw[e0,List.map_fst_zip (by rw[gc];(show ax .A .a .A (Ar.nv _ _).1))];rw[List.mem_take_iff_getElem]at W ⊢;have#[i,U,e]:=W;apply#[i,by(first|show(Ar.nv _ _).2.2.elim (λZ=>(yH .B .F (.k .C .a0) (.l .A .G) (.k .G .H) (.e (.a .H .F) .C) .cL h2 U (Ar.nv _ _).1 (aa (ax .A .a .A I)) Z)) λZ=>(mf .B .h .O .Y .cL U (Ar.nv _ _).2.1 Z)|omega),e]
 cases (vp hm).symm.trans (bx _ (uv.mp hq))
def FE (ho:xs=ds)(ab:ns.Nodup)(B:vals.length<=ns.length)(h2:ns.length<=vals.length+ds.length)(h3:ds.length<=ns.length) :
  ((ns++[]).filterMap λn=>((addDefaults (ns.zip vals) ((ns.drop (ns.length-(xs.drop (xs.length-ns.length)).length)).zip (xs.drop (xs.length-ns.length)))).lookup n).map (n,·))=ns.zip (vals++ds.drop (ds.length-(ns.length-vals.length))):=by
 subst ho;rw[zg h3,yp,dg,DI ab B h2 h3];show wU ab (by rw[List.length_append,ir];(show Ar.sub _ _ (λq1 W=>(Ar.sub _ _ (λq2 Y=>(Ar.sub _ _ (λU Z=>(ui .V .v .d5 .cD .aX W Y Z)) λU Z=>(lE .V [[1,0,0,0,1,0],[1,1,1,-1,0,1]] .I .d5 .cD .aA .bW B W Y U Z))) λq2 Y=>(Ar.sub _ _ (λU Z=>(lE .V [[1,1,-1,0,1,0],[1,0,1,1,0,1]] (.k .C .T) (.e .a6 .D) (.k .D .G) .aG .aX h2 W q2 Y Z)) λU Z=>(TA .V [[1,0,1,-1,0,1,0],[1,1,0,1,1,0,1]] .I (.k .C .T) (.e .a6 .D) (.k .D .G) .aG .bW B h2 W q2 Y Z)))) λq1 W=>(Ar.sub _ _ (λq2 Y=>(Ar.sub _ _ (λU Z=>(lE .V [[1,0,1,0,1,-1],[1,1,0,1,0,0]] .I .cK .a1 (.e .aG .D) .aX B q1 W Y Z)) λU Z=>(pq .V [[1,0,0,1],[1,1,1,0]] .I .a1 .aA B W U))) λq2 Y=>(yI .V [[1,0,1,1,0,1],[1,1,0,0,1,0]] .I (.k .C .T) .cK .a1 .aG B h2 q1 W Y))))
end
def OM {nm qn:Str}{args:List Arg}{kd dfs body sc gl clo df kdf dc pm cd bl ct bu}{vals ds:List Value}{Q:List (Str×Value)->Shared->Prop}
  (hd:∀(Q:Option (Array Value)->Shared->Prop),(∀o,(o.getD #v[]).toList=ds->Q o s)->wpAny M A (seqItems? df) Q E s)
  (Z:(args.map (·.arg)).Nodup) (Y:vals.length<=(args.map (·.arg)).length) (I:(args.map (·.arg)).length<=vals.length+ds.length) (U:ds.length<=(args.map (·.arg)).length)
  (h:Q ((args.map (·.arg)).zip (vals++ds.drop (ds.length-((args.map (·.arg)).length-vals.length)))) s):wpAny M A (bindArgs #[nm,qn,#[[],args,none,[],kd,none,dfs],body,sc,gl,clo,df,kdf,dc,pm,cd,bl,ct,bu] #[vals,[]]) Q E s:=
 ae (m:=forIn [] _ _) (af (ae (hd _ λo W=>AR (KH Y) (AR (FD W Y I U) (ae (yc _ (λn d slots=>rfl) _ _ _ (ae (m:=forIn [] _ _) (af (af (FE W Z Y I U▸h))))))))))
def AI {fd:FuncData}{vals ds:List Value}{Q:List (Str×Value)->Shared->Prop}(Z:uw fd.params=true)
  (hd:∀(Q:Option (Array Value)->Shared->Prop),(∀o,(o.getD #v[]).toList=ds->Q o s)->wpAny M A (seqItems? fd.defaults) Q E s)
  (Y:(fd.params.args.map (·.arg)).Nodup) (I:vals.length<=fd.params.args.length) (U:fd.params.args.length<=vals.length+ds.length) (W:ds.length<=fd.params.args.length)
  (h:Q ((fd.params.args.map (·.arg)).zip (vals++ds.drop (ds.length-(fd.params.args.length-vals.length)))) s):wpAny M A (bindArgs fd #[vals,[]]) Q E s:=by
 have el:(fd.params.args.map (·.arg)).length=fd.params.args.length:=ak _;rw[<- el]at I U W h;have e:fd.params=#[[],fd.params.args,none,[],fd.params.kw_defaults,none,fd.params.defaults]:=by
  clear I U W h hd Y el;cases fd with|mk nm qn p =>
  cases p with|mk po args B ko kd ka dfs =>
  have#[Z,h4]:=band Z;have#[Z,h5]:=band Z;have#[h6,h7]:=band Z;show congr (congr (congr (bx (λpo B ko ka=>Arguments.mk po args B ko kd ka dfs) (um.mp h6)) (uv.mp h5)) (um.mp h7)) (uv.mp h4)
 have:=OM (nm:=fd.name) (qn:=fd.qualname) (kd:=fd.params.kw_defaults) (dfs:=fd.params.defaults) (body:=fd.body) (sc:=fd.scope) (gl:=fd.globals) (clo:=fd.closure) (df:=fd.defaults) (kdf:=fd.kwdefaults) (dc:=fd.doc) (pm:=fd.pyModule) (cd:=fd.annotations) (bl:=fd.code) (ct:=fd.closureTuple) (bu:=fd.builtins) hd Y I U W h;rw[<- e]at this;show this
variable {s₁:Shared}{A:Around}{E:QqV}{h:Heap}{X:List Addr}{i:Nat}{x:Str}{k:NameKind}{ρ:Fr}{w:Value}{Q:Unit->Shared->Prop}
abbrev envX (env:Env):List Addr:=env.locals::env.cells.map (·.2)
inductive FlR (G:Stc)(h:Heap):Fl->Flow->Prop
 |next:FlR G h .next .next
 |brk:FlR G h .brk .brk
 |cont:FlR G h .cont .cont
 |ret {v:V} {w:Value}:VR G h v w->FlR G h (.ret v) (.ret w)
inductive qy (G:Stc)(env:Env)(σ:St)(s:Shared)(K:Fl->Fr->St->Prop)(f:Flow)(s':Shared):Prop
 |mk (fl:Fl) (ρ':Fr) (σ':St):FlR G s'.heap fl f->K fl ρ' σ'->FR G σ' env ρ' s'.heap->Rel G σ' s'.heap->Go (envX env) σ s σ' s'->qy G env σ s K f s'
inductive tL (G:Stc)(env:Env)(σ:St)(s:Shared)(K:Fr->St->Prop)(s':Shared):Prop
 |mk (ρ':Fr) (σ':St):K ρ' σ'->FR G σ' env ρ' s'.heap->Rel G σ' s'.heap->Go (envX env) σ s σ' s'->tL G env σ s K s'
def mem_of_lookup {α Z:Type}[BEq α][LawfulBEq α]{l:List (α×Z)}{x:α}{c:Z}(h:l.lookup x=some c):(x,c)∈l:=by
 induction l with
 |nil=>simp at h
 |cons p r W =>
  have#[y,b]:=p;rw[nt]at h;split at h
  ·rename_i Y;cases h;rw[wq]at Y;subst Y;show .head _
  ·show .tail _ (W h)
section
variable {G:Stc}{env:Env}{σ σ₁:St}{s:Shared}{h₁:Heap}{tk:Nat}
def Go.wide (x:Go [] σ s σ₁ s₁):Go (envX env) σ s σ₁ s₁:=x.more λ_ h=>(nomatch h)
def qy.back {K:Fl->Fr->St->Prop}{f:Flow}{s':Shared}(x:Go (envX env) σ s σ₁ s₁):qy G env σ₁ s₁ K f s'->qy G env σ s K f s'
 |⟨Z,ρ',σ',a,b,c,d,e⟩=>#[Z,ρ',σ',a,b,c,d,x.trans e]
def tL.back {K:Fr->St->Prop}{s':Shared}(x:Go (envX env) σ s σ₁ s₁):tL G env σ₁ s₁ K s'->tL G env σ s K s'
 |⟨ρ',σ',b,c,d,e⟩=>#[ρ',σ',b,c,d,x.trans e]
def Go.KJ {M:Model}{s₂:Shared}{t:Sem Flow}{K:Fl->Fr->St->Prop}(x:Go (envX env) σ s σ₁ s₁)(h:wpAny M A t (qy G env σ₁ s₁ K) E s₂):wpAny M A t (qy G env σ s K) E s₂:=cg h (λ_ _=>qy.back x) λ_ _ x=>x
def Rel.frame {h':Heap}{a:Addr}{o':Obj}(R:Rel G σ h)(Z:Heap.SameBut a h h')(hd:¬σ.dom a)(hb:G.hb.get? a=none)(Y:je h h'):Rel G σ h':=
 R.same (λb o e d=>by rw[Z.2 b (λhb=>hd (hb▸d))];show e) Y λb o e=>by rw[Z.2 b (λh=>by subst h;rw[hb]at e;cases e)];show R.base b o e
def Evo.frame {h':Heap}{a:Addr}{o':Obj}(Z:Heap.SameBut a h h')(U:h'.get? a=some o')(I:a∈X)(W:je h h'):Evo X σ h σ h':=
 #[λb o e _ Y=>by rw[Z.2 b (λhb=>Y (hb▸I))];show e,W,λb d=>.inl d,zi Z U]
def kK {names:List (Str×NameKind)}(nd:(names.map (·.1)).Nodup){j:Nat}{k':NameKind}(U:names[i]?=some (x,k))(W:names[j]?=some (x,k')):i=j:=by
 have Y:(names.map (·.1))[i]?=some x:=by rw[cj,U];rfl
 have I:(names.map (·.1))[j]?=some x:=by rw[cj,W];rfl
 have Z:i<(names.map (·.1)).length:=(bc.mp Y).1;show(List.getElem?_inj Z nd).mp (Y.trans I.symm)
abbrev sN (k:NameKind):Bool:=k==.local||k==.cell
abbrev Own (G:Stc)(x:Str)(k:NameKind):Prop:=sN k=true/\(k=.cell->G.cap x=false)
def jA {v:V}(eo:yg env)(F:FR G σ env ρ s.heap)(R:Rel G σ s.heap)
  (hi:env.scope.names[i]?=some (x,k)) (hk:sN k=true) (hN:∀c,env.cells.lookup x=some c->k=.cell->G.hb.get? c=none) (vr:VR G s.heap v w) (ca:env.locals∈X) (cb:∀c,env.cells.lookup x=some c->k=.cell->c∈X)
  (q:∀s',FR G σ env (upd ρ i v) s'.heap->Rel G σ s'.heap->Go X σ s σ s'->Q () s'):wpAny G.M A (storeName env x w) Q E s:=by
 have U:env.kindOf x=some k:=vn eo.nd hi;cases k with
 | «local» =>
  have#[m,hn,hm]:=F.ns;apply wpAny_storeName_local U hn (λh' ao W=>?_) (by rw[eo.kind];rfl);have B:je s.heap h':=vq W F.notfrz;have#[o',cd,ch,aj,ar,_]:=id ao;have R':=R.frame (o':=o') W F.loc F.new B;apply q _ #[#[_,ao,λj y Y=>?_],λj y k' Y I=>?_,F.inj,F.loc,λo e=>?_,F.new,λp hp=>by have#[o,e]:=F.allc p hp;show zi W aj _ o e] R' #[Evo.frame W aj ca B,rfl,rfl]
  ·by_cases Z:j=i
   ·subst Z;rw[hi]at Y;cases Y;simp only[bg,yj];show vr.mono B
   ·have bn:y≠x:=λe=>Z (by subst e;show kK eo.nd Y hi);simp only[bz Z,bn,kh];show(hm j y Y).mono B
  ·have#[c,w',h1,#[oc,ai,hd],h3,h4,h5,h6]:=F.cells j y k' Y I;have Z:j≠i:=λe=>by
    subst e;rw[hi]at Y;cases Y;rcases I with h|h<;>cases h
   apply#[c,w',h1,#[oc,by rw[W.2 c h5];show ai,hd],?_,h4,h5,h6];rw[bz Z];show h3.mono B
  ·rw[aj]at e;cases e;show tn ar
 |cell =>
  have#[c,cc,hc,ab,o,h4,h5,h6]:=F.cells i x _ hi (.inl rfl);have h7:=hN c hc rfl;apply wpAny_storeName_cell eo.kind U hc ab λh' aE W=>?_;have#[oc,ai,hd]:=id ab;have#[bl,ag,ar]:=id aE;have B:je s.heap h':=vq W λo e=>by rw[ai]at e;cases e;show vD hd
  have R':=R.frame (o':=bl) W h4 h7 B;have hX:c∈X:=cb c hc rfl;have#[m,#[o2,es,ep,bu,r2],hm]:=F.ns;apply q _ #[#[m,#[o2,es,ep,by rw[W.2 _ h5.symm];show bu,r2],λj y Y=>?_],λj y k' Y I=>?_,F.inj,F.loc,λo e=>?_,F.new,λp hp=>by have#[o,e]:=F.allc p hp;show zi W ag _ o e] R' #[Evo.frame W ag hX B,rfl,rfl]
  ·have Z:j≠i:=λe=>by subst e;rw[hi]at Y;cases Y
   rw[bz Z];show(hm j y Y).mono B
  ·have#[c2,w2,g1,#[be,bd,gd],g3,g4,g5,g6]:=F.cells j y k' Y I;by_cases Z:j=i
   ·clear q;subst Z;rw[hi]at Y;cases Y;rw[hc]at g1;cases g1;apply#[c,some w,hc,aE,by rw[bg];show vr.mono B,h4,h5,h6]
   ·have bv:c2≠c:=λe=>by subst e;show Z (F.inj j i y x k' _ c2 Y hi I (.inl rfl) g1 hc)
    apply#[c2,w2,g1,#[be,by rw[W.2 _ bv];show bd,gd],?_,g4,g5,g6];rw[bz Z];show g3.mono B
  ·rw[W.2 _ h5.symm]at e;show F.notfrz o e
 |_=>cases hk
def MU (F:FR G σ env ρ h)(hi:env.scope.names[i]?=some (x,k))(hk:Own G x k):∀c,env.cells.lookup x=some c->k=.cell->G.hb.get? c=none:=λc W e=>by
 have#[I,Y,Z,_,_,_,_,U]:=F.cells i x _ hi (.inl e);rw[W]at Z;cases Z;show U (hk.2 e)
def jB {v:V}(I:yg env)(F:FR G σ env ρ s.heap)(R:Rel G σ s.heap)
  (W:env.scope.names[i]?=some (x,k)) (hk:Own G x k) (vr:VR G s.heap v w) (Z:env.locals∈X) (Y:∀c,env.cells.lookup x=some c->c∈X)
  (q:∀s',FR G σ env (upd ρ i v) s'.heap->Rel G σ s'.heap->Go X σ s σ s'->Q () s'):wpAny G.M A (storeName env x w) Q E s:=
 jA I F R W hk.1 (MU F W hk) vr Z (λc U _=>Y c U) q
def zv {v:V}(W:yg env)(F:FR G σ env ρ s.heap)(R:Rel G σ s.heap)
  (Z:env.scope.names[i]?=some (x,k)) (hk:Own G x k) (vr:VR G s.heap v w)
  (q:∀s',FR G σ env (upd ρ i v) s'.heap->Rel G σ s'.heap->Go (envX env) σ s σ s'->Q () s'):wpAny G.M A (storeName env x w) Q E s:=
 jB W F R Z hk vr (.head _) (λc Y=>.tail _ (cq.mpr #[(x,c),mem_of_lookup Y,rfl])) q
end
variable {xs:List Stmt}{pos:Pos}{x:Expr}
abbrev yt (G:Stc)(C:Cal)(sc:Scope)(d:Nat)(st:Stm)(x:Stmt):Prop:=
 ∀⦃A E env ρ σ K s⦄,Cx G sc d A env ρ σ s->wpS C st ρ σ K->wpAny G.M A (exec x env) (qy G env σ s K) E s
abbrev iV (G:Stc)(C:Cal)(sc:Scope)(d:Nat)(st:jw)(xs:List Stmt):Prop:=
 ∀⦃A E env ρ σ K s⦄,Cx G sc d A env ρ σ s->fw C st ρ σ K->wpAny G.M A (execs xs env) (qy G env σ s K) E s
section
variable {G:Stc}{C:Cal}{sc:Scope}{d:Nat}
def qy.here {env:Env}{σ:St}{s:Shared}{tk:Nat}{K:Fl->Fr->St->Prop}{Z:Fl}{f:Flow}{ρ:Fr}(a:FlR G s.heap Z f)(q:K Z ρ σ)(F:FR G σ env ρ s.heap)(R:Rel G σ s.heap):qy G env σ s K f {s with toks:=tk}:=
 #[Z,ρ,σ,a,q,F,R,Go.refl.tok]
def qy.cO {A:Around}{env:Env}{σ:St}{s:Shared}{K:Fl->Fr->St->Prop}{Z:Fl}{f:Flow}{ρ:Fr}(a:FlR G s.heap Z f)(q:K Z ρ σ)(c:Cx G sc d A env ρ σ s):qy G env σ s K f s:=
 #[Z,ρ,σ,a,q,c.F,c.R,.refl]
def DG:iV G C sc d .nil []:=λ_ _ _ _ _ _ _ c h=>iH (qy.cO .next h c)
def yW {st:Stm}{r:jw}{x:Stmt}(h₁:yt G C sc d st x)(Z:iV G C sc d r xs):iV G C sc d (.cons st r) (x::xs):=λ_ _ _ _ _ _ _ c h =>
 mj (cg (h₁ c h) (λf s' l=>by
  have#[I,ρ',σ',a,q,U,W,Y]:=l;cases a with
  |next=>show Y.KJ (Z (c.at U W) q)
  |brk=>refine#[.brk,ρ',σ',.brk,q,U,W,Y]
  |cont=>refine#[.cont,ρ',σ',.cont,q,U,W,Y]
  |ret v=>refine#[_,ρ',σ',.ret v,q,U,W,Y]) λ_ _ x=>x)
def GL:yt G C sc d .pass (.Pass pos):=λ_ _ _ _ _ _ _ c h=>wpAny_Pass (qy.cO .next h c)
def MD:yt G C sc d .brk (.Break pos):=λ_ _ _ _ _ _ _ c h=>by
 show wpAny G.M _ (do standAt pos;pure Flow.brk) _ _ _;show ae (gj (af (qy.cO .brk h c)))
def GX:yt G C sc d .cont (.Continue pos):=λ_ _ _ _ _ _ _ c h=>by
 show wpAny G.M _ (do standAt pos;pure Flow.cont) _ _ _;show ae (gj (af (qy.cO .cont h c)))
def GV {x:Stmt}:yt G C sc d .dead x:=λ_ _ _ _ _ _ _ c h=>h.elim
def DC:fg G C sc d .dead x:=λ_ _ _ _ _ _ _ c h=>h.elim
def DB:tu G C sc d .dead x:=λ_ _ _ _ _ _ _ c h=>h.elim
def M5 {e:Ex}(Z:fg G C sc d e x):yt G C sc d (.ret e) (.Return (some x) pos):=λ_ _ _ _ _ _ _ c h =>
 wpAny_Return_some (nj (Z c h) λv σ₁ s₁ w q vr r x=>#[.ret v,_,σ₁,.ret vr,q,c.F.evo x.e,r,x.wide])
def GK:yt G C sc d (.ret .none) (.Return none pos):=λ_ _ _ _ _ _ _ c h =>
 wpAny_Return_none (qy.cO (.ret .none) h c)
abbrev eF (x:Expr):Bool:=!(kT 8 x||(kT 9 x||kT 10 x))
def fH {e:Expr}(h:eF e=true)(t:Option Expr)(n:Nat)(env:Env):swapsWith e t n env=pure false:=by
 cases e<;>first|rfl|show Bool.noConfusion h
def GS {e:Ex}(Z:fg G C sc d e x)(Y:eF x=true):yt G C sc d (.expr e) (.Expr x pos):=λ_ _ _ _ _ _ _ c h =>
 wpAny_Expr (nj (Z c h) λv σ₁ s₁ w q vr r x=>by
  have#[rfl,q]:=q;have rfl:=vr;apply#[.next,_,σ₁,.next,q,c.F.evo x.e,r,x.wide]) (by unfold interactive;rw[c.eo.kind];rfl) (fH Y _ _ _)
def GY {c:Ex}{t e:jw}{ys:List Stmt}(W:tu G C sc d c x)(Z:iV G C sc d t xs)(Y:iV G C sc d e ys):yt G C sc d (.C c t e) (.If x xs ys pos):=λ_ _ _ _ _ _ _ c h =>
 wpAny_If (rG (W c h) λb σ₁ s₁ q r x=>by
  cases b with
  |true=>show x.wide.KJ (Z (c.go r x) q)
  |false=>show x.wide.KJ (Y (c.go r x) q))
def GR {c:Ex}{b:jw}(hc:tu G C sc d c x)(hb:iV G C sc d b xs):yt G C sc d (.loop c b) (.While x xs [] pos):=λA E env ρ σ K s B h=>by
 have#[n,h]:=h;apply wpAny_While (codeAny_whileLoop (λn s'=>∃ρ' σ',BV (λagain ρ σ=>wpT C c ρ σ λt σ=>if t then fw C b ρ σ (uq again K) else K .next ρ σ) n ρ' σ'/\FR G σ' env ρ' s'.heap/\Rel G σ' s'.heap/\Go (envX env) σ s σ' s') ?_ n #[ρ,σ,h,B.F,B.R,.refl]);intro n s' z;have#[ρ',σ',hl,F',R',x']:=z;cases n with
 |zero=>show hl.elim
 |succ n =>
  apply rG (hc (B.at (A:=_) F' R') hl) λt σ₁ s₁ q r y=>?_;cases t with
  |false=>show iH #[.next,ρ',σ₁,.next,q,F'.evo y.e,r,x'.trans y.wide]
  |true =>
   apply cg (hb ((B.at F' R').go r y) q) (λf s₂ l=>?_) λ_ _ x=>x;have#[fl,Z,σ₂,a,Y,U,W,I]:=l;have x3:=x'.trans (y.wide.trans I);cases a with
   |next=>refine#[n,iq n,Z,σ₂,Y,U,W,x3]
   |cont=>refine#[n,iq n,Z,σ₂,Y,U,W,x3]
   |brk=>refine#[.next,Z,σ₂,.next,Y,U,W,x3]
   |ret v=>refine#[_,Z,σ₂,.ret v,Y,U,W,x3]
end
end MP
end
section
set_option tactic.hygienic true
namespace MP
open PySem PyProof.Rows
variable {σ:St}{h h':Heap}{i:Nat}{pos:Pos}{A:Around}{E:QqV}{s:Shared}{Q:Unit->Shared->Prop}{vs:List V}{env:Env}
abbrev LU (G:Stc)(env:Env)(σ:St)(s:Shared)(K:Fr->St->Prop):Unit->Shared->Prop:=λ_ s'=>tL G env σ s K s'
abbrev mM (G:Stc)(C:Cal)(sc:Scope)(d:Nat)(t:Tgt)(x:Expr):Prop:=
 ∀⦃A E env ρ σ K s v w⦄,Cx G sc d A env ρ σ s->VR G s.heap v w->PA C t v ρ σ K->wpAny G.M A (assign x env w) (LU G env σ s K) E s
section
variable {G:Stc}{C:Cal}{sc:Scope}{d:Nat}
def Rel.keeps (R:Rel G σ h)(hk:∀b o,h.get? b=some o->h'.get? b=some o):Rel G σ h':=R.same (λb o e _=>hk b o e) (λb o e _=>hk b o e) λb o e=>hk b o (R.base b o e)
def Evo.keeps {X:List Addr}(hk:∀b o,h.get? b=some o->h'.get? b=some o):Evo X σ h σ h':=#[λb o e _ _=>hk b o e,λb o e _=>hk b o e,λb d=>.inl d,λb o e=>#[o,hk b o e]]
def mC (x:Heap.ExtBut h.objs.size h h'):∀b o,h.get? b=some o->h'.get? b=some o:=λb o e=>x b o (gn (gv e)) e
def B4 {x:Str}{k:NameKind}(Z:sc.names[i]?=some (x,k))(hk:Own G x k):mM G C sc d (.v i) (.Name x pos):=λ_ _ _ _ _ _ _ _ _ c vr h =>
 assign_Name (zv c.eo c.F c.R (by rw[c.es];show Z) hk vr λs' W Y x=>#[_,_,h,W,Y,x])
def wD {a dd:Addr}{f:Nat->Option V}{name:Str}{u:V}{w:Value}(K:GOk G)(R:Rel G σ s.heap)(hI:σ.I a=some (dd,f))(hn:G.attrs[i]?=some name)(vr:VR G s.heap u w)
  (k:∀s',Rel G (σ.jv a dd (upd f i u)) s'.heap->Go [] σ s (σ.jv a dd (upd f i u)) s'->Q () s'):wpAny G.M A (setAttr (.ref a) name w) Q E s:=by
 have#[N,mN,X,dz,dy,cl,bn]:=K.cls;have I:=R.I a dd f hI;have#[m,hm,hv,ag]:=I.ns;have#[hh,g,dr,t,os]:=s;have#[nm,q,bs,sn,sub,ea,d2,k0,k1,k2,k3,k5,hC]:=(X.keeps R.base).obj;have W:=cw hn;have ck:a≠G.cS:=by
  rintro rfl;have#[_,_,_,_,_,_,_,_,_,_,_,_,df]:=X.obj;have:=R.new _ (.inr (.inr (.inr (.inl (by rw[hI];rfl)))));rw[df]at this;cases this
 have hw:Within m G.attrs:=λy hy=>by
  by_cases h:y∈G.attrs
  ·show h
  ·show absurd (ag y h) hy
 apply store_attr PySem.F.store_object hC (X.keeps R.base).ns cl (bn name W).1 (bn name W).2 ck (I.inst hm) (λh' dn I' hk aj=>?_) hw (gp K.len (by decide));have#[o,ho,hc,hd,ct]:=I.here;have#[ab,e₁,ai,U,Y,aE]:=aj o ho;have eo:ab=o:=by
  have#[oc,od,dx,dv]:=o;have#[cd,cb,ca,bv]:=ab;simp only at ai U Y hd;subst ai;subst U;subst Y;have:=aE dd hd;simp only at this;rw[hd,this]
 subst eo;have Z:h'.Ns1 dd (λy=>if y=name then some w else m y):=by
  have#[o',e',_,_,ar]:=I';have rfl:=ah (e₁.symm.trans e');rcases ar with ⟨be,_⟩|⟨d',ar,_,Z⟩
  ·rw[hd]at be;cases be
  ·have rfl:=ah (hd.symm.trans ar);show Z
 have B:At dd hh h':=by
  have#[od,es,ep,cn,da,_]:=hm;have#[cc,dL,dV,bd,_]:=Z;apply#[λb ob hb e=>?_,#[cc,bd],λo' e=>?_]
  ·by_cases bl:b=a
   ·subst bl;rw[ho]at e;cases e;show e₁
   ·show hk b ob bl (λdm d' bu ed=>by
     clear hk;have rfl:=ah (ho.symm.trans bu);have rfl:=ah (hd.symm.trans ed);show hb) e
  ·have rfl:=ah (cn.symm.trans e);show tn da
 have dc:fZ G h' a dd (upd f i u):=by
  apply#[#[_,e₁,hc,hd,ct],#[_,Z,λj y hj=>?_,λy hy=>?_],I.ne]
  ·by_cases ao:j=i
   ·clear I;subst ao;rw[hn]at hj;cases hj;simp only[bg,yj];show vr.mono B.frz
   ·have ch:y≠name:=λe=>by
     subst e;have cx:j<G.attrs.length:=(bc.mp hj).1;show ao ((List.getElem?_inj cx K.nd).mp (hj.trans hn.symm))
    simp only[bz ao,ch,kh];show(hv j y hj).mono B.frz
  ·have:y≠name:=λe=>hy (e▸W);simp only[this,kh];show ag y hy
 show k _ (R.RE hI B dc) #[Evo.RE _ hI B,rfl,rfl]
def G7 {o:Ex}{x:Expr}{name:Str}(K:GOk G)(U:fg G C sc d o x)(I:G.attrs[i]?=some name):mM G C sc d (.attr o i) (.Attribute x name pos):=λ_ _ _ _ _ _ _ _ _ c vr h=>by
 rw[assign_Attribute];apply ae (cm (nj (U c h) λu σ₁ s₁ W q Z r x=>?_));have#[a,dd,f,rfl,B,q]:=q;have rfl:=Z;apply ae (gj (ae (cm (wD K r B I (vr.mono x.frz) λs' R' Y=>wpAny_release ?_))));apply#[_,_,q,(c.F.evo x.e).evo Y.e,R',(x.trans Y).wide]
def sY {it l:Addr}{items:Array Value}(ag:l≠it):∀(n i:Nat) (s:Shared) (Q:List Value->Shared->Prop),s.heap.IsListIter it l i->s.heap.IsList l items->i+n<=items.size ->
  (∀h',h'.IsListIter it l (i+n)->Heap.SameBut it s.heap h'->Q ((items.toList.drop i).take n) {s with heap:=h'})->wpAny G.M A (draw (.ref it) n) Q E s
 |0=>λi s Q hit hl hn hQ=>by
  dsimp only[draw];show af (by simpa using hQ s.heap hit (.refl ..))
 |n+1=>λi s Q hit hl hn hQ=>by
  dsimp only[draw];have hx:items[i]?=some items[i]:=ix (dt .B .a (.k .a9 .B) hn);apply ae (wpAny_pyNext_list_item hit hl hx λh₁ W Z=>?_);have I:h₁.IsList l items:=by have#[o,ho,r]:=hl;apply#[o,by rw[Z.2 l ag];show ho,r]
  apply ae (cm (sY ag n (i+1) _ _ W I (dt .aD .a .M hn) λab Y U=>af ?_));have hd:items.toList.drop i=items[i]::items.toList.drop (i+1):=by
   rw[ky (by simpa using (by(show dt .B .a (.k .a9 .B) hn):i<items.size))];simp
  have:=hQ ab (by rw[show i+(n+1)=i+1+n by(show fE .c7 .n)];show Y) (Z.trans U);rw[hd,List.take_succ_cons]at this;show this
def nI {t:Addr}{items:Array Value}{Q:List Value->Shared->Prop}(hh:A.handled=none)(ht:s.heap.IsList t items)
  (hQ:∀h',Heap.ExtBut s.heap.objs.size s.heap h'->Q items.toList {s with heap:=h'}):wpAny G.M A (unpackItems (.ref t) items.size none) Q E s:=by
 have ab:t≠s.heap.objs.size:=by have#[o,B,_]:=ht;show gn (gv B)
 unfold unpackItems;apply ae ?_
 ·unfold notIterableAtAll;apply ae (iG ht.typeIs slot_list_iter.lookup ?_);apply af ?_;simp only[eh,kh];apply ae (cm (wpAny_pyIter_list ht ?_));have hp:(s.heap.push {cls:=.type "list_iterator",data:=.fields #v[.ref t,.int 0 0]}).IsList t items:=by have#[o,B,r]:=ht;apply#[o,av _ B,r]
  apply ae (cm (sY ab items.size 0 _ _ #[_,cf _ rfl,rfl,rfl] hp (iy (.k .aV .A) .j) λh₁ Y Z=>?_));have ag:List.take items.size (List.drop 0 items.toList)=items.toList:=by
   rw[yp];show List.take_of_length_le (by simp)
  rw[ag];rw[aw (by simp)];have W:h₁.IsList t items:=by have#[o,B,r]:=hp;apply#[o,by rw[Z.2 t ab];show B,r]
  apply ae (cm (wpAny_pyNext_list_end hh Y W (by simp) λI U=>?_));simp only[wt,eh,kh];apply af (hQ I λb o hb e=>U b o hb (Z.extBut b o hb (av _ e)))
abbrev FJ (G:Stc):Prop:=∀(A:Around) (E:QqV) (s:Shared) (t:Addr) (ws:List Value) (n:Nat) (dd:Option Addr) (Q:List Value->Shared->Prop),A.handled=none->(∀b o,G.hb.get? b=some o->s.heap.get? b=some o) ->
 s.heap.get? t=some {cls:=.ref G.cM,dict:=dd,data:=.seq ws.toArray n,slots:=#v[]} ->
 (∀h',Heap.ExtBut s.heap.objs.size s.heap h'->Q ws {s with heap:=h'})->wpAny G.M A (unpackItems (.ref t) ws.length none) Q E s
def wi {A:Around}{E:QqV}{v:V}{w:Value}{Q:List Value->Shared->Prop}(U:FJ G)(Z:A.handled=none)(R:Rel G σ s.heap)(vr:VR G s.heap v w)(e:LI v σ=some vs)
  (k:∀ws h',VRs G h' vs ws->Rel G σ h'->(∀b o,s.heap.get? b=some o->h'.get? b=some o)->Q ws {s with heap:=h'}):wpAny G.M A (unpackItems w vs.length none) Q E s:=by
 have fin:∀ws h',VRs G s.heap vs ws->Heap.ExtBut s.heap.objs.size s.heap h'->Q ws {s with heap:=h'}:=λws h' r x =>
  k ws h' (r.mono λb o e _=>mC x b o e) (R.keeps (mC x)) (mC x)
 clear k;cases v
 case L =>
  have rfl:=vr;have#[ws,n,W,Y]:=R.L _ _ e;have:=nI (G:=G) (A:=A) (E:=E) (Q:=Q) Z W.isList λh' x=>fin ws h' Y x;rw[cv,<- Y.length]at this;show this
 case T =>
  have#[a,ws,n,rfl,g,r]:=vr;have rfl:=ah e;have:=PyProof.Rows.unpackItems_tuple (prog:=G.prog) (w:=G.w) (A:=A) (E:=E) (Q:=Q) Z #[_,g,rfl,_,rfl] λh' x=>fin _ h' r x;rw[cv,<- r.length]at this;show this
 case mt =>
  have#[a,ws,n,dd,rfl,g,r]:=vr;have rfl:=ah e;have:=U A E s _ _ _ _ Q Z R.base g λh' x=>fin _ h' r x;rw[<- r.length]at this;show this
 all_goals show iv e
def any_some {α:Type}{a:Option α}{f:α->Bool}(h:a.any f=true):∃x,a=some x/\f x=true:=by
 cases a with
 |none=>show Bool.noConfusion h
 |some x=>refine#[x,rfl,h]
abbrev xy (sc:Scope)(i:Nat):Str:=(sc.names[i]?.map (·.1)).getD ""
abbrev kindAt (k:NameKind->Bool)(sc:Scope)(i:Nat):Bool:=sc.names[i]?.any λy=>k y.2&&jl y.1
def tx {p:NameKind->Bool}(h:kindAt p sc i=true):∃k,sc.names[i]?=some (xy sc i,k)/\p k=true/\jl (xy sc i)=true:=by
 have#[y,e,h]:=any_some h;have Z:xy sc i=y.1:=by unfold xy;rw[e];rfl
 apply#[y.2,Z▸e,(band h).1,Z▸(band h).2]
abbrev te (sc:Scope):List Nat->List Expr->List Expr
 | []=>λ_=>[]
 |i::is=>λl=>.Name (xy sc i) (l.headD default).pos::te sc is l.tail
abbrev ownAt (cap:Str->Bool)(sc:Scope)(i:Nat):Bool:=kindAt sN sc i&&(kindAt (·==.local) sc i||!cap (xy sc i))
def z9 {G:Stc}{sc:Scope}(h:ownAt G.cap sc i=true):∃k,sc.names[i]?=some (xy sc i,k)/\Own G (xy sc i) k/\jl (xy sc i)=true:=by
 have#[k,Z,I,U]:=tx (band h).1;apply#[k,Z,#[I,λe=>?_],U];rcases sy .. |>.mp (band h).2 with q|q
 ·have#[k',W,Y,_]:=tx q;rw[Z]at W;cases W;rw[e]at Y;cases Y
 ·show(fh _).mp q
abbrev u5 (cap:Str->Bool)(sc:Scope)(is:List Nat):Bool:=is.all (ownAt cap sc)
def mA:(is:List Nat)->(l:List Expr)->(assignEach (te sc is l) env).length=is.length
 | []=>λ_=>rfl
 |_::is=>λl=>bx (·+1) (mA is l.tail)
def jJ {env:Env}:(is:List Nat)->(l:List Expr)->(assignEach (te sc is l) env).findIdx? (·.1)=none
 | []=>λ_=>rfl
 |_::is=>λl=>by
  have e:=jJ (env:=env) is l.tail;show List.findIdx? _ ((false,_)::assignEach (te sc is l.tail) env)=none;rw[List.findIdx?_cons,e];rfl
abbrev B5 (elts:List Expr):List Str:=elts.filterMap λx=>bif kT 23 x then some (lj x) else none
def mS {X:List Addr}(Z:env.scope=sc)(eo:yg env)(Y:env.locals∈X)(is:List Nat)(l:List Expr){ws:List Value}{ρ:Fr}(U:u5 G.cap sc is=true)(I:is.length=vs.length)(B:∀y∈B5 (te sc is l),∀c,env.cells.lookup y=some c->c∈X)
  (F:FR G σ env ρ s.heap) (R:Rel G σ s.heap) (vr:VRs G s.heap vs ws) (k:∀s',FR G σ env (ry is vs ρ) s'.heap->Rel G σ s'.heap->Go X σ s σ s'->Q () s') :
  wpAny G.M A (assignInOrder ((assignEach (te sc is l) env).map (·.2)) ws) Q E s:=by
 induction is generalizing l vs ws ρ s with
 |nil=>show af (k s F R .refl)
 |cons i is ih =>
  cases vs with
  |nil=>show nomatch I
  |cons v vs =>
  have#[w,us,e,va,vr]:=vr;subst e;have#[kk,hi,hk,_]:=z9 (band U).1;show wpAny G.M A (do holding us (assign (.Name (xy sc i) (l.headD default).pos) env w);assignInOrder ((assignEach (te sc is l.tail) env).map (·.2)) us) Q E s;apply ae (cm (assign_Name (jB eo F R (by rw[Z];show hi) hk va Y (B _ (.head _)) λs' F' R' W=>?_)));show ih l.tail (band U).2 (uk I) (λy hy=>B y (.tail _ hy)) F' R' (vr.mono W.frz) λs2 F2 R2 x2=>k s2 F2 R2 (W.trans x2)
def yP (Z:env.scope=sc)(I:yg env){is:List Nat}{l:List Expr}{ws:List Value}{ρ:Fr}(U:u5 G.cap sc is=true)(W:is.length=vs.length)
  (F:FR G σ env ρ s.heap) (R:Rel G σ s.heap) (vr:VRs G s.heap vs ws) (k:∀s',FR G σ env (ry is vs ρ) s'.heap->Rel G σ s'.heap->Go (envX env) σ s σ s'->Q () s') :
  wpAny G.M A (assignInOrder ((assignEach (te sc is l) env).map (·.2)) ws) Q E s:=
 mS Z I (.head _) is l U W (λy _ c Y=>.tail _ (cq.mpr #[(y,c),mem_of_lookup Y,rfl])) F R vr k
def LJ {is:List Nat}{l:List Expr}{k:Nat}(U:FJ G)(W:u5 G.cap sc is=true):mM G C sc d (.T is) (.Tuple (te sc is l) k pos):=λ_ _ _ _ _ _ _ _ _ c vr h=>by
 have#[vs,e,Y,q]:=h;rw[assign_Tuple];apply ae (gj ?_);unfold unpack;rw[mA,jJ,Y];apply ae (cm (wi U c.ao.handled c.R vr e λws h' Z I hk=>?_));apply yP c.es c.eo W Y (c.F.evo (Evo.keeps hk)) I Z λs2 B R2 x2=>?_;apply#[_,_,q,B,R2,#[(Evo.keeps hk).trans x2.e,x2.g,x2.o]]
def LK {o i:Ex}{x y:Expr}(ho:fg G C sc d o x)(hi:fg G C sc d i y):mM G C sc d (.sub o i) (.Subscript x y pos):=λA E env ρ σ K s v w c vr h=>by
 rw[arm_assign_Subscript];apply ae (cm (nj (ho c h) λu σ₁ s₁ ao q U r x=>?_));apply ae (cm (nj (hi (c.go r x) q) λj σ₂ s₂ aj Y W r₂ Z=>?_));apply ae (gj (ae (cm ?_)));have ab:=(vr.mono x.frz).mono Z.frz;have#[a,rfl,ar,kk,e,I,hz,Y]:=yz (v:=u) Y;have rfl:=U;have#[ds,hd,hv]:=r₂.D _ _ e;apply wpAny_setItem_pairs (key_is I W) hd (λh' ai ag=>wpAny_release ?_) (by rw[<- hv.length];show pn (ax .A .a .B hz));have#[R',x']:=QM r₂ e ag ai (hv.put ab) (gp (mU _ _ _) (ax .F .a .B hz));apply#[_,_,Y,((c.F.evo x.e).evo Z.e).evo x',R',((x.trans Z).to x').wide]
end
variable {targets xs:List Expr}{value:Expr}{env:Env}
abbrev xi (sc:Scope)(ts:List Expr):List Str:=ts.filterMap λ
 |.Name id pos=>if sc.names.lookup id==some .local&&pos.line==(ts.head?.map (·.pos.line)).getD 0 then some id else none
 |_=>none
abbrev WZ (x:Expr):Option (Option (List Expr)):=bif kT 25 x then some (some (kids x)) else bif kT 24 x then none else some none
abbrev tgK:List Expr->Option (Option (List Expr))
 | []=>some none
 |x::r=>bif r.isEmpty then WZ x else some none
abbrev tupK (x:Expr):Option (List Expr):=bif kT 25 x then some (kids x) else none
abbrev U5 (sc:Scope)(ts vs:List Expr):Option (Option (List Str)):=
 bif !(ts.length==2||ts.length==3)||vs.length != ts.length then some none
 else bif vs.any isStar then some none
 else bif (xi sc ts).length != ts.length||(xi sc ts).eraseDups.length != (xi sc ts).length then some none
 else bif vs.all (foldedForSure 8) then some none
 else bif vs.all (constantsAlone 8) then none
 else some (some (xi sc ts))
abbrev swp (sc:Scope)(targets:List Expr)(value:Expr):Option (Option (List Str)):=
 (tgK targets).bind λo=>o.elim (some none) λts=>(tupK value).elim (some none) (U5 sc ts)
def G9 (h:tgK targets=some none)(value:Expr)(env:Env):swappedStores targets value env=pure none:=by
 cases targets with
 |nil=>rfl
 |cons x r =>
  cases r with
  |nil=>cases x<;>first|rfl|show iv (ah h).symm|show iv h
  |cons y r=>cases x<;>rfl
def G8 {ts:List Expr}(h:tgK targets=some (some ts)):∃k p,targets=[.Tuple ts k p]:=by
 cases targets with
 |nil=>show iv (ah h)
 |cons x r =>
  cases r with
  |nil =>
   cases x
   case Tuple=>have rfl:=ah (ah h);apply#[_,_,rfl]
   all_goals first|show iv (ah h)|show iv h
  |cons y r=>show iv (ah h)
def CZ (h:tupK value=none)(ts:List Expr)(k:Nat)(p:Pos)(env:Env):swappedStores [.Tuple ts k p] value env=pure none:=by
 cases value<;>first|rfl|show iv h.symm
def CY {vs:List Expr}(h:tupK value=some vs):∃k p,value=.Tuple vs k p:=by
 cases value
 case Tuple=>have rfl:=ah h;apply#[_,_,rfl]
 all_goals show iv h
def lB {α:Type}{b:Bool}{x y:Option (Option α)}{r:Option α}{t u:Sem (Option α)}(h:(bif b then x else y)=some r)(Y:x=some r->t=pure r)(Z:y=some r->u=pure r):(if b=true then t else u)=pure r:=by
 cases b with
 |true=>show Y h
 |false=>show Z h
def oC {sc:Scope}{r:Option (List Str)}(h:swp sc targets value=some r)(U:env.scope=sc)(hk:env.blockKind=.function):swappedStores targets value env=pure r:=by
 have#[o,Y,h]:=fc.mp h;cases o with
 |none=>have rfl:=ah h;show G9 Y value env
 |some ts =>
  have#[k,p,rfl]:=G8 Y;have h:(tupK value).elim (some none) (U5 sc ts)=some r:=h;cases Z:tupK value with
  |none=>rw[Z]at h;have rfl:=ah h;show CZ Z ts k p env
  |some vs =>
   rw[Z]at h;have#[k',W,rfl]:=CY Z;subst U;have e:swappedStores [.Tuple ts k p] (.Tuple vs k' W) env=(if (!(ts.length==2||ts.length==3)||vs.length != ts.length||env.blockKind != .function)=true then pure none
    else if vs.any isStar=true then pure none
    else if ((xi env.scope ts).length != ts.length||(xi env.scope ts).eraseDups.length != (xi env.scope ts).length)=true then pure none
    else if vs.all (foldedForSure 8)=true then pure none
    else if vs.all (constantsAlone 8)=true then (do unsupported "assign.tuple-of-constant-expressions:order-of-the-stores";pure (some (xi env.scope ts)))
    else pure (some (xi env.scope ts))):=rfl
   rw[e,hk,show(ScopeKind.function != ScopeKind.function)=false from rfl,we];show lB h (λh=>ah h▸rfl) λh=>lB h (λh=>ah h▸rfl) λh=>lB h (λh=>ah h▸rfl) λh=>lB h (λh=>ah h▸rfl) λh=>lB h (λh=>iv h) λh=>ah h▸rfl
def td (h:eF value=true)(targets:List Expr)(n:Nat)(env:Env):swapsWithSole targets value n env=pure false:=by
 cases targets with
 |nil=>rfl
 |cons t r =>
  cases r with
  |nil=>show fH h _ _ _
  |cons=>rfl
section
variable {G:Stc}{C:Cal}{sc:Scope}{d:Nat}
inductive hU (G:Stc)(C:Cal)(sc:Scope)(d:Nat):List Tgt->List Expr->Prop
 |nil:hU G C sc d [] []
 |cons {t:Tgt} {x:Expr} {ts:List Tgt} {xs:List Expr}:mM G C sc d t x->(∀env,assignEach (x::xs) env=(false,assign x env)::assignEach xs env)->hU G C sc d ts xs->hU G C sc d (t::ts) (x::xs)
def BC {A:Around}{E:QqV}{ts:List Tgt}(U:hU G C sc d ts xs):∀{ρ:Fr} {σ:St} {K:Fr->St->Prop} {s:Shared} {v:V} {w:Value},Cx G sc d A env ρ σ s->VR G s.heap v w ->
  lT C ts v ρ σ K->wpAny G.M A (assignAll w ((assignEach xs env).map (·.2))) (LU G env σ s K) E s:=by
 induction U with
 |nil=>show λc vr h=>af #[_,_,h,c.F,c.R,.refl]
 | @cons t x ts xs W B I Y =>
  intro ρ σ K s v w c vr h;rw[B];cases I with
  |nil=>show W c vr h
  |cons a b c' =>
   rw[b env]at Y ⊢;apply ae (cm (cg (W c vr h) (λ_ s' l=>?_) λ_ _ x=>x));have#[ρ',σ',q,F',R',Z]:=l;show cg (Y (c.at F' R') (vr.mono Z.frz) q) (λ_ _=>tL.back Z) λ_ _ x=>x
def yV {ts:List Tgt}{e:Ex}{x:Expr}{pos:Pos}(U:hU G C sc d ts xs)(I:fg G C sc d e x)(B:eF x=true)(W:swp sc xs x=some none):yt G C sc d (.a ts e) (.Assign xs x pos):=λ_ _ _ _ _ _ _ c h=>by
 rw[exec_Assign];apply ae (gj ?_);rw[td B];apply ae (af ?_);rw[aw (by decide)];apply ae (nj (I c h) λv σ₁ s₁ w q vr r x=>?_);rw[oC W c.es (by unfold Env.blockKind;rw[c.eo.kind];rfl)];apply ae (af ?_);show wpAny G.M _ (do assignAll w _;pure Flow.next) _ _ _;apply ae (cg (BC U (c.go r x) vr q) (λ_ s' l=>af ?_) λ_ _ x=>x);have#[ρ',σ',Y,F',R',Z]:=l;apply#[.next,ρ',σ',.next,Y,F',R',x.wide.trans Z]
def iN:∀(xs:List Nat) (vs:List V) (x:Nat) (v:V) (ρ:Fr),xs.length=vs.length->ry (xs++[x]) (vs++[v]) ρ=upd (ry xs vs ρ) x v
 | [],[],_,_,_,_=>rfl
 | [],_::_,_,_,_,h=>absurd h.symm (zt _)
 |_::_,[],_,_,_,h=>absurd h (zt _)
 |y::xs,u::vs,x,v,ρ,h=>by
  show iN xs vs x v _ (uk h)
def G0 {α:Type}{f:Nat->Option α}{i j:Nat}{a b:α}(h:i≠j):upd (upd f i a) j b=upd (upd f j b) i a:=by
 funext k
 unfold upd;by_cases Y:k=j<;>by_cases Z:k=i<;>simp_all
def oL:∀(xs:List Nat) (vs:List V) (x:Nat) (v:V) (ρ:Fr),x∉xs->ry xs vs (upd ρ x v)=upd (ry xs vs ρ) x v
 | [],_,_,_,_,_=>rfl
 |_::_,[],_,_,_,_=>rfl
 |y::xs,u::vs,x,v,ρ,h=>by
  show ry xs vs (upd (upd ρ x v) y u)=upd (ry xs vs (upd ρ y u)) x v;have h:=tO h;rw[G0 h.1,oL xs vs x v _ h.2]
def fK:∀(xs:List Nat) (vs:List V) (ρ:Fr),xs.length=vs.length->xs.Nodup->ry xs.reverse vs.reverse ρ=ry xs vs ρ
 | [],[],_,_,_=>rfl
 | [],_::_,_,h,_=>absurd h.symm (zt _)
 |_::_,[],_,h,_=>absurd h (zt _)
 |x::xs,v::vs,ρ,h,Z=>by
  have Z:=List.nodup_cons.mp Z;have h:xs.length=vs.length:=uk h;rw[yo,yo,iN _ _ _ _ _ (by rw[vm,vm];show h),fK xs vs ρ h Z.2];show(oL xs vs x v ρ Z.1).symm
abbrev UX (cap:Str->Bool)(sc:Scope)(is:List Nat)(xs:List Str):Bool:=decide (xs=is.map (xy sc))&&u5 cap sc is
def w8 {A:Around}{E:QqV}(Z:env.scope=sc)(eo:yg env){σ:St}(is:List Nat){vs:List V}{ws:List Value}{ρ:Fr}{s:Shared}{Q:Unit->Shared->Prop}(W:u5 G.cap sc is=true)(U:is.length=vs.length)
  (F:FR G σ env ρ s.heap) (R:Rel G σ s.heap) (vr:VRs G s.heap vs ws) (k:∀s',FR G σ env (ry is vs ρ) s'.heap->Rel G σ s'.heap->Go (envX env) σ s σ s'->Q () s') :
  wpAny G.M A (assignInOrder ((is.map (xy sc)).map λn=>bindName env n) ws) Q E s:=by
 induction is generalizing vs ws ρ s with
 |nil=>show af (k s F R .refl)
 |cons i is ih =>
  cases vs with
  |nil=>show nomatch U
  |cons v vs =>
  have#[w,us,e,I,vr]:=vr;subst e;have#[kk,hi,hk,_]:=z9 (band W).1;show wpAny G.M A (do holding us (bindName env (xy sc i) w);assignInOrder ((is.map (xy sc)).map λn=>bindName env n) us) Q E s;apply ae (cm (wpAny_bindName (zv eo F R (by rw[Z];show hi) hk I λs' F' R' Y=>?_)));show ih (band W).2 (uk U) F' R' (vr.mono Y.frz) λB F2 R2 x2=>k B F2 R2 (Y.trans x2)
def snd_swap {is:List Nat}{e:Ex}{x:Expr}{pos:Pos}{names:List Str}(U:FJ G)(he:fg G C sc d e x)(hc:eF x=true)(hw:swp sc xs x=some (some names))(I:UX G.cap sc is names=true)(Y:is.Nodup):yt G C sc d (.a [.T is] e) (.Assign xs x pos):=λ_ _ _ _ _ _ _ c h=>by
 rw[exec_Assign];apply ae (gj ?_);rw[td hc];apply ae (af ?_);rw[aw (by decide)];apply ae (nj (he c h) λv σ₁ s₁ w q vr r x=>?_);rw[oC hw c.es (by unfold Env.blockKind;rw[c.eo.kind];rfl)];apply ae (af ?_);have#[vs,ev,W,q]:=q;show wpAny G.M _ (do rule "assign.swapped-stores";let items←unpackItems w names.length none;assignInOrder (names.reverse.map λn=>bindName _ n) items.reverse;pure Flow.next) _ _ _;apply ae (wd (ae ?_));have rfl:=ay (band I).1;rw[ak,W,<- List.map_reverse];apply wi U c.ao.handled r vr ev λws h' Z R' hk=>?_;apply ae (w8 c.es c.eo is.reverse (by unfold u5;rw[List.all_reverse];show(band I).2) (by simpa using W) ((c.F.evo x.e).evo (Evo.keeps hk)) R' Z.reverse λs2 B R2 x2=>af ?_);rw[fK _ _ _ W Y]at B;apply#[.next,_,_,.next,q,B,R2,x.wide.trans #[(Evo.keeps hk).trans x2.e,x2.g,x2.o]]
end
end MP
end
section
namespace MP
open PySem PyProof.Rows
def mZ:typeLookup (.type "list") (dunderI "add")=pure (some (.builtin "list.__iadd__")):=by rw[fj,dh];kernel_rfl
def zW:fillsInplaceSlot (.type "list") "add" (Operator.Add==.Add)=pure false:=by
 unfold fillsInplaceSlot;show(typeLookup (.type "list") (dunderI "add")>>=λZ=>pure (Z.isSome&&!isSeqSlot Z))=pure false;rw[mZ];first|rfl|kernel_rfl
def J4:seqSlot? (.type "list") (dunderI "add")=pure (some (.builtin "list.__iadd__")):=by
 unfold seqSlot?;rw[mZ];first|rfl|kernel_rfl
section
variable {G:Stc}{A:Around}{E:QqV}{s:Shared}{σ:St}
def zV {a b:Value}{Q:QqV}(Z:s.TypeIs a "list")(hb:s.TypeIs b "list")(Y:wpAny G.M A (call (.builtin "list.__iadd__") [a,b]) Q E s):wpAny G.M A (inplaceOp .Add a b) Q E s:=by
 unfold inplaceOp;apply cm ?_;apply ae (jX Z (ae (fb zW ?_)));show wpAny _ A (if false=true then _ else _) Q E s;rw[aw sg];apply ae (wpAny_binaryOp1_none (nm:="add") Z hb noFill_list_add ?_);apply ae (fb J4 ?_);show ae (wd Y)
def H6 {op:Bop}{a b:V}{x y:Value}{Q:V->St->Prop}(U:op=.add\/op=.sub)(R:Rel G σ s.heap)(va:VR G s.heap a x)(vb:VR G s.heap b y)(h:FY op a b σ Q):wpAny G.M A (inplaceOp (binOp op) x y) (jg G [] σ s Q) E s:=by
 cases a with
 |L a =>
  have rfl:=va;have#[b,rfl,h]:=xk (v:=b) h;have rfl:=vb;rcases U with rfl|rfl
  ·have#[xs,ys,ag,e1,e2,hz,q]:=h;have#[us,n,hl,hv]:=R.L _ _ e1;have#[ts,m,ab,W]:=R.L _ _ e2;have I:=hv.length;have Y:=W.length;have Z:us.length+ts.length<=sizeLine:=by rw[<- I,<- Y];show pn hz
   apply zV #[_,hl,rfl] #[_,ab,rfl] (call_meets PySem.F.slot_list_iadd #[_,hl,rfl] PySem.F.entry_list_iadd (PySem.F.args_list_iadd_2 _ _) (AutoSeq1.list___iadd___list_list_0 _ _ _ _ _ _ ?_ (by simp only[cv];(show dt .A .a (.k .X .B) Z)) (by simp only[cv];(show dt (.k .M .Q) .a .K Z))) #[hl,ab,?_])
   ·simp only[cv,Builtin.List.listTooLong];rw[show sizeLine=16777216 from rfl]at Z;simp;intro _;first|omega|(unfold sizeLine;(show ax (.k .M (.n (2^24))) .a (.k .M (.n 16777216)) Z))
   ·have#[r',x']:=LH (f:=λx=>x++ts.toArray) R e1 hl (hv.append W) (by simpa using hz) (by simp);apply#[.L _,_,q,.L _,r',x',rfl,rfl]
  ·show False.elim h
 |int a =>
  have#[t,rfl]:=va;have#[b,rfl,h]:=xn (v:=b) h;have#[u,rfl]:=vb;rcases U with rfl|rfl
  ·show P.iadd_int (jg.here h (.int _ _) R)
  ·show P.isub_int (jg.here h (.int _ _) R)
 |_=>show False.elim h
def MI {C:Cal}{sc:Scope}{d:Nat}{op:Bop}{i:Nat}{e:Ex}{x:Str}{k:NameKind}{y:Expr}{pos Y:Pos}(U:op=.add\/op=.sub)(he:fg G C sc d e y)(hi:sc.names[i]?=some (x,k))(hk:Own G x k)(hx:jl x=true) :
  yt G C sc d (.aug i op e) (.AugAssign (.Name x Y) (binOp op) y pos):=λ_ _ _ _ _ _ _ c h=>by
 have#[v,hv,h]:=h;have I:isVar k=true:=by cases k<;>first|rfl|show Bool.noConfusion hk.1
 apply wpAny_AugAssign_Name (kE c.eo c.F (by rw[c.es];show hi) I hx hv λw vr=>?_);apply nj (he c h) λu σ₁ s₁ ab q Z r x=>?_;apply cg (H6 U r (vr.mono x.frz) Z q) (λw' s' l=>?_) λ_ _ x=>x;have#[v',σ',q',W,r',B]:=l;apply zv c.eo ((c.F.evo x.e).evo B.e) r' (by rw[c.es];show hi) hk W λs2 F2 R2 x2=>?_;apply#[.next,_,σ',.next,q',F2,R2,(x.trans B).wide.trans x2]
end
end MP
end
section
namespace MP
set_option genInjectivity false
open PySem PyProof.Rows
variable {own X:List Addr}{σ σ':St}{env:Env}{ρ:Fr}{h h':Heap}{s s₁ s':Shared}{i:Nat}{t:Tg}{x:Expr}{pos:Pos}
def FR.but {G:Stc}(F:FR G σ env ρ h)(hk:∀b o,b∉own->h.get? b=some o->h'.get? b=some o)(hf:je h h')(U:∀b∈own,b∉envX env):FR G σ env ρ h':=by
 have#[m,#[o,es,ep,B,r],hm]:=F.ns;have Z:=hk _ _ (λq=>U _ q (.head _)) B;apply#[#[m,#[o,es,ep,Z,r],λi y e=>(hm i y e).mono hf],λi y k e W=>?_,F.inj,F.loc,λab e=>?_,F.new,λp I=>?_]
 ·have#[c,w,h1,#[oc,Y,hd],h3,h4,h5]:=F.cells i y k e W;apply#[c,w,h1,#[oc,hk _ _ (λq=>U _ q (.tail _ (cq.mpr #[(y,c),mem_of_lookup h1,rfl]))) Y,hd],h3.mono hf,h4,h5]
 ·rw[Z]at e;cases e;show F.notfrz o B
 ·have#[o,e]:=F.allc p I;apply#[o,hk _ _ (λq=>U _ q (.tail _ (cq.mpr #[p,I,rfl]))) e]
def Evo.but {h₀:Heap}(x:Evo X σ h₀ σ' h)(hk:∀b o,b∉own->h.get? b=some o->h'.get? b=some o)(Y:∀b∈own,h₀.get? b=none):Evo X σ h₀ σ' h':=by
 have out:∀b o,h₀.get? b=some o->b∉own:=λb o e q=>by rw[Y b q]at e;cases e
 apply#[λb o e nd W=>hk b o (out b o e) (x.keep b o e nd W),λb o e f=>hk b o (out b o e) (x.frz b o e f),x.dom,λb o e=>by have#[Z,e₁]:=x.there b o e;apply#[Z,hk b Z (out b o e) e₁]]
abbrev fY (s s':Shared):Prop:=s'.gens=s.gens/\s'.os=s.os
def fY.rfl {Z:Drawn}{tk:Tok}:fY s #[h,s.gens,Z,tk,s.os]:=#[Eq.refl _,Eq.refl _]
def fY.trans (m:fY s s₁)(Z:fY s₁ s'):fY s s':=#[Z.1.trans m.1,Z.2.trans m.2]
def Go.same (x:Go X σ s σ' s'):fY s s':=#[x.g,x.o]
def fY.go (m:fY s s₁)(x:Go X σ s₁ σ' s'):fY s s':=m.trans x.same
def Go.but {s₀:Shared}(x:Go X σ s₀ σ' s)(hk:∀b o,b∉own->s.heap.get? b=some o->s'.heap.get? b=some o)(g:fY s s')(Z:∀b∈own,s₀.heap.get? b=none):Go X σ s₀ σ' s':=#[x.e.but hk Z,g.1.trans x.g,g.2.trans x.o]
abbrev TO (own:List Addr)(pos:Nat->Heap->Prop):Prop:=∀i h h',pos i h->(∀b∈own,∀o,h.get? b=some o->h'.get? b=some o)->je h h'->pos i h'
abbrev WL (own:List Addr)(pos:Nat->Heap->Prop):Prop:=∀i h,pos i h->∀b∈own,∃o,h.get? b=some o/\¬Frz o
abbrev TL (G:Stc)(it:Addr)(pos:Nat->Heap->Prop):Prop:=∀(A:Around) (E:QqV) (s:Shared) (i:Nat) (Q:QqV),pos i s.heap->Q (.ref it) s->wpAny G.M A (pyIter (.ref it)) Q E s
abbrev CN (own:List Addr)(s s':Shared):Prop:=(∀b o,b∉own->s.heap.get? b=some o->s'.heap.get? b=some o)/\fY s s'
abbrev TN (G:Stc)(it:Addr)(own:List Addr)(vs:List V)(Gd:St->Prop)(tup:Bool)(pos:Nat->Heap->Prop):Prop:=∀(A:Around) (E:QqV) (s:Shared) (σ:St) (i:Nat) (v:V) (target:Expr) (Q:QqV),A.handled=none->Rel G σ s.heap->Gd σ->pos i s.heap->vs[i]?=some v->(tup=true->∃es k p,target=.Tuple es k p) ->
  (∀w s',CN own s s'->(je s.heap s'.heap->VR G s'.heap v w/\pos (i+1) s'.heap)->Q w s') ->
  wpAny G.M A (pyNext (.ref it)) (λr s₁=>match r with|none=>False|some w=>wpAny G.M A (letOwnedTupleGo target (.ref it) w) (λ_ s₂=>Q w s₂) E s₁) E s
abbrev TJ (G:Stc)(it:Addr)(own:List Addr)(vs:List V)(Gd:St->Prop)(pos:Nat->Heap->Prop):Prop:=∀(A:Around) (E:QqV) (s:Shared) (σ:St) (i:Nat) (Q:Option Value->Shared->Prop),A.handled=none->Rel G σ s.heap->Gd σ->pos i s.heap->vs[i]?=none ->
  (∀s',CN own s s'->Q none s')->wpAny G.M A (pyNext (.ref it)) Q E s
structure Itr (G:Stc) where
 it:Addr
 own:List Addr
 vs:List V
 Gd:St->Prop
 tup:Bool
 pos:Nat->Heap->Prop
 keep:TO own pos
 obj:WL own pos
 self:TL G it pos
 next:TN G it own vs Gd tup pos
 stop:TJ G it own vs Gd pos
def zx {it:Addr}(h:Heap.SameBut it s.heap s'.heap)(g:fY s s'):CN [it] s s':=#[λb o hb e=>by rw[h.2 b λq=>hb (q▸.head _)];show e,g]
def zd {it:Addr}(h:Heap.ExtBut it s.heap s'.heap)(Z:it∈own)(g:fY s s'):CN own s s':=#[λb o hb e=>h b o (λq=>hb (q▸Z)) e,g]
section
variable {G:Stc}{C:Cal}{sc:Scope}{d:Nat}
def Itr.there (I:Itr G)(Z:I.pos i h){b:Addr}(hb:b∈I.own):∃o,h.get? b=some o:=by have#[o,e,_]:=I.obj i h Z b hb;apply#[o,e]
def Itr.BR (I:Itr G)(Z:I.pos i h){b:Addr}(hb:b∈I.own){o:Obj}(e:h.get? b=some o):¬Frz o:=by have#[o',Y,f]:=I.obj i h Z b hb;have rfl:=ah (e.symm.trans Y);show f
def Itr.frz (I:Itr G)(Z:I.pos i h)(hk:∀b o,b∉I.own->h.get? b=some o->h'.get? b=some o):je h h':=λb o e f=>hk b o (λhb=>I.BR Z hb e f) e
def Itr.rel (I:Itr G)(Z:I.pos i h)(R:Rel G σ h)(hd:∀b∈I.own,¬σ.dom b)(hb:∀b∈I.own,G.hb.get? b=none)(hk:∀b o,b∉I.own->h.get? b=some o->h'.get? b=some o):Rel G σ h':=
 R.same (λb o e Y=>hk b o (λq=>hd b q Y) e) (λb o e f=>hk b o (λq=>I.BR Z q e f) e) λb o e=>hk b o (λq=>by rw[hb b q]at e;cases e) (R.base b o e)
inductive yL (G:Stc)(σ:St)(s:Shared)(tupled:Bool)(P:List V->(St->Prop)->St->Prop)(itv:Value)(s':Shared):Prop
 |mk (I:Itr G) (σ':St):itv=.ref I.it->(I.tup=true->tupled=true)->P I.vs I.Gd σ'->I.pos 0 s'.heap->Rel G σ' s'.heap->Go [] σ s σ' s'->(∀b∈I.own,s.heap.get? b=none)->(∀b∈I.own,¬σ'.dom b)->yL G σ s tupled P itv s'
abbrev dQ (G:Stc)(C:Cal)(sc:Scope)(d:Nat)(tupled:Bool)(it:It)(x:Expr):Prop:=
 ∀⦃A E env ρ σ P s⦄,Cx G sc d A env ρ σ s->vW C it ρ σ P->wpAny G.M A (eval x env) (λv s₁=>wpAny G.M A (pyIter v) (yL G σ s tupled P) E s₁) E s
abbrev LX (G:Stc)(X:List Addr)(env:Env)(σ:St)(s:Shared)(K:Fr->Prop)(s':Shared):Prop:=∃ρ',K ρ'/\FR G σ env ρ' s'.heap/\Rel G σ s'.heap/\Go X σ s σ s'
abbrev CL (G:Stc)(C:Cal)(sc:Scope)(d:Nat)(t:Tg)(x:Expr):Prop:=
 ∀⦃A E env ρ σ K s v w⦄,Cx G sc d A env ρ σ s->VR G s.heap v w->pe t v σ ρ K->wpAny G.M A (assign x env w) (λ_ s'=>LX G (envX env) env σ s K s') E s
abbrev isTup (x:Expr):Bool:=kT 25 x
abbrev kB (x:Expr):List Str:=bif kT 23 x then [lj x] else bif kT 25 x then B5 (kids x) else []
abbrev wm (G:Stc)(C:Cal)(sc:Scope)(d:Nat)(t:Tg)(x:Expr):Prop:=
 ∀⦃A E X env ρ σ K s v w⦄,env.locals∈X->(∀y∈kB x,∀c,env.cells.lookup y=some c->c∈X)->Cx G sc d A env ρ σ s->VR G s.heap v w->pe t v σ ρ K->wpAny G.M A (assign x env w) (λ_ s'=>LX G X env σ s K s') E s
def wm.plain (h:wm G C sc d t x):CL G C sc d t x:=λ_ _ _ _ _ _ _ _ _ c vr q=>h (.head _) (λy _ c Z=>.tail _ (cq.mpr #[(y,c),mem_of_lookup Z,rfl])) c vr q
def LM {x:Str}{k:NameKind}(W:sc.names[i]?=some (x,k))(hk:Own G x k):wm G C sc d (.v i) (.Name x pos):=λ_ _ _ _ _ _ _ _ _ _ Z Y c vr h =>
 assign_Name (jB c.eo c.F c.R (by rw[c.es];show W) hk vr Z (Y x (.head _)) λs' I U x=>#[_,h,I,U,x])
def LN {is:List Nat}{l:List Expr}{k:Nat}(U:FJ G)(B:u5 G.cap sc is=true):wm G C sc d (.T is) (.Tuple (te sc is l) k pos):=λ_ _ _ _ _ _ _ _ _ _ Y W c vr h=>by
 have#[vs,e,I,q]:=h;rw[assign_Tuple];apply ae (gj ?_);unfold unpack;rw[mA,jJ,I];apply ae (cm (wi U c.ao.handled c.R vr e λws h' Z R' hk=>?_));apply mS c.es c.eo Y is l B I W (c.F.evo (Evo.keeps hk)) R' Z λs2 F2 R2 x2=>?_;apply#[_,q,F2,R2,(Evo.keeps hk).trans x2.e,x2.g,x2.o]
inductive qX (I:Itr G)(env:Env)(σ:St)(s:Shared)(T:V->Fr->St->(Fr->St->Prop)->Prop)(K:Fr->St->Prop)(n:Nat)(s':Shared):Prop
 |mk (i:Nat) (σ':St) (ρ':Fr):n=I.vs.length-i->I.pos i s'.heap->FR G σ' env ρ' s'.heap->Rel G σ' s'.heap->Go (envX env) σ s σ' s'->(∀b∈I.own,¬σ'.dom b)->uS (I.vs.drop i) I.Gd T ρ' σ' K->qX I env σ s T K n s'
def qX.next {I:Itr G}{T:V->Fr->St->(Fr->St->Prop)->Prop}{K:Fr->St->Prop}{ρ':Fr}(lt:i<I.vs.length)(Z:I.pos (i+1) s'.heap)(F:FR G σ' env ρ' s'.heap)(R:Rel G σ' s'.heap)(x:Go (envX env) σ s σ' s')(hd:∀b∈I.own,¬σ'.dom b)(q:uS (I.vs.drop (i+1)) I.Gd T ρ' σ' K) :
  ∃m,m<I.vs.length-i/\qX I env σ s T K m s':=#[_,by show dj .B .d .cQ .bJ (aa (ax .F .a .B lt)) (aa (ax .A .a .B lt)),i+1,σ',ρ',rfl,Z,F,R,x,hd,q]
def Itr.GD {I:Itr G}{Y:List Addr}{Z σb:St}{B hb:Heap}{j:Nat}(hX:∀b∈I.own,b∉Y)(U:I.pos j B)(hd:∀c∈I.own,¬Z.dom c)(x:Evo Y Z B σb hb):I.pos j hb/\∀c∈I.own,¬σb.dom c:=
 #[I.keep _ _ _ U (λc W o e=>x.keep c o e (hd c W) (hX c W)) x.frz,λc W dm=>(x.dom c dm).elim (hd c W) λq=>by have#[o,e]:=I.there U W;rw[e]at q;cases q]
def CC {l:List V}{v:V}(e:l[i]?=some v):i<l.length/\l.drop i=v::l.drop (i+1):=by
 have h:=bc.mp e;apply#[h.1,?_];rw[ky h.1,h.2]
def xK (h:isTup x=true):∃es k p,x=.Tuple es k p:=by
 cases x<;>first|refine⟨_,_,_,rfl⟩|show Bool.noConfusion h
def u4 (F:FR G σ env ρ h)(W:∀b∈own,h.get? b=none):∀b∈own,b∉envX env:=λb hb Y=>by
 rcases bw.mp Y with rfl|Y
 ·have#[m,#[o,I,ep,Z,_],_]:=F.ns;rw[W _ hb]at Z;cases Z
 ·have#[p,U,rfl]:=cq.mp Y;have#[o,Z]:=F.allc p U;rw[W _ hb]at Z;cases Z
def fP (R:Rel G σ h)(Z:∀b∈own,h.get? b=none):∀b∈own,G.hb.get? b=none:=λb hb=>by
 cases hq:G.hb.get? b with
 |none=>rfl
 |some o=>have:=R.base b o hq;rw[Z b hb]at this;cases this
def ET {b:jw}{ys:List Stmt}(ht:CL G C sc d t x)(hb:iV G C sc d b ys){A:Around}{E:QqV}{I:Itr G}{σ₀:St}{K:Fl->Fr->St->Prop}{v:V}{w:Value}(c:Cx G sc d A env ρ σ s₁)
  (hX:∀b∈I.own,b∉envX env) (lt:i<I.vs.length) (x0:Go (envX env) σ₀ s σ s₁) (hp:I.pos (i+1) s₁.heap) (hd:∀b∈I.own,¬σ.dom b) (vr:VR G s₁.heap v w)
  (hf:pe t v σ ρ λρ=>fw C b ρ σ (uq (λρ σ=>uS (I.vs.drop (i+1)) I.Gd (λv ρ σ k=>pe t v σ ρ λρ=>fw C b ρ σ (uq k K)) ρ σ λρ σ=>K .next ρ σ) K))
  {Qp:Flow->Shared->Prop} (h1:∀s',(∃m,m<I.vs.length-i/\qX I env σ₀ s (λv ρ σ k=>pe t v σ ρ λρ=>fw C b ρ σ (uq k K)) (λρ σ=>K .next ρ σ) m s')->Qp .next s'/\Qp .cont s') (h2:∀s',qy G env σ₀ s K .next s'->Qp .brk s') (h3:∀w s',qy G env σ₀ s K (.ret w) s'->Qp (.ret w) s') :
  wpAny G.M A (assign x env w) (λ_ ai=>wpAny G.M A (execs ys env) Qp E ai) E s₁:=by
 apply cg (ht c vr hf) (λ_ ai l=>?_) λ_ _ x=>x;have#[bl,ao,be,bd,ag]:=l;have#[bn,aE]:=I.GD hX hp hd ag.e;apply cg (hb (c.at be bd) ao) (λf bu l=>?_) λ_ _ x=>x;have#[fl,B,U,a,Z,W,Y,ab]:=l;have#[ar,aj]:=I.GD hX bn aE ab.e;have x5:=(x0.trans ag).trans ab;cases a with
 |next=>show(h1 _ (qX.next lt ar W Y x5 aj Z)).1
 |cont=>show(h1 _ (qX.next lt ar W Y x5 aj Z)).2
 |brk=>show h2 _ #[.next,B,U,.next,Z,W,Y,x5]
 |ret v=>show h3 _ _ #[_,B,U,.ret v,Z,W,Y,x5]
def GU {it:It}{b:jw}{y:Expr}{ys:List Stmt}(ht:CL G C sc d t x)(hi:dQ G C sc d (isTup x) it y)(hb:iV G C sc d b ys)(hs:∀env v,foldedSetIterable y env v=pure v) :
  yt G C sc d (.each t it b) (.For x y ys [] pos):=λA E env ρ σ K s c h=>by
 apply wpAny_For (cg (hi c h) (λv s₁ h₁=>cg h₁ (λbe s₂ l=>?_) λ_ _ x=>x) λ_ _ x=>x) (hs env);have#[I,σ₁,rfl,aj,hf,hp,r,ag,W,aE]:=l;have ab:=fP c.R W;have hX:=u4 c.F W;apply codeAny_forLoop_any (qX I env σ s (λv ρ σ k=>pe t v σ ρ λρ=>fw C b ρ σ (uq k K)) λρ σ=>K .next ρ σ) ?_ (I.vs.length-0)
  #[0,σ₁,ρ,rfl,hp,c.F.evo ag.e,r,ag.wide,aE,hf]
 intro n s' z;have#[i,σ',ρ',rfl,Y,F',R',x',B,U]:=z;cases hq:I.vs[i]? with
 |none =>
  rw[List.drop_eq_nil_of_le (kx.mp hq)]at U;apply I.stop A _ s' σ' i _ c.ao.handled R' U.1 Y hq λs2 g=>?_;have#[Z,g2]:=g;show iH #[.next,ρ',σ',.next,U.2,F'.but Z (I.frz Y Z) hX,I.rel Y R' B ab Z,x'.but Z g2 W]
 |some v =>
  have#[bd,ai]:=CC hq;rw[ai]at U;apply cg (I.next A _ s' σ' i v x ?Q c.ao.handled R' U.1 Y hq (λq=>xK (aj q)) ?k) (λr s₁ hr=>?m) λ_ _ x=>x
  case m =>
   cases r with
   |none=>show hr.elim
   |some w=>show hr
  case k =>
   intro w s2 g z;have#[Z,g2]:=g;have#[vr,ar]:=z (I.frz Y Z);show ET ht hb (c.at (F'.but Z (I.frz Y Z) hX) (I.rel Y R' B ab Z)) hX bd (x'.but Z g2 W) ar B vr U.2 (λ_ q=>#[q,q]) (λ_ q=>q) λ_ _ q=>q
end
end MP
end
section
set_option tactic.hygienic true
namespace MP
open PySem PyProof.Rows
abbrev ownsTuple (n:String):Bool:=["enumerate","zip","dict_itemiterator","dict_reverseitemiterator","odict_iterator","itertools.zip_longest","itertools.pairwise"].contains n
section
variable {G:Stc}{A:Around}{E:QqV}{s:Shared}
def nz {it:Addr}{o:Obj}{n:String}{target:Expr}{w:Value}{Q:Unit->Shared->Prop}(Z:s.heap.get? it=some o)(W:o.cls=.type n)(Y:ownsTuple n=false)(h:Q () s):wpAny G.M A (letOwnedTupleGo target (.ref it) w) Q E s:=by
 have go:wpAny G.M A (do
   let (.ref r,.ref a):=(Value.ref it,w)|return
   let o←load r
   match o.cls,o.data with
   |.type n,.fields vs=>if (ownsTuple n&&vs[0]?==some (rawInt a))=true then do rule "for.unpacks-the-owned-tuple";updateField r 0 .none else pure ()
   |_,_=>pure ():Sem Unit) Q E s:=by
  cases w with
  |ref a =>
   apply ae (yu Z ?_);rw[W];cases o.data with
   |fields vs =>
    show wpAny _ _ (if (ownsTuple n&&vs[0]?==some (rawInt a))=true then _ else _) _ _ _;rw[Y,Bool.false_and,aw (by decide)];show af h
   |_=>show af h
  |_=>show af h
 cases target<;>first|show go|show af h
def jq {o:Obj}{n:String}{vs:Array Value}(Z:o.cls=.type n)(hd:o.data=.fields vs)(W:n ≠ "builtin_function_or_method")(Y:n ≠ "method-wrapper"):¬Frz o:=by
 rintro (⟨_,_,_,h⟩|⟨h|h,_⟩|⟨_,h⟩)
 ·rw[hd]at h;cases h
 ·rw[Z]at h;injection h with h;show W h
 ·rw[Z]at h;injection h with h;show Y h
 ·rw[hd]at h;cases h
abbrev NK (G:Stc)(it l:Addr)(hne:l≠it)(xs:List V):Itr G where
 it:=it
 own:=[it]
 vs:=xs
 Gd:=λτ=>τ.L l=some xs
 tup:=false
 pos:=λi h=>h.IsListIter it l i
 keep:=λi h h' zz3 hk _=>by have#[o,ho,r]:=zz3;apply#[o,hk it (.head _) o ho,r]
 obj:=λi h z b hb=>by have#[o,ho,hc,hd]:=z;have rfl:=aq.mp hb;apply#[o,ho,jq hc hd (by decide) (by decide)]
 self:=λA E s i Q hp q=>wpAny_pyIter_listiter hp q
 next:=λA E s σ i v target Q hh R hg hp hv htup k=>by
  have#[ws,n,hl,hvs]:=R.L l xs hg;have#[w,hw,vr]:=hvs.get hv;apply wpAny_pyNext_list_item hp hl.isList (by simpa using hw) λh' hp' hs=>?_;have#[o,ho,hc,hd]:=id hp';show nz ho hc (by decide) (k w _ (zx hs .rfl) λhf=>#[vr.mono hf,hp'])
 stop:=λA E s σ i Q hh R hg hp hv k=>by
  have#[ws,n,hl,hvs]:=R.L l xs hg;have hlen:=hvs.length;show wpAny_pyNext_list_end hh hp hl.isList (by simpa[<- hlen] using hv) λh' he=>k _ (zd he (.head _) .rfl)
end
end MP
end
section
namespace MP
open PySem PyProof.Rows
variable {α:Type}
def slot_set_iter:Slot "set" "__iter__" "set.__iter__":=
 .of (owner:="set") (n:="__iter__") (by rw[fj,dh];kernel_rfl) (by decide +kernel) (by decide +kernel) (by decide +kernel)
  (by first|show .inl (by decide +kernel)|show .inr (by decide +kernel)) (by rw[jh];kernel_rfl)
def pS:entryFor table "set.__iter__"=some Builtin.«frozenset.__iter__»:=
 lL (id':="frozenset.__iter__") (by kernel_rfl) (by first|rfl|decide +kernel|(unfold String.splitOn;simp +decide [String.splitOnAux])) (by decide +kernel) (by kernel_rfl)
def rN (a:Value):argsOk "set.__iter__" #[[a],[]]:=by unfold argsOk;kernel_rfl
def gx:Slot "set_iterator" "__next__" "set_iterator.__next__":=
 .of (owner:="set_iterator") (n:="__next__") (by rw[fj,dh];kernel_rfl) (by decide +kernel) (by decide +kernel) (by decide +kernel)
  (by first|show .inl (by decide +kernel)|show .inr (by decide +kernel)) (by rw[jh];kernel_rfl)
def pd:entryFor table "set_iterator.__next__"=some Builtin.«set_iterator.__next__»:=entryFor_of_fast (by kernel_rfl)
def qt (a:Value):argsOk "set_iterator.__next__" #[[a],[]]:=by unfold argsOk;kernel_rfl
def yx:Slot "set_iterator" "__iter__" "set_iterator.__iter__":=
 .of (owner:="set_iterator") (n:="__iter__") (by rw[fj,dh];kernel_rfl) (by decide +kernel) (by decide +kernel) (by decide +kernel)
  (by first|show .inl (by decide +kernel)|show .inr (by decide +kernel)) (by rw[jh];kernel_rfl)
def jP:entryFor table "set_iterator.__iter__"=some Builtin.«dict_keyiterator.__iter__»:=
 lL (id':="dict_keyiterator.__iter__") (by kernel_rfl) (by first|rfl|decide +kernel|(unfold String.splitOn;simp +decide [String.splitOnAux])) (by decide +kernel) (by kernel_rfl)
def lD (a:Value):argsOk "set_iterator.__iter__" #[[a],[]]:=by unfold argsOk;kernel_rfl
def jO:∀(l:List α) {i:Nat} (h:i<l.length),(l[i]::l.eraseIdx i).Perm l
 |x::l,0,_=>.refl _
 |x::l,i+1,h=>(List.Perm.swap _ _ _).trans ((jO l (mP h)).cons x)
def BN (next:Nat->Nat):∀(f k:Nat) (l:List α) (out:Array α),l.length=f->(pickOrder.go next f k l out).toList.Perm (out.toList++l)
 |0=>λk l out h=>by
  have rfl:=lO.mp h;dsimp only[pickOrder.go];rw[dg]
 |f+1=>λk l out h=>by
  have Z:next k%l.length<l.length:=Nat.mod_lt _ (ax .H .E .aB h)
  dsimp only[pickOrder.go];rw[bq Z];dsimp only;apply(BN next f (k+1) _ _ (by rw[gJ Z];(show fe .C [[1,-1,-1],[1,1,1]] (.e .C .L) .cW h (aa (ax .D .a .S Z))))).trans ?_;rw[Array.toList_push,ji];show(List.Perm.append_left _ (jO l Z))
def DT (next:Nat->Nat)(xs:Array α):(pickOrder next xs).toList.Perm xs.toList:=by
 have:=BN next xs.size 0 xs.toList #v[] (by simp)
 simpa[pickOrder] using this
section
variable {G:Stc}{A:Around}{E:QqV}{s:Shared}
abbrev fQ (G:Stc)(a:Addr)(es:Array (Int×Value))(ep:Nat):Array (Int×Value):=if G.w.params.followText "set-order" then pickOrder (G.w.params.setOrder a ep) es else es
def eD (a:Addr)(es:Array (Int×Value))(ep:Nat):(fQ G a es ep).toList.Perm es.toList:=by
 unfold fQ;split
 ·show DT _ _
 ·show .refl _
def zA (a:Addr)(es:Array (Int×Value))(ep:Nat):(fQ G a es ep).size=es.size:=by
 rw[<- gh,(eD a es ep).length_eq,gh]
def fW {Q:Bool->Shared->Prop}(h:Q (G.w.params.followText "set-order") s):wpAny G.M A setsByText Q E s:=by
 unfold setsByText;show ae (wo (af h))
def oK {a:Addr}{o:Obj}{es:Array (Int×Value)}{ep slot i:Nat}{t:SetTable}{Q:Option (Value×Nat)->Shared->Prop}(ho:s.heap.get? a=some o)(hd:o.data=.set es ep t)(W:t.fits es.size=true)(hT:Tbl G.led t)(I:G.led=true->(!t.plain&&decide (es.size>1))=false)
  (hs:G.led=true->SetTable.below t.place slot=i) (h:∀Z,(i<es.size->G.led=true->SetTable.below t.place Z=i+1)->Q (((fQ G a es ep)[i]?).map λe=>(e.2,Z)) s):wpAny G.M A (setNext a slot i ep) Q E s:=by
 have hz:t.place.size=es.size:=by
  unfold SetTable.fits at W;show wq.mp (rB.mp W).1
 unfold setNext;apply ae (dU ho hd W ?_);dsimp only;apply ae (fW ?_);cases hb:G.w.params.followText "set-order" with
 |true =>
  have Y:G.led=false:=by show(!_)=false;rw[hb];rfl
  simp -iota only[yl,eh,↓reduceIte,pure_bind];unfold setWalk;apply ae (ae (dU ho hd W ?_));dsimp only;apply ae (fW ?_);rw[hb];simp -iota only[↓reduceIte];apply ae (wo (af (af ?_)));have:=h slot (λ_ q=>by rw[Y]at q;cases q);unfold fQ at this;rw[hb]at this;show this
 |false =>
  have Y:G.led=true:=by show(!_)=true;rw[hb];rfl
  have U:(!t.led&&!es.isEmpty)=false:=by rw[hT.led,Y];rfl
  simp -iota only[eh,↓reduceIte];show wpAny _ _ (if (!t.plain&&decide (es.size>1))=true then _ else _) _ _ s;rw[I Y,aw (by decide)];apply ae ?_;show wpAny _ _ (if (!t.led&&!es.isEmpty)=true then _ else _) _ _ s;rw[U,aw (by decide)];apply af ?_;have e0:fQ G a es ep=es:=by unfold fQ;rw[hb];rfl
  rw[hs Y];rw[e0]at h;rcases Nat.lt_or_ge i es.size with c|c
  ·have e1:es[i]?=some es[i]:=ix c;have c2:i<t.place.size:=by(show fe .B .z .cZ .O hz c)
   have e2:t.place[i]?=some t.place[i]:=ix c2;have:=h (t.place[i]+1) λ_ _=>AL hT.rise e2;rw[e1]at this;rw[e1,e2];show af this
  ·have:=h slot λq=>by(show λq1=>(fe .aB .g .Q .aJ c q))
   rw[Array.getElem?_eq_none c]at this;rw[Array.getElem?_eq_none c];show af this
abbrev qS (h:Heap)(it a:Addr)(f:Value)(i n ep:Nat):Prop:=
 ∃o,h.get? it=some o/\o.cls=.type "set_iterator"/\o.data=.fields #v[f,.int i 0,.ref a,.int n 0,.int ep 0]
def qS.typeIs {it a f i n ep}(x:qS s.heap it a f i n ep):s.TypeIs (.ref it) "set_iterator":=by
 have#[o,Z,Y,_]:=x;apply#[o,Z,Y]
def kP {it a:Addr}{f:Value}{i n ep:Nat}{Q:QqV}(hit:qS s.heap it a f i n ep)(h:Q (.ref it) s):wpAny G.M A (pyIter (.ref it)) Q E s:=by
 apply dW hit.typeIs yx (fx yx hit.typeIs jP ?_ (lD _));show wpAny _ _ (ret (.ref it)) _ _ s;show af #[_,rfl,"set_iterator",_,hit.typeIs,gx.lookup,h]
def A5 {Q:List α->Shared->Prop}:∀(n:Nat) (xs:List α) (s:Shared),xs.length=n->(∀ys Z,ys.Perm xs->Q ys {s with drawn:=Z})->wpAny G.M A (drawOrder n xs) Q E s:=by
 intro n;induction n generalizing Q with
 |zero=>intro xs s e h;have rfl:=lO.mp e;show af (h [] s.drawn (.refl _))
 |succ n Y =>
  intro xs s e h;have#[x,l,rfl]:=mr e;dsimp only[drawOrder];apply ae (λB p W=>#[zt _,?_]);generalize I:G.M.w.draws Source.order (s.drawn.get Source.order)%(x::l).length=i;have lt:i<(x::l).length:=I▸Nat.mod_lt _ (Nat.succ_pos _);have:=Y ((x::l).eraseIdx i) {s with drawn:=s.drawn.bump .order} (by rw[gJ lt,e];rfl) (Q:=λys s'=>Q ((x::l)[i]::ys) s') λys Z U=>h _ Z ((U.cons _).trans (jO _ lt));show wpAny _ _ (match (x::l)[i]? with|some y=>_|none=>_) _ _ _;rw[bq lt];show ae (cg this (λys s' h=>af h) λ_ _ x=>x)
public abbrev dY (ps:List Nat):Obj:={cls:=.type "tuple",data:=.seq (ps.map λi:Nat=>rawInt i).toArray}
def IZ {a:Addr}{o:Obj}{es:Array (Int×Value)}{ep:Nat}{t:SetTable}{Q:QqV}(Z:s.heap.get? a=some o)(B:o.cls=.type "set")(hd:o.data=.set es ep t)(W:t.fits es.size=true)(hb:es.size<scanBound)
  (h:(G.led=true->(!t.plain&&decide (es.size>1))=false)->Q (.ref s.heap.objs.size) {s with heap:=s.heap.push {cls:=.type "set_iterator",data:=.fields #v[.int (0:Nat) 0,.int (0:Nat) 0,.ref a,.int es.size 0,.int ep 0]}})
  (h2:∀ps U,ps.Perm (List.range es.size)->Q (.ref (s.heap.push (dY ps)).objs.size) {s with heap:=(s.heap.push (dY ps)).push {cls:=.type "set_iterator",data:=.fields #v[.ref s.heap.objs.size,.int (0:Nat) 0,.ref a,.int es.size 0,.int ep 0]},drawn:=U}):wpAny G.M A (pyIter (.ref a)) Q E s:=by
 have Y:s.TypeIs (.ref a) "set":=#[o,Z,B];apply dW Y slot_set_iter (fx slot_set_iter Y pS ?_ (rN _));unfold Builtin.«frozenset.__iter__»;apply ae (af ?_);apply ae ?_;unfold Builtin.Frozenset.sizeOf;apply ae (xt Z hd W (af ?_));apply ae ?_;unfold setDrawn;apply ae (dU Z hd W ?_);dsimp only;apply ae (fW ?_);apply af ?_;show wpAny _ _ (if (!G.w.params.followText "set-order" && (!t.plain&&decide (es.size>1)))=true then _ else _) _ _ s;by_cases c:(!G.w.params.followText "set-order" && (!t.plain&&decide (es.size>1)))=true
 ·rw[br c];apply ae (A5 _ _ _ tq λps U I=>?_);apply ae (wpAny_newTuple ?_ (by rw[ak,I.length_eq,tq];show gp (mh hb) (by rw[sizeLine_eq];decide)));apply ae (wpAny_setEpoch_of (av _ Z) hd W ?_);show ae (jt (af #[_,rfl,"set_iterator",_,#[_,cf _ rfl,rfl],gx.lookup,h2 ps U I]))
 ·rw[aw c];apply ae (af ?_);apply ae (wpAny_setEpoch_of Z hd W ?_);apply ae (jt (af #[_,rfl,"set_iterator",_,#[_,cf _ rfl,rfl],gx.lookup,h λq=>?_]));cases e:(!t.plain&&decide (es.size>1)) with
  |false=>rfl
  |true=>show absurd (by rw[e,Bool.and_true];show q) c
def jF {prog:Program}{w:World}{Q:α->Shared->Prop}(Z:A.handled=none)
  (h:∀h' e,(∀b o,s.heap.get? b=some o->h'.get? b=some o)->(∃o,h'.get? e=some o/\o.cls=.type "StopIteration")->E (.ref e) {s with heap:=h'}):wpAny (model prog w) A (newExc (.type "StopIteration") []>>=raiseNew) Q E s:=by
 apply ae ?_;unfold newExc newTuple;apply ae (jt ?_ (by size_fits));apply ae (m:=firstArgMember _ _) (fb (a:=Value.none) (by first|rfl|(simp only[firstArgMember];rfl)) ?_);apply jt ?_ (by size_fits);unfold raiseNew;apply ae (wpAny_handled ?_);rw[Z];show ae (af (wpAny_throw (h _ _ (λb o e=>av _ (av _ e)) #[_,cf _ rfl,rfl])))
section
variable {it a:Addr}{o:Obj}{es:Array (Int×Value)}{ep i:Nat}{t:SetTable}{Q:Option Value->Shared->Prop}
def rH {slot:Nat}{x:Int×Value}(hit:qS s.heap it a (.int slot 0) i es.size ep)(ho:s.heap.get? a=some o)(hd:o.data=.set es ep t)(hf:t.fits es.size=true)(hT:Tbl G.led t)(I:G.led=true->(!t.plain&&decide (es.size>1))=false)
  (hs:G.led=true->SetTable.below t.place slot=i) (B:(fQ G a es ep)[i]?=some x)
  (h:∀(Z:Nat) h',qS h' it a (.int Z 0) (i+1) es.size ep->(G.led=true->SetTable.below t.place Z=i+1)->Heap.SameBut it s.heap h'->Q (some x.2) {s with heap:=h'}):wpAny G.M A (pyNext (.ref it)) Q E s:=by
 have#[oi,W,hc,Y]:=id hit;have U:i<es.size:=by
  have#[q,_]:=oj.mp B;rw[zA]at q;show q
 unfold pyNext;apply ae (yh (jx (name:=Str.ofString "__next__") hit.typeIs gx
  (fx gx hit.typeIs pd ?_ (qt _))))
 unfold Builtin.«set_iterator.__next__»;apply ae (af ?_);apply ae (wpAny_fieldsOf W Y ?_);dsimp only;apply ae (xt ho hd hf ?_);rw[aw (by simp)];apply ae (m:=setNext a _ _ _) (oK (i:=i) (slot:=slot) ho hd hf hT I hs λZ q=>?_);rw[B];dsimp only[Option.map_some];apply ae (su W Y (by simp) ?_);have g1:=kl (Obj.mapFields (·.setIfInBounds 0 (rawInt Z))) W (uj (kc Y _));have d1:=kc Y (·.setIfInBounds 0 (rawInt Z));apply ae (su (s:={s with heap:=s.heap.update it (Obj.mapFields (·.setIfInBounds 0 (rawInt Z)))}) g1 d1 (by simp) (af #[x.2,rfl,af (h Z _ ?_ (q U) ((gu ..).trans (gu ..)))]));apply⟨_,kl _ g1 (uj (kc d1 _)),(nE ..).trans ((nE ..).trans hc),by
  rw[kc d1];simp[rawInt]⟩
def uD {slot:Nat}(hh:A.handled=none)(hit:qS s.heap it a (.int slot 0) i es.size ep)(I:s.heap.get? a=some o)(hd:o.data=.set es ep t)(B:t.fits es.size=true)(hT:Tbl G.led t)(U:G.led=true->(!t.plain&&decide (es.size>1))=false)
  (hs:G.led=true->SetTable.below t.place slot=i) (hx:(fQ G a es ep)[i]?=none)
  (h:∀h',Heap.ExtBut it s.heap h'->Q none {s with heap:=h'}):wpAny G.M A (pyNext (.ref it)) Q E s:=by
 have#[oi,Z,hc,Y]:=id hit;unfold pyNext;apply ae (yh (jx (name:=Str.ofString "__next__") hit.typeIs gx
  (fx gx hit.typeIs pd ?_ (qt _))))
 unfold Builtin.«set_iterator.__next__»;apply ae (af ?_);apply ae (wpAny_fieldsOf Z Y ?_);dsimp only;apply ae (xt I hd B ?_);rw[aw (by simp)];apply ae (m:=setNext a _ _ _) (oK (i:=i) (slot:=slot) I hd B hT U hs λW q=>?_);rw[hx];dsimp only[Option.map_none];apply ae (su Z Y (by simp) ?_);apply jF hh λh' e hk he=>?_;apply ae (qZ (T:="StopIteration") (b:=true) he isSubtype_stop ?_);show af (h _ λb o n e=>hk b o ((gu ..).extBut b o n e))
def zE {W j:Nat}{ps:List Nat}{x:Int×Value}(hit:qS s.heap it a (.ref W) i es.size ep)(ht:s.heap.get? W=some (dY ps))(U:s.heap.get? a=some o)(hd:o.data=.set es ep t)(I:t.fits es.size=true)
  (hj:ps[i]?=some j) (B:es[j]?=some x)
  (h:∀h',qS h' it a (.ref W) (i+1) es.size ep->Heap.SameBut it s.heap h'->Q (some x.2) {s with heap:=h'}):wpAny G.M A (pyNext (.ref it)) Q E s:=by
 have#[oi,Y,hc,Z]:=id hit;unfold pyNext;apply ae (yh (jx (name:=Str.ofString "__next__") hit.typeIs gx
  (fx gx hit.typeIs pd ?_ (qt _))))
 unfold Builtin.«set_iterator.__next__»;apply ae (af ?_);apply ae (wpAny_fieldsOf Y Z ?_);dsimp only;apply ae (xt U hd I ?_);rw[aw (by simp)];apply ae (qc ht rfl ?_);dsimp only;rw[jj,show(ps.map λi:Nat=>rawInt i).toArray[i]?=some (rawInt j) by simp[hj]];show wpAny _ _ (setNextDrawn a _ _>>=_) _ _ _;unfold setNextDrawn;apply ae (ae (dU U hd I ?_));dsimp only;rw[aw (by simp),jj,B];apply af ?_;apply ae (su Y Z (by simp) (af #[x.2,rfl,af (h _ ?_ (gu ..))]));apply⟨_,kl _ Y (uj (kc Z _)),(nE ..).trans hc,by
  rw[kc Z];simp[rawInt]⟩
def EU {W:Addr}{ps:List Nat}(hh:A.handled=none)(hit:qS s.heap it a (.ref W) i es.size ep)(U:s.heap.get? W=some (dY ps))(I:s.heap.get? a=some o)(hd:o.data=.set es ep t)(hf:t.fits es.size=true)
  (B:ps[i]?=none) (h:∀h',Heap.ExtBut it s.heap h'->Q none {s with heap:=h'}):wpAny G.M A (pyNext (.ref it)) Q E s:=by
 have#[oi,Y,hc,Z]:=id hit;unfold pyNext;apply ae (yh (jx (name:=Str.ofString "__next__") hit.typeIs gx
  (fx gx hit.typeIs pd ?_ (qt _))))
 unfold Builtin.«set_iterator.__next__»;apply ae (af ?_);apply ae (wpAny_fieldsOf Y Z ?_);dsimp only;apply ae (xt I hd hf ?_);rw[aw (by simp)];apply ae (qc U rfl ?_);dsimp only;rw[jj,show(ps.map λi:Nat=>rawInt i).toArray[i]?=none by simp[B]];show wpAny _ _ (setField _ 0 _>>=_) _ _ _;apply ae (su Y Z (by simp) ?_);apply ae (su (s:={s with heap:=_}) (kl (Obj.mapFields (·.setIfInBounds 0 (rawInt 0))) Y (uj (kc Z _))) (kc Z _) (by simp) ?_);apply jF hh λh' e hk he=>?_;apply ae (qZ (T:="StopIteration") (b:=true) he isSubtype_stop ?_);show af (h _ λb o n e=>hk b o ((gu ..).extBut b o n ((gu ..).extBut b o n e)))
end
end
section
variable {G:Stc}{A:Around}{E:QqV}{s:Shared}{σ:St}
def kn {env:Env}{x:Str}{pos:Pos}{v:Value}{Q:QqV}(K:GOk G)(B:yg env)(R:Rel G σ s.heap)(hx:env.scope.names.lookup x=some .globalImplicit)(hn:jl x=true)(Z:G.gl x=some v)(h:Q v s):wpAny G.M A (eval (.Name x pos) env) Q E s:=by
 have U:(x==("__debug__":Str))=false:=by simp only[jl,dw,fh]at hn;show hn.1
 apply Calls.Name_function_global B.kind hx ?_ U;have#[mg,mb,hg,hb,e]:=K.names;rw[e]at Z;have Y:s.heap.Ns env.globals mg:=by rw[B.globals];show hg.keeps R.base
 have I:s.heap.Ns env.builtins mb:=by rw[B.builtins];show hb.keeps R.base
 cases W:mg x with
 |some u=>rw[W]at Z;cases Z;show Calls.loadGlobal_global Y W h
 |none=>rw[W]at Z;show Calls.loadGlobal_builtin Y W I Z h
end
variable {A:Around}{E:QqV}{σ:St}{x:Str}{p pos:Pos}{tupled:Bool}
abbrev IW (G:Stc)(it:Addr)(a c:Int)(n:Nat)(xs:List V)(hl:xs.length=n)(hx:∀i,i<n->xs[i]?=some (.int (a+c*i))):Itr G where
 it:=it
 own:=[it]
 vs:=xs
 Gd:=λ_=>True
 tup:=false
 pos:=λi h=>i<=n/\IsRangeIter h it (a+c*i) (n-i) c
 keep:=λi h h' zz3 hk _=>by have#[hi,hp]:=zz3;apply#[hi,hk it (.head _) _ hp]
 obj:=λi h z b hb=>by have#[_,hp]:=z;have rfl:=aq.mp hb;apply#[_,hp,jq rfl rfl (by decide) (by decide)]
 self:=λA E s i Q hp q=>wpAny_pyIter_rangeiter hp.2 q
 next:=λA E s σ i v target Q hh R hg hp hv htup k=>by
  have#[hi,hp]:=hp;have hlt:i<n:=by rw[<- hl];show(bc.mp hv).1
  obtain rfl:v=.int (a+c*i):=ah (hv.symm.trans (hx i hlt));apply wpAny_pyNext_range_item hp (ax (.il .O .R) .a .S hlt) λh' hp' hs=>?_;have e:a+c*i+c=a+c*((i+1:Nat):Int):=by push_cast;rw[Int.mul_add];(show WH (.ie (.a (.a .A .B) .C) (.a .A (.a .B (.r .C 1)))) .n)
  have e2:(n:Int)-i-1=n-((i+1:Nat):Int):=by(show fE (.ie (.s .R .U) (.s .L (.t .L))) .n)
  rw[e,e2]at hp';show nz hp' rfl (by decide) (k _ _ (zx hs .rfl) λ_=>#[.int _ _,hlt,hp'])
 stop:=λA E s σ i Q hh R hg hp hv k=>by
  have#[hi,hp]:=hp;have hge:n<=i:=by rw[<- hl];show kx.mp hv
  show wpAny_pyNext_range_end hh hp (ax (.ik .R .O) .a .A hge) λh' he=>k _ (zd he (.head _) .rfl)
def HC {a b c:Int}(ha:a.natAbs<2^40)(hb:b.natAbs<2^40)(W:0<c)(Y:c<2^40):Builtin.Range.small a b c=true:=by
 have I:0<=Builtin.Range.rangeSize a b c/\Builtin.Range.rangeSize a b c<=2^42:=by
  unfold Builtin.Range.rangeSize;rw[br W];split
  ·rename_i h;have h0:0<=b-a-1:=by(show ud (.ik .O (.s (.s .A .B) .U)) .a .bT h)
   have h1:=Int.ediv_nonneg h0 (Int.le_of_lt W);have h2:=Int.ediv_le_self c h0;generalize (b-a-1)/c=X at h1 h2 ⊢;omega
  ·(show#[(iF (.ik .O .O) .j),(iF (.ik .O (.n (2^42))) .j)])
 unfold Builtin.Range.small Builtin.Range.rangeFitsLong;rw[br W];simp only[dw,sy,yk];apply#[#[#[#[by show#[((Ar.nab _).elim (λZ=>(mq .a9 .a .a4 Z.1)) λZ=>(uu .a9 .d .a8 .bG ha Z.2)),((Ar.nab _).elim (λZ=>(uu .b3 .d .a8 .aZ ha Z.2)) λZ=>(mq .b3 .a .bD Z.1))],by show#[((Ar.nab _).elim (λZ=>(mq .a9 .a .a4 Z.1)) λZ=>(uu .a9 .d .a8 .bG hb Z.2)),((Ar.nab _).elim (λZ=>(uu .b3 .d .a8 .aZ hb Z.2)) λZ=>(mq .b3 .a .bD Z.1))]],by show#[(mq .a9 .a .bQ W),(mq .b3 .a (.il .A (.n (2^40))) Y)]],by show#[(mq .a9 .a .a4 I.1),(mq .b3 .a (.ik .A (.n (2^42))) I.2)]],.inr (#[((Ar.nab _).elim (λZ=>(dN (.ik (.g .M) .S) .b (.il .O .B) .a4 W Z.1)) λZ=>(QE (.ik (.g .M) .S) .k .a8 (.il .O .B) .bG hb W Z.2)),((Ar.nab _).elim (λZ=>(QE (.il .S .M) .k .a8 (.il .B (.n (2^40))) .aZ hb Y Z.2)) λZ=>(dN (.il .S .M) .b (.il .B (.n (2^40))) .bD Y Z.1))])]
section
variable {G:Stc}{C:Cal}{sc:Scope}{d:Nat}
def xj {s:Shared}{env:Env}{ρ:Fr}{T:String}{es:Exs}{args:List Expr}{P:List V->St->Prop}{Q:QqV}(K:GOk G)(Y:noStar args=true)(Z:qa G C sc d es args)(W:sc.names.lookup x=some .globalImplicit)(I:jl x=true)(U:G.gl x=some (.type T))(c:Cx G sc d A env ρ σ s)(h:wh C es ρ σ P)
  (k:∀vs σ₁ s₁ ws,P vs σ₁->VRs G s₁.heap vs ws->Rel G σ₁ s₁.heap->Go [] σ s σ₁ s₁->wpAny G.M A (call (.type T) ws) Q E s₁) :
  wpAny G.M A (eval (.Call (.Name x p) args [] pos) env) Q E s:=
 Call_ (kn K c.eo c.R (by rw[c.es];show W) I U (gC (jm Y pos env) (ou (jm Y pos env) (oN (Z c h) k))))
def oG {s:Shared}{env:Env}{ρ:Fr}{id:String}{es:Exs}{args:List Expr}{P:List V->St->Prop}{Q:QqV}(K:GOk G)(U:noStar args=true)(Z:qa G C sc d es args)(Y:sc.names.lookup x=some .globalImplicit)(I:jl x=true)(W:G.gl x=some (.builtin id))(c:Cx G sc d A env ρ σ s)(h:wh C es ρ σ P)
  (k:∀vs σ₁ s₁ ws,P vs σ₁->VRs G s₁.heap vs ws->Rel G σ₁ s₁.heap->Go [] σ s σ₁ s₁->wpAny G.M A (call (.builtin id) ws) Q E s₁) :
  wpAny G.M A (eval (.Call (.Name x p) args [] pos) env) Q E s:=
 Call_ (kn K c.eo c.R (by rw[c.es];show Y) I W (pk U Z c h k))
def oP {σ₀:St}{s₀:Shared}{a b c:Int}{t u v:Tok}{xs:List V}{n:Nat}{P:List V->(St->Prop)->St->Prop}{tk:Nat}{dr:Drawn}{s₁:Shared}(R:Rel G σ s₁.heap)(x:Go [] σ₀ s₀ σ s₁)(ha:a.natAbs<2^40)(hb:b.natAbs<2^40)(hc:0<c)(U:c<2^40)
  (W:Builtin.Range.rangeSize a b c=n) (hl:xs.length=n) (B:∀i,i<n->xs[i]?=some (.int (a+c*i))) (q:P xs (λ_=>True) σ) :
  wpAny G.M A (pyIter (.ref s₁.heap.objs.size)) (yL G σ₀ s₀ tupled P) E #[s₁.heap.push {cls:=.type "range",data:=.fields #v[.int a t,.int b u,.int c v]},s₁.gens,dr,tk,s₁.os]:=by
 apply wpAny_pyIter_range (IsRange.new ..) (HC ha hb hc U) ?_;have hk:∀z o,s₁.heap.get? z=some o->((s₁.heap.push {cls:=.type "range",data:=.fields #v[.int a t,.int b u,.int c v]}).push {cls:=.type "range_iterator",data:=.fields #v[rawInt a,rawInt (Builtin.Range.rangeSize a b c),rawInt c]}).get? z=some o:=λz o e=>av _ (av _ e);have Y:(s₁.heap.push {cls:=.type "range",data:=.fields #v[.int a t,.int b u,.int c v]}).objs.size=s₁.heap.objs.size+1:=gr ..;have Z:s₁.heap.get? (s₁.heap.objs.size+1)=none:=nh (iy (.k .A .P) .j);apply#[IW G (s₁.heap.objs.size+1) a c n xs hl B,σ,by rw[<- Y];rfl,λh=>(nomatch h),q,#[bh _,?_],R.keeps hk,x.to (Evo.keeps hk),λz hz=>?_,λz hz dm=>?_]
 ·rw[<- Y];have:=cf (s₁.heap.push {cls:=.type "range",data:=.fields #v[.int a t,.int b u,.int c v]}) (o:={cls:=.type "range_iterator",data:=.fields #v[rawInt a,rawInt (Builtin.Range.rangeSize a b c),rawInt c]}) rfl;show IsRangeIter _ _ (a+c*((0:Nat):Int)) ((n:Int)-((0:Nat):Int)) c;rw[show a+c*((0:Nat):Int)=a by simp,show(n:Int)-((0:Nat):Int)=n by simp,<- W];show this
 ·have rfl:=aq.mp hz;show x.new Z
 ·have I:=aq.mp hz;clear hz;have rfl:=I;have#[o,e]:=R.mx dm;rw[Z]at e;cases e
def pH (a b:Int)(n:Nat)(Z:n=(b-a).toNat):(ux a b).length=n/\∀i,i<n->(ux a b)[i]?=some (.int (a+1*i)):=by
 subst Z;apply#[by simp[ux],λi Y=>?_];unfold ux;rw[cj,List.getElem?_range Y];simp
def NO {e:Ex}{y:Expr}(K:GOk G)(he:fg G C sc d e y)(Y:noStar [y]=true)(U:sc.names.lookup x=some .globalImplicit)(B:jl x=true)(I:G.gl x=some (.type "range")) :
  dQ G C sc d tupled (.rng1 e) (.Call (.Name x p) [y] [] pos):=λA E env ρ σ P s c h=>by
 have W:qa G C sc d %[e|0] [y]:=jy he md (gb Y).1;apply xj (P:=λvs σ=>on1 vs λv=>∃n:Int,v=.int n/\n.natAbs<2^40/\P (ux 0 n) (λ_=>True) σ) K Y W U B I c h λvs σ₁ s₁ ws q vr r Z=>?_;have#[v,rfl,n,rfl,hb,q]:=mW (vs:=vs) q;have#[w,rfl,t,rfl]:=vr.one;have#[g1,g2]:=pH 0 n _ rfl;show call_range_1 (oP r Z (by decide) hb (by decide) (by decide) (by rw[rangeSize_nat]) g1 g2 q)
def NN {e f:Ex}{y z:Expr}(K:GOk G)(he:fg G C sc d e y)(hf:fg G C sc d f z)(Z:noStar [y,z]=true)(U:sc.names.lookup x=some .globalImplicit)(B:jl x=true)(I:G.gl x=some (.type "range")) :
  dQ G C sc d tupled (.rng2 e f) (.Call (.Name x p) [y,z] [] pos):=λA E env ρ σ P s c h=>by
 have W:qa G C sc d %[e,f|0] [y,z]:=jy he (jy hf md (gb (gb Z).2).1) (gb Z).1;apply xj (P:=λvs σ=>on2 vs λv u=>∃m n:Int,v=.int m/\u=.int n/\m.natAbs<2^40/\n.natAbs<2^40/\P (ux m n) (λ_=>True) σ) K Z W U B I c h λvs σ₁ s₁ ws q vr r Y=>?_;have#[v,u,rfl,m,n,rfl,rfl,ha,hb,q]:=sI (vs:=vs) q;have#[w,w',rfl,#[t,rfl],#[t',rfl]]:=vr.two;have#[g1,g2]:=pH m n _ rfl;show call_range_2 (oP r Y ha hb (by decide) (by decide) (by rw[rangeSize_nat]) g1 g2 q)
def VRs.three {h:Heap}{v u z:V}{ws:List Value}(x:VRs G h [v,u,z] ws):∃w Y Z,ws=[w,Y,Z]/\VR G h v w/\VR G h u Y/\VR G h z Z:=by
 have#[w,us,e,a,r]:=x;have#[Y,Z,W,b,c]:=VRs.two r;apply#[w,Y,Z,e.trans (bx (w::·) W),a,b,c]
end
variable {l:List (Int×Value)}
def iD:entryFor table "dict_itemiterator.__iter__"=some Builtin.«dict_keyiterator.__iter__»:=
 lL (id':="dict_keyiterator.__iter__") (by kernel_rfl) (by first|rfl|decide +kernel|(unfold String.splitOn;simp +decide [String.splitOnAux])) (by decide +kernel) (by kernel_rfl)
abbrev zQ:Value->Key
 |.int i _=>.int i
 |.str s _=>.str s
 |_=>.int 0
section
variable {G:Stc}
def mB {k:Key}{v:Value}(h:G.kk.is k v=true):zQ v=k:=by
 rcases my h with ⟨i,t,rfl,rfl⟩|⟨x,t,rfl,rfl⟩<;>rfl
def zP {h:Heap}{k:Key}{v:Value}(e:G.kk.is k v=true):VR G h k.v v:=by
 rcases my e with ⟨i,t,rfl,rfl⟩|⟨x,t,rfl,rfl⟩
 ·show .int _ _
 ·show .str _ _
abbrev zo (l:List (Int×Value)):List Key:=l.map λe=>zQ e.2
def oU {es:List (Int×Value)}{ks:List Key}(W:l.Perm es)(B:ElemsOf G.kk es)(I:∀k,decide (k∈ks)=true↔∃e∈es,G.kk.is k e.2=true)(k:Key):k∈zo l↔k∈ks:=by
 apply Iff.trans #[λh=>?_,λh=>?_] ((I k).symm.trans (by simp))
 ·have#[e,Y,Z]:=cq.mp h;have U:=W.mem_iff.mp Y;have#[#[k',q,_],_]:=B e U;rw[mB q]at Z;apply#[e,U,Z▸q]
 ·have#[e,Y,Z]:=h;show cq.mpr #[e,W.mem_iff.mpr Y,mB Z]
def sJ {es:List (Int×Value)}{i:Nat}{v:V}(I:ElemsOf G.kk es)(U:l.Perm es)(Z:((zo l).map Key.v)[i]?=some v):∃x,l[i]?=some x/\∀h,VR G h v x.2:=by
 unfold zo at Z;rw[cj,cj]at Z;cases Y:l[i]? with
 |none=>rw[Y]at Z;cases Z
 |some x =>
  rw[Y]at Z;have rfl:=ah Z;have#[#[k',q,_],_]:=I x (U.mem_iff.mp (cw Y));apply#[x,rfl,λh=>?_];have W:G.kk.is (zQ x.2) x.2=true:=by rw[mB q];show q
  show zP W
def oW {i:Nat}(Z:((zo l).map Key.v)[i]?=none):l[i]?=none:=by
 rw[kx,ak,zo,ak]at Z;show lg Z
def pW {es:Array (Int×Value)}{ps:List Nat}(Y:ps.Perm (List.range es.size)):(ps.map λj=>es.getD j (0,.none)).Perm es.toList:=by
 apply(Y.map _).trans (.of_eq (List.ext_getElem (by simp) λi W Z=>?_));simp at W Z;simp[Array.getD,Z]
abbrev SD (G:Stc)(it a:Addr)(hne:a≠it)(o:Obj)(es:Array (Int×Value))(ep:Nat)(t:SetTable)(hd:o.data=.set es ep t)(hf:t.fits es.size=true)(hT:Tbl G.led t)(hdr:G.led=true->(!t.plain&&decide (es.size>1))=false)(he:ElemsOf G.kk es.toList):Itr G where
 it:=it
 own:=[it]
 vs:=(zo (fQ G a es ep).toList).map Key.v
 Gd:=λτ=>τ.Z a=some o
 tup:=false
 pos:=λi h=>∃slot:Nat,qS h it a (.int slot 0) i es.size ep/\(G.led=true->SetTable.below t.place slot=i)
 keep:=λi h h' zz3 hk _=>by have#[slot,#[o,ho,r],q]:=zz3;apply#[slot,#[o,hk it (.head _) o ho,r],q]
 obj:=λi h z b hb=>by have#[slot,#[o,ho,hc,hd],q]:=z;have rfl:=aq.mp hb;apply#[o,ho,jq hc hd (by decide) (by decide)]
 self:=λA E s i Q hp q=>by have#[slot,hp,_]:=hp;show kP hp q
 next:=λA E s σ i v target Q hh R hg hp hv htup k=>by
  have#[slot,hp,hs]:=hp;have#[ho,_]:=R.Z _ _ hg;have#[x,hx,vr]:=sJ he (eD (G:=G) a es ep) hv;apply rH hp ho hd hf hT hdr hs (by simpa using hx) λslot' h' hp' hs' hsb=>?_;have#[oi,hoi,hc,hdi]:=id hp';show nz hoi hc (by decide) (k _ _ (zx hsb .rfl) λ_=>#[vr h',slot',hp',hs'])
 stop:=λA E s σ i Q hh R hg hp hv k=>by
  have#[slot,hp,hs]:=hp;have#[ho,_]:=R.Z _ _ hg;show uD hh hp ho hd hf hT hdr hs (by simpa using oW hv) λh' he'=>k _ (zd he' (.head _) .rfl)
abbrev IY (G:Stc)(it tp a:Addr)(hne:tp≠it)(o:Obj)(es:Array (Int×Value))(ep:Nat)(t:SetTable)(ps:List Nat)(hp:ps.Perm (List.range es.size))(hd:o.data=.set es ep t)(hf:t.fits es.size=true)(he:ElemsOf G.kk es.toList):Itr G where
 it:=it
 own:=[it]
 vs:=(zo (ps.map λj=>es.getD j (0,.none))).map Key.v
 Gd:=λτ=>τ.Z a=some o
 tup:=false
 pos:=λi h=>qS h it a (.ref tp) i es.size ep/\h.get? tp=some (dY ps)
 keep:=λi h h' z hk hf=>by have#[#[o,ho,r],ht]:=z;apply#[#[o,hk it (.head _) o ho,r],hf tp _ ht (.inl #[show Value.type "tuple" ≠ .type "list" by decide,_,_,rfl])]
 obj:=λi h z b hb=>by have#[#[o,ho,hc,hd],q]:=z;have rfl:=aq.mp hb;apply#[o,ho,jq hc hd (by decide) (by decide)]
 self:=λA E s i Q hp q=>kP hp.1 q
 next:=λA E s σ i v target Q hh R hg z hv htup k=>by
  have#[ho,_]:=R.Z _ _ hg;have#[x,hx,vr]:=sJ he (pW hp) hv;rw[cj]at hx;cases hj:ps[i]? with
  |none=>rw[hj]at hx;cases hx
  |some j =>
   rw[hj]at hx;have lt:j<es.size:=gI.mp (hp.mem_iff.mp (cw hj));have rfl:=ah hx;apply zE z.1 z.2 ho hd hf hj (show es[j]?=some (es.getD j (0,.none)) by simp[Array.getD,lt]) λh' hp' hsb=>?_;have#[oi,hoi,hc,hdi]:=id hp';show nz hoi hc (by decide) (k _ _ (zx hsb .rfl) λ_=>#[vr h',hp',by rw[hsb.2 _ hne];show z.2])
 stop:=λA E s σ i Q hh R hg z hv k=>by
  have#[ho,_]:=R.Z _ _ hg;show EU hh z.1 z.2 ho hd hf (by simpa using oW hv) λh' he'=>k _ (zd he' (.head _) .rfl)
def pairs_at {G:Stc}{h:Heap}:∀{es:List (Key×V)} {ds:List (Key×Value)},DRs G h es ds->ds.map (·.1)=es.map (·.1)/\∀(i:Nat) (e:Key×V),es[i]?=some e->∃w,ds[i]?=some (e.1,w)/\VR G h e.2 w
 | [],ds=>λr=>by have rfl:=r;apply#[rfl,λi e q=>by simp at q]
 |e::es,ds=>λr=>by
  have#[w,us,rfl,a,r]:=r;have#[Y,Z]:=pairs_at r;apply#[by rw[ju,ju,Y],λi W q=>?_];cases i with
  |zero=>have rfl:=ah q;apply#[w,rfl,a]
  |succ i=>show Z i W q
abbrev NL (G:Stc)(it d:Addr)(o:Obj)(es:List (Key×V))(ds:List (Key×Value))(ep:Nat)(hds:ds.map (·.1)=es.map (·.1))(hat:∀h:Heap,h.get? d=some o->h.DictAt G.kk d ds ep):Itr G where
 it:=it
 own:=[it]
 vs:=es.map λe=>e.1.v
 Gd:=λτ=>τ.Z d=some o
 tup:=false
 pos:=λi h=>h.IsKeyIter it d i ds.length ep
 keep:=λi h h' zz3 hk _=>by have#[o,ho,r]:=zz3;apply#[o,hk it (.head _) o ho,r]
 obj:=λi h z b hb=>by have#[o,ho,hc,hd]:=z;have rfl:=aq.mp hb;apply#[o,ho,jq hc hd (by decide) (by decide)]
 self:=λA E s i Q hp q=>by
  apply dW hp.typeIs F.slot_dict_keyiterator_iter (fx F.slot_dict_keyiterator_iter hp.typeIs F.entry_dict_keyiterator_iter ?_ (F.args_dict_keyiterator_iter_1 _));show wpAny _ _ (ret (.ref it)) _ _ s;show af #[_,rfl,"dict_keyiterator",_,hp.typeIs,F.slot_dict_keyiterator_next.lookup,q]
 next:=λA E s σ i v target Q hh R hg hp hv htup k=>by
  have#[ho,_]:=R.Z _ _ hg;have hx:(ds.map (·.1))[i]?.map Key.v=some v:=by
   rw[hds,<- cj,qi];show hv
  rw[cj]at hx;cases hq:ds[i]? with
  |none=>rw[hq]at hx;cases hx
  |some e =>
   rw[hq]at hx;have rfl:=ah hx;apply wpAny_pyNext_dict_item hp (hat _ ho) hq λkey h' hk hp' hsb=>?_;have#[oi,hoi,hc,hdi]:=id hp';show nz hoi hc (by decide) (k _ _ (zx hsb .rfl) λ_=>#[zP hk,hp'])
 stop:=λA E s σ i Q hh R hg hp hv k=>by
  have#[ho,_]:=R.Z _ _ hg;have hlen:ds.length=es.length:=by have:=bx List.length hds;simpa using this
  have hx:ds[i]?=none:=by
   rw[kx,ak]at hv;show lg (fe .A .b .Q (.e .A .C) hv hlen)
  show wpAny_pyNext_dict_end hh hp (hat _ ho) hx λh' he=>k _ (zd he (.head _) .rfl)
abbrev IX (G:Stc)(it d:Addr)(hne:d≠it)(o:Obj)(es:List (Key×V))(ds:List (Key×Value))(ep:Nat)(hat:∀h:Heap,h.get? d=some o->h.DictAt G.kk d ds ep):Itr G where
 it:=it
 own:=[it]
 vs:=es.map λe=>V.T [e.1.v,e.2]
 Gd:=λτ=>τ.Z d=some o
 tup:=true
 pos:=λi h=>(∃ok ov,IsItemIter h it d i ds.length ep ok ov)/\DRs G h es ds
 keep:=λi h h' zz3 hk hf=>by have#[#[ok,ov,ho],r]:=zz3;apply#[#[ok,ov,hk it (.head _) _ ho],r.mono hf]
 obj:=λi h z b hb=>by have#[#[ok,ov,ho],r]:=z;have rfl:=aq.mp hb;apply#[_,ho,jq rfl rfl (by decide) (by decide)]
 self:=λA E s i Q hp q=>by
  have#[#[ok,ov,ho],_]:=hp;have hT:s.TypeIs (.ref it) "dict_itemiterator":=#[_,ho,rfl];apply dW hT F.slot_dict_itemiterator_iter (fx F.slot_dict_itemiterator_iter hT iD ?_ (F.args_dict_itemiterator_iter_1 _));show wpAny _ _ (ret (.ref it)) _ _ s;show af #[_,rfl,"dict_itemiterator",_,hT,F.slot_dict_itemiterator_next.lookup,q]
 next:=λA E s σ i v target Q hh R hg hp hv htup k=>by
  have#[#[ok,ov,hp],dr]:=hp;have#[ho,_]:=R.Z _ _ hg;rw[cj]at hv;cases hq:es[i]? with
  |none=>rw[hq]at hv;cases hv
  |some e =>
   rw[hq]at hv;have rfl:=ah hv;have#[w,hw,vr]:=(pairs_at dr).2 i e hq;have#[es',kk,p,rfl]:=htup rfl;apply wpAny_pyNext_items_item hp (hat _ ho) hw λkey h' hk hp' ht hz hold=>?_;apply wpAny_letOwnedTupleGo_items (s:={s with heap:=h'}) hp' λh₂ hp₂ hsb=>?_;have old':∀b o,b∉[it]->s.heap.get? b=some o->h₂.get? b=some o:=λb o hb eb=>by
    have hbe:b≠it:=λq=>hb (q▸.head _);rw[hsb.2 b hbe];show hold b o hbe eb
   have hne:s.heap.objs.size≠it:=λq=>fp it (Nat.lt_of_lt_of_eq (gv hp) q);have htp2:IsT h₂ s.heap.objs.size [key,w].toArray 0:=by
    show h₂.get? _=_;rw[hsb.2 _ hne];show ht
   show k _ _ #[old',.rfl] λhf=>#[.T htp2 %[zP hk,vr.mono hf|0],#[_,_,hp₂],dr.mono hf]
 stop:=λA E s σ i Q hh R hg hp hv k=>by
  have#[#[ok,ov,hp],dr]:=hp;have#[ho,_]:=R.Z _ _ hg;have hlen:ds.length=es.length:=by have:=bx List.length (pairs_at dr).1;simpa using this
  have hx:ds[i]?=none:=by
   rw[kx,ak]at hv;show lg (fe .A .b .Q (.e .A .C) hv hlen)
  show wpAny_pyNext_items_end hh hp (hat _ ho) hx λh' he=>k _ (zd he (.head _) .rfl)
end
abbrev SA (G:Stc)(it t:Addr)(xs:List V):Itr G where
 it:=it
 own:=[it]
 vs:=xs
 Gd:=λ_=>True
 tup:=false
 pos:=λi h=>IsTupIter h it t i/\t≠it/\∃ws n,IsT h t ws.toArray n/\VRs G h xs ws
 keep:=λi h h' zz3 hk hf=>by have#[#[o,ho,r],hne,ws,n,ht,vr]:=zz3;apply#[#[o,hk it (.head _) o ho,r],hne,ws,n,hf t _ (show h.get? t=some {cls:=.type "tuple",dict:=none,data:=.seq ws.toArray n,slots:=#v[]} from ht) (.inl #[show Value.type "tuple" ≠ .type "list" by decide,_,_,rfl]),vr.mono hf]
 obj:=λi h z b hb=>by have#[#[o,ho,hc,hd],_]:=z;have rfl:=aq.mp hb;apply#[o,ho,jq hc hd (by decide) (by decide)]
 self:=λA E s i Q hp q=>wpAny_pyIter_tupleiter hp.1 q
 next:=λA E s σ i v target Q hh R hg hp hv htup k=>by
  have#[hp,hne,ws,n,ht,vrs]:=hp;have#[w,hw,vr]:=vrs.get hv;apply next_tuple_item hp #[_,ht,rfl,n,rfl] (by simpa using hw) λh' hp' hs=>?_;have#[o,ho,hc,hd]:=id hp';show nz ho hc (by decide) (k w _ (zx hs .rfl) λhf=>#[vr.mono hf,hp',hne,ws,n,by rw[IsT,hs.2 _ hne];show ht,vrs.mono hf])
 stop:=λA E s σ i Q hh R hg hp hv k=>by
  have#[hp,hne,ws,n,ht,vrs]:=hp;have hlen:=vrs.length;show next_tuple_end hh hp #[_,ht,rfl,n,rfl] (by simpa[<- hlen] using hv) λh' he=>k _ (zd he (.head _) .rfl)
section
variable {G:Stc}{C:Cal}{sc:Scope}{d:Nat}
def SE {tupled:Bool}{e:Ex}{y:Expr}(he:fg G C sc d e y):dQ G C sc d tupled (.seq e) y:=λA E env ρ σ P s c h=>by
 apply nj (he c h) λv σ₁ s₁ w q vr r x=>?_;have Z:s₁.heap.get? s₁.heap.objs.size=none:=none_at_size s₁.heap;have Y:s.heap.get? s₁.heap.objs.size=none:=x.new Z;have U:¬σ₁.dom s₁.heap.objs.size:=λdm=>by have#[o,e]:=r.mx dm;rw[Z]at e;cases e
 cases v with
 |L a =>
  have rfl:=vr;have#[xs,e,q]:=q;have#[ws,n,hl,hv]:=r.L _ _ e;have W:=gn (gv hl);apply wpAny_pyIter_list hl.isList ?_;apply#[NK G s₁.heap.objs.size _ W xs,σ₁,rfl,λh=>(nomatch h),q,#[_,cf _ rfl,rfl,rfl],r.push _,x.to (Evo.push _ _ _ _),λz hz=>by have rfl:=aq.mp hz;show Y,λz hz=>by have rfl:=aq.mp hz;show U]
 |T xs =>
  have#[a,ws,n,rfl,g,ai]:=vr;have W:=gn (gv g);apply iter_tuple #[_,g,rfl,_,rfl] ?_;apply#[SA G s₁.heap.objs.size _ _,σ₁,rfl,λh=>(nomatch h),q,#[#[_,cf _ rfl,rfl,rfl],W,_,_,g.push _,ai.mono λ_ _ e _=>av _ e],r.push _,x.to (Evo.push _ _ _ _),λz hz=>by have rfl:=aq.mp hz;show Y,λz hz=>by have rfl:=aq.mp hz;show U]
 |set a =>
  have rfl:=vr;have#[ks,e,q]:=q;have#[o,I,ep,t,ho,hc,hd,ab,hm,aj,hf,hn,hT]:=r.S _ _ e;have W:=gn (gv ho);have dm:(σ₁.D a).isSome\/(σ₁.S a).isSome:=.inr (by rw[e];rfl);apply IZ ho hc.1 hd hf aj (λao=>?_) λps dr hp=>?_
  ·apply#[SD G s₁.heap.objs.size a W o I ep t hd hf hT ao ab,σ₁.fJ a o,rfl,λh=>(nomatch h),q o (zo (fQ G a I ep).toList) (oU (eD a I ep) ab hm) (by rw[zo,ak,(eD a I ep).length_eq,gh,hn]),#[0,#[_,cf _ rfl,rfl,rfl],λ_=>AK hT.rise],(r.yZ ho dm).push _,x.to ((Evo.yZ dm).trans (Evo.push _ _ _ _)),λz hz=>by have rfl:=aq.mp hz;show Y,λz hz=>by have rfl:=aq.mp hz;show λdz=>U (pX (.inr (.inr (.inl (by rw[e];rfl)))) dz)]
  ·have ag:=pW hp;have r2:=(r.yZ ho dm).push (dY ps);have B:(s₁.heap.push (dY ps)).get? (s₁.heap.push (dY ps)).objs.size=none:=none_at_size _;apply⟨IY G (s₁.heap.push (dY ps)).objs.size s₁.heap.objs.size a (by rw[gr];show gn (iq _)) o I ep t ps hp hd hf ab,σ₁.fJ a o,rfl,λh=>(nomatch h),q o _ (oU ag ab hm) (by rw[zo,ak,ag.length_eq,gh,hn]),#[#[_,cf _ rfl,rfl,rfl],av _ (cf _ rfl)],r2.push _,x.to (((Evo.yZ dm).trans (Evo.push _ _ _ _)).trans (Evo.push _ _ _ _)),λz hz=>by
    have rfl:=aq.mp hz;show x.new (nh (by rw[gr];show Nat.le_succ _)),λz hz=>by
    have zz:=aq.mp hz;clear hz;have rfl:=zz;show λdz=>by have#[o',e']:=r2.mx dz;rw[B]at e';cases e'⟩
 |_=>show False.elim q
end
abbrev NM (G:Stc)(e it l:Addr)(hle:l≠e)(hli:l≠it)(hei:e≠it)(xs:List V):Itr G where
 it:=e
 own:=[e,it]
 vs:=xs.zipIdx.map λp=>V.T [.int p.2,p.1]
 Gd:=λτ=>τ.L l=some xs
 tup:=true
 pos:=λi h=>(∃old,IsEnum h e it i old)/\h.IsListIter it l i
 keep:=λi h h' zz3 hk _=>by have#[#[old,he],#[o,ho,r]]:=zz3;apply#[#[old,hk e (.head _) _ he],#[o,hk it (.tail _ (.head _)) o ho,r]]
 obj:=λi h z b hb=>by
  have#[#[old,he],#[o,ho,hc,hd]]:=z;rcases bw.mp hb with rfl|hb
  ·apply#[_,he,jq rfl rfl (by decide) (by decide)]
  ·have rfl:=aq.mp hb;apply#[o,ho,jq hc hd (by decide) (by decide)]
 self:=λA E s i Q hp q=>by have#[#[old,he],_]:=hp;show wpAny_pyIter_enum he q
 next:=λA E s σ i v target Q hh R hg hp hv htup k=>by
  have#[#[old,he],hit]:=hp;have#[ws,n,hl,hvs]:=R.L l xs hg;rw[cj,List.getElem?_zipIdx]at hv;cases hxi:xs[i]? with
  |none=>rw[hxi]at hv;cases hv
  |some u =>
   rw[hxi]at hv;simp only[Option.map_some,fs,nk]at hv;subst hv;have#[w,hw,vr]:=hvs.get hxi;have#[es,kk,p,rfl]:=htup rfl;apply wpAny_pyNext_enum_item he hit hl.isList (by simpa using hw) hei λh' heo hit' htp hz hk=>?_;apply wpAny_letOwnedTupleGo_enum heo λh₂ he₂ hs₂=>?_;have old':∀b o,b∉[e,it]->s.heap.get? b=some o->h₂.get? b=some o:=λb o hb eb=>by
    have hbe:b≠e:=λq=>hb (q▸.head _);rw[hs₂.2 b hbe];show hk b o hbe (λq=>hb (q▸.tail _ (.head _))) eb
   have hne:s.heap.objs.size≠e:=λq=>fp e (Nat.lt_of_lt_of_eq (gv he) q);have htp2:IsT h₂ s.heap.objs.size [Value.int i s.toks,w].toArray 0:=by
    show h₂.get? _=_;rw[hs₂.2 _ hne];show htp
   have#[o,ho,r]:=hit';show k _ _ #[old',.rfl] λhf=>#[.T htp2 %[.int _ _,vr.mono hf|0],#[_,by exact_mod_cast he₂],o,by rw[hs₂.2 _ hei.symm];show ho,r]
 stop:=λA E s σ i Q hh R hg hp hv k=>by
  have#[#[old,he],hit]:=hp;have#[ws,n,hl,hvs]:=R.L l xs hg;have hlen:=hvs.length;have hx:xs[i]?=none:=by
   rw[cj,List.getElem?_zipIdx]at hv;cases hxi:xs[i]? with
   |none=>rfl
   |some u=>rw[hxi]at hv;cases hv
  show wpAny_pyNext_enum_end hh he hit hl.isList (by simpa[<- hlen] using hx) λh' hx'=>k _ (zd hx' (.tail _ (.head _)) .rfl)
section
variable {G:Stc}{C:Cal}{sc:Scope}{d:Nat}
def NQ {e:Ex}{x:Str}{y:Expr}{p pos:Pos}(K:GOk G)(he:fg G C sc d e y)(W:noStar [y]=true)(hx:sc.names.lookup x=some .globalImplicit)(hn:jl x=true)(hv:G.gl x=some (.type "enumerate")) :
  dQ G C sc d true (.enum e) (.Call (.Name x p) [y] [] pos):=λA E env ρ σ P s c h=>by
 have I:qa G C sc d %[e|0] [y]:=jy he md (gb W).1;apply xj (P:=λvs σ=>on1 vs λv=>∃(a:Addr) (xs:List V),v=.L a/\σ.L a=some xs/\P (xs.zipIdx.map λp:V×Nat=>V.T [.int p.2,p.1]) (λτ=>τ.L a=some xs) σ) K W I hx hn hv c h λvs σ₁ s₁ ws q vr r Z=>?_;have#[v,rfl,a,xs,rfl,e1,q]:=mW (vs:=vs) q;have#[w,rfl,rfl]:=vr.one;have#[us,n,B,ab]:=r.L _ _ e1;have U:=gv B;apply call_enumerate_list B.isList λh' hE hI hz hk=>?_;apply wpAny_pyIter_enum hE ?_;have fresh:∀z,s₁.heap.objs.size<=z->s₁.heap.get? z=none:=λz hz=>nh hz;apply#[NM G (s₁.heap.objs.size+1) s₁.heap.objs.size a (gn (ym U)) (gn U) (Nat.succ_ne_self _) xs,σ₁,rfl,λ_=>rfl,q,#[#[_,hE],hI],r.keeps hk,Z.to (Evo.keeps hk),λz hz=>?_,λz hz dm=>?_]
 ·have Y:s₁.heap.objs.size<=z:=by
   rcases bw.mp hz with rfl|hz
   ·(show iy (.k .A .P) .j)
   ·have rfl:=aq.mp hz;(show iy (.k .A .A) .j)
  show Z.new (fresh z Y)
 ·have Y:s₁.heap.objs.size<=z:=by
   rcases bw.mp hz with rfl|hz
   ·(show iy (.k .A .P) .j)
   ·have rfl:=aq.mp hz;(show iy (.k .A .A) .j)
  have#[o,e]:=r.mx dm;rw[fresh z Y]at e;cases e
end
variable {α:Type}{x:Str}
def ic:∀(names:List (Str×NameKind)) (n:Nat) (acc:List (Str×Addr)),cellsFrom n names acc=cellsFrom n names []++acc
 | []=>λ_ _=>by simp[cellsFrom]
 |(x,k)::r=>λn acc=>by
  unfold cellsFrom;split
  ·rw[ic r (n+1) ((x,n)::acc),ic r (n+1) [(x,n)]];simp
  ·show ic r n acc
def zr:∀(names:List (Str×NameKind)) (n:Nat) (x:Str) (c:Addr),(x,c)∈cellsFrom n names []->(x,NameKind.cell)∈names
 | []=>λ_ _ _ h=>by simp[cellsFrom]at h
 |(y,k)::r=>λn x c h=>by
  unfold cellsFrom at h;split at h
  ·rename_i hk;rw[ic]at h;rcases cy.mp h with h|h
   ·show .tail _ (zr r _ x c h)
   ·have#[rfl,rfl]:=rv (aq.mp h);rw[wq]at hk;subst hk;show .head _
  ·show .tail _ (zr r _ x c h)
def vo:∀(names:List (Str×NameKind)) (n:Nat) (x:Str),(x,NameKind.cell)∈names->∃c,(x,c)∈cellsFrom n names []
 | []=>λ_ _ h=>by cases h
 |(y,k)::r=>λn x h=>by
  unfold cellsFrom;split
  ·rw[ic];rcases bw.mp h with e|h
   ·have#[rfl,_]:=rv e;apply#[n,ew _ (.head _)]
   ·have#[c,Z]:=vo r (n+1) x h;apply#[c,dq _ Z]
  ·rename_i hk;rcases bw.mp h with e|h
   ·have#[_,rfl]:=rv e;simp at hk
   ·show vo r n x h
def tg {l:List (Str×α)}{c:α}(h:(x,c)∈l):∃Z,l.lookup x=some Z:=by
 cases hq:l.lookup x with
 |some Z=>refine#[Z,rfl]
 |none=>rw[rl]at hq;have:=hq _ h;simp at this
def ya {l r:List (Str×α)}{c:α}(h:l.lookup x=some c):(l++r).lookup x=some c:=by
 rw[List.lookup_append,h];rfl
def i9 {l r:List (Str×α)}(h:l.lookup x=none):(l++r).lookup x=r.lookup x:=by
 rw[List.lookup_append,h];rfl
def xH {names:List (Str×NameKind)}(nd:(names.map (·.1)).Nodup){k k':NameKind}(h:(x,k)∈names)(h':(x,k')∈names):k=k':=by
 have#[i,hi,e]:=iw.mp h;have#[j,W,U]:=iw.mp h';have Y:names[i]?=some (x,k):=by rw[bq hi,e]
 have Z:names[j]?=some (x,k'):=by rw[bq W,U]
 have:=kK nd Y Z;subst this;rw[Y]at Z;cases Z;rfl
structure L3 (G:Stc)(σ:St)(h:Heap)(names:List (Str×NameKind))(cl:List (Str×Addr))(ρf:Fr):Prop where
 free:∀(i:Nat) (x:Str),names[i]?=some (x,.free)->∃c w,cl.lookup x=some c/\h.IsCell c w/\OV G h (ρf i) w/\¬σ.dom c/\(G.cap x=false->G.hb.get? c=none)
 inj:∀(i j:Nat) (x y:Str) (c:Addr),names[i]?=some (x,.free)->names[j]?=some (y,.free)->cl.lookup x=some c->cl.lookup y=some c->i=j
 all:∀p∈cl,∃o,h.get? p.2=some o
 other:∀(i:Nat) (x:Str) (k:NameKind),names[i]?=some (x,k)->k≠.free->ρf i=none
def pN {G:Stc}{σ:St}{h:Heap}{names:List (Str×NameKind)}{cl:List (Str×Addr)}{ρf:Fr}{env:Env}{T:String}(R:Rel G σ h)(nd:(names.map (·.1)).Nodup)(K:L3 G σ h names cl ρf)
  (hl:env.locals=h.objs.size) (hc:env.cells=cellsFrom (h.objs.size+1) names cl) (hk:∀(i:Nat) (x:Str) (k':NameKind),env.scope.names[i]?=some (x,k')->∃k,names[i]?=some (x,k)/\(k'=k\/(k=.free/\k'=.cell))) :
  FR G σ env ρf (pushCells (h.push {cls:=.type T,data:=.dict #v[]}) names)/\(∀b o,h.get? b=some o->(pushCells (h.push {cls:=.type T,data:=.dict #v[]}) names).get? b=some o):=by
 have keep:∀b o,h.get? b=some o->(pushCells (h.push {cls:=.type T,data:=.dict #v[]}) names).get? b=some o:=λb o e=>pushCells_keeps _ _ b o (av _ e);have frz:je h (pushCells (h.push {cls:=.type T,data:=.dict #v[]}) names):=λb o e _=>keep b o e;have ok:=cellsFrom_ok names (h.push {cls:=.type T,data:=.dict #v[]}) (h.objs.size+1) [] #[λ_ _ hm=>(nomatch hm),List.Pairwise.nil] (by rw[gr];show az _);rw[gr]at ok;have W:∀c,h.objs.size<=c->¬σ.dom c:=λc hc d=>by have#[o,e]:=R.mx d;show absurd (gv e) (sd.mpr hc)
 have Y:∀c,h.objs.size<=c->G.hb.get? c=none:=λc hc=>by
  cases hq:G.hb.get? c with
  |none=>rfl
  |some o=>show absurd (gv (R.base c o hq)) (sd.mpr hc)
 have U:(pushCells (h.push {cls:=.type T,data:=.dict #v[]}) names).get? h.objs.size=some {cls:=.type T,data:=.dict #v[]}:=pushCells_keeps _ _ _ _ (cf _ rfl);have cellAt:∀(i:Nat) (x:Str),names[i]?=some (x,.cell)->∃c,env.cells.lookup x=some c/\(x,c)∈cellsFrom (h.objs.size+1) names []:=λi x e=>by
  have#[c,hm]:=vo names (h.objs.size+1) x (cw e);have#[c',ag]:=tg hm;apply#[c',by rw[hc,ic];show ya ag,mem_of_lookup ag]
 have Z:∀(i:Nat) (x:Str),names[i]?=some (x,.free)->env.cells.lookup x=cl.lookup x:=λi x e=>by
  rw[hc,ic];apply i9 ?_;cases hq:(cellsFrom (h.objs.size+1) names []).lookup x with
  |none=>rfl
  |some c=>have:=xH nd (zr _ _ _ _ (mem_of_lookup hq)) (cw e);cases this
 apply#[#[#[_,by rewrite [hl];show(Heap.Ns.new h (.type T)).keeps (pushCells_keeps _ _),λi x e=>?_],λi x k' e be=>?_,λi j x y k k' c ei ej aE ar lx ly=>?_,by rw[hl];show W _ (az _),λo e=>?_,by rw[hl];show Y _ (az _),λp hp=>?_],keep]
 ·have#[k,e',B]:=hk i x _ e;have:ρf i=none:=K.other i x k e' (by rcases B with h|⟨_,h⟩;show h▸(by decide);cases h);rw[this];trivial
 ·have#[k,e',B]:=hk i x _ e;have ab:k=.cell\/k=.free:=by rcases B with h|⟨h,_⟩;show h▸be;show .inr h
  rcases ab with rfl|rfl
  ·have#[c,ao,hm]:=cellAt i x e';have I:=ok.empty x c hm;apply#[c,none,ao,I.1,by rewrite [K.other i x _ e' (by decide)];trivial,W c (Nat.le_of_succ_le I.2),by rewrite [hl];show Nat.ne_of_gt (Nat.lt_of_succ_le I.2),λ_=>Y c (Nat.le_of_succ_le I.2)]
  ·have#[c,w,h1,h2,h3,h4,h5]:=K.free i x e';apply#[c,w,by rw[Z i x e'];show h1,h2.keeps keep,h3.mono frz,h4,?_,h5];rw[hl];show gn h2.lt
 ·have#[k1,e1,bd]:=hk i x _ ei;have#[k2,e2,ab]:=hk j y _ ej;have aj:k1=.cell\/k1=.free:=by rcases bd with h|⟨h,_⟩;show h▸aE;show .inr h
  have ai:k2=.cell\/k2=.free:=by rcases ab with h|⟨h,_⟩;show h▸ar;show .inr h
  have low:∀(i:Nat) (x:Str) (c:Addr),names[i]?=some (x,.free)->env.cells.lookup x=some c->c<h.objs.size:=λi x c e l=>by
   have#[c',w,h1,h2,_]:=K.free i x e;rw[Z i x e,h1]at l;cases (l);show h2.lt
  have high:∀(i:Nat) (x:Str) (c:Addr),names[i]?=some (x,.cell)->env.cells.lookup x=some c->h.objs.size<c/\(x,c)∈cellsFrom (h.objs.size+1) names []:=λi x c e l=>by
   have#[c',h1,h2]:=cellAt i x e;rw[h1]at l;cases (l);apply#[(ok.empty x c h2).2,h2]
  rcases aj with rfl|rfl<;>rcases ai with rfl|rfl
  ·have#[_,m1]:=high i x c e1 lx;have#[_,m2]:=high j y c e2 ly;have:=name_of_addr ok.apart m1 m2;subst this;show kK nd e1 e2
  ·have:=(high i x c e1 lx).1;have:=low j y c e2 ly;show absurd ‹c<h.objs.size› (sd.mpr (mh ‹h.objs.size<c›))
  ·have:=(high j y c e2 ly).1;have:=low i x c e1 lx;show absurd ‹c<h.objs.size› (sd.mpr (mh ‹h.objs.size<c›))
  ·show K.inj i j x y c e1 e2 (by rw[<- Z i x e1];show lx) (by rw[<- Z j y e2];show ly)
 ·rw[hl,U]at e;cases e;show tn rfl
 ·rw[hc,ic]at hp;rcases cy.mp hp with hp|hp
  ·have#[#[o,ho,_],_]:=ok.empty p.1 p.2 hp;apply#[o,ho]
  ·have#[o,ho]:=K.all p hp;apply#[o,keep _ _ ho]
section
variable {G:Stc}{A:Around}{E:QqV}
def tD {env:Env}{σ:St}{X:List Addr}(eo:yg env)(U:env.locals∈X)(hN:∀(i:Nat) x c,env.scope.names[i]?=some (x,.cell)->env.cells.lookup x=some c->c∈X/\G.hb.get? c=none)(f:Str×Value->PUnit->Sem (ForInStep PUnit))(hf:∀n v u,f (n,v) u=(do storeName env n v;pure (.yield #[]))) :
  ∀(j:Nat) (ns:List Str) (vs:List V) (ws:List Value) (ρ:Fr) (s:Shared) (Q:PUnit->Shared->Prop),ns.length=ws.length->(∀(i:Nat) (x:Str),ns[i]?=some x->∃k,env.scope.names[j+i]?=some (x,k)/\sN k=true) ->
   FR G σ env ρ s.heap->Rel G σ s.heap->VRs G s.heap vs ws ->
   (∀s' ρ',(∀i,ρ' i=if i<j then ρ i else if i<j+vs.length then vs[i-j]? else ρ i)->FR G σ env ρ' s'.heap->Rel G σ s'.heap->Go X σ s σ s'->Q #[] s') ->
   wpAny G.M A (forIn (ns.zip ws) #[] f) Q E s
 |j,[],vs,ws,ρ,s,Q,hl,I,F,R,vr,q=>by
  cases ws with
  |cons _ _=>simp at hl
  |nil =>
   cases vs with
   |cons _ _=>have#[_,_,e,_]:=vr;cases e
   |nil =>
    rw[List.zip_nil_left,og];apply af (q s ρ (λi=>?_) F R .refl);by_cases h:i<j
    ·simp[h]
    ·simp[h]
 |j,x::ns,vs,ws,ρ,s,Q,hl,I,F,R,vr,q=>by
  cases vs with
  |nil=>have rfl:=vr;cases hl
  |cons v vs =>
   have#[w,ws,rfl,va,vr]:=vr;rw[List.zip_cons_cons,pj,hf];have#[k,hi,hk]:=I 0 x rfl;apply ae (ae (jA eo F R hi hk (λc hc e=>(hN _ _ c (e▸hi) hc).2) va U (λc hc e=>(hN _ _ c (e▸hi) hc).1) λs' F' R' x'=>af ?_));apply tD eo U hN f hf (j+1) ns vs ws _ s' Q (by simpa using hl) (λi y e=>?_) F' R' (vr.mono x'.frz) λs2 ρ' W F2 R2 x2=>?_
   ·have#[k,hi,hk]:=I (i+1) y (by simpa using e);apply#[k,by rw[show j+1+i=j+(i+1) by(show fE (.e (.a .P .B) .a7) .n)];show hi,hk]
   ·apply q s2 ρ' (λi=>?_) F2 R2 (x'.trans x2);rw[W i];simp only[km,Nat.add_zero];by_cases Z:i<j
    ·rw[br (ax .J .a .B Z),br Z,bz (ax .cY .x .B Z)]
    ·rw[aw Z];by_cases h2:i=j
     ·clear q I W;subst h2;rw[br (iy (.l .A .P) .j),br (fE (.l .A .a7) .j),bg];simp
     ·rw[aw ((au h2).elim (λY=>(fy (.g .A .L) .c .bL .B Z Y)) λY=>(ax (.g .A .L) .a .S Y))];by_cases h3:i<j+1+vs.length
      ·rw[br h3,br (dt (.l .A .aF) .a (.l .A (.a .L .C)) h3),show i-j=(i-(j+1))+1 by(show Ar.sub _ _ (λY p1=>(dj .aB .l .a5 (.e .aF .D) (aa (ax .A .a .b9 Z)) p1)) λY p1=>((au h2).elim (λq2=>(eQ .aB [[0,1,0,0,1],[1,0,1,1,0]] (.g .C .D) .b5 (.k .C .V) .R Z (aa (ax .A .a .b9 Z)) Y q2)) λq2=>(eQ .aB [[1,-1,0,1,1],[1,1,1,0,0]] .a5 (.k .D .Q) .a1 .R (aa (ax .A .a .b9 Z)) Y p1 q2)))];simp
      ·rw[aw h3,aw (dt (.g .A .aF) .a (.g .A (.a .L .C)) h3),bz h2]
end
variable {d n:Nat}{a:Addr}{vs dflt:List V}{ws:List Value}{sc:Scope}{body:List Stmt}{Q:V->St->Prop}{C:Cal}
abbrev so:List Str->List (Str×NameKind)->Bool
 | [],_=>true
 |x::xs,(y,k)::r=>x==y&&sN k&&so xs r
 |_::_,[]=>false
def mX:∀{xs:List Str} {r:List (Str×NameKind)},so xs r=true->∀(i:Nat) (x:Str),xs[i]?=some x->∃k,r[i]?=some (x,k)/\sN k=true
 | [],_,_,i,x,e=>by simp at e
 |_::_,[],h,_,_,_=>Bool.noConfusion (show false=true from h)
 |x::xs,(y,k)::r,h,0,z,e=>by
  dsimp only[so]at h;simp only[dw,wq]at h;simp at e;subst e;apply#[k,by simp[h.1.1],h.1.2]
 |x::xs,(y,k)::r,h,i+1,z,e=>by
  dsimp only[so]at h;simp only[dw]at h;simpa using mX h.2 i z (by simpa using e)
structure FnAt (G:Stc)(a:Addr)(n:Nat)(dflt:List V)(sc:Scope)(body:List Stmt):Prop where
 lim:G.hb.NoLimit
 kind:sc.kind=.function
 co:sc.isCoroutine=false
 gen:sc.isGenerator=false
 nd:(sc.names.map (·.1)).Nodup
 uC:∀(i:Nat) (x:Str),sc.names[i]?≠some (x,.free)
 here:∃o fd,G.hb.get? a=some o/\o.data=.func fd/\fd.scope=sc/\fd.body=.stmts body/\fd.closure=[]/\fd.globals=mainGlobals/\fd.builtins=builtinsNs/\G.hb.CodeRec fd.code fd.qualname /\
  uw fd.params=true/\so (fd.params.args.map (·.arg)) sc.names=true/\fd.params.args.length=n /\
  ((fd.defaults=.none/\dflt=[])\/∃t ot ds m,fd.defaults=.ref t/\G.hb.get? t=some ot/\ot.data=.seq (ds.toArray) m/\VRs G G.hb dflt ds)/\dflt.length<=n
section
variable {G:Stc}{A:Around}{E:QqV}{s:Shared}{σ:St}
def AOk.deep (h:AOk A (d+1))(env:Env):AOk (A.deeper env) d:=
 #[h.handled,by have:=h.depth;show A.depth+1+3*d+20<_;(show dt (.l (.a (.a .P (.m 3 .B)) (.n 20)) .C) .a .c2 this),by have:=h.units;show A.units+3+30*d+300<_;(show dt (.l (.a (.a (.a .A .aZ) (.m 30 .B)) .b0) .C) .a (.l (.a (.a .A (.m 30 .L)) .b0) .C) this)]
def qA {fd:FuncData}{run:Env->Code}{cl:List (Str×Addr)}{ρf ρ':Fr}{dv:List V}{ds:List Value}{R':Result->Shared->Prop}{o:Obj}(ho:G.hb.get? a=some o)(hd:o.data=.func fd)
  (lim:G.hb.NoLimit) (kind:fd.scope.kind=.function) (nd:(fd.scope.names.map (·.1)).Nodup) (bn:fd.closure=cl) (cn:fd.globals=mainGlobals) (da:fd.builtins=builtinsNs) (ch:uw fd.params=true) (ag:so (fd.params.args.map (·.arg)) fd.scope.names=true) (hn:fd.params.args.length=n)
  (ct:∀(A:Around) (E:QqV) (Q:Option (Array Value)->Shared->Prop),(∀o,(o.getD #v[]).toList=ds->Q o s)->wpAny G.M A (seqItems? fd.defaults) Q E s) (bd:VRs G s.heap dv ds) (cx:dv.length<=n)
  (be:(wpAny G.M A.in1 (bindArgs fd #[ws,[]]) (λaj s₁ =>
   wpAny G.M A.in1 (newFunctionEnv fd.scope fd.globals fd.closure aj (fd.qualname ++ ".<locals>.") (some a) fd.code none fd.builtins)
    (λenv s₂=>s₂.heap.NoLimit/\codeAny G.M A (run env) R' s₂) (λe s'=>R' (.error e) s') s₁) (λe s'=>R' (.error e) s') s)->codeAny G.M A (.call (.ref a) #[ws,[]]) R' s)
  (clo:L3 G σ s.heap fd.scope.names cl ρf) (R:Rel G σ s.heap) (vr:VRs G s.heap vs ws) (h1:vs.length<=n) (h2:n<=vs.length+dv.length)
  (cd:∀i,ρ' i=if i<n then (vs++dv.drop (dv.length-(n-vs.length)))[i]? else ρf i)
  (hb:∀env s' X,env.scope=fd.scope->env.code=fd.code->yg env->FR G σ env ρ' s'.heap->Rel G σ s'.heap->Go X σ s σ s'->(∀z∈X,s.heap.get? z=none)->(∀z∈X,z∈envX env)->(∀z∈envX env,z∈X\/∃p∈cl,p.2=z)->codeAny G.M A (run env) R' s'):codeAny G.M A (.call (.ref a) #[ws,[]]) R' s:=by
 have Z:=vr.length;have Y:=bd.length;have ck:(fd.params.args.map (·.arg)).Nodup:=by
  have hp:∀{xs:List Str} {r:List (Str×NameKind)},so xs r=true->∃ys,r.map (·.1)=xs++ys:=by
   intro xs;induction xs with
   |nil=>intro r _;apply#[_,rfl]
   |cons x xs ih =>
    intro r h;cases r with
    |nil=>show Bool.noConfusion (show false=true from h)
    |cons p r =>
     dsimp only[so]at h;simp only[dw,wq]at h;have#[ys,e]:=ih h.2;apply#[ys,by simp[e,h.1.1]]
  have#[ys,e]:=hp ag;rw[e]at nd;show(List.nodup_append.mp nd).1
 apply be ?_;apply AI (ds:=ds) ch (ct _ _) ck (by rw[hn,<- Z];show h1) (by rw[hn,<- Z,<- Y];show h2) (by rw[hn,<- Y];show cx) ?_;rw[hn,bn,cn,da];simp only[newFunctionEnv,wt,eh,kh];apply ae (wpAny_alloc ?_);apply ae (wpAny_layCells _ (λname kind cells=>by cases hkc:kind==NameKind.cell<;>simp[hkc]) _ _ _ _ ?_);rw[show({s with heap:=s.heap.push {cls:=.type "frame",data:=.dict #v[]}}:Shared).heap.objs.size=s.heap.objs.size+1 from gr ..];have#[cb,ab]:=pN (T:="frame") (env:=newEnv fd.scope s.heap.objs.size mainGlobals (cellsFrom (s.heap.objs.size+1) fd.scope.names cl) (fd.qualname ++ ".<locals>.") (some a) fd.code none builtinsNs) R nd clo rfl rfl λi x k' e=>#[k',e,.inl rfl];have eo:yg (newEnv fd.scope s.heap.objs.size mainGlobals (cellsFrom (s.heap.objs.size+1) fd.scope.names cl) (fd.qualname ++ ".<locals>.") (some a) fd.code none builtinsNs):=#[kind,nd,rfl,rfl];have ao:Go [] σ s σ {s with heap:=pushCells (s.heap.push {cls:=.type "frame",data:=.dict #v[]}) fd.scope.names}:=Go.refl.to (Evo.keeps ab);have bu:VRs G s.heap (vs++dv.drop (dv.length-(n-vs.length))) (ws++ds.drop (ds.length-(n-ws.length))):=by
  rw[<- Y,<- Z];show vr.append (bd.drop _)
 have ok:=cellsFrom_ok fd.scope.names (s.heap.push {cls:=.type "frame",data:=.dict #v[]}) (s.heap.objs.size+1) [] #[λ_ _ hm=>(nomatch hm),List.Pairwise.nil] (by rw[gr];show az _);rw[gr]at ok;have hX:∀z∈s.heap.objs.size::(cellsFrom (s.heap.objs.size+1) fd.scope.names []).map (·.2),s.heap.get? z=none:=λz hz=>by
  rcases bw.mp hz with rfl|hz
  ·show none_at_size _
  ·have#[p,hp,rfl]:=cq.mp hz;show nh (Nat.le_of_succ_le (ok.empty p.1 p.2 hp).2)
 have hN:∀(i:Nat) x c,fd.scope.names[i]?=some (x,.cell)->(cellsFrom (s.heap.objs.size+1) fd.scope.names cl).lookup x=some c->c∈s.heap.objs.size::(cellsFrom (s.heap.objs.size+1) fd.scope.names []).map (·.2)/\G.hb.get? c=none:=λi x c e hc=>by
  have hm:c∈s.heap.objs.size::(cellsFrom (s.heap.objs.size+1) fd.scope.names []).map (·.2):=by
   have#[c1,hm]:=vo fd.scope.names (s.heap.objs.size+1) x (cw e);have#[c',bl]:=tg hm;rw[ic,ya bl]at hc;cases hc;show .tail _ (cq.mpr #[_,mem_of_lookup bl,rfl])
  apply#[hm,?_];cases hq:G.hb.get? c with
  |none=>rfl
  |some o=>have:=R.base c o hq;rw[hX c hm]at this;cases this
 have ai:s.heap.objs.size∈s.heap.objs.size::(cellsFrom (s.heap.objs.size+1) fd.scope.names []).map (·.2):=.head _;have bv:∀p∈cellsFrom (s.heap.objs.size+1) fd.scope.names [],p.2∈s.heap.objs.size::(cellsFrom (s.heap.objs.size+1) fd.scope.names []).map (·.2):=λp hp=>.tail _ (cq.mpr #[p,hp,rfl]);have ca:∀z∈s.heap.objs.size::(cellsFrom (s.heap.objs.size+1) fd.scope.names []).map (·.2),z∈s.heap.objs.size::(cellsFrom (s.heap.objs.size+1) fd.scope.names cl).map (·.2):=λz hz=>by
  rcases bw.mp hz with rfl|hz
  ·show .head _
  ·have#[p,hp,rfl]:=cq.mp hz;show .tail _ (cq.mpr #[p,by rw[ic];show dq _ hp,rfl])
 generalize s.heap.objs.size::(cellsFrom (s.heap.objs.size+1) fd.scope.names []).map (·.2)=X at hX hN ai bv ca;apply ae (tD (X:=X) eo ai hN _ (λ_ _ _=>rfl) 0 (fd.params.args.map (·.arg)) (vs++dv.drop (dv.length-(n-vs.length))) _ ρf {s with heap:=pushCells (s.heap.push {cls:=.type "frame",data:=.dict #v[]}) fd.scope.names} _ ?_ (λi x e=>?_) cb (R.keeps ab) (bu.mono λb o e _=>ab b o e) λs' cc ar F' R' x'=>?_)
 ·rw[ak,List.length_append,ir,hn];(show Ar.sub _ _ (λq1 p1=>(Ar.sub _ _ (λq2 U=>(Ar.sub _ _ (λq3 W=>(ui .b2 [[1,1,-1,1],[1,-1,1,-1]] .bC .cD (.e (.a .G .B) .A) p1 U W)) λq3 W=>(T9 .b2 [[1,1,-1,1,-1,0,1],[1,0,0,0,0,1,0]] (.k .D .A) (.e .D .B) (.e .aB .G) (.e (.a .F .H) .G) .A .d0 h1 Z p1 U q3 W))) λq2 U=>(Ar.sub _ _ (λq3 W=>(XX .b2 [[1,0,0,0,1,1,0,1],[1,1,1,1,-1,0,1,0]] (.k .A .a0) (.e .D .B) (.e .F .G) (.e (.a .C .H) .G) (.k .G .I) .d0 (.e (.a .I .B) .A) h2 Z Y p1 q2 U W)) λq3 W=>(XU .b2 [[1,1,0,-1,0,1,1,0,1],[1,0,1,1,1,-1,0,1,0]] (.k .D .A) (.k .A .a0) (.e .D .B) (.e .F .G) (.e (.a .C .H) .G) (.k .G .I) .d0 (.e .I .O) h1 h2 Z Y p1 q2 U W)))) λq1 p1=>(Ar.sub _ _ (λq2 U=>(Ar.sub _ _ (λq3 W=>(T9 .b2 [[1,1,-1,0,1,0,0],[1,0,0,1,0,1,-1]] (.k .D .A) (.e .D .B) (.k .F .G) .aK (.e .aW .F) (.e (.a .H .B) .A) h1 Z q1 p1 U W)) λq3 W=>(eQ .b2 [[1,1,-1,1,0],[1,0,0,0,1]] (.k .D .A) (.e .D .B) .aK .A h1 Z p1 q3))) λq2 U=>(XY .b2 [[1,1,0,-1,0,0,1,0],[1,0,1,1,1,1,0,1]] (.k .D .A) (.k .A .a0) (.e .D .B) (.e .F .G) (.k .G .H) .aK .d0 h1 h2 Z Y q1 p1 U)))
 ·rw[nk];show mX ag i x e
 ·apply af #[lim.keeps R'.base,?_];have aE:cc=ρ':=by
   funext i
   rw[ar i,cd i,List.length_append,ir];simp only[fu,kh,nk,Nat.sub_zero];rw[show vs.length+(dv.length-(dv.length-(n-vs.length)))=n by(show Ar.sub _ _ (λq1 p1=>(Ar.sub _ _ (λq2 U=>(Ar.sub _ _ (λq3 W=>(ui .V .v .d5 .cD .aX p1 U W)) λq3 W=>(lE .V [[1,0,0,0,1,0],[1,1,1,-1,0,1]] .I .d5 .cD .aA .bW h1 p1 U q3 W))) λq2 U=>(Ar.sub _ _ (λq3 W=>(lE .V [[1,1,-1,0,1,0],[1,0,1,1,0,1]] (.k .C .T) (.e .a6 .D) (.k .D .G) .aG .aX h2 p1 q2 U W)) λq3 W=>(TA .V [[1,0,1,-1,0,1,0],[1,1,0,1,1,0,1]] .I (.k .C .T) (.e .a6 .D) (.k .D .G) .aG .bW h1 h2 p1 q2 U W)))) λq1 p1=>(Ar.sub _ _ (λq2 U=>(Ar.sub _ _ (λq3 W=>(lE .V [[1,0,1,0,1,-1],[1,1,0,1,0,0]] .I .cK .a1 (.e .aG .D) .aX h1 q1 p1 U W)) λq3 W=>(pq .V [[1,0,0,1],[1,1,1,0]] .I .a1 .aA h1 p1 q3))) λq2 U=>(yI .V [[1,0,1,1,0,1],[1,1,0,0,1,0]] .I (.k .C .T) .cK .a1 .aG h1 h2 q1 p1 U)))]
  subst aE;apply hb _ s' X rfl rfl eo F' R' ((ao.more (λ_ h=>nomatch h)).trans x') hX ca λz hz=>?_;rcases bw.mp hz with rfl|hz
  ·show .inl ai
  ·have zz:=cq.mp hz;clear hz;have#[p,hp,rfl]:=zz;have hp:p∈cellsFrom (s.heap.objs.size+1) fd.scope.names cl:=hp;rw[ic]at hp;rcases cy.mp hp with hp|hp
   ·show .inl (bv p hp)
   ·show .inr #[p,hp,rfl]
def y8 {b:jw}{Q:QqV}(K:FnAt G a n dflt sc body)
  (hb:∀(A':Around) (E':QqV) (env:Env) (s':Shared),Cx G sc d A' env (frameOf #[n,dflt,b] vs) σ s'->(∀o fd,G.hb.get? a=some o->o.data=.func fd->env.code=fd.code)->Go (envX env) σ s σ s'->(∀z∈envX env,s.heap.get? z=none) ->
   wpAny G.M A' (execs body env) (λf s'=>Q (match f with|.ret v=>v|_=>.none) s') E' s')
  (ao:AOk A (d+1)) (R:Rel G σ s.heap) (vr:VRs G s.heap vs ws)
  (I:vs.length<=n) (h2:n<=vs.length+dflt.length):codeAny G.M A (.call (.ref a) #[ws,[]]) (wants Q E) s:=by
 have#[o,fd,ho,hd,aj,W,ag,aE,bu,Y,ar,ab,hn,bl,be]:=K.here;subst aj;have#[ds,bd,ai]:∃ds,(∀(A:Around) (E:QqV) (Q:Option (Array Value)->Shared->Prop),(∀o,(o.getD #v[]).toList=ds->Q o s)->wpAny G.M A (seqItems? fd.defaults) Q E s)/\VRs G s.heap dflt ds:=by
  rcases bl with ⟨e1,e2⟩|⟨t,ot,ds,m,e1,e2,e3,e4⟩
  ·apply#[[],λA E Q q=>?_,by subst e2;show .nil];rw[e1];show wpAny G.M A (do notAStandIn .none;pure none) Q E s;show fb (by rfl) (q none rfl)
  ·apply#[ds,λA E Q q=>?_,e4.mono λb o e _=>R.base b o e];rw[e1];show wpAny G.M A (do match (← load t).data with|.seq xs _=>pure (some xs)|_=>pure none) Q E s;apply ae (yu (R.base _ _ e2) ?_);rw[e3];show af (q _ (by simp))
 apply qA (run:=λenv=>.func body env) (ρf:=λ_=>none) (ρ':=frameOf #[n,dflt,b] vs) ho hd K.lim K.kind K.nd ag aE bu ar ab hn bd ai be (λh=>codeAny_call_function (by have:=ao.depth;(show dt .B .a (.l (.a (.a .A (.m 3 .Q)) (.n 20)) .B) this)) (R.base _ _ ho) hd K.co K.gen W (Y.keeps R.base) h)
  #[λi x e=>absurd e (K.uC i x),λi j x y c e=>absurd e (K.uC i x),λp hp=>(nomatch hp),λ_ _ _ _ _=>rfl] R vr I h2 (λi=>?_) λenv s' X e1 e2 eo F' R' x' hX bv bn=>?_
 ·split
  ·rfl
  ·unfold frameOf jS;dsimp only;rw[lg];rw[List.length_append,ir];(rename_i z1;show Ar.sub _ _ (λq1 U=>(Ar.sub _ _ (λq2 p2=>(Ar.sub _ _ (λq3 Z=>(FG .K .A (.g .C .D) .cM (.e (.a .F .H) .G) (.e (.a .H .A) .D) z1 U p2 Z)) λq3 Z=>(yH .K [[1,1,1,1,-1,1]] .aV (.g .C .D) .cM (.e (.a .F .H) .G) .d0 I z1 U p2 Z))) λq2 p2=>(Ar.sub _ _ (λq3 Z=>(FG .K .y (.g .C .D) .cM (.k .G .H) (.e (.a .H .A) .D) z1 U q2 Z)) λq3 Z=>(yH .K .F .aV (.g .C .D) .cM (.k .G .H) .d0 I z1 U q2 Z)))) λq1 U=>(mf .K .h .aV (.g .C .D) .a1 I z1 U))
 ·show codeAny_func (hb _ _ env s' #[ao.deep _,e1,eo,F',R'] (λo' ca I h2=>by have rfl:=ah (ho.symm.trans I);rw[hd]at h2;cases h2;show e2) (x'.more bv) λz hz=>(bn z hz).elim (hX z) λ⟨_,hp,_⟩=>nomatch hp)
def t6 {b:jw}(K:FnAt G a n dflt sc body)
  (hb:∀(W:Around) (I:QqV) (env:Env) (s':Shared),Cx G sc d W env (frameOf #[n,dflt,b] vs) σ s'->wpAny G.M W (execs body env) (qy G env σ s' (jD Q)) I s')
  (ao:AOk A (d+1)) (R:Rel G σ s.heap) (vr:VRs G s.heap vs ws)
  (h1:vs.length<=n) (h2:n<=vs.length+dflt.length):codeAny G.M A (.call (.ref a) #[ws,[]]) (wants (jg G [] σ s Q) E) s:=by
 apply y8 (b:=b) K (λW I env s' c _ x' hX=>?_) ao R vr h1 h2;apply cg (hb W I env s' c) (λf s₂ l=>?_) λ_ _ x=>x;have#[fl,U,σ₂,fr,q,B,Z,Y]:=l;have x3:Go [] σ s σ₂ s₂:=(x'.trans Y).less λz hz=>.inr (hX z hz);cases fr with
 |next=>refine#[.none,σ₂,q,.none,Z,x3]
 |ret v=>refine#[_,σ₂,q,v,Z,x3]
 |brk=>show q.elim
 |cont=>show q.elim
def tC {b:jw}(K:FnAt G a n dflt sc body)
  (hb:∀(Z:Around) (I:QqV) (env:Env) (s':Shared),Cx G sc d Z env (frameOf #[n,dflt,b] vs) σ s'->wpAny G.M Z (execs body env) (qy G env σ s' (jD Q)) I s')
  (U:AOk A (d+1)) (R:Rel G σ s.heap) (vr:VRs G s.heap vs ws)
  (W:vs.length<=n) (Y:n<=vs.length+dflt.length):wpAny G.M A (call (.ref a) ws) (jg G [] σ s Q) E s:=qd (t6 K hb U R vr W Y)
def OL {b:jw}(K:FnAt G a n dflt sc body)(hb:iV G C sc d b body)(W:AOk A (d+1))(R:Rel G σ s.heap)(vr:VRs G s.heap vs ws)
  (Y:vs.length<=n) (Z:n<=vs.length+dflt.length) (h:fw C b (frameOf #[n,dflt,b] vs) σ (jD Q)):wpAny G.M A (call (.ref a) ws) (jg G [] σ s Q) E s:=
 tC (b:=b) K (λI U env s' c=>hb c h) W R vr Y Z
abbrev iZ (G:Stc)(fa:Nat->Option Addr)(C:Cal)(d:Nat):Prop:=∀(k:Nat) (a:Addr),fa k=some a->(∃o fd,G.hb.get? a=some o/\o.data=.func fd)/\∀{A E vs ws σ Q s},AOk A d->Rel G σ s.heap->VRs G s.heap vs ws ->
 C k vs σ Q->wpAny G.M A (call (.ref a) ws) (jg G [] σ s Q) E s
def yw {env:Env}{ρ:Fr}{f:Addr}{o:Obj}{fd:FuncData}{first:List Value}{es:Exs}{args:List Expr}{pos:Pos}{P:List V->St->Prop}{Q:QqV}(U:G.hb.get? f=some o)(Z:o.data=.func fd)(W:noStar args=true)(Y:qa G C sc d es args)
  (c:Cx G sc d A env ρ σ s) (h:wh C es ρ σ P)
  (k:∀vs σ₁ s₁ ws,P vs σ₁->VRs G s₁.heap vs ws->Rel G σ₁ s₁.heap->Go [] σ s σ₁ s₁->wpAny G.M A (call (.ref f) (first++ws)) Q E s₁) :
  wpAny G.M A (callWith pos (.ref f) first (backTo pos (starEach args env)) []) Q E s:=
 Calls.callWith_function (o:=o) (fd:=fd) (ou (jm W pos env) (oN (Y c h) λvs σ₁ s₁ ws q vr r x=>#[#[r.base _ _ U,Z],k vs σ₁ s₁ ws q vr r x]))
def GZ {fa:Nat->Option Addr}{k:Nat}{f:Addr}{x:Str}{es:Exs}{args:List Expr}{p pos:Pos}(K:GOk G)(CO:iZ G fa C d)(hk:fa k=some f)(Z:qa G C sc d es args)(U:noStar args=true)(Y:sc.names.lookup x=some .globalImplicit)(B:jl x=true)(W:G.gl x=some (.ref f)) :
  fg G C sc d (.call k es) (.Call (.Name x p) args [] pos):=λ_ _ _ _ _ _ _ c h=>by
 have#[#[o,fd,I,hd],hc]:=CO k f hk;show Call_ (kn K c.eo c.R (by rw[c.es];show Y) B W (yw I hd U Z c h λvs σ₁ s₁ ws q vr r x=>x.back (hc c.ao r vr q)))
structure dS (G:Stc)(a:Addr)(n:Nat)(cs:List V)(sc:Scope)(e:Expr):Prop where
 lim:G.hb.NoLimit
 kind:sc.kind=.function
 co:sc.isCoroutine=false
 gen:sc.isGenerator=false
 nd:(sc.names.map (·.1)).Nodup
 here:∃o fd,G.hb.get? a=some o/\o.data=.func fd/\fd.scope=sc/\fd.body=.expr e/\fd.globals=mainGlobals/\fd.builtins=builtinsNs/\G.hb.CodeRec fd.code fd.qualname /\
  uw fd.params=true/\so (fd.params.args.map (·.arg)) sc.names=true/\fd.params.args.length=n/\fd.defaults=.none /\
  (∀(i:Nat) (x:Str),sc.names[i]?=some (x,.free)->n<=i/\G.cap x=true/\∃c w v,fd.closure.lookup x=some c/\G.hb.IsCell c (some w)/\cs[i-n]?=some v/\VR G G.hb v w) /\
  (∀(i j:Nat) (x y:Str) (c:Addr),sc.names[i]?=some (x,.free)->sc.names[j]?=some (y,.free)->fd.closure.lookup x=some c->fd.closure.lookup y=some c->i=j) /\
  (∀p∈fd.closure,∃o,G.hb.get? p.2=some o)/\(∀(i:Nat) (x:Str) (k:NameKind),sc.names[i]?=some (x,k)->k≠.free->i<n)
def K5 {cs:List V}{e:Expr}{b:Ex}(K:dS G a n cs sc e)(hb:fg G C sc d b e)(ao:AOk A (d+1))(R:Rel G σ s.heap)(vr:VRs G s.heap vs ws)(h1:vs.length=n)
  (h:wpE C b (λi=>(vs++cs)[i]?) σ Q):wpAny G.M A (call (.ref a) ws) (jg G [] σ s Q) E s:=by
 have#[o,fd,ho,hd,be,ab,bn,ca,U,bl,ag,hn,bu,Y,aj,aE,ai]:=K.here;subst be;apply qd ?_;apply qA (run:=λenv=>.expr e env) (dv:=[]) (ds:=[]) (ρf:=λi=>if i<n then none else cs[i-n]?) (ρ':=λi=>(vs++cs)[i]?) ho hd K.lim K.kind K.nd rfl bn ca bl ag hn (λA E Q q=>?_) .nil (bh _)
  (λh=>PySem.W.kla_callFunE (by have:=ao.depth;(show dt .B .a (.l (.a (.a .A (.m 3 .Q)) (.n 20)) .B) this)) (R.base _ _ ho) hd K.co K.gen ab (U.keeps R.base) h) #[λi x ex=>?_,aj,λp hp=>?_,λi x k ex hk=>br (ai i x k ex hk)] R vr (Nat.le_of_eq h1) (by rw[List.length_nil];(show ax .dC .E .b8 h1)) (λi=>?_) λenv s' X e1 e2 eo F' R' x' hX cc cb=>?_
 ·rw[bu];show wpAny G.M A (do notAStandIn .none;pure none) Q E s;show fb (by rfl) (q none rfl)
 ·have#[h2,ar,c,w,v,hc,I,hv,vv]:=Y i x ex;have#[oc,Z,bv]:=I;apply#[c,some w,hc,#[oc,R.base _ _ Z,bv],?_,λdm=>(by rw[R.new c dm]at Z;cases Z),λq=>(by rw[ar]at q;cases q)];rw[aw (ax .bL .a .aQ h2),hv];show VR.mono (λb o e _=>R.base b o e) vv
 ·have#[o,ho]:=aE p hp;apply#[o,R.base _ _ ho]
 ·rw[List.drop_nil,dg];by_cases c:i<n
  ·rw[br c,ke (fe .B .z .cZ .O h1 c)]
  ·rw[aw c,aw c,ug (fe .A .b (.e .A .C) (.g .B .C) h1 c),h1]
 ·apply PySem.W.kla_codeExpr (cg (hb #[ao.deep env,e1,eo,F',R'] h) (λv s₂ l=>?_) λ_ _ x=>x);have#[u,σ',q,bd,R2,x2]:=l;apply#[u,σ',q,bd,R2,(x'.trans (x2.more λ_ h=>nomatch h)).less λz hz=>.inr (hX z hz)]
abbrev qO (G:Stc)(C:Cal)(d:Nat):Prop:=∀(k:Nat) (cs:List V) (a:Addr),G.clo k cs a->(∃o fd,G.hb.get? a=some o/\o.data=.func fd)/\∀{A E vs ws σ Q s},AOk A d->Rel G σ s.heap->VRs G s.heap vs ws ->
 C (1000+k) (vs++cs) σ Q->wpAny G.M A (call (.ref a) ws) (jg G [] σ s Q) E s
end
variable {f:Addr}{d':Nat}
structure MethAt (G:Stc)(name:Str)(f:Addr):Prop where
 here:∃N mN of fd,ClsAt G.hb G.cS N mN/\mN "__getattribute__"=none/\mN "__getattr__"=none/\mN name=some (.ref f)/\G.hb.get? f=some of/\of.cls=.type "function"/\of.data=.func fd
 out:name∉G.attrs
 lk:∃y,typeLookup (.type "object") name=pure y
section
variable {G:Stc}{A:Around}{E:QqV}{s:Shared}{σ:St}{fa:Nat->Option Addr}{C:Cal}{sc:Scope}{d:Nat}
def mT {a:Addr}{name:Str}{pl:Sem Bool}{Q:Value×List Value->Shared->Prop}(M:MethAt G name f)(R:Rel G σ s.heap)(hI:(σ.I a).isSome)(q:Q (.ref f,[.ref a]) s):wpAny G.M A (getMethod (.ref a) name pl) Q E s:=by
 have#[N,mN,of,fd,X,W,Y,hf,U,B,_]:=M.here;have#[y,hB]:=M.lk;have#[#[dd,g],hI]:=bt.mp hI;have I:=R.I a dd g hI;have#[m,hm,hv,Z]:=I.ns;have#[hh,gg,dr,t,os]:=s;have#[nm,q',bs,sn,sub,ab,d2,k0,k1,k2,k3,k5,hC]:=(X.keeps R.base).obj;show method_of hC (X.keeps R.base).ns W Y hf (R.base _ _ U) B hB (I.inst hm) (Z name M.out) q
def GP {e:Ex}{k:Nat}{name:Str}{es:Exs}{o:Expr}{args:List Expr}{apos pos:Pos}(CO:iZ G fa C d)(hk:fa k=some f)(M:MethAt G name f)(ha:fg G C sc d e o)(B:qa G C sc d es args)(hb:mu o=true)(hs:noStar args=true)(U:args.length<30)(Z:(apos.endLine==pos.line)=true) :
  fg G C sc d (.meth e k es) (.Call (.Attribute o name apos) args [] pos):=λ_ _ _ _ _ _ _ c h=>by
 apply mw hb hs U Z (nj (ha c h) λv σ₁ s₁ w q vr r x pl=>?_);have#[a,rfl,hI,q]:=q;have rfl:=vr;have#[#[of,fd,ho,hd],hc]:=CO k f hk;show mT M r hI (yw ho hd hs B (c.go r x) q λvs σ₂ s₂ ws W I r₂ Y=>(x.trans Y).back (hc c.ao r₂ (.cons (.obj a) I) W))
structure qU (G:Stc)(f:Addr):Prop where
 here:∃N mN of,ClsAt G.hb G.cS N mN/\mN "__init__"=some (.ref f)/\G.hb.get? f=some of/\of.cls=.type "function"
def zG (C:Addr)(ws:List Value):(Code.builtin "type.__call__" #[.ref C::ws,[]]).cUnits<=10:=by
 show 1+3*(Code.frames (.builtin "type.__call__" #[.ref C::ws,[]]))<=10;show ba rfl
def AOk.make (h:AOk A (d+1))(C:Addr)(ws:List Value):AOk (A.under (.builtin "type.__call__" #[.ref C::ws,[]])) d:=
 #[h.handled,by have:=h.depth;show A.depth+1+3*d+20<_;(show dt (.l (.a (.a .P (.m 3 .B)) (.n 20)) .C) .a .c2 this),by have:=h.units;have:=zG C ws;show A.units+(Code.cUnits _)+30*d+300<_;(rename_i Z;show dj (.l (.a (.a .M (.m 30 .C)) .b0) .D) .b (.l (.a (.a .A (.m 30 .Q)) .b0) .D) (.k .B (.n 10)) Z this)]
def AOk.less (h:AOk A d)(hd:d'<=d):AOk A d':=#[h.handled,by have:=h.depth;(show dj (.l (.a (.a .A (.m 3 .B)) (.n 20)) .C) [[1,3,1]] (.k .B .D) (.l (.a (.a .A (.m 3 .D)) (.n 20)) .C) hd this),by have:=h.units;(show dj (.l (.a (.a .A (.m 30 .B)) .b0) .C) [[1,30,1]] (.k .B .D) (.l (.a (.a .A (.m 30 .D)) .b0) .C) hd this)]
def t9 {Q:V->St->Prop}{vs:List V}{ws:List Value}(CO:iZ G fa C (d-1))(hd:1<=d)(hk:fa 0=some f)(M:qU G f)(ao:AOk A d)(q:∀a dd,σ.I a=none->C 0 (.obj a::vs) (σ.jv a dd λ_=>none) λv σ=>v=.none/\Q (.obj a) σ)(vr:VRs G s.heap vs ws)(r:Rel G σ s.heap):wpAny G.M A (call (.ref G.cS) ws) (jg G [] σ s Q) E s:=by
 have#[N,mN,of,X,hi,be,bl]:=M.here;have#[_,hc]:=CO 0 f hk;have bn:AOk A (d-1+1):=by rw[aa hd];show ao
 have#[nm,q',bs,sn,sub,bu,d2,k0,k1,k2,k3,k5,hC]:=(X.keeps r.base).obj;apply wpAny_call_obj_init PySem.F.objNew hC (X.keeps r.base).ns hi (r.base _ _ be) bl λh' Z dx made=>?_;have ab:σ.I Z=none:=by
  cases hq:σ.I Z with
  |none=>rfl
  |some y=>have#[o,e]:=r.mx (.inr (.inr (.inr (.inl (by rw[hq];rfl)))));rw[made.newX]at e;cases e
 have hI:fZ G h' Z dx λ_=>none:=by
  have#[o,ho,aj,bd,hd]:=made.inst;have W:=made.dict o ho;rcases hd with ⟨ag,_⟩|⟨d',ai,aE,ar⟩
  ·rw[W]at ag;cases ag
  ·rw[W]at ai;cases ai;apply#[#[o,ho,aj,W,bd],#[_,ar,λ_ _ _=>trivial,λ_ _=>rfl],aE]
 have r':=r.RS made.newX made.newD hI.ne made.keeps hI;have x':Go [] σ s (σ.jv Z dx λ_=>none) {s with heap:=h'}:=Go.refl.to (Evo.RS _ made.newX made.newD made.keeps);apply cg (hc (s:={s with heap:=h'}) (bn.make _ _) r' (.cons (.obj Z) (vr.mono x'.frz)) (q Z dx ab)) (λw s' l=>?_) λ_ _ x=>x;have#[v,σ₂,#[rfl,B],Y,r₂,U]:=l;cases Y;apply#[rfl,.obj Z,σ₂,B,.obj Z,r₂,x'.trans U]
def GO {x:Str}{es:Exs}{args:List Expr}{p pos:Pos}(K:GOk G)(CO:iZ G fa C (d-1))(hd:1<=d)(hk:fa 0=some f)(M:qU G f)(Y:qa G C sc d es args)(W:noStar args=true)(Z:args≠[])(U:sc.names.lookup x=some .globalImplicit)(B:jl x=true)(I:G.gl x=some (.ref G.cS)) :
  fg G C sc d (.n es) (.Call (.Name x p) args [] pos):=λ_ _ _ _ _ _ _ c h=>by
 have#[N,mN,of,X,_]:=id M.here;apply Call_ (kn K c.eo c.R (by rw[c.es];show U) B I ?_);cases args with
 |nil=>show absurd rfl Z
 |cons e rest =>
  show callWith_cls X (oN (Y c h) λvs σ₁ s₁ ws q vr r x=>#[r.base,x.back (t9 CO hd hk M c.ao q vr r)]) ((gb W).1 _) (jm (gb W).2 pos _)
def iZ.more (h:iZ G fa C d)(hd:d<=d'):iZ G fa C d':=λk a hk=>#[(h k a hk).1,λZ=>(h k a hk).2 (Z.less hd)]
def qO.more {C:Cal}{d:Nat}(h:qO G C d)(hd:d<=d'):qO G C d':=λk cs a hk=>#[(h k cs a hk).1,λZ=>(h k cs a hk).2 (Z.less hd)]
end
end MP
end
section
set_option tactic.hygienic true
namespace MP
open PySem PyProof.Rows
variable {T id nm:String}{name:Str}{o:Obj}{a:Addr}{Q:QqV}{expr:Bool}
def oI:Slot "method_descriptor" "__get__" "method_descriptor.__get__":=
 .of (owner:="method_descriptor") (n:="__get__") (by rw[fj,dh];kernel_rfl) (by decide +kernel) (by decide +kernel) (by decide +kernel)
  (by first|show .inl (by decide +kernel)|show .inr (by decide +kernel)) (by rw[jh];kernel_rfl)
def xW:entryFor table "method_descriptor.__get__"=some Builtin.«method_descriptor.__get__»:=fF (by kernel_rfl)
def AN (a b c:Value):argsOk "method_descriptor.__get__" #[[a,b,c],[]]:=by unfold argsOk;kernel_rfl
def IG:typeLookup (.type "method_descriptor") "__set__"=pure none:=by rw[fj,dh];kernel_rfl
def IH:typeLookup (.type "method_descriptor") "__delete__"=pure none:=by rw[fj,dh];kernel_rfl
structure tN (T:String)(name:Str)(id nm:String):Prop where
 lk:typeLookup (.type T) name=pure (some (.builtin id))
 ty:typeOf (.builtin id)=pure (.type "method_descriptor")
 own:(kfb_private% "ownerAndName") id=(T,nm)
 told:Manifest.toldItsClass.contains id=false
 sub:isSubtype (.type T) (.type T)=pure true
 nm1:(["__module__","__name__","__qualname__","__doc__","__annotations__"]:List Str).contains name=false
 tp1:(Value.type T==Value.type "module")=false
def KG:tN "dict" "get" "dict.get" "get" where
 lk:=PySem.F.slot_dict_get.lookup
 ty:=PySem.F.type_dict_get
 own:=by first|decide +kernel|kernel_rfl
 told:=by first|decide +kernel|kernel_rfl
 sub:=by rw[jh];kernel_rfl
 nm1:=by decide +kernel
 tp1:=by decide +kernel
def KD:tN "set" "__contains__" "set.__contains__" "__contains__" where
 lk:=by rw[fj,dh];kernel_rfl
 ty:=by show builtinType _=_;rw[builtinType_eq_fast];kernel_rfl
 own:=by first|decide +kernel|kernel_rfl
 told:=by first|decide +kernel|kernel_rfl
 sub:=by rw[jh];kernel_rfl
 nm1:=by decide +kernel
 tp1:=by decide +kernel
abbrev mL (id:String)(a:Addr):Obj:={cls:=.type "builtin_function_or_method",data:=.fields #v[.builtin id,.ref a]}
section
variable {prog:Program}{w:World}{A:Around}{E:QqV}{s:Shared}
def DN {a:Addr}{P:Fin->Shared->Prop}(B:tN T name id nm)(Y:s.heap.get? a=some o)(W:o.cls=.type T)(h:P (.done (.ret (.ref s.heap.objs.size))) {s with heap:=s.heap.push (mL id a)}) :
  wpAny (model prog w) A (Builtin.«method_descriptor.__get__» #[[.builtin id,.ref a,.type T],[]]) P E s:=by
 have hT:s.TypeIs (.ref a) T:=#[_,Y,W];unfold Builtin.«method_descriptor.__get__»;apply ae (fb (a:=(.builtin id,some (.ref a),some (.type T))) (by first|rfl|kernel_rfl) ?_);simp only[B.told];show wpAny _ _ (do
  (do
   let (owner,name):=(kfb_private% "ownerAndName") id
   if !(← isInstance (.ref a) (.type owner)) then
    rule "descr.get.wrong-instance"
    raiseError "TypeError" s!"descriptor '{(Str.ofString name).toString}' for '{← typeName (.type owner)}' objects doesn't apply to a '{← typeNameOf (.ref a)}' object":Sem Unit)
  ret (← newFields "builtin_function_or_method" [.builtin id,.ref a])) _ _ _
 rw[B.own];dsimp only;unfold isInstance;have Z:=B.sub;apply ae (ae ?_);apply ae (jX hT ?_);apply fb B.sub ?_;apply af ?_;apply ae ?_;unfold newFields;show jt (af h)
def AE (B:tN T name id nm)(Z:s.heap.get? a=some o)(Y:o.cls=.type T)(h:Q (.ref s.heap.objs.size) {s with heap:=s.heap.push (mL id a)}) :
  wpAny (model prog w) A (call (.builtin "method_descriptor.__get__") [.builtin id,.ref a,.type T]) Q E s:=
 fx oI B.ty xW (DN B Z Y #[_,rfl,h]) (AN _ _ _)
def HJ {tk:Tok}{P:Fin->Shared->Prop}(B:tN T name id nm)(Z:s.heap.get? a=some o)(U:o.cls=.type T)(hd:o.dict=none)(W:∀c,o.data≠.cls c)(h:P (.done (.ret (.ref s.heap.objs.size))) {s with heap:=s.heap.push (mL id a)}) :
  wpAny (model prog w) A (Builtin.«object.__getattribute__» #[[.ref a,.str name tk],[]]) P E s:=by
 have#[I,g,d,t,os]:=s;have hT:(#[I,g,d,t,os]:Shared).TypeIs (.ref a) T:=#[_,Z,U];have ab:(#[I,g,d,t,os]:Shared).TypeIs (.builtin id) "method_descriptor":=B.ty;have f4:=B.lk;have f5:=B.ty;have f6:=oI.lookup;have f7:=IG;have f8:=IH;have Y:=B.nm1;unfold Builtin.«object.__getattribute__»
 repeat (any_goals (first|assumption|wp_step))
 split
 ·rename_i c e;show absurd e (W c)
 ·unfold instanceDict
  repeat (any_goals (first|assumption|(with_reducible refine rg Z ?_;rw[U])|with_reducible refine wpAny_loadHead Z ?_|wp_step))
  rw[hd]
  repeat (any_goals (first|assumption|wp_step))
  rw[aw (by rw[Y];decide)];apply af ?_
  repeat (any_goals (first|assumption|((with_reducible show wpAny _ _ (call (Value.builtin "method_descriptor.__get__") _ _) _ _ _);apply AE B Z U ?_)|wp_step))
def n6 {Y:String}(B:tN T name id nm)(sl:Slot T "__getattribute__" Y)(en:entryFor table Y=some Builtin.«object.__getattribute__»)(ar:∀x y,argsOk Y #[[x,y],[]])
  (U:s.heap.get? a=some o) (hc:o.cls=.type T) (hd:o.dict=none) (Z:∀c,o.data≠.cls c) (h:Q (.ref s.heap.objs.size) {s with heap:=s.heap.push (mL id a),toks:=s.toks+1}) :
  wpAny (model prog w) A (getAttr (.ref a) name expr) Q E s:=by
 have#[I,g,d,t,os]:=s;have#[c,dct,ag,ab]:=o;simp only at hc hd Z;subst hc;subst hd;have hT:∀W,(#[I,g,d,W,os]:Shared).TypeIs (.ref a) T:=λ_=>#[_,U,rfl];have f3:=sl.lookup;have f4:=sl.bind (.ref a);unfold getAttr getAttrBy
 repeat (any_goals (first|assumption|show hT _|((with_reducible show wpAny _ _ (call (Value.builtin Y) _ _) _ _ _);apply fx sl (hT _) en (HJ B (s:=⟨I,g,d,t+1,os⟩) U rfl rfl Z ⟨_,rfl,?_⟩) (ar _ _))|wp_step))
 have e:(expr&&onTheHeap (Value.builtin Y))=false:=by cases expr<;>rfl
 rw[aw (by rw[e];decide)];unfold boundAndCalled;apply ae (fb f4 ?_);apply fx sl (hT _) en (HJ B (s:=#[I,g,d,t+1,os]) U rfl rfl Z #[_,rfl,?_]) (ar _ _);show af h
def uP (Y:s.heap.get? a=some o)(W:o.cls=.type "dict")(hd:o.dict=none)(Z:∀c,o.data≠.cls c)(h:Q (.ref s.heap.objs.size) {s with heap:=s.heap.push (mL "dict.get" a),toks:=s.toks+1}) :
  wpAny (model prog w) A (getAttr (.ref a) "get" expr) Q E s:=
 n6 KG PySem.F.slot_dict_getattribute am_entry_dict_getattribute PySem.F.args_dict_getattribute_2 Y W hd Z h
def entry_set_ga:entryFor table "set.__getattribute__"=some Builtin.«object.__getattribute__»:=
 lL (id':="object.__getattribute__") (by kernel_rfl) (by first|rfl|decide +kernel) (by decide +kernel) (by kernel_rfl)
def uO (Y:s.heap.get? a=some o)(W:o.cls=.type "set")(hd:o.dict=none)(Z:∀c,o.data≠.cls c)(h:Q (.ref s.heap.objs.size) {s with heap:=s.heap.push (mL "set.__contains__" a),toks:=s.toks+1}) :
  wpAny (model prog w) A (getAttr (.ref a) "__contains__" expr) Q E s:=
 n6 KD PySem.F.slot_set_getattribute entry_set_ga PySem.F.args_set_getattribute_2 Y W hd Z h
def vF {pos:Pos}{u:Addr}{first:List Value}{args:List (Bool×Sem Value)}(Z:args.any (·.1)=false)(U:o.cls=.type "builtin_function_or_method")(W:o.data=.fields #v[.builtin id,.ref a])
  (h:wpAny (model prog w) A (evalArgs (.ref u) true args []) (λx s₁=>s₁.heap.get? u=some o/\wpAny (model prog w) A (call (.ref u) (first++x.pos) x.kw) Q E s₁) E s):wpAny (model prog w) A (callWith pos (.ref u) first args []) Q E s:=by
 unfold callWith;apply ae (cm (cg h (λx s₁ h₁=>ae (gj ?_)) λ_ _ x=>x));have#[B,Y]:=h₁;simp -iota only[Z,List.any_nil,we];apply ae (m:=keeperOf (.ref u)) ?_;unfold keeperOf;apply ae (yu B ?_);simp -iota only[U,W,show(Value.type "builtin_function_or_method" != Value.type "method")=true by decide,show(Value.type "builtin_function_or_method" == Value.type "builtin_function_or_method" ||Value.type "builtin_function_or_method" == Value.type "method-wrapper")=true by decide,yj];apply af ?_;show ae (cg Y (λr s₂ I=>ae (cm (wpAny_point (af I)))) λ_ _ x=>x)
def K6 {u:Addr}{b:Builtin}{args:List Value}(B:s.heap.get? u=some o)(Y:o.cls=.type "builtin_function_or_method")(Z:o.data=.fields #v[.builtin id,.ref a])
  (W:∀(A:Around) (E:QqV) (Q:Unit->Shared->Prop),Q () s->wpAny (model prog w) A (checkBoundCall id #[.ref a::args,[]]) Q E s) (I:id.startsWith "lifetime."=false) (he:entryFor table id=some b)
  (h:∀A':Around,wpAny (model prog w) A' (b #[.ref a::args,[]]) (λfin s'=>∃v,fin=.done (.ret v)/\Q v s') E s):wpAny (model prog w) A (call (.ref u) args) Q E s:=by
 apply qd (uf ?_);show wpAny _ A.in1 (callAny (.ref u) #[args,[]]) _ _ s;simp -iota only[callAny];apply ae (yu B ?_);simp -iota only[Y,Z,show(Value.type "builtin_function_or_method" == Value.type "method" ||Value.type "builtin_function_or_method" == Value.type "builtin_function_or_method" ||Value.type "builtin_function_or_method" == Value.type "method-wrapper")=true by decide,yj];show wpAny _ _ (do checkBoundCall id #[.ref a::args,[]];again (.builtin id #[.ref a::args,[]])) _ _ s;apply ae (W _ _ _ (af #[lS _ I,yr he ?_]));apply cg (h _) (λfin s' h'=>?_) λ_ _ x=>x;have#[v,rfl,U]:=h';show U
def JX (a b c:Value):(match Manifest.signature? "dict.get" with|some Z=>Bind.checkArgs "dict.get" {Z with full:=s!"{Bind.lastOf "dict"}.{Bind.lastOf "dict.get"}" } #[[a,b,c],[]]|none=>pure ())=pure ():=by
 rw[nR (id:="dict.get") (n:=['t','e','g']) (o:=['t','c','i','d']) (by kernel_rfl) PySem.F.owner_dict];kernel_rfl
def JW (a b:Value):(match Manifest.signature? "set.__contains__" with|some Z=>Bind.checkArgs "set.__contains__" {Z with full:=s!"{Bind.lastOf "set"}.{Bind.lastOf "set.__contains__"}" } #[[a,b],[]]|none=>pure ())=pure ():=by
 rw[nR (id:="set.__contains__") (n:=['_','_','s','n','i','a','t','n','o','c','_','_']) (o:=['t','e','s']) (by kernel_rfl) PySem.F.owner_set];kernel_rfl
def yA {rest:List Value}{Q:Unit->Shared->Prop}(B:s.heap.get? a=some o)(hc:o.cls=.type T)(W:∀c,o.data≠.cls c)(hk:builtinKind id=some .method)(hm:isSubtype (.type T) (.type "module")=pure false)(hv:Manifest.varargsMethods.contains id=false)
  (U:(match Manifest.signature? id with|some Z=>Bind.checkArgs id {Z with full:=s!"{Bind.lastOf T}.{Bind.lastOf id}" } #[.ref a::rest,[]]|none=>pure ())=pure ()) (h:Q () s):wpAny (model prog w) A (checkBoundCall id #[.ref a::rest,[]]) Q E s:=by
 have hT:s.TypeIs (.ref a) T:=#[_,B,hc];unfold checkBoundCall;cases hsig:Manifest.signature? id with
 |none=>show af h
 |some Z =>
  rw[hsig]at U;dsimp only at U ⊢;rw[hk];dsimp only;rw[aw (by decide)];unfold isInstance;apply ae (ae (jX hT ?_));apply fb hm ?_;rw[hv,aw (by decide)];have Y:∀I:Bool->Shared->Prop,I false s->wpAny (model prog w) A (isType (.ref a)) I E s:=λI q=>by
   unfold isType loadHead;apply ae (lJ B (af ?_));split
   ·rename_i c e;show absurd e (W c)
   ·show q
  apply ae (Y _ ?_);rw[aw (by decide)];apply ae (jX hT ?_);show fb U h
def EJ:builtinKind "dict.get"=some .method:=by kernel_rfl
def EI:builtinKind "set.__contains__"=some .method:=by kernel_rfl
def QR:isSubtype (.type "dict") (.type "module")=pure false:=by rw[jh];kernel_rfl
def QQ:isSubtype (.type "set") (.type "module")=pure false:=by rw[jh];kernel_rfl
def LB:Manifest.varargsMethods.contains "dict.get"=false:=by decide +kernel
def L9:Manifest.varargsMethods.contains "set.__contains__"=false:=by decide +kernel
def OI {x y:Value}{Q:Unit->Shared->Prop}(Y:s.heap.get? a=some o)(W:o.cls=.type "dict")(Z:∀c,o.data≠.cls c)(h:Q () s):wpAny (model prog w) A (checkBoundCall "dict.get" #[[.ref a,x,y],[]]) Q E s:=
 yA Y W Z EJ QR LB (JX _ _ _) h
def OH {x:Value}{Q:Unit->Shared->Prop}(Y:s.heap.get? a=some o)(W:o.cls=.type "set")(Z:∀c,o.data≠.cls c)(h:Q () s):wpAny (model prog w) A (checkBoundCall "set.__contains__" #[[.ref a,x],[]]) Q E s:=
 yA (T:="set") (id:="set.__contains__") (rest:=[x]) Y W Z EI QQ L9 (JW (.ref a) x) h
end
end MP
end
section
namespace MP
open PySem PyProof.Rows
def z8:plainId "dict.get"=true:=PySem.F.slot_dict_get.plain
def E8:("dict.get":String).startsWith "lifetime."=false:=by decide +kernel
def E7:("set.__contains__":String).startsWith "lifetime."=false:=by decide +kernel
section
variable {prog:Program}{w:World}{A:Around}{E:QqV}{s:Shared}
def F9 {u a:Addr}{id:String}{o:Obj}{b:Builtin}{args:List Value}{S:PySem.Spec}{Q:QqV}(B:s.heap.get? u=some o)(Y:o.cls=.type "builtin_function_or_method")(Z:o.data=.fields #v[.builtin id,.ref a])
  (W:∀(A:Around) (E:QqV) (Q:Unit->Shared->Prop),Q () s->wpAny (model prog w) A (checkBoundCall id #[.ref a::args,[]]) Q E s) (U:id.startsWith "lifetime."=false) (he:entryFor table id=some b) (I:plainId id=true)
  (g:MeetsIn prog w (b #[.ref a::args,[]]) S) (h:S A (wants Q E) s):wpAny (model prog w) A (call (.ref u) args) Q E s:=by
 apply qd (uf ?_);show wpAny _ A.in1 (callAny (.ref u) #[args,[]]) _ _ s;simp -iota only[callAny];apply ae (yu B ?_);simp -iota only[Y,Z,show(Value.type "builtin_function_or_method" == Value.type "method" ||Value.type "builtin_function_or_method" == Value.type "builtin_function_or_method" ||Value.type "builtin_function_or_method" == Value.type "method-wrapper")=true by decide,yj];show wpAny _ _ (do checkBoundCall id #[.ref a::args,[]];again (.builtin id #[.ref a::args,[]])) _ _ s;apply ae (W _ _ _ (af #[lS _ U,yr he ?_]));rw[gN I];show g A (wants Q E) s h
def rC {K:Type}[DecidableEq K]{knd:KeyKind prog w K}{a:Addr}{k:K}{key:Value}{S:K->Bool}{n:Nat}{Q:QqV}(Z:knd.is k key=true)(Y:key.scannable=true)(U:s.heap.SetOf knd a S n)
  (h:Q (.bool (S k)) {s with toks:=s.toks+1}):wpAny (model prog w) A (Builtin.«frozenset.__contains__» #[[.ref a,key],[]]) (λfin s'=>∃v,fin=.done (.ret v)/\Q v s') E s:=by
 unfold Builtin.«frozenset.__contains__» Builtin.Frozenset.oneOther;simp only[List.isEmpty_nil,bind_assoc];unfold Builtin.Frozenset.addrOf Builtin.Frozenset.withSetAsKey setContains;apply ae (af ?_)
 try dsimp only
 apply ae (af ?_)
 try dsimp only
 apply ae (wpAny_tryCatch ?_);apply cm ?_;apply ae (knd.pyHash Z ?_);apply ae (wpAny_setFind_of (s:={s with toks:=s.toks+1}) Z Y U λr W=>?_);apply af ?_;show wpAny _ _ (ret (Value.bool r.isSome)) _ _ _;rw[W];show af #[_,rfl,h]
end
section
variable {pos:Pos}
variable {G:Stc}{C:Cal}{sc:Scope}{d:Nat}
def yT {e:Ex}{x:Expr}(B:fg G C sc d e x)(hb:mu x=true):fg G C sc d (.g e) (.Attribute x "get" pos):=λ_ _ _ _ _ _ _ c h =>
 Attribute_any_ (nj (B c h) λv σ₁ s₁ w q vr r x=>by
  have#[a,rfl,hD,q]:=q;have rfl:=vr;have#[ab,e]:=bt.mp hD;have#[ds,hd,_]:=r.D _ _ e;have Y:=hd.mapOf.noDict a rfl;have#[o,ag,ep,I,hc,W,_]:=id hd;have#[o',Z,U]:=Y;have rfl:=ah (I.symm.trans Z);apply uP I hc.1 U (λc q=>by rw[W]at q;cases q) ?_;apply#[.iE a,σ₁,q,.iE (cf _ rfl) rfl rfl,r.push _,x.to (Evo.push _ _ _ _)]) (by rw[arm_eval_Attribute,eP hb])
def yS {e:Ex}{x:Expr}(I:fg G C sc d e x)(hb:mu x=true):fg G C sc d (.h e) (.Attribute x "__contains__" pos):=λ_ _ _ _ _ _ _ c h =>
 Attribute_any_ (nj (I c h) λv σ₁ s₁ w q vr r x=>by
  have#[a,rfl,hD,q]:=q;have rfl:=vr;have#[ab,e]:=bt.mp hD;have hd:=r.S _ _ e;have#[o',Z,W]:=hd.of.noDict a rfl;have#[o,ag,ep,t,U,B,Y,_]:=id hd;have rfl:=ah (U.symm.trans Z);apply uO U B.1 W (λc q=>by rw[Y]at q;cases q) ?_;apply#[.jC a,σ₁,q,.jC (cf _ rfl) rfl rfl,r.push _,x.to (Evo.push _ _ _ _)]) (by rw[arm_eval_Attribute,eP hb])
def t8 {A:Around}{E:QqV}{s:Shared}{σ:St}{env:Env}{ρ:Fr}{u a:Addr}{id:String}{o:Obj}{es:Exs}{args:List Expr}{P:List V->St->Prop}{Q:QqV}(B:s.heap.get? u=some o)(Y:o.cls=.type "builtin_function_or_method")(Z:o.data=.fields #v[.builtin id,.ref a])(I:noStar args=true)(W:qa G C sc d es args)
  (c:Cx G sc d A env ρ σ s) (h:wh C es ρ σ P)
  (k:∀vs σ₁ s₁ ws,P vs σ₁->VRs G s₁.heap vs ws->Rel G σ₁ s₁.heap->Go [] σ s σ₁ s₁->s₁.heap.get? u=some o->wpAny G.M A (call (.ref u) ws) Q E s₁) :
  wpAny G.M A (callWith pos (.ref u) [] (backTo pos (starEach args env)) []) Q E s:=
 vF (o:=o) (jm I pos env) Y Z (ou (jm I pos env) (oN (W c h) λvs σ₁ s₁ ws q vr r x=>by
  have U:=x.frz _ _ B (.inr (.inl #[.inl Y,_,Z]));apply#[U,k vs σ₁ s₁ ws q vr r x U]))
def rX {f:Nat}{es:Exs}{x:Str}{kd:NameKind}{args:List Expr}{p:Pos}(K:GOk G)(LO:qO G C d)(hi:sc.names[f]?=some (x,kd))(hk:isVar kd=true)(hx:jl x=true)(B:qa G C sc d es args)(hs:noStar args=true):fg G C sc d (.w f es) (.Call (.Name x p) args [] pos):=λA E env ρ σ Q s c h=>by
 have#[v,hv,h]:=h;have aj:(x==("__debug__":Str))=false:=by simp only[jl,dw,fh]at hx;show hx.1
 apply Call_ (wpAny_Name (kE c.eo c.F (by rw[c.es];show hi) hk hx hv λw vr=>?_) aj);have no:(∀vs σ,¬TG v vs C 1000 σ Q)->wpAny G.M A (callWith pos w [] (backTo pos (starEach args env)) []) (jg G [] σ s Q) E s:=λaE=>by
  unfold callWith;show ae (cm (ou (jm hs pos env) (oN (B c h) λvs σ₁ s₁ ws q vr r x=>(aE _ _ q).elim)))
 cases v with
 |iE a =>
  have#[q,o,rfl,ho,I,U]:=vr;apply t8 ho I U hs B c h λvs σ₁ s₁ ws Z ab r W hu=>?_;have#[k,dd,rfl,be,kk,e,Y,Z]:=sI (vs:=vs) Z;have#[wa,wb,rfl,va,vb]:=ab.two;have#[ds,hd,ar]:=r.D _ _ e;have#[od,bd,ep,ag,hcd,ai,_]:=id hd;have hl:=ar.look kk;apply F9 hu I U (λA E Q q=>OI ag hcd.1 (λc q=>by rw[ai]at q;cases q) q) E8 PySem.F.entry_dict_get z8 (meets_dict_get_default G.kk _ (key_is Y va) (gT K r (.inr (.inl (by rw[e];rfl)))) _) #[_,hd.mapOf,?_];apply#[_,σ₁,Z,hl.getD vb,r,W.tok]
 |jC a =>
  have#[q,o,rfl,ho,I,U]:=vr;apply t8 ho I U hs B c h λvs σ₁ s₁ ws Z ab r W hu=>?_;have#[k,rfl,ks,kk,e,Y,Z]:=mW (vs:=vs) Z;have#[wa,rfl,va]:=ab.one;have hS:=r.S _ _ e;have#[od,bd,ep,t,ag,hcd,ai,_]:=id hS;apply K6 hu I U (λA E Q q=>OH ag hcd.1 (λc q=>by rw[ai]at q;cases q) q) E7 PySem.entry_set_contains λA'=>?_;apply rC (key_is Y va) (xJ Y va) hS.of ?_;apply#[_,σ₁,Z,.bool _,r,W.tok]
 |clo k cs =>
  have#[a,_,rfl,hk,_]:=vr;have#[#[o,fd,ho,hd],hc]:=LO k cs a hk;show yw ho hd hs B c h λvs σ₁ s₁ ws q vr r x=>x.back (hc c.ao r vr q)
 |_=>show no λ_ _ q=>q
end
end MP
end
section
namespace MP
open PySem PyProof.Rows
def At.grow {h h':Heap}{a:Addr}{o:Obj}(Z:h.get? a=none)(hk:∀b o,h.get? b=some o->h'.get? b=some o)(Y:h'.get? a=some o):At a h h':=
 #[λb o _ e=>hk b o e,#[_,Y],λo e=>by rw[Z]at e;cases e]
section
variable {G:Stc}{C:Cal}{sc:Scope}{d:Nat}
def E6 {X:List Addr}{σ σ₁:St}{s s₁:Shared}{Z:Heap}{dr:Drawn}{tk:Nat}{Q:V->St->Prop}{vs:List V}{ws:List Value}{a n:Nat}(r:Rel G σ₁ s₁.heap)(x:Go X σ s σ₁ s₁)(W:s₁.heap.get? a=none)(hk:∀b o,s₁.heap.get? b=some o->Z.get? b=some o)(B:IsL Z a ws.toArray n)(U:VRs G s₁.heap vs ws)(hz:vs.length<=bp)
  (q:∀c,σ₁.L c=none->Q (.L c) (σ₁.cz c vs)):jg G X σ s Q (.ref a) #[Z,s₁.gens,dr,tk,s₁.os]:=by
 have Y:At a s₁.heap Z:=At.grow W hk B;have hL:σ₁.L a=none:=by
  cases hq:σ₁.L a with
  |none=>rfl
  |some ys=>have#[o,I,_]:=r.vC hq;rw[W]at I;cases I
 apply#[.L _,_,q _ hL,.L _,r.putL Y (λ_=>W) B U hz,x.to (Evo.putL Y (λ_=>W) _)]
def M9 {e:Ex}{x:Str}{y:Expr}{p pos:Pos}(K:GOk G)(he:fg G C sc d e y)(I:noStar [y]=true)(hx:sc.names.lookup x=some .globalImplicit)(hn:jl x=true)(hv:G.gl x=some (.builtin "len")) :
  fg G C sc d (.bf .len %[e|0]) (.Call (.Name x p) [y] [] pos):=λ_ _ _ _ _ _ _ c h=>by
 apply oG K I (jy he md (gb I).1) hx hn hv c h λvs σ₁ s₁ ws q vr r Y=>?_;have#[v,rfl,q]:=mW (vs:=vs) q;have zz:=vr.one;clear vr;have#[w,rfl,va]:=zz;cases v with
 |L a =>
  have rfl:=va;have#[xs,e,q]:=q;have#[us,n,hl,U]:=r.L _ _ e;rw[U.length]at q;show PySem.Calls.call_len_list hl.isList (E9 (qT r e U)) #[_,σ₁,q,.int _ _,r,Y.tok]
 |T xs =>
  have#[a,us,n,rfl,g,rr]:=va;have#[hz,q]:=q;rw[rr.length]at q hz;show PyProof.Rows.len_tuple #[_,g,rfl,_,rfl] (E9 hz) #[_,σ₁,q,.int _ _,r,Y.tok]
 |ro ns =>
  have#[a,us,n,rfl,g,rr]:=va;have#[hz,q]:=q;rw[<- rr.length]at q hz;show PySem.Calls.call_len_list (IsL.isList (r.base _ _ g)) (E9 hz) #[_,σ₁,q,.int _ _,r,Y.tok]
 |dct a =>
  have rfl:=va;have#[ag,e,q]:=q;have#[ds,hd,ab]:=r.D _ _ e;have W:=ab.length;have hz:=r.Dl _ _ e;unfold bp at hz;apply call_len_dict (gT K r (.inr (.inl (by rw[e];rfl)))) hd (fy (.il .L .M) .z .b8 (.k .B .Z) W hz) ?_;rw[W]at q;apply#[_,σ₁,q,.int _ _,r,Y.tok]
 |_=>show False.elim q
def GJ {x:Str}{p pos:Pos}(K:GOk G)(W:sc.names.lookup x=some .globalImplicit)(I:jl x=true)(U:G.gl x=some (.type "set")) :
  fg G C sc d (.bf .set .nil) (.Call (.Name x p) [] [] pos):=λA E env ρ σ Q s c h=>by
 apply xj (P:=λvs σ=>CW .set vs σ Q) K rfl md W I U c h λvs σ₁ s₁ ws q vr r Z=>?_;have#[rfl,q]:=BP (vs:=vs) q;have rfl:=vr;have Y:At s₁.heap.objs.size s₁.heap (s₁.heap.push (DL G)):=At.push s₁.heap;show vE #[.set _,_,q _ r.SH r.freshD,.set _,r.HR Y (λ_=>none_at_size _) (DJ s₁.heap),Z.to (Evo.HR Y (λ_=>none_at_size _) _)]
end
end MP
end
section
namespace MP
open PySem PyProof.Rows
variable {σ:St}{env:Env}{elt target iter:Expr}{gens:List Comprehension}{scope:Scope}{pos:Pos}{depth:Nat}{it acc:Value}{ifs:List Expr}
abbrev Tg.vars:Tg->List Nat
 |.v x=>[x]
 |.T xs=>xs
abbrev Gens.vars:Gens->List Nat
 |.elt _=>[]
 |.cons _ t _ more=>t.vars++more.vars
def oM:∀(xs:List Nat) (vs:List V) (ρ:Fr) (i:Nat),i∉xs->ry xs vs ρ i=ρ i
 | [],_,_,_,_=>rfl
 |_::_,[],_,_,_=>rfl
 |x::xs,v::vs,ρ,i,h=>by
  have h:=tO h;show(oM xs vs _ i h.2).trans (bz h.1)
def AJ {t:Tg}{v:V}{ρ:Fr}{K:Fr->Prop}(h:pe t v σ ρ K):pe t v σ ρ λρ'=>K ρ'/\∀i,i∉t.vars->ρ' i=ρ i:=by
 cases t with
 |v x=>refine#[h,λi Z=>bz (by simpa[Tg.vars] using Z)]
 |T xs =>
  have#[vs,e,Y,h]:=h;apply#[vs,e,Y,h,λi Z=>oM _ _ _ _ Z]
def Rel.TH {G:Stc}{h:Heap}{a:Addr}{xs:List V}{ws:List Value}{n:Nat}(R:Rel G σ h)(hd:¬σ.dom a)(hb:G.hb.get? a=none)(U:IsL h a ws.toArray n)(W:VRs G h xs ws)(hz:xs.length<=bp):Rel G (σ.cz a xs) h:=by
 apply#[λb ys e=>?_,R.D,R.S,R.I,R.Z,λb ys e=>?_,R.Dl,R.inj,R.apart,R.sep,λb d=>?_,R.base]
 ·by_cases Y:b=a
  ·subst Y;simp only[St.cz,bg,fs]at e;subst e;apply#[ws,n,U,W]
  ·simp only[St.cz,bz Y]at e;show R.L b ys e
 ·by_cases Y:b=a
  ·subst Y;simp only[St.cz,bg,fs]at e;show e▸hz
  ·simp only[St.cz,bz Y]at e;show R.Ll b ys e
 ·rcases dJ d with d|rfl
  ·show R.new b d
  ·show hb
inductive CP (G:Stc)(env:Env)(D:Addr)(X:List Addr)(tv:List Nat)(ρ:Fr)(σ:St)(s:Shared)(K:Fr->List V->St->Prop)(s':Shared):Prop
 |mk (ρ':Fr) (acc':List V) (σ':St) (ws:List Value) (n:Nat):K ρ' acc' σ'->FR G σ' env ρ' s'.heap->Rel G σ' s'.heap->IsL s'.heap D ws.toArray n->VRs G s'.heap acc' ws->acc'.length<=bp->¬σ'.dom D->Go (D::X) σ s σ' s'->(∀i,i∉tv->ρ' i=ρ i)->CP G env D X tv ρ σ s K s'
structure eZ (G:Stc)(env:Env)(D:Addr)(σ:St)(h:Heap)(acc:List V):Prop where
 here:∃ws n,IsL h D ws.toArray n/\VRs G h acc ws
 len:acc.length<=bp
 out:¬σ.dom D
 off:D∉envX env
 base:G.hb.get? D=none
def eZ.evo {G:Stc}{D:Addr}{σ':St}{h h':Heap}{acc:List V}{X:List Addr}(a:eZ G env D σ h acc)(x:Evo X σ h σ' h')(W:D∉X):eZ G env D σ' h' acc:=by
 have#[ws,n,Z,Y]:=a.here;apply#[#[ws,n,x.keep _ _ Z a.out W,Y.mono x.frz],a.len,λd=>(x.dom D d).elim a.out λq=>(by rw[show h.get? D=_ from Z]at q;cases q),a.off,a.base]
abbrev vd (elt:Expr)(gens:List Comprehension)(scope:Scope)(pos:Pos)(depth:Nat)(acc:Value)(env:Env):Sem Unit:=
 match gens[depth+1]? with
 |some g'=>eval g'.iter env>>=λx=>standAt g'.iter.pos>>=λ_=>foldedSetIterable g'.iter env x>>=λx=>holding [x] (pyIter x)>>=λi =>
  runOwn (.compStart (.ListComp elt gens scope pos) (depth+1) i acc env) env>>=λ_=>pure ()
 |none=>eval elt env>>=λx=>call (.builtin "list.append") [acc,x]>>=λ_=>pure ()
abbrev tests (ifs:List Expr)(env:Env):Sem Bool:=forIn ifs true λc r=>if r=true then do let ok←isTrue c env (eval c env);pure (ForInStep.yield ok) else pure (ForInStep.yield r)
def y6 (Y:gens[depth]?=some #[target,iter,ifs,0])(Z:∀g',gens[depth+1]?=some g'->g'.is_async=0) :
  compTurn (.ListComp elt gens scope pos) depth it acc env=(standAt iter.pos>>=λ_=>pyNext it>>=λr=>match r with
   |none=>pure (.done .next)
   |some v=>letOwnedTupleGo target it v>>=λ_=>assign target env v>>=λ_=>tests ifs env>>=λok =>
    if ok=true then vd elt gens scope pos depth acc env>>=λ_=>again (.compLoop (.ListComp elt gens scope pos) depth it acc env) else again (.compLoop (.ListComp elt gens scope pos) depth it acc env)):=by
 unfold compTurn;simp only[Y];unfold vd tests;cases hq:gens[depth+1]? with
 |none=>first|rfl|simp
 |some g' =>
  have:=Z g' hq;simp[this]
  congr 1
section
variable {prog:Program}{w:World}{A:Around}{R:Result->Shared->Prop}{s:Shared}
def kZ (Y:gens[depth]?=some #[target,iter,ifs,0])
  (h0:codeAny (model prog w) A (.compLoop (.ListComp elt gens scope pos) depth it acc env) R s)
  (h:wpAny (model prog w) A (pyIter it) (λZ s'=>codeAny (model prog w) A (.compLoop (.ListComp elt gens scope pos) depth Z acc env) R s') (notedBy (model prog w) A env λx s'=>R (.error x) s') s) :
  codeAny (model prog w) A (.compStart (.ListComp elt gens scope pos) depth it acc env) R s:=by
 apply uf ?_;show wpAny _ A ((compStart (.ListComp elt gens scope pos) depth it acc env).onRaise (λx=>do noteFrame x env;standAt theWindowsPlace)) _ _ s;apply wpAny_notedAt ?_;unfold compStart;have e:clausesOf (.ListComp elt gens scope pos)=gens:=rfl;simp only[e,Y];show wpAny _ A (ask>>=_) _ _ s;apply ae (wo (wpAny_ite ?_));split
 ·first
   |show ae (af (af (And.intro rfl h0)))
   |show af (And.intro rfl h0)
 ·show ae (wd (ae (gj (ae (cg h (λZ s' h'=>af (And.intro rfl h')) λ_ _ x=>x)))))
def y7 (hg:gens[depth]?=some #[target,iter,ifs,0])(ai:∀g',gens[depth+1]?=some g'->g'.is_async=0)(I:Nat->Shared->Prop)
  (turn:∀n s,I n s->wpAny (model prog w) A (pyNext it) (λr s₁=>match r with
   |none=>R (.ok .next) s₁
   |some v=>wpAny (model prog w) A (letOwnedTupleGo target it v) (λ_ Y=>wpAny (model prog w) A (assign target env v) (λ_ s₂ =>
     wpAny (model prog w) A (tests ifs env) (λok Z=>if ok=true then wpAny (model prog w) A (vd elt gens scope pos depth acc env) (λ_ W=>∃m,m<n/\I m W) (notedBy (model prog w) A env λe s'=>R (.error e) s') Z else ∃m,m<n/\I m Z)
      (notedBy (model prog w) A env λe s'=>R (.error e) s') s₂) (notedBy (model prog w) A env λe s'=>R (.error e) s') Y) (notedBy (model prog w) A env λe s'=>R (.error e) s') s₁) (notedBy (model prog w) A env λe s'=>R (.error e) s') s)
  (n:Nat) (h:I n s):codeAny (model prog w) A (.compLoop (.ListComp elt gens scope pos) depth it acc env) R s:=by
 apply codeAny_loop rfl I (λn s hI=>?_) n h;show wpAny _ A ((compTurn (.ListComp elt gens scope pos) depth it acc env).onRaise (λx=>do noteFrame x env;theTreesLotGoes x)) _ _ s;apply wpAny_noted ?_;rw[y6 hg ai];apply ae (gj (ae (cg (turn n s hI) (λr s₁ h₁=>?_) λ_ _ h'=>h')));cases r with
 |none=>show af h₁
 |some v =>
  apply ae (cg h₁ (λ_ Y B=>ae (cg B (λ_ s₂ ag=>ae (cg ag (λok Z U=>?_) λ_ _ h'=>h')) λ_ _ h'=>h')) λ_ _ h'=>h');cases ok with
  |false=>show af #[rfl,U]
  |true=>show ae (cg U (λ_ W ab=>af #[rfl,ab]) λ_ _ h'=>h')
end
section
variable {A:Around}{s s₀:Shared}{cs:Exs}{elt target:Expr}{gens:List Comprehension}{scope:Scope}{pos:Pos}{depth:Nat}{env:Env}{σ₀ σ:St}{D:Addr}{X:List Addr}{ρ:Fr}{K:Fr->List V->St->Prop}{acc:List V}{t:Tg}{more:Gens}{ifs:List Expr}
variable {G:Stc}{C:Cal}{sc:Scope}{d:Nat}
abbrev sr (G:Stc)(C:Cal)(sc:Scope)(d:Nat)(cs:Exs)(ifs:List Expr):Prop:=
 ∀⦃A E env ρ σ Q s⦄,Cx G sc d A env ρ σ s->dX C cs ρ σ Q->wpAny G.M A (tests ifs env) (kz G [] σ s Q) E s
def mR {E:QqV}{env:Env}{Q:Bool->Shared->Prop}(f:Expr->Bool->Sem (ForInStep Bool))(Z:∀c,f c false=pure (.yield false))(h:Q false s):∀ifs:List Expr,wpAny G.M A (forIn ifs false f) Q E s
 | []=>by rw[og];show af h
 |c::r=>by
  rw[pj,Z];show ae (af (mR (env:=env) f Z h r))
def EZ:sr G C sc d .nil []:=λ_ _ _ _ _ _ _ c h=>by
 unfold tests;rw[og];show af (kz.here h c.R)
def AA {c:Ex}{x:Expr}{xs:List Expr}(Y:tu G C sc d c x)(Z:sr G C sc d cs xs):sr G C sc d (.cons c cs) (x::xs):=λA E env ρ σ Q s c h=>by
 unfold tests;rw[pj];rw[br rfl];apply ae (ae (rG (Y c h) λb σ₁ s₁ q r x=>af ?_));cases b with
 |true=>show x.yD (Z (c.go r x) q)
 |false=>show mR (env:=env) _ (λc=>by simp) (kz.back x (kz.here q r)) xs
structure XOk (env:Env)(X:List Addr)(gens:List Comprehension):Prop where
 loc:env.locals∈X
 cells:∀g∈gens,∀y∈kB g.target,∀c,env.cells.lookup y=some c->c∈X
 sub:∀b∈X,b∈envX env
abbrev ue (G:Stc)(C:Cal)(sc:Scope)(d:Nat)(more:Gens)(elt:Expr)(gens:List Comprehension)(scope:Scope)(pos:Pos)(depth:Nat):Prop:=
 ∀⦃A E env ρ σ acc K s D X⦄,XOk env X gens->Cx G sc d A env ρ σ s->eZ G env D σ s.heap acc ->
  j8 C more ρ acc σ K->wpAny G.M A (vd elt gens scope pos depth (.ref D) env) (λ_ s'=>CP G env D X more.vars ρ σ s K s') E s
def FI {e:Ex}(he:fg G C sc d e elt)(hg:gens[depth+1]?=none):ue G C sc d (.elt e) elt gens scope pos depth:=λA E env ρ σ acc K s D X xo c a h=>by
 unfold vd;rw[hg];apply ae (nj (he c h) λv σ₁ s₁ w q vr r x=>?_);have Z:=a.evo x.e (by simp);have#[ws,n,I,hv]:=Z.here;have Y:=hv.length;have hz:=q.1;apply ae (call_meets jY #[_,I,rfl] PySem.F.entry_list_append (PySem.F.args_list_append_2 _ _) (list_append _ _ _ _ (by simp only[cv];rw[<- Y];show pn (ax .A .a .B q.1))) #[I,af ?_]);have hu:=I.update (λx=>x.push w);have e2:ws.toArray.push w=(ws++[w]).toArray:=by simp
 rw[e2]at hu;have U:Heap.SameBut D s₁.heap (s₁.heap.update D (Obj.mapSeq λx=>x.push w)):=gu ..;have W:je s₁.heap (s₁.heap.update D (Obj.mapSeq λx=>x.push w)):=vq U λo eo=>by
  have rfl:=ah (eo.symm.trans I);show za rfl rfl
 have hk:∀b o,b∉[D]->s₁.heap.get? b=some o->(s₁.heap.update D (Obj.mapSeq λx=>x.push w)).get? b=some o:=λb o hb e=>by rw[U.2 b (λq=>hb (q▸.head _))];show e
 apply#[ρ,acc++[v],σ₁,ws++[w],_,q.2,(c.F.evo x.e).but hk W (λb hb=>by have rfl:=aq.mp hb;show a.off),r.frame (o':=default) U Z.out a.base W,hu,(hv.mono W).append %[vr.mono W|0],by simp;(show ax .F .a .B q.1),Z.out,?_,λ_ _=>rfl];show(x.more λ_ h=>nomatch h).to (Evo.frame U hu (.head _) W)
abbrev rT (C:Cal)(t:Tg)(cs:Exs)(more:Gens)(v:V)(ρ:Fr)(acc:List V)(σ:St)(K:Fr->List V->St->Prop):Prop:=pe t v σ ρ λρ'=>dX C cs ρ' σ λok σ=>if ok then j8 C more ρ' acc σ K else K ρ' acc σ
inductive nA (I:Itr G)(env:Env)(σ₀:St)(s₀:Shared)(D:Addr)(X:List Addr)(vs:List Nat)(ρ:Fr)(T:V->Fr->List V->St->(Fr->List V->St->Prop)->Prop)(K:Fr->List V->St->Prop)(n:Nat)(s':Shared):Prop
 |mk (i:Nat) (σ':St) (ρ':Fr) (acc':List V):n=I.vs.length-i->I.pos i s'.heap->FR G σ' env ρ' s'.heap->Rel G σ' s'.heap->eZ G env D σ' s'.heap acc'->Go (D::X) σ₀ s₀ σ' s'->(∀b∈I.own,¬σ'.dom b)->(∀j,j∉vs->ρ' j=ρ j)->nN (I.vs.drop i) I.Gd T ρ' acc' σ' K->nA I env σ₀ s₀ D X vs ρ T K n s'
def nA.next {I:Itr G}{s':Shared}{vs:List Nat}{T:V->Fr->List V->St->(Fr->List V->St->Prop)->Prop}{i:Nat}{σ':St}{ρ':Fr}{Z:List V}(lt:i<I.vs.length)(Y:I.pos (i+1) s'.heap)(F:FR G σ' env ρ' s'.heap)(R:Rel G σ' s'.heap)(a:eZ G env D σ' s'.heap Z)(x:Go (D::X) σ₀ s₀ σ' s')(hd:∀b∈I.own,¬σ'.dom b)(W:∀j,j∉vs->ρ' j=ρ j)(q:nN (I.vs.drop (i+1)) I.Gd T ρ' Z σ' K) :
  ∃m,m<I.vs.length-i/\nA I env σ₀ s₀ D X vs ρ T K m s':=#[_,by show dj .B .d .cQ .bJ (aa (ax .F .a .B lt)) (aa (ax .A .a .B lt)),i+1,σ',ρ',Z,rfl,Y,F,R,a,x,hd,W,q]
def eZ.kept {h h':Heap}{own:List Addr}(a:eZ G env D σ h acc)(W:D∉own)(hk:∀b o,b∉own->h.get? b=some o->h'.get? b=some o)(U:je h h'):eZ G env D σ h' acc:=by
 have#[ws,m,Y,Z]:=a.here;apply#[#[ws,m,hk _ _ W Y,Z.mono U],a.len,a.out,a.off,a.base]
def QO (ht:wm G C sc d t target)(dz:sr G C sc d cs ifs)(dL:ue G C sc d more elt gens scope pos depth)
  {E:QqV} {Z:Fr} {i:Nat} {I:Itr G} {v:V} {w:Value} (xo:XOk env X gens) (cd:∀y∈kB target,∀c,env.cells.lookup y=some c->c∈X) (c:Cx G sc d A env ρ σ s)
  (hX:∀b∈I.own,b∉envX env) (hD:D∉I.own) (lt:i<I.vs.length) (a:eZ G env D σ s.heap acc) (x0:Go (D::X) σ₀ s₀ σ s) (hp:I.pos (i+1) s.heap) (hd:∀b∈I.own,¬σ.dom b) (ag:∀j,j∉t.vars++more.vars->ρ j=Z j) (vr:VR G s.heap v w)
  (hf:rT C t cs more v ρ acc σ λρ acc σ=>nN (I.vs.drop (i+1)) I.Gd (rT C t cs more) ρ acc σ K) :
  wpAny G.M A (assign target env w) (λ_ s₂=>wpAny G.M A (tests ifs env) (λok B=>if ok=true then wpAny G.M A (vd elt gens scope pos depth (.ref D) env) (λ_ U=>∃m,m<I.vs.length-i/\nA I env σ₀ s₀ D X (t.vars++more.vars) Z (rT C t cs more) K m U) E B
   else ∃m,m<I.vs.length-i/\nA I env σ₀ s₀ D X (t.vars++more.vars) Z (rT C t cs more) K m B) E s₂) E s:=by
 have ar:∀c∈I.own,c∉X:=λc hc q=>hX c hc (xo.sub c q);apply cg (ht xo.loc cd c vr (AJ hf)) (λ_ B l=>?_) λ_ _ x=>x;have#[bn,#[ck,ai],be,df,W]:=l;have#[dy,cx]:=I.GD ar hp hd W.e;have a3:=a.evo W.e λq=>a.off (xo.sub D q);apply rG (dz (c.at be df) ck) λok bl U ao bd Y=>?_;have#[cn,aE]:=I.GD (λc _=>lq) dy cx Y.e;have a4:=a3.evo Y.e lq;have F4:=be.evo Y.e;have x5:Go (D::X) σ₀ s₀ bl U:=(x0.trans (W.more λb hb=>.tail _ hb)).trans (Y.more λ_ h=>nomatch h);have da:∀j,j∉t.vars++more.vars->bn j=Z j:=λj hj=>(ai j (λq=>hj (dq _ q))).trans (ag j hj);cases ok with
 |false =>
  rw[aw sg];show nA.next lt cn F4 bd a4 x5 aE da ao
 |true =>
  rw[br rfl];apply cg (dL xo (c.at F4 bd) a4 ao) (λ_ dV l=>?_) λ_ _ x=>x;have#[dv,dn,dr,bu,cl,ch,dm,dc,cb,ca,bv,cc,aj,ab]:=l;have#[dx,ct]:=I.GD (λc hc q=>(bw.mp q).elim (λe=>by rw[e]at hc;show hD hc) (ar c hc)) cn aE aj.e;show nA.next lt dx dm dc #[#[bu,cl,cb,ca],bv,cc,a.off,a.base] (x5.trans aj) ct (λj hj=>(ab j (λq=>hj (ew _ q))).trans (da j hj)) ch
def PW {iter:Expr}(ht:wm G C sc d t target)(bn:sr G C sc d cs ifs)(bu:ue G C sc d more elt gens scope pos depth)(hg:gens[depth]?=some #[target,iter,ifs,0])(bl:∀g',gens[depth+1]?=some g'->g'.is_async=0)
  {R:Result->Shared->Prop} (I:Itr G) (hI:I.tup=true->isTup target=true) (xo:XOk env X gens) (c:Cx G sc d A env ρ σ s) (a:eZ G env D σ s.heap acc)
  (hp:I.pos 0 s.heap) (ai:Go (D::X) σ₀ s₀ σ s) (ab:∀b∈I.own,s₀.heap.get? b=none) (hX:∀b∈I.own,b∉envX env) (bd:∀b∈I.own,¬σ.dom b) (hD:D∉I.own) (B:∀b∈I.own,G.hb.get? b=none)
  (hf:nN I.vs I.Gd (rT C t cs more) ρ acc σ K)
  (hR:∀s',CP G env D X (t.vars++more.vars) ρ σ₀ s₀ K s'->R (.ok .next) s') :
  codeAny G.M A (.compLoop (.ListComp elt gens scope pos) depth (.ref I.it) (.ref D) env) R s:=by
 apply y7 hg bl (nA I env σ₀ s₀ D X (t.vars++more.vars) ρ (rT C t cs more) K) ?_ (I.vs.length-0)
  #[0,σ,ρ,acc,rfl,hp,c.F,c.R,a,ai,bd,λ_ _=>rfl,hf]
 intro n s' zz;have#[i,σ',ρ',ar,rfl,Y,F',R',a',x',U,aj,W]:=zz;cases hq:I.vs[i]? with
 |none =>
  rw[List.drop_eq_nil_of_le (kx.mp hq)]at W;apply I.stop A _ s' σ' i _ c.ao.handled R' W.1 Y hq λs2 g=>?_;have#[Z,g2]:=g;have fz:=I.frz Y Z;have#[ws,m,hl,hv]:=(a'.kept hD Z fz).here;show hR _ #[ρ',ar,σ',ws,m,W.2,F'.but Z fz hX,I.rel Y R' U B Z,hl,hv,a'.len,a'.out,x'.but Z g2 ab,aj]
 |some v =>
  have#[be,ag]:=CC hq;rw[ag]at W;apply cg (I.next A _ s' σ' i v target ?Q c.ao.handled R' W.1 Y hq (λq=>xK (hI q)) ?k) (λr s₁ hr=>?m) λ_ _ x=>x
  case m =>
   cases r with
   |none=>show hr.elim
   |some w=>show hr
  case k =>
   intro w s2 g z;have#[Z,g2]:=g;have fz:=I.frz Y Z;have#[vr,aE]:=z fz;show QO ht bn bu xo (xo.cells _ (cw hg)) (c.at (F'.but Z fz hX) (I.rel Y R' U B Z)) hX hD be (a'.kept hD Z fz) (x'.but Z g2 ab) aE U aj vr W.2
def AO {it:It}{iter:Expr}(hit:dQ G C sc d (isTup target) it iter)(ht:wm G C sc d t target)(ag:sr G C sc d cs ifs)(ai:ue G C sc d more elt gens scope pos (depth+1))
  (hg:gens[depth+1]?=some #[target,iter,ifs,0]) (ab:∀g',gens[depth+1+1]?=some g'->g'.is_async=0) (hs:∀env v,foldedSetIterable iter env v=pure v):ue G C sc d (.cons it t cs more) elt gens scope pos depth:=λA E env ρ σ acc K s D X xo c a h=>by
 unfold vd;rw[hg];apply ae (cg (hit c h) (λv s₁ h₁=>?_) λ_ _ x=>x);apply ae (gj (ae (fb (hs env v) (ae (cm (cg h₁ (λitv s₂ l=>?_) λ_ _ x=>x))))));have#[I,σ₁,rfl,U,hf,hp,r,Y,Z,B]:=l;have hD:D∉I.own:=λq=>by
  have#[ws,n,hl,_]:=a.here;have:=Z D q;rw[show s.heap.get? D=_ from hl]at this;cases this
 have W:Go (D::X) σ s σ₁ s₂:=Y.more λ_ h=>nomatch h;have loop:∀{R':Result->Shared->Prop},(∀s',CP G env D X (t.vars++more.vars) ρ σ s K s'->R' (.ok .next) s')->codeAny G.M A (.compLoop (.ListComp elt gens scope pos) (depth+1) (.ref I.it) (.ref D) env) R' s₂:=λhR =>
  PW ht ag ai hg ab I U xo (c.go r Y) (a.evo Y.e (by simp)) hp W Z (u4 c.F Z) B hD (fP c.R Z) hf hR
 apply ae (wpAny_runOwn (kZ hg (loop λs' l=>af l) (I.self _ _ _ _ _ hp (loop λs' l=>af l))))
end
end MP
end
section
set_option tactic.hygienic true
namespace MP
open PySem PyProof.Rows
variable {env:Env}{scope:Scope}{fv:List (Nat×Nat)}{σ:St}{it:It}{t:Tg}{cs:Exs}{more:Gens}{elt target iter:Expr}{ifs:List Expr}{rest:List Comprehension}{pos:Pos}
abbrev oz (cells:List (Str×Addr)):List (Str×NameKind)->List (Str×Addr)->List (Str×Addr)
 | [],acc=>acc
 |(n,k)::r,acc=>if k==.free then oz cells r ((n,(cells.lookup n).getD 0)::acc) else oz cells r acc
def fV (f:Str×NameKind->List (Str×Addr)->Sem (ForInStep (List (Str×Addr))))
  (Y:∀n k cs,f (n,k) cs=if k==.free then (do let c←cellOf env n;pure (.yield ((n,c)::cs))) else pure (.yield cs)) :
  ∀(names:List (Str×NameKind)) (acc:List (Str×Addr)),(∀n,(n,NameKind.free)∈names->(env.cells.lookup n).isSome=true)->forIn names acc f=pure (oz env.cells names acc)
 | []=>λacc _=>by rw[og];rfl
 |(n,k)::r=>λacc h=>by
  have Z:=λacc=>fV f Y r acc λm U=>h m (.tail _ U);rw[pj,Y];dsimp only[oz];split
  ·rename_i hk;rw[wq]at hk;subst hk;have#[c,W]:=bt.mp (h n (.head _));have e:cellOf env n=pure c:=by unfold cellOf;rw[W]
   rw[e,W];show Z _
  ·show Z acc
def iU (h:∀n,(n,NameKind.free)∈scope.names->(env.cells.lookup n).isSome=true):closureFor scope env=pure (oz env.cells scope.names []):=by
 have e:closureFor scope env=(forIn scope.names [] (λ(x:Str×NameKind) (cs:List (Str×Addr))=>if x.2==.free then (do let c←cellOf env x.1;pure (ForInStep.yield ((x.1,c)::cs))) else pure (ForInStep.yield cs))>>=λcs=>pure cs):=by
  unfold closureFor
  first|rfl|simp
 rw[e,fV _ (λn k cs=>rfl) scope.names [] h];rfl
def dK (cells:List (Str×Addr)):∀(names:List (Str×NameKind)) (acc:List (Str×Addr)),oz cells names acc=oz cells names []++acc
 | []=>λ_=>rfl
 |(n,k)::r=>λacc=>by
  dsimp only[oz];split
  ·rw[dK cells r ((n,(cells.lookup n).getD 0)::acc),dK cells r [(n,(cells.lookup n).getD 0)]];simp
  ·show dK cells r acc
def rt (cells:List (Str×Addr)):∀(names:List (Str×NameKind)) (x:Str) (c:Addr),(x,c)∈oz cells names []->(x,NameKind.free)∈names/\c=(cells.lookup x).getD 0
 | []=>λ_ _ h=>nomatch h
 |(n,k)::r=>λx c h=>by
  dsimp only[oz]at h;split at h
  ·rename_i hk;rw[dK]at h;rcases cy.mp h with h|h
   ·apply#[.tail _ (rt cells r x c h).1,(rt cells r x c h).2]
   ·have#[rfl,rfl]:=rv (aq.mp h);rw[wq]at hk;subst hk;apply#[.head _,rfl]
  ·apply#[.tail _ (rt cells r x c h).1,(rt cells r x c h).2]
def mJ (cells:List (Str×Addr)):∀(names:List (Str×NameKind)) (x:Str),(x,NameKind.free)∈names->(x,(cells.lookup x).getD 0)∈oz cells names []
 | []=>λ_ h=>by cases h
 |(n,k)::r=>λx h=>by
  dsimp only[oz];split
  ·rw[dK];rcases bw.mp h with e|h
   ·have#[rfl,_]:=rv e;show ew _ (.head _)
   ·show dq _ (mJ cells r x h)
  ·rename_i hk;rcases bw.mp h with e|h
   ·have#[_,rfl]:=rv e;simp at hk
   ·show mJ cells r x h
def eK {cells:List (Str×Addr)}{names:List (Str×NameKind)}{x:Str}(h:(x,NameKind.free)∈names):(oz cells names []).lookup x=some ((cells.lookup x).getD 0):=by
 have#[c,Z]:=tg (mJ cells names x h);rw[Z];rw[(rt cells names x c (mem_of_lookup Z)).2]
abbrev si (scope sc:Scope):Scope:=
 {scope with names:=scope.names.map λ(n,k)=>if (k==.free&&sc.kind==.function&&sc.names.lookup n==some .cell) then (n,.cell) else (n,k)}
def HL:relabel scope env=si scope env.scope:=rfl
abbrev u9 (sc:Scope)(fv:List (Nat×Nat))(i:Nat):Str×NameKind->Bool
 |(x,.free)=>match fv.lookup i with
  |some j=>match sc.names[j]? with
   |some (y,k)=>x==y&&(k==.cell||k==.free)
   |none=>false
  |none=>false
 |(_,_)=>(fv.lookup i).isNone
abbrev uA (sc:Scope)(fv:List (Nat×Nat)):Nat->List (Str×NameKind)->Bool
 |_,[]=>true
 |i,p::r=>u9 sc fv i p&&uA sc fv (i+1) r
def u7 {sc:Scope}:∀{names:List (Str×NameKind)} {i:Nat},uA sc fv i names=true->∀(j:Nat) (p:Str×NameKind),names[j]?=some p->u9 sc fv (i+j) p=true
 | [],_,_,j,p,e=>by simp at e
 |q::r,i,h,0,p,e=>by
  dsimp only[uA]at h;simp only[dw]at h;simp at e;subst e;show h.1
 |q::r,i,h,j+1,p,e=>by
  dsimp only[uA]at h;simp only[dw]at h;have:=u7 h.2 j p (by simpa using e);rw[show i+(j+1)=i+1+j by(show fE .c7 .n)];show this
abbrev ownIn (scope:Scope)(y:Str):Bool:=match scope.names.lookup y with
 |some .local=>true
 |some .cell=>true
 |_=>false
abbrev u6 (scope:Scope)(gens:List Comprehension):Bool:=gens.all λg=>(kB g.target).all (ownIn scope)
def Evo.adopt {X:List Addr}{σ':St}{h h':Heap}{D:Addr}(xs:List V)(x:Evo X σ h σ' h')(Z:h.get? D=none):Evo X σ h (σ'.cz D xs) h':=
 #[x.keep,x.frz,λb d=>(dJ d).elim (x.dom b) λe=>.inr (e▸Z),x.there]
section
variable {G:Stc}{C:Cal}{sc:Scope}{d:Nat}
def JV {ρ:Fr}{h:Heap}(F:FR G σ env ρ h)(es:env.scope=sc)(nd:(scope.names.map (·.1)).Nodup)(Z:uA sc fv 0 scope.names=true) :
  (∀n,(n,NameKind.free)∈scope.names->(env.cells.lookup n).isSome=true)/\L3 G σ h scope.names (oz env.cells scope.names []) (jR fv ρ):=by
 have ab:∀(i:Nat) (x:Str),scope.names[i]?=some (x,.free)->∃j k,fv.lookup i=some j/\env.scope.names[j]?=some (x,k)/\(k=.cell\/k=.free):=λi x e=>by
  have:=u7 Z i _ e;rw[nk]at this;simp only[u9]at this;split at this
  ·rename_i j hj;split at this
   ·rename_i y k hy;simp only[dw,wq,sy]at this;apply#[j,k,hj,by rw[es,hy,this.1],this.2]
   ·cases this
  ·cases this
 have cellAt:∀(i:Nat) (x:Str),scope.names[i]?=some (x,.free)->∃j k c w,fv.lookup i=some j/\env.scope.names[j]?=some (x,k)/\(k=.cell\/k=.free)/\env.cells.lookup x=some c/\h.IsCell c w/\OV G h (ρ j) w/\¬σ.dom c/\c≠env.locals/\(G.cap x=false->G.hb.get? c=none):=λi x e=>by
  have#[j,k,h1,h2,h3]:=ab i x e;have#[c,w,g1,g2,g3,g4,g5,g6]:=F.cells j x k h2 h3;apply#[j,k,c,w,h1,h2,h3,g1,g2,g3,g4,g5,g6]
 have idx:∀n,(n,NameKind.free)∈scope.names->∃i:Nat,scope.names[i]?=some (n,NameKind.free):=λn I=>List.getElem?_of_mem I;apply#[λn I=>?_,#[λi x e=>?_,λi j x y c ei ej lx ly=>?_,λp hp=>?_,λi x k e hk=>?_]]
 ·have#[i,e]:=idx n I;have#[j,k,c,w,_,_,_,Y,_]:=cellAt i n e;rw[Y];rfl
 ·have#[j,k,c,w,h1,h2,h3,g1,g2,g3,g4,g5,g6]:=cellAt i x e;apply#[c,w,by rw[eK (cw e),g1];rfl,g2,?_,g4,g6];unfold jR;rw[h1];show g3
 ·have#[a,ka,ca,wa,a1,a2,a3,a4,_]:=cellAt i x ei;have#[b,kb,cb,wb,b1,b2,b3,b4,_]:=cellAt j y ej;rw[eK (cw ei),a4]at lx;rw[eK (cw ej),b4]at ly;have U:ca=c:=by simpa using lx
  have W:cb=c:=by simpa using ly
  have B:=F.inj a b x y ka kb c a2 b2 a3 b3 (U▸a4) (W▸b4);subst B;rw[a2]at b2;have#[rfl,_]:=rv (ah b2);show kK nd ei ej
 ·have#[hm,Y]:=rt _ _ p.1 p.2 hp;have#[i,e]:=idx _ hm;have#[j,k,c,w,_,_,_,g1,#[o,ho,_],_]:=cellAt i _ e;rw[g1]at Y;apply#[o,by rw[Y];show ho]
 ·have:=u7 Z i _ e;rw[nk]at this;unfold jR;cases k<;>first|show absurd rfl hk|(simp only[u9,uv]at this;rw[this];rfl)
abbrev uz (scope:Scope)(env:Env)(cells:List (Str×Addr))(L:Addr):Env:=
 {scope:=relabel scope env,locals:=L,globals:=env.globals,cells:=cells,qual:=env.qual,func:=none,code:=env.code,frame:=env.frame,builtins:=env.builtins}
def y5 {p0:Pos}{use:Option (Value->Sem Unit)}(hit:dQ G C sc d (isTup target) it iter)(ht:wm G C (si scope sc) d t target)(eb:sr G C (si scope sc) d cs ifs)
  (ed:ue G C (si scope sc) d more elt (#[target,iter,ifs,0]::rest) scope pos 0) (hs:∀env v,foldedSetIterable iter env v=pure v) (bl:scope.kind=.function) (nd:(scope.names.map (·.1)).Nodup) (dc:uA sc fv 0 scope.names=true) (dV:u6 scope (#[target,iter,ifs,0]::rest)=true) (dn:∀g'∈rest,g'.is_async=0)
  {A:Around} {E:QqV} {env:Env} {ρ:Fr} {Q:V->St->Prop} {s:Shared} {P:QqV} (cx:Cx G sc d A env ρ σ s) (h:wpE C (.K fv it t cs more) ρ σ Q)
  (hP:∀(v:V) (σ':St) (s':Shared) (w:Value) (L:Addr),Q v σ'->VR G s'.heap v w->Rel G σ' s'.heap->Go [] σ s σ' s'->s.heap.get? L=none->¬σ'.dom L->(∃m,s'.heap.Ns L m)->compPost G.M A E use P w L (.ok .next) s') :
  wpAny G.M A (comprehension (.ListComp elt (#[target,iter,ifs,0]::rest) scope pos) scope env p0 (newList []) false (eval iter env) use) P E s:=by
 have#[U,_]:=JV cx.F cx.es nd dc;apply wpAny_comprehension_free rfl (hs env) (iU U) bl (λx hx hl=>?_) (cg (hit cx h) (λv s₁ h₁=>cg h₁ (λitv s₂ l=>?_) λ_ _ x=>x) λ_ _ x=>x)
 ·have#[i,e]:=List.getElem?_of_mem hx;have#[y,k]:=x;simp only at hl;subst hl;show vn nd e
 have#[I,σ₁,rfl,cn,hf,hp,r,ai,bd,dL]:=l;have dy:=cx.F.evo ai.e;apply jt (?_:wpAny G.M A _ _ E _) (by show([]:List Value).toArray.size<=sizeLine;simp);have dx:FR G σ₁ env ρ (s₂.heap.push {cls:=.type "list",data:=.seq ([]:List Value).toArray}):=dy.evo (Evo.push [] σ₁ s₂.heap {cls:=.type "list",data:=.seq ([]:List Value).toArray});have r₂:=r.push {cls:=.type "list",data:=.seq ([]:List Value).toArray};have cc:(s₂.heap.push {cls:=.type "list",data:=.seq ([]:List Value).toArray}).get? s₂.heap.objs.size=some {cls:=.type "list",data:=.seq ([]:List Value).toArray}:=cf _ rfl;have ck:Go [] σ s σ₁ {s₂ with heap:=s₂.heap.push {cls:=.type "list",data:=.seq ([]:List Value).toArray}}:=ai.to (Evo.push _ _ _ _);have dr:I.pos 0 (s₂.heap.push {cls:=.type "list",data:=.seq ([]:List Value).toArray}):=I.keep _ _ _ hp (λb _ o e=>av _ e) λb o e _=>av _ e;generalize eg:s₂.heap.push {cls:=.type "list",data:=.seq ([]:List Value).toArray}=H at *;have W:H.objs.size=s₂.heap.objs.size+1:=by rw[<- eg];show gr ..
 have#[_,clo]:=JV dx cx.es nd dc;have ct:∀(i:Nat) (x:Str) (k':NameKind),(relabel scope env).names[i]?=some (x,k')->∃k,scope.names[i]?=some (x,k)/\(k'=k\/(k=.free/\k'=.cell)):=λi x k' e=>by
  simp only[relabel,cj]at e;cases hq:scope.names[i]? with
  |none=>rw[hq]at e;cases e
  |some p =>
   have#[y,k]:=p;rw[hq]at e;simp only[Option.map_some,fs]at e;split at e
   ·rename_i hc;have#[rfl,rfl]:=rv e;simp only[dw,wq]at hc;apply#[k,rfl,.inr #[hc.1.1,rfl]]
   ·have#[rfl,rfl]:=rv e;apply#[k,rfl,.inl rfl]
 have#[dv,keep]:=pN (T:="dict") (env:=uz scope env (cellsFrom (H.objs.size+1) scope.names (oz env.cells scope.names [])) H.objs.size) r₂ nd clo rfl rfl ct;have cd:yg (uz scope env (cellsFrom (H.objs.size+1) scope.names (oz env.cells scope.names [])) H.objs.size):=by
  apply#[bl,?_,cx.eo.globals,cx.eo.builtins];have e:(relabel scope env).names.map (·.1)=scope.names.map (·.1):=by
   simp only[relabel,qi];apply List.map_congr_left λp _=>?_;have#[y,k]:=p;simp only[Function.comp];split<;>rfl
  show((relabel scope env).names.map (·.1)).Nodup;rw[e];show nd
 have ok:=cellsFrom_ok scope.names (H.push {cls:=.type "dict",data:=.dict #v[]}) (H.objs.size+1) [] #[λ_ _ hm=>(nomatch hm),List.Pairwise.nil] (by rw[gr];show az _);rw[gr]at ok;simp only[newFunctionEnv,Option.isSome_some,yj];apply ae (wpAny_alloc ?_);apply ae (wpAny_layCells _ (λname kind cells=>by cases hkc:kind==NameKind.cell<;>simp[hkc]) _ _ _ _ ?_);rw[show(H.push {cls:=.type "dict",data:=.dict #v[]}).objs.size=H.objs.size+1 from gr ..];rw[og];apply ae (af (af ?_));generalize ek:pushCells (H.push {cls:=.type "dict",data:=.dict #v[]}) scope.names=H3 at *;have cl:=r₂.keeps keep;have fz:je H H3:=λb o e _=>keep b o e;have ch:Go [] σ s σ₁ {s₂ with heap:=H3}:=ck.to (Evo.keeps keep);have ca:I.pos 0 H3:=I.keep _ _ _ dr (λb _ o e=>keep b o e) fz;have Z:∀b,s₂.heap.objs.size<=b->s.heap.get? b=none:=λb hb=>ai.new (nh hb);have aj:∀b∈I.own,b<s₂.heap.objs.size:=λb hb=>by have#[o,e]:=I.there hp hb;show gv e
 have ef:∀b∈I.own,b∉envX (uz scope env (cellsFrom (H.objs.size+1) scope.names (oz env.cells scope.names [])) H.objs.size):=λb hb hm=>by
  have da:=aj b hb;rcases bw.mp hm with rfl|hm
  ·show absurd da (sd.mpr (by show s₂.heap.objs.size<=H.objs.size;(show ax .A .E (.e .B .P) W)))
  ·have#[p,ab,rfl]:=cq.mp hm;have ar:p∈cellsFrom (H.objs.size+1) scope.names (oz env.cells scope.names []):=ab;rw[ic]at ar;rcases cy.mp ar with h1|h1
   ·have:=(ok.empty p.1 p.2 h1).2;show fp _ (gz da (by(show fe .A .z (.e .C .P) (.k .Q .B) W this):s₂.heap.objs.size<=p.2))
   ·have#[be,ag]:=rt _ _ p.1 p.2 h1;have#[c,hc]:=bt.mp (U _ be);rw[hc]at ag;simp only[Option.getD_some]at ag;have#[o,ho]:=cx.F.allc (p.1,c) (mem_of_lookup hc);have:=bd p.2 hb;rw[ag]at this;rw[show s.heap.get? c=some o from ho]at this;cases this
 have ei:s₂.heap.objs.size∉envX (uz scope env (cellsFrom (H.objs.size+1) scope.names (oz env.cells scope.names [])) H.objs.size):=λhm=>by
  rcases bw.mp hm with e|hm
  ·have:s₂.heap.objs.size=H.objs.size:=e
   (show fy .ff [[0,-1,-1]] .aB .b8 W this)
  ·have#[p,ab,e]:=cq.mp hm;have ar:p∈cellsFrom (H.objs.size+1) scope.names (oz env.cells scope.names []):=ab;rw[ic]at ar;rcases cy.mp ar with h1|h1
   ·have:=(ok.empty p.1 p.2 h1).2;(show pq .ff [[0,-1,1,1]] .aB (.e .C .B) (.k .P .C) W e this)
   ·have#[be,ag]:=rt _ _ p.1 p.2 h1;have#[c,hc]:=bt.mp (U _ be);rw[hc]at ag;have#[o,ho]:=cx.F.allc (p.1,c) (mem_of_lookup hc);have:=Z c (by rw[<- show p.2=c from ag,e];show az _);rw[show s.heap.get? c=some o from ho]at this;cases this
 have Y:∀b,s₂.heap.objs.size<=b->G.hb.get? b=none:=λb hb=>by
  cases hq:G.hb.get? b with
  |none=>rfl
  |some o=>show absurd (gv (r.base b o hq)) (sd.mpr hb)
 have bn:∀b,s₂.heap.objs.size<=b->¬σ₁.dom b:=λb hb dm=>by have#[o,e]:=r.mx dm;show absurd (gv e) (sd.mpr hb)
 have bv:eZ G (uz scope env (cellsFrom (H.objs.size+1) scope.names (oz env.cells scope.names [])) H.objs.size) s₂.heap.objs.size σ₁ H3 []:=
  #[#[[],0,keep _ _ cc,.nil],bh _,bn _ (az _),ei,Y _ (az _)]
 have xo:XOk (uz scope env (cellsFrom (H.objs.size+1) scope.names (oz env.cells scope.names [])) H.objs.size) (H.objs.size::(cellsFrom (H.objs.size+1) scope.names []).map (·.2)) (#[target,iter,ifs,0]::rest):=by
  apply#[.head _,λg hg y hy c hc=>?_,λb hb=>?_]
  ·have aE:=ja.mp (ja.mp dV g hg) y hy;have df:(cellsFrom (H.objs.size+1) scope.names (oz env.cells scope.names [])).lookup y=some c:=hc;rw[ic]at df;rcases cy.mp (mem_of_lookup df) with h1|h1
   ·show .tail _ (cq.mpr #[_,h1,rfl])
   ·have#[be,_]:=rt _ _ y c h1;have#[i,e]:=List.getElem?_of_mem be;have:=vn nd e;unfold ownIn at aE;rw[this]at aE;cases aE
  ·rcases bw.mp hb with rfl|hb
   ·show .head _
   ·have zz:=cq.mp hb;clear hb;have#[p,ab,rfl]:=zz;apply .tail _ (cq.mpr #[p,?_,rfl]);show p∈cellsFrom (H.objs.size+1) scope.names (oz env.cells scope.names []);rw[ic];show dq _ ab
 have ea:∀g',(#[target,iter,ifs,0]::rest:List Comprehension)[0+1]?=some g'->g'.is_async=0:=λg' e=>dn g' (cw (by simpa using e));have loop:codeAny G.M A (.compLoop (.ListComp elt (#[target,iter,ifs,0]::rest) scope pos) 0 (.ref I.it) (.ref s₂.heap.objs.size) (uz scope env (cellsFrom (H.objs.size+1) scope.names (oz env.cells scope.names [])) H.objs.size)) (compPost G.M A E use P (.ref s₂.heap.objs.size) H.objs.size) {s₂ with heap:=H3}:=by
  apply PW (s₀:=s) (σ₀:=σ) ht eb ed rfl ea I cn xo #[cx.ao,by show relabel scope env=_;rw[HL,cx.es],cd,dv,cl] bv ca (ch.more λ_ h=>nomatch h) bd ef dL (λq=>absurd (aj _ q) (fp _)) (fP cx.R bd) hf λs' l=>?_
  ·have#[ρ',acc',σ',ws,n,q,F',R',hl,hv,hz,hd,x',_]:=l;have ec:=Y s₂.heap.objs.size (az _);have hL:σ'.L s₂.heap.objs.size=none:=by
    cases hq:σ'.L s₂.heap.objs.size with
    |none=>rfl
    |some y=>show absurd (.inl (by rw[hq];rfl)) hd
   have ej:=R'.TH hd ec hl hv hz;have bu:∀z∈(s₂.heap.objs.size::H.objs.size::(cellsFrom (H.objs.size+1) scope.names []).map (·.2)),s.heap.get? z=none:=λz hz=>by
    rcases bw.mp hz with rfl|hz
    ·show Z _ (az _)
    rcases bw.mp hz with rfl|hz
    ·show Z _ (ax .A .E (.e .B .P) W)
    ·have#[p,ab,rfl]:=cq.mp hz;have:=(ok.empty p.1 p.2 ab).2;show Z _ (fe .A .z (.e .C .P) (.k .Q .B) W this)
   have dz:Go [] σ s (σ'.cz s₂.heap.objs.size acc') s':=Go.less #[x'.e.adopt acc' (Z _ (az _)),x'.g,x'.o] λz hz=>.inr (bu z hz);have#[m,hm,_]:=F'.ns;have cb:¬(σ'.cz s₂.heap.objs.size acc').dom H.objs.size:=λdm=>by
    rcases dJ dm with dm|e
    ·show F'.loc dm
    ·have e':H.objs.size=s₂.heap.objs.size:=e
     (show fy .ff .H .aB .C W e)
   show hP (.L s₂.heap.objs.size) _ s' _ H.objs.size (q _ hL) (.L _) ej dz (Z _ (ax .A .E (.e .B .P) W)) cb #[m,hm]
 show kZ rfl loop (I.self _ _ _ _ _ ca loop)
def wG (hit:dQ G C sc d (isTup target) it iter)(ht:wm G C (si scope sc) d t target)(ag:sr G C (si scope sc) d cs ifs)
  (ai:ue G C (si scope sc) d more elt (#[target,iter,ifs,0]::rest) scope pos 0) (hs:∀env v,foldedSetIterable iter env v=pure v) (Y:scope.kind=.function) (nd:(scope.names.map (·.1)).Nodup) (B:uA sc fv 0 scope.names=true) (I:u6 scope (#[target,iter,ifs,0]::rest)=true) (W:∀g'∈rest,g'.is_async=0) :
  fg G C sc d (.K fv it t cs more) (.ListComp elt (#[target,iter,ifs,0]::rest) scope pos):=λA E env ρ σ Q s c h=>by
 rw[eval_ListComp];apply y5 (use:=none) hit ht ag ai hs Y nd B I W c h λv σ' s' w L q vr R' x hL hd U=>?_;have#[m,U]:=U;apply#[m,U,λh2 Z=>?_];have#[o,aj,ep,ho,ab,_]:=id U;have hf:je s'.heap h2:=vq Z λo' e=>by have rfl:=ah (ho.symm.trans e);show tn ab
 have hn:∀b∈[L],s.heap.get? b=none:=λb hb=>by have rfl:=aq.mp hb;show hL
 apply#[v,σ',q,vr.mono hf,R'.frame (o':=default) Z hd (fP c.R hn L (.head _)) hf,x.but (own:=[L]) (λb o hb e=>by rw[Z.2 b (λq=>hb (q▸.head _))];show e) .rfl hn]
def oH {i:Nat}{x:Str}{kd:NameKind}{U Z:Pos}(hi:sc.names[i]?=some (x,kd))(hk:Own G x kd)(hit:dQ G C sc d (isTup target) it iter)(ht:wm G C (si scope sc) d t target)(bd:sr G C (si scope sc) d cs ifs)
  (be:ue G C (si scope sc) d more elt (#[target,iter,ifs,0]::rest) scope pos 0) (hs:∀env v,foldedSetIterable iter env v=pure v) (W:scope.kind=.function) (nd:(scope.names.map (·.1)).Nodup) (ar:uA sc fv 0 scope.names=true) (ao:u6 scope (#[target,iter,ifs,0]::rest)=true) (I:∀g'∈rest,g'.is_async=0) :
  yt G C sc d (.a [.v i] (.K fv it t cs more)) (.Assign [.Name x U] (.ListComp elt (#[target,iter,ifs,0]::rest) scope pos) Z):=λA E env ρ σ K s c h=>by
 have plain:fg G C sc d (.K fv it t cs more) (.ListComp elt (#[target,iter,ifs,0]::rest) scope pos):=wG hit ht bd be hs W nd ar ao I;by_cases ag:(env.blockKind==.function&&env.kindOf x==some .local&&U.line==pos.line&&!(scope.names.any λ(n,k)=>n==x&&(k==.local||k==.cell)))=true
 ·have Y:swapsWith (.ListComp elt (#[target,iter,ifs,0]::rest) scope pos) (some (.Name x U)) Z.line env=pure true:=by
   show(pure _:Sem Bool)=_;show bx pure ag
  rw[exec_Assign_Name_used _ _ _ _ Y];apply ae (gj (ae ?_));show wpAny G.M A (comprehension _ scope env _ (newList []) false (eval iter env) (some (assign (.Name x U) env))>>=λ_=>pure ()) _ E s;apply ae ?_;apply y5 (use:=some (assign (.Name x U) env)) (Q:=λv σ=>lT C [.v i] v ρ σ λρ σ=>K .next ρ σ) hit ht bd be hs W nd ar ao I c h λv σ' s' w L q vr R' x' hL hd hm=>?_;have#[m,hm]:=hm;show wpAny G.M A (assign (.Name x U) env w) _ E _;apply assign_Name (zv c.eo (c.F.evo x'.e) R' (by rw[c.es];show hi) hk vr λs2 F2 R2 x2=>?_);have hn:∀b∈[L],s.heap.get? b=none:=λb hb=>by have rfl:=aq.mp hb;show hL
  have hX:=u4 c.F hn;have#[o,bl,ep,ho,aE,ab]:=id hm;have ai:=x2.keep _ _ ho hd (hX L (.head _));apply#[m,#[o,bl,ep,ai,aE,ab],λh3 B=>af (af ?_)];have hf:je s2.heap h3:=vq B λo' e=>by have rfl:=ah (ai.symm.trans e);show tn aE
  have aj:∀b o,b∉[L]->s2.heap.get? b=some o->h3.get? b=some o:=λb o hb e=>by rw[B.2 b (λq=>hb (q▸.head _))];show e
  apply#[.next,_,σ',.next,q,F2.but aj hf hX,R2.frame (o':=default) B hd (fP c.R hn L (.head _)) hf,(x'.wide.trans x2).but aj .rfl hn]
 ·have Y:swapsWith (.ListComp elt (#[target,iter,ifs,0]::rest) scope pos) (some (.Name x U)) Z.line env=pure false:=by
   show(pure _:Sem Bool)=_;show bx pure (Bool.eq_false_iff.mpr ag)
  rw[exec_Assign];apply ae (gj ?_);have e1:swapsWithSole [.Name x U] (.ListComp elt (#[target,iter,ifs,0]::rest) scope pos) Z.line env=pure false:=Y;rw[e1];apply ae (af ?_);rw[aw (by decide)];apply ae (nj (plain (Q:=λv σ=>lT C [.v i] v ρ σ λρ σ=>K .next ρ σ) c h) λv σ₁ s₁ w q vr r x=>?_);rw[oC (sc:=sc) (r:=none) rfl c.es (by unfold Env.blockKind;rw[c.eo.kind];rfl)];apply ae (af ?_);show wpAny G.M A (do assignAll w _;pure Flow.next) _ _ _;apply ae (cg (BC (.cons (B4 hi hk) (λ_=>rfl) .nil) (c.go r x) vr q) (λ_ s' l=>af ?_) λ_ _ x=>x);have#[ρ',σ',q',F',R',x']:=l;apply#[.next,ρ',σ',.next,q',F',R',x.wide.trans x']
end
end MP
end
section
namespace MP
open PySem PyProof.Rows PySem.W
variable {α:Type}{p:Array Nat}{k i j m nrem:Nat}
abbrev ends {α:Type}(n:Nat)(lt:Nat->Nat->Bool):KasT α->(α->Prop)->Prop
 |.ret a,Q=>Q a
 |.ask i j k,Q=>i<n/\j<n/\ends n lt (k (lt i j)) Q
def ki {n:Nat}{lt:Nat->Nat->Bool}{Q Y:α->Prop}(Z:∀a,Q a->Y a):∀{t:KasT α},ends n lt t Q->ends n lt t Y
 |.ret a=>λh=>Z a h
 |.ask i j k=>λh=>#[h.1,h.2.1,ki Z (t:=k (lt i j)) h.2.2]
def xu {Z:Type}{n:Nat}{lt:Nat->Nat->Bool}{f:α->KasT Z}{Q:Z->Prop}:∀{t:KasT α},ends n lt t (λa=>ends n lt (f a) Q)->ends n lt (t.bind f) Q
 |.ret a=>λh=>h
 |.ask i j k=>λh=>#[h.1,h.2.1,xu (t:=k (lt i j)) h.2.2]
def CB {n:Nat}{lt:Nat->Nat->Bool}{cmp:Nat->Nat->(Bool->Shared->Prop)->Shared->Prop}{s:Shared}(Z:∀i j (C:Bool->Shared->Prop),i<n->j<n->C (lt i j) s->cmp i j C s){Q:α->Shared->Prop}:∀{t:KasT α},ends n lt t (λa=>Q a s)->t.kasWp cmp Q s
 |.ret a=>λh=>h
 |.ask i j k=>λh=>Z i j _ h.1 h.2.1 (CB Z (t:=k (lt i j)) h.2.2)
structure lH (lt:Nat->Nat->Bool):Prop where
 asym:∀a b,lt a b=true->lt b a=false
 tr:∀a b c,lt b a=false->lt c b=false->lt c a=false
section
variable {n:Nat}{lt:Nat->Nat->Bool}
public abbrev at0 (p:Array Nat)(i:Nat):Nat:=p.getD i 0
abbrev jV (lt:Nat->Nat->Bool)(p:Array Nat)(k:Nat):Prop:=∀i j,i<j->j<k->lt (at0 p j) (at0 p i)=false
abbrev rQ (lt:Nat->Nat->Bool)(p:Array Nat)(k:Nat):Prop:=∀i j,i<j->j<k->lt (at0 p i) (at0 p j)=false
structure vt (n:Nat)(p:Array Nat):Prop where
 perm:p.Perm (List.toArray (List.range n))
def vt.size (h:vt n p):p.size=n:=by have:=h.perm.size_eq;simpa using this
def vt.low (h:vt n p)(Y:0<n)(i:Nat):at0 p i<n:=by
 unfold at0;by_cases Z:i<p.size
 ·have e:p.getD i 0=p[i]:=by simp[Array.getD,Z]
  rw[e];have W:p[i]∈p.toList:=by simp
  have:=(gM.mp h.perm).mem_iff.mp W;simpa using this
 ·have e:p.getD i 0=0:=by simp[Array.getD,Z]
  rw[e];show Y
def vt.step {q:Array Nat}(h:vt n p)(Z:q.Perm p):vt n q:=#[Z.trans h.perm]
def lC (i:Nat):at0 p i=(p[i]?).getD 0:=by
 unfold at0;by_cases Z:i<p.size<;>simp[Array.getD,Z]
def jV.le (L:lH lt)(h:jV lt p k)(Z:i<=j)(Y:j<k):lt (at0 p j) (at0 p i)=false:=by
 rcases iz Z with W|rfl
 ·show h i j W Y
 ·cases hq:lt (at0 p i) (at0 p i) with
  |false=>rfl
  |true=>have:=L.asym _ _ hq;rw[hq]at this;cases this
def lH.irr (L:lH lt)(a:Nat):lt a a=false:=by
 cases hq:lt a a with
 |false=>rfl
 |true=>have:=L.asym _ _ hq;rw[hq]at this;cases this
def qJ (L:lH lt)(U:0<n)(W:vt n p):∀(f m:Nat),1<=m->ends n lt (kas_asc p f m) λr=>m<=r/\r<=m+f/\(jV lt p m->jV lt p r)
 |0=>λm I=>#[az _,by show iy (.k .A .a8) .j,λh=>h]
 |f+1=>λm I=>by
  apply#[W.low U _,W.low U _,?_];cases hc:lt (at0 p m) (at0 p (m-1)) with
  |true=>refine#[az _,by show fE (.k .A .a7) .j,λh=>h]
  |false =>
   show ends n lt (kas_asc p f (m+1)) _;apply ki (λr Y=>#[by show ax .A .a .F Y.1,by show dt (.k .A .aF) .a .dG Y.2.1,λhu=>Y.2.2 λi j Z hj=>?_]) (qJ L U W f (m+1) (iy .aS .j));rcases iz (qg hj) with h|rfl
   ·show hu i j Z h
   ·show L.tr _ (at0 p (j-1)) _ (hu.le L (fe .A .d .O .cS Z (aa (dp .D .a .D I))) (ax .B .a .bP (aa (dp .D .a .D I)))) hc
def fL (Z:j<=p.size)(k:Nat):at0 (kas_rev p i j) k=if i<=k/\k<j then at0 p (i+j-1-k) else at0 p k:=by
 unfold kas_rev;rw[lC,getElem?_mirror_all Z];split<;>rw[lC]
def rQ.le (L:lH lt)(h:rQ lt p k)(Z:i<=j)(Y:j<k):lt (at0 p i) (at0 p j)=false:=by
 rcases iz Z with W|rfl
 ·show h i j W Y
 ·show L.irr _
abbrev Flat (lt:Nat->Nat->Bool)(p:Array Nat)(m q:Nat):Prop:=q+1<=m/\∀i j,m-(q+1)<=i->i<m->m-(q+1)<=j->j<m->lt (at0 p i) (at0 p j)=false
def JM (L:lH lt){q:Nat}(hm:m<=p.size)(h:rQ lt p m)(hq:Flat lt p m q):rQ lt (kas_rev p (m-(q+1)) m) m:=λi j ab hj=>by
 rw[fL hm,fL hm];have#[h1,h2]:=hq;split<;>split
 ·show h2 _ _ (Ar.sub _ _ (λW Z=>(Ar.sub _ _ (λq2 I=>(wk .A [[1,1,1,-1,-1]] .R .cB (.e .a4 .aA) (.e .R .G) ab hj Z I)) λq2 I=>(wk .A .A .R .cB (.e .a4 .aA) (.k .G .C) ab hj Z q2))) λW Z=>(dj .A .b .R (.k .T .U) hj W)) (by(rename_i z2 z1;show Ar.sub _ _ (λW Z=>(Ar.sub _ _ (λq2 I=>(jd .B .h .Y .c1 (.e .Y .a1) z2.1 Z I)) λq2 I=>(jd .B .h .N .c1 .aG hj Z I))) λW Z=>(fe .B .b .N .G hj Z))) (Ar.sub _ _ (λW Z=>(Ar.sub _ _ (λq2 I=>(jd .A [[1,1,-1,-1]] .R (.e .Y .T) .bN hj Z I)) λq2 I=>(jd .A .m .R (.e .Y .T) (.k .F .C) hj Z q2))) λW Z=>(dj .A .b .R (.k .T .U) hj W)) (by(rename_i z2 z1;show Ar.sub _ _ (λW Z=>(Ar.sub _ _ (λq2 I=>(wk .B .y .R (.k .F .C) (.e .T .G) (.e .a4 .aY) ab z2.1 Z I)) λq2 I=>(jd .B .h .N .c1 .aG z2.2 Z I))) λW Z=>(fe .B .b .N .G hj Z)))
 ·(rename_i z2 z1;show False.elim ((gf.mp z1).elim (λW=>(pq .ff .o .B .aA (.j .C .B) ab z2.1 W)) λW=>(fy .ff .c .B .bL hj W)))
 ·show h _ _ (by(rename_i z2 z1;show Ar.sub _ _ (λW Z=>((gf.mp z2).elim (λq2=>(Ar.sub _ _ (λq3 p3=>(wk .B [[1,1,-1,1,-1]] .R (.e .Y (.a .G .D)) (.j .G .A) .bN hj Z q2 p3)) λq3 p3=>(wk .B [[0,1,-1,1,1]] .R (.e .Y (.a .G .D)) (.j .G .A) (.k .F .C) hj Z q2 q3))) λq2=>(mf .B .o .O .R (.g .A .D) ab hj q2))) λW Z=>(jd .B .o .O .R (.k .aH .U) ab hj W))) (by(rename_i z1;show Ar.sub _ _ (λW Z=>(Ar.sub _ _ (λq2 I=>(jd .B .h .Y .c1 (.e .Y .a1) z1.1 Z I)) λq2 I=>(jd .B .h (.k .Q .B) .c1 .aG h1 Z I))) λW Z=>(fe .B .b .N .G hj Z)))
 ·show h _ _ ab hj
def gY (L:lH lt)(hn:0<n):∀(f:Nat) (p:Array Nat) (m q:Nat),vt n p->1<=m->m+f<=n->rQ lt p m->Flat lt p m q ->
  ends n lt (kas_desc f p m q) λr=>vt n r.1/\m<=r.2.1/\r.2.1<=m+f/\rQ lt r.1 r.2.1/\Flat lt r.1 r.2.1 r.2.2
 |0=>λp m q W I hf hd hq=>#[W,az _,by simp,hd,hq]
 |f+1=>λp m q W I hf hd hq=>by
  apply#[W.low hn _,W.low hn _,?_];have ab:=W.size;have grow:∀{p:Array Nat},rQ lt p m->lt (at0 p (m-1)) (at0 p m)=false->rQ lt p (m+1):=λ{p} hd hc i j ag hj=>by
   rcases iz (qg hj) with h|rfl
   ·show hd i j ag h
   ·have:=hd.le L (i:=i) (j:=j-1) (fe .A .d .O .cS ag (aa (dp .D .a .D I))) (ax .B .a .bP (aa (dp .D .a .D I)));show L.tr _ (at0 p (j-1)) _ hc this
  cases hc:lt (at0 p m) (at0 p (m-1)) with
  |true =>
   have ha:=L.asym _ _ hc;show ends n lt (if q>0 then kas_desc f (kas_rev p (m-(q+1)) m) (m+1) 0 else kas_desc f p (m+1) 0) _;split
   ·have ai:vt n (kas_rev p (m-(q+1)) m):=W.step (mirror_perm _ _ _ _);have aj:=JM L (dj .A .d (.k .a9 .D) .c0 hf ab) hd hq;have e1:at0 (kas_rev p (m-(q+1)) m) m=at0 p m:=by rw[fL (dj .A .d (.k .a9 .D) .c0 hf ab),aw (λZ=>(dp .ff .r (.l .A .A) Z.2))]
    have e2:lt (at0 (kas_rev p (m-(q+1)) m) (m-1)) (at0 p m)=false:=by
     have#[g1,g2]:=hq;rw[fL (dj .A .d (.k .a9 .D) .c0 hf ab),br (#[(dj .A .d .cQ .bX (aa (ax .F .a .F g1)) (aa (dp .D .a .D I))),(ax .B .a .bP (aa (dp .D .a .D I)))])];show L.tr _ (at0 p (m-1)) _ ha (g2 _ _ (Ar.sub _ _ (λZ p1=>(Ar.sub _ _ (λq2 p2=>(Ar.sub _ _ (λq3 p3=>(jd .A [[1,-1,1,-1]] (.e .Q .T) .cN (.e .a6 .C) p1 p2 p3)) λq3 p3=>(jd .A [[1,-1,1,1]] (.e .Q .T) .cN (.k .C .F) p1 p2 q3))) λq2 p2=>(dj .A .b .cQ (.k .D .U) (aa (ax .F .a .F g1)) q2))) λZ p1=>(fe .A .b (.k .U .C) (.k .X .U) I Z)) (by(rename_i z1;show Ar.sub _ _ (λZ p1=>(Ar.sub _ _ (λq2 p2=>(Ar.sub _ _ (λq3 p3=>(Ar.sub _ _ (λq4 p4=>(wk .B .A .a5 (.e .V .aY) (.e .Q .B) (.e (.a .F .a4) .B) p1 p2 p3 p4)) λq4 p4=>(jd .B .h .a5 (.e .V .aY) .aG p1 p2 p4))) λq3 p3=>(pq .B .o .b7 (.k .Q .B) .cI z1 g1 q3))) λq2 p2=>(jd .B .h (.k .Q .B) .c1 .aG g1 p1 p2))) λZ p1=>(fe .B .b (.k .Q .B) .G g1 p1))) (dj .A .d .cQ .bX (aa (ax .F .a .F g1)) (aa (dp .D .a .D I))) (ax .B .a .bP (aa (ax .D .a (.k .L .A) g1))))
    apply ki (λr Y=>#[Y.1,by show ax .A .a .F Y.2.1,by show dt (.k .A .aF) .a .dG Y.2.2.1,Y.2.2.2]) (gY L hn f _ (m+1) 0 ai (iy .aS .j) (dt .aD .a .M hf) (grow aj (by rw[e1];show e2)) #[by show iy .a3 .j,λi j a b c d=>?_]);have:i=m:=by(show pq .C .w .aA .J .aN a b (aa (iy .a3 .j)))
    have:j=m:=by(show pq .C .w .aA .J .aN c d (aa (iy .a3 .j)))
    subst_vars
    show L.irr _
   ·apply ki (λr Y=>#[Y.1,by show ax .A .a .F Y.2.1,by show dt (.k .A .aF) .a .dG Y.2.2.1,Y.2.2.2]) (gY L hn f _ (m+1) 0 W (iy .aS .j) (dt .aD .a .M hf) (grow hd ha) #[by show iy .a3 .j,λi j a b c d=>?_]);have:i=m:=by(show pq .C .w .aA .J .aN a b (aa (iy .a3 .j)))
    have:j=m:=by(show pq .C .w .aA .J .aN c d (aa (iy .a3 .j)))
    subst_vars
    show L.irr _
  |false =>
   apply#[W.low hn _,W.low hn _,?_];cases hd2:lt (at0 p (m-1)) (at0 p m) with
   |true=>refine#[W,az _,by simp,hd,hq]
   |false =>
    show ends n lt (kas_desc f p (m+1) (q+1)) _;apply ki (λr Y=>#[Y.1,by show ax .A .a .F Y.2.1,by show dt (.k .A .aF) .a .dG Y.2.2.1,Y.2.2.2]) (gY L hn f p (m+1) (q+1) W (iy .aS .j) (dt .aD .a .M hf) (grow hd hd2) ?_);have#[g1,g2]:=hq;apply#[by show ax .cG .a .F g1,λi j a b c d=>?_];by_cases hi:i=m
    ·by_cases hj:j=m
     ·clear grow;subst hi;subst hj;show L.irr _
     ·subst hi;show L.tr _ (at0 p (i-1)) _ (g2 _ _ (dj .A .d .cQ .bX (aa (ax .F .a .F g1)) (aa (dp .D .a .D I))) (ax .B .a .bP (aa (dp .D .a .D I))) (jd .A .m .Q .c4 .aL c (aa (ax .cG .a .F g1)) (aa (ax .F .a .F g1))) ((au hj).elim (λZ=>(ax .B .a .B Z)) λZ=>(fy .B .c .J .S d Z))) hc
    ·by_cases hj:j=m
     ·clear hc;subst hj;show L.tr _ (at0 p (j-1)) _ hd2 (g2 _ _ (jd .A .m .Q .c4 .aL a (aa (ax .cG .a .F g1)) (aa (ax .F .a .F g1))) ((au hi).elim (λZ=>(ax .B .a .B Z)) λZ=>(fy .B .c .J .S b Z)) (dj .A .d .cQ .bX (aa (ax .F .a .F g1)) (aa (dp .D .a .D I))) (ax .B .a .bP (aa (dp .D .a .D I))))
     ·show g2 _ _ (jd .A .m .Q .c4 .aL a (aa (ax .cG .a .F g1)) (aa (ax .F .a .F g1))) ((au hi).elim (λZ=>(ax .B .a .B Z)) λZ=>(fy .B .c .J .S b Z)) (jd .A .m .Q .c4 .aL c (aa (ax .cG .a .F g1)) (aa (ax .F .a .F g1))) ((au hi).elim (λZ=>((au hj).elim (λq2=>(ax .B .a .B q2)) λq2=>(fy .B .c .J .S d q2))) λZ=>(fe .B .c (.l .C .L) .aJ b Z))
def oB (L:lH lt)(hn:0<n)(hp:vt n p)(h1:1<=m)(hm:m<=nrem)(hr:nrem<=n)(hd:rQ lt p m) :
  ends n lt (kas_tail3 m nrem p) λr=>vt n r.2/\m<=r.1/\r.1<=nrem/\jV lt r.2 r.1:=by
 unfold kas_tail3;have ab:=hp.size;have ag:vt n (kas_rev p 0 m):=hp.step (mirror_perm _ _ _ _);apply xu (ki (λr hr=>#[ag,hr.1,by show dj .A .b (.k .A .S) .c9 hr.2.1 (aa (ax .A .a .A hm)),hr.2.2 λi j Z hj=>?_]) (qJ L hn ag (nrem-m) m h1));rw[fL (by(rename_i z1;show mf .A .k .I .Y .c0 hm z1 ab)),fL (by(rename_i z1;show mf .A .k .I .Y .c0 hm z1 ab)),br (#[(iy (.k .O .A) .j),(ax .B .a .B hj)]),br (#[(iy (.k .O .A) .j),(fe .B .b .O .N Z hj)])];show hd _ _ (Ar.sub _ _ (λq1 W=>(Ar.sub _ _ (λq2 p2=>(Ar.sub _ _ (λq3 p3=>(jd .B .m .R .bN .c1 Z p2 p3)) λq3 p3=>(lE .B [[1,1,1,-1,-1,1]] .R .cB (.e .a4 (.a .O .F)) (.e .R .G) .G Z hj W p2 p3))) λq2 p2=>(wk .B [[0,1,1,-1,1]] .R .cB (.e .a4 (.a .O .F)) (.k .G .C) Z hj W q2))) λq1 W=>(jd .B .o .R .cB (.k (.a .O .F) .U) Z hj q1)) (Ar.sub _ _ (λq1 W=>(Ar.sub _ _ (λq2 p2=>(dj .B .b .a5 (.e .V .aS) W p2)) λq2 p2=>(jd .B .h .N .c1 .aG hj W p2))) λq1 W=>(fe .B .b .N .G hj W))
def iS (L:lH lt)(I:0<n)(hp:vt n p)(W:m+1<=nrem)(Z:nrem<=n)(hd:rQ lt p (m+1))(h1:1<=m) :
  ends n lt (kas_descPart m nrem p) λr=>vt n r.2/\1<=r.1/\r.1<=nrem/\jV lt r.2 r.1:=by
 unfold kas_descPart;apply xu (ki (λr Z=>?_) (gY L I (nrem-(m+1)) p (m+1) 0 hp (iy .aS .j) (dj .aD .b (.k .D .C) (.e (.a .B .P) .D) Z (aa (ax .F .a .F W))) hd #[by show iy .a3 .j,λi j a b c d=>?_]))
 ·have#[g1,g2,g3,g4,g5]:=Z;have U:=g1.size;split
  ·show ki (λr Z=>#[Z.1,by show fe .D .b (.k .L .C) .aA g2 Z.2.1,Z.2.2]) (oB L I (g1.step (mirror_perm _ _ _ _)) (ax .D .a (.k .L .A) g2) (dj .A .b (.k .A (.a .Q .D)) (.e (.a .D .Q) .B) g3 (aa (ax .F .a .F W))) (ax .A .a .A Z) (JM L (wk .A .A .Y (.k .A (.a .Y .G)) .c0 (.e (.a .G .Y) .C) Z g3 U (aa (ax .F .a .F W))) g4 g5))
  ·show ki (λr Z=>#[Z.1,by show fe .D .b (.k .L .C) .aA g2 Z.2.1,Z.2.2]) (oB L I g1 (ax .D .a (.k .L .A) g2) (dj .A .b (.k .A (.a .Q .D)) (.e (.a .D .Q) .B) g3 (aa (ax .F .a .F W))) (ax .A .a .A Z) g4)
 ·have:i=m:=by(show pq .C .w .aA .J .aN a b (aa (iy .a3 .j)))
  have:j=m:=by(show pq .C .w .aA .J .aN c d (aa (iy .a3 .j)))
  subst_vars
  show L.irr _
def yE (W:0<n)(Y:vt n p){Q:Nat->Prop}:∀(f m:Nat),ends n lt (kas_asc p f m) Q->ends n lt (kas_asc p f m) λr=>Q r/\(r<m+f->lt (at0 p r) (at0 p (r-1))=true)
 |0=>λm h=>#[h,λq=>absurd q (iy (.g .A .a8) .j)]
 |f+1=>λm h=>by
  have#[I,U,h]:=h;apply#[I,U,?_];cases hc:lt (at0 p m) (at0 p (m-1)) with
  |true =>
   have e:lt (p.getD m 0) (p.getD (m-1) 0)=true:=hc;rw[e]at h;apply#[h,λ_=>hc]
  |false =>
   have e:lt (p.getD m 0) (p.getD (m-1) 0)=false:=hc;rw[e]at h;show ends n lt (kas_asc p f (m+1)) _;show ki (λr Z=>#[Z.1,λq=>Z.2 (dt (.l .A (.a .L .C)) .a (.l .A .aF) q)]) (yE W Y f (m+1) h)
def A8 (L:lH lt)(hn:0<n)(hp:vt n p)(h1:1<=nrem)(hr:nrem<=n):ends n lt (kas_count nrem p) λr=>vt n r.2/\1<=r.1/\r.1<=nrem/\jV lt r.2 r.1:=by
 unfold kas_count;have aj:=hp.size;apply xu (ki (λm hm=>?_) (yE hn hp _ _ (qJ L hn hp (nrem-1) 1 (az _))));have#[#[g1,g2,g3],g4]:=hm;have hu:jV lt p m:=g3 λi j ab hj=>absurd hj (ax (.g .A .U) .a .S ab);by_cases he:m=nrem
 ·rw[br (by simp[he])];apply#[hp,g1,by show ax .A .a .C he,hu]
 ·rw[aw (by simp[he])];have ag:=g4 ((au he).elim (λW=>(fe (.l .A (.a .U .B)) .z .cS .O (aa (dp .D .a .D h1)) W)) λW=>(pq (.l .A (.a .U .B)) .o (.k .A (.a .U .B)) .cS (.l .C .A) g2 (aa (dp .D .a .D h1)) W));split
  ·apply#[hp.low hn _,hp.low hn _,?_];cases hc:lt (at0 p 0) (at0 p (m-1)) with
   |true=>refine#[hp,g1,by show fe .A .b (.k .A (.a .U .C)) (.e .Q .B) g2 (aa (dp .D .a .D h1)),hu]
   |false =>
    show ends n lt (kas_descPart m nrem (kas_rev p 0 m)) _;have ai:∀a b,a<m->b<m->lt (at0 p a) (at0 p b)=false:=λa b ha hb=>by
     have e1:=hu.le L (i:=b) (j:=m-1) (fe .A .d .O .cS hb (aa (dp .D .a .D g1))) (ax .B .a .bP (aa (dp .D .a .D g1)));have e2:=hu.le L (i:=0) (j:=a) (iy (.k .O .A) .j) (ax .B .a .B ha);show L.tr _ _ _ (L.tr _ _ _ e1 hc) e2
    apply iS L hn (hp.step (mirror_perm _ _ _ _)) ((au he).elim (λW=>(ax .F .a .B W)) λW=>(pq .F .o (.k .A (.a .U .C)) (.e .Q .B) .S g2 (aa (dp .D .a .D h1)) W)) hr (λi j ab hj=>?_) (dp .D .a .D g1);rw[fL (yJ .A [[1,1,-1,1,1]] .Y .c0 (.k .A (.a .U .F)) (.e .Y .C) hr aj g2 (aa (dp .D .a .D h1))),fL (yJ .A [[1,1,-1,1,1]] .Y .c0 (.k .A (.a .U .F)) (.e .Y .C) hr aj g2 (aa (dp .D .a .D h1))),br (#[(iy (.k .O .A) .j),(fe .B .b .O (.l .C .L) ab hj)])];split
    ·show ai _ _ (by(rename_i z1;show Ar.sub _ _ (λW I=>(Ar.sub _ _ (λq2 p2=>(dj .B .b .a5 (.e .V .aS) I p2)) λq2 p2=>(jd .B .h .N .c1 .aG z1.2 I p2))) λW I=>(fe .B .b .N .G z1.2 I))) (by(rename_i z2 z1;show Ar.sub _ _ (λW I=>(Ar.sub _ _ (λq2 p2=>(dj .B .b .a5 (.e .V .aS) I p2)) λq2 p2=>(fy .B .c (.l .U .B) (.k .aS .U) z2 q2))) λW I=>(fe .B .b .N .G z1.2 I)))
    ·have:j=m:=by(rename_i z1;show(au he).elim (λW=>((Ar.imp g4).elim (λq2=>(eQ .C [[0,0,-1,1,1],[1,1,0,0,0]] .J (.e .Q .D) .aR (.g .B (.a .U .C)) hj (aa (dp .D .a .D h1)) W q2)) λq2=>((gf.mp z1).elim (λq3=>(fy .C [[0,0,1],[1,1,0]] .J (.j .O .A) hj q3)) λq3=>(fy .C .i .J .bL hj q3)))) λW=>(eQ .C [[0,1,0,1,1],[1,0,1,0,0]] (.k .B (.a .U .C)) .J (.e .Q .D) (.l .D .B) g2 hj (aa (dp .D .a .D h1)) W))
     clear g4;subst this;show L.tr _ _ _ (L.asym _ _ ag) (ai _ _ (Ar.sub _ _ (λW I=>(Ar.sub _ _ (λq2 p2=>(dj .B .b .a5 (.e .V .aS) I p2)) λq2 p2=>(mf .B .h (.k .U .B) .a5 .Z g1 I p2))) λW I=>(fy .B .b (.k .U .B) .G g1 I)) (ax .B .a .bP (aa (dp .D .a .D g1))))
  ·have ao:m=1:=by(rename_i z1;show jT (.e .A .U) .s .D (.g .U .A) g1 z1)
   subst ao;apply iS L hn hp ((au he).elim (λW=>(dp (.k (.a .U .U) .A) .a .cP W)) λW=>(jT (.k (.a .U .U) .A) .c .D (.l .A .U) h1 W)) hr (λi j ab hj=>?_) (iF (.k .U .U) .j);have hi:i=0:=by(show fy .G .u .B (.l .B (.a .U .U)) ab hj)
   have hj:j=1:=by(show fy (.e .A .U) .s .S (.l .A (.a .U .U)) ab hj)
   subst hi;subst hj;show L.asym _ _ ag
def jH (L:lH lt)(hn:0<n)(hp:vt n p)(hu:jV lt p k):∀(f l r:Nat),l<=r->r<=k->r-l<=f->(∀i,i<l->lt (at0 p k) (at0 p i)=false)->(∀i,r<=i->i<k->lt (at0 p i) (at0 p k)=false) ->
  ends n lt (kas_place p k f l r) λm=>m<=k/\(∀i,i<m->lt (at0 p k) (at0 p i)=false)/\∀i,m<=i->i<k->lt (at0 p i) (at0 p k)=false
 |0=>λl r h1 h2 h3 ha hb=>#[by show fe .A .b .I .Q h1 h2,ha,λi U=>hb i (mf .A .k (.k .C .O) .cL (.e .S .A) h3 U (aa (ax .A .a .A h1)))]
 |f+1=>λl r h1 h2 h3 ha hb=>by
  unfold kas_place;split
  ·apply#[by show fe .A .b .I .Q h1 h2,ha,λi U=>hb i (by(rename_i Z;show fe .A .b .I .Q Z U))]
  ·apply#[hp.low hn _,hp.low hn _,?_];cases hc:lt (at0 p k) (at0 p ((l+r)/2)) with
   |true =>
    show ends n lt (kas_place p k f l ((l+r)/2)) _;apply jH L hn hp hu f l _ (by(rename_i Z;show mf .A [[2,1,1,-1]] (.j .C .A) (.l .D .W) (.e (.a (.m 2 .B) .D) .X) Z (Ar.zm _ 2 (by decide)).1 (Ar.zm _ 2 (by decide)).2)) (by(rename_i Z;show jd .A [[2,2,1,1]] .Q (.j .C .D) (.e (.a (.m 2 .A) .F) .a2) h2 Z (Ar.zm _ 2 (by decide)).2)) (by(rename_i Z;show FG .A [[2,1,1,-1,2]] .bI (.e (.a (.m 2 .D) .F) .aW) (.e .aU .H) (.e .aN .D) h3 (Ar.zm _ 2 (by decide)).2 (aa (ax .A .a .A h1)) (aa (mf .A [[2,1,1,-1]] (.j .C .A) (.l .D .W) (.e (.a (.m 2 .B) .D) .X) Z (Ar.zm _ 2 (by decide)).1 (Ar.zm _ 2 (by decide)).2)))) ha λi U hk=>?_;show L.tr _ _ _ (L.asym _ _ hc) (hu.le L U hk)
   |false =>
    show ends n lt (kas_place p k f ((l+r)/2+1) r) _;apply jH L hn hp hu f _ r (by(rename_i Z;show dj .F [[2,1,1]] (.j .B .C) .d8 Z (Ar.zm _ 2 (by decide)).2)) h2 (by(rename_i Z;show yH .A [[2,1,1,-1,-1,2]] .bI (.l .D .W) (.e (.a (.m 2 .F) .D) .aW) (.e .aU .H) (.e (.a .A .Y) .H) h3 (Ar.zm _ 2 (by decide)).1 (Ar.zm _ 2 (by decide)).2 (aa (ax .A .a .A h1)) (aa (dj .F [[2,1,1]] (.j .B .C) .d8 Z (Ar.zm _ 2 (by decide)).2)))) (λi U=>?_) hb;show L.tr _ _ _ (hu.le L (i:=i) (j:=(l+r)/2) (ax .A .a .J U) (by(rename_i Z;show jd .B [[2,2,1,1]] .Q (.j .C .D) (.e (.a (.m 2 .A) .F) .a2) h2 Z (Ar.zm _ 2 (by decide)).2))) hc
def K9 {p:Array Nat}{Z d:Nat}(Y:Z<p.size)(hd:d<=Z)(k:Nat):at0 (bubble p Z d) k=if k=Z-d then at0 p Z else if Z-d<k/\k<=Z then at0 p (k-1) else at0 p k:=by
 have e:=λi=>lC (p:=p) i;rw[lC,getElem?_bubble Y d hd,e Z,e (k-1),e k];split
 ·rfl
 ·split<;>rfl
def yC (L:lH lt)(hn:0<n):∀(f:Nat) (p:Array Nat) (k:Nat),vt n p->k+f<=n->jV lt p k->ends n lt (kas_bin f p k) λq=>vt n q/\jV lt q (k+f)
 |0=>λp k hp hk hu=>#[hp,hu]
 |f+1=>λp k hp hk hu=>by
  dsimp only[kas_bin];have ai:=hp.size;apply xu (ki (λl hl=>?_) (jH L hn hp hu k 0 k (bh _) (az _) (ax .A .a (.e .a8 .B) (aa (iy (.k .O .A) .j))) (λi hi=>absurd hi (iy (.g .A .O) .j)) λi hi hk=>absurd hk (ax .bL .a .aQ hi)));have#[g1,g2,g3]:=hl;apply ki (λq hq=>#[hq.1,by rw[show k+(f+1)=k+1+f by(show fE .c7 .n)];show hq.2]) (yC L hn f (bubble p k (k-l)) (k+1) (hp.step (bubble_perm _ _ _)) (dt .aD .a .M hk) λi j W hj=>?_);have e:k-(k-l)=l:=by(show Ar.sub _ _ (λU p1=>(Ar.sub _ _ (λq2 p2=>(dj .C .l .a5 .bB p1 p2)) λq2 p2=>(eQ .C [[1,1,-1,0,1],[1,0,1,1,0]] .aF .b5 .Q .Z g1 p1 q2 p2))) λU p1=>(Ar.sub _ _ (λq2 p2=>(mf .C .q .Y .G (.e .a5 .C) U p1 p2)) λq2 p2=>(wk .C [[0,1,1,1,1],[0,1,1,1,1]] .R (.l .D .Y) (.k .F .G) .bW W hj U p2)))
  rw[K9 (dj .B .d (.k .a9 .D) .c0 hk ai) (dt .A .a (.e .X .B) (aa (ax .A .a .A g1))),K9 (dj .B .d (.k .a9 .D) .c0 hk ai) (dt .A .a (.e .X .B) (aa (ax .A .a .A g1))),e];by_cases I:j=l
  ·rw[br I,aw (fe .cY [[-1,1,1]] .O (.e .C .B) W I),aw (λU=>(pq .ff .o .B .cZ (.l .C .A) W I U.1))];show g2 i (fe .B .b .O (.e .C .B) W I)
  ·rw[aw I];by_cases ab:l<j/\j<=k
   ·rw[br ab];by_cases ag:i=l
    ·rw[br ag];show g3 _ (mf .A [[1,1,-1,-1]] .R .cX .bX W ag (aa (ax .D .a .S W))) (fe .B .b (.l .C .L) .cW hj (aa (ax .D .a .S W)))
    ·rw[aw ag];split
     ·show hu _ _ (by(rename_i z1;show mf .B .k .R .cW .bX W (aa (ax .D .a .S z1.1)) (aa (ax .D .a .S W)))) (fe .B .b (.l .C .L) .cW hj (aa (ax .D .a .S W)))
     ·show hu _ _ (by(rename_i z1;show Ar.sub _ _ (λU p1=>((au I).elim (λq2=>(dj .B .c .R .X ab.1 q2)) λq2=>((au ag).elim (λq3=>(mf .B .m .R .bX .O ab.1 (aa (ax .D .a .S W)) q3)) λq3=>((gf.mp z1).elim (λq4=>(fe .B .c (.l .C .A) (.g .C .A) q3 q4)) λq4=>(mf .B .o .O (.l .C .V) (.j .A .D) W hj q4))))) λU p1=>(jd .B .o (.l .C .V) (.l .F .C) .cK hj ab.1 U))) (fe .B .b (.l .C .L) .cW hj (aa (ax .D .a .S W)))
   ·rw[aw ab,aw (Ar.sub _ _ (λU p1=>((au I).elim (λq2=>(fe .cY [[-1,1,1]] .O .N W q2)) λq2=>((gf.mp ab).elim (λq3=>(fe .cY [[-1,1,1]] .O (.g .B .C) W q3)) λq3=>(dj .cY .c (.l .C .V) (.j .C .D) hj q3)))) λU p1=>(mf .cY [[-1,1,1,1]] .O (.l .C .V) .cL W hj U)),aw (λU=>(Ar.sub _ _ (λq2 p2=>((au I).elim (λq3=>(pq .ff .o .B (.l .C .A) .aJ W U.1 q3)) λq3=>((gf.mp ab).elim (λq4=>(pq .ff .o .B (.l .C .A) (.g .C .B) W U.1 q4)) λq4=>(fy .ff .c .J (.j .A .B) hj q4)))) λq2 p2=>(eQ .ff [[0,1,1,1,1]] .B (.l .B .Q) (.l .D .A) .Y W hj U.1 q2)))];show hu _ _ W ((au I).elim (λU=>(fe .B .b .Q .O g1 U)) λU=>(Ar.sub _ _ (λq2 p2=>((gf.mp ab).elim (λq3=>(fe .B .c (.l .C .A) (.g .C .A) U q3)) λq3=>(fy .B .c .J (.j .A .B) hj q3))) λq2 p2=>(pq .B .o .J (.l .C .A) .aF hj U q2)))
def D7 (L:lH lt)(Y:0<n):ends n lt (kas_sort n) λq=>vt n q/\jV lt q n:=by
 unfold kas_sort;apply xu (ki (λr hr=>?_) (A8 L Y (p:=List.toArray (List.range n)) #[Array.Perm.refl _] (dp .D .a .H Y) (az _)));have#[g1,g2,g3,I]:=hr;split
 ·have e:max r.1 1=r.1:=by(show(Ar.RQ _ _).2.2.elim (λZ=>(fy .C .s .aQ .A (Ar.RQ _ _).1 Z)) λZ=>(TF .C [[1,0,1,0],[1,1,0,1]] (.k .U .B) .aQ (.k .A .U) g2 (Ar.RQ _ _).1 Z))
  rw[e];show ki (λq W=>#[W.1,by have:=W.2;rwa [show r.1+(n-r.1)=n by(show dt .V .f .a2 (aa (ax .A .a .A g3)))]at this]) (yC L Y (n-r.1) r.2 r.1 g1 (dt .K .a .a2 (aa (ax .A .a .A g3))) I)
 ·have e:r.1=n:=by(rename_i z1;show fy .C .i .A .bL g3 z1)
  apply#[g1,e▸I]
end
end MP
end
section
namespace MP
open PySem PyProof.Rows
variable {Q:Option Value->Shared->Prop}{it x:Addr}{ox:Obj}{xs:Array Value}{n:Nat}{ws:List Value}
abbrev hY (C N:Addr)(nm q:Str)(k0 k2 k3:Option Value):Obj:=
 {cls:=.type "type",dict:=none,data:=.cls {name:=nm,bases:=[.type "tuple"],mro:=[.ref C,.type "tuple",.type "object"],ns:=N,qualname:=q,hasDict:=false,slotNames:=[],subclasses:=[],abstract:=false,collection:=none,hasDel:=false},slots:=#v[k0,none,k2,k3,some .none,some (.bool false)]}
abbrev aO (C:Addr)(dd:Option Addr)(ws:List Value)(n:Nat):Obj:={cls:=.ref C,dict:=dd,data:=.seq ws.toArray n,slots:=#v[]}
def mro_tuple:mroOf (.type "tuple")=pure [.type "tuple",.type "object"]:=by kernel_rfl
section
variable {prog:Program}{w:World}{M:Model}{A:Around}{E:QqV}{h:Heap}{g:Array GenState}{d:Drawn}{t:Nat}{os:OsState}{C N:Addr}{nm q:Str}{k0 k2 k3:Option Value}{mN:Str->Option Value}{dd:Option Addr}
def mY {base:Value}{Q:Bool->Shared->Prop}(Z:h.get? C=some (hY C N nm q k0 k2 k3))(Y:Q ([Value.ref C,.type "tuple",.type "object"].contains base) #[h,g,d,t,os]):wpAny M A (isSubtype (.ref C) base) Q E #[h,g,d,t,os]:=by
 unfold hY at Z;unfold isSubtype
 repeat (any_goals (first|assumption|wp_step))
def N7 {Q:List Value->Shared->Prop}(Z:h.get? C=some (hY C N nm q k0 k2 k3))(Y:Q [.ref C,.type "tuple",.type "object"] #[h,g,d,t,os]):wpAny M A (mroOf (.ref C)) Q E #[h,g,d,t,os]:=by
 unfold hY at Z;unfold mroOf
 repeat (any_goals (first|assumption|wp_step))
def zI {name:Str}(W:h.get? C=some (hY C N nm q k0 k2 k3))(Y:h.Ns N mN)(Z:Q (mN name) #[h,g,d,t,os]):wpAny M A (classOwn (.ref C) name) Q E #[h,g,d,t,os]:=by
 unfold classOwn;apply ae ?_;unfold classData;apply ae (yu W (af (wpAny_nsGet Y Z)))
def xp {name:Str}{y:Option Value}(U:h.get? C=some (hY C N nm q k0 k2 k3))(B:h.Ns N mN)(I:typeLookup (.type "tuple") name=pure y)(Y:Q ((mN name).or y) #[h,g,d,t,os]):wpAny M A (typeLookup (.ref C) name) Q E #[h,g,d,t,os]:=by
 have Z:lookupAlong [.type "tuple",.type "object"] name=pure y:=by rw[typeLookup_eq,mro_tuple]at I;show I
 rw[typeLookup_eq];apply ae (N7 U ?_);rw[lookupAlong_cons];apply ae (zI U B ?_);cases W:mN name with
 |some v=>rw[W]at Y;show af Y
 |none=>rw[W]at Y;show fb Z Y
def HH {x:Addr}{i:Nat}{v:Value}{s:Shared}(hit:IsTupIter s.heap it x i)(W:s.heap.get? x=some ox)(hd:ox.data=.seq xs n)(U:xs[i]?=some v)
  (B:∀h',IsTupIter h' it x (i+1)->Heap.SameBut it s.heap h'->Q (some v) {s with heap:=h'}):wpAny (model prog w) A (pyNext (.ref it)) Q E s:=by
 have#[o,Y,I,Z]:=id hit;unfold pyNext;apply ae (yh (jx (name:=Str.ofString "__next__") hit.typeIs qe (fx qe hit.typeIs vU ?_ (vT _))));show wpAny _ _ (field (.ref it) 0>>=_) _ _ s;apply ae (nB Y Z (x:=.ref x) rfl ?_);show wpAny _ _ (if (Value.ref x==Value.none)=true then _ else _) _ _ s;rw[aw (show ¬((Value.ref x==Value.none)=true) from sg)];show wpAny _ _ (field (.ref it) 1>>=_) _ _ s;apply ae (nB Y Z (x:=.int i 0) rfl ?_);show wpAny _ _ (seqItems? (.ref x)>>=_) _ _ s;apply ae (qc W hd ?_);dsimp only;rw[jj,U];show wpAny _ _ (setField (.ref it) 1 (rawInt (i+1))>>=_) _ _ _;apply ae (su Y Z (by simp) ?_);apply(af #[v,rfl,af (B _ #[_,kl _ Y (uj (kc Z _)),(nE ..).trans I,?_] (gu ..))]);rw[kc Z];simp[rawInt]
def ML {x:Addr}{i:Nat}{s:Shared}(I:A.handled=none)(hit:IsTupIter s.heap it x i)(W:s.heap.get? x=some ox)(hd:ox.data=.seq xs n)(U:xs[i]?=none)
  (hQ:∀h',Heap.ExtBut it s.heap h'->Q none {s with heap:=h'}):wpAny (model prog w) A (pyNext (.ref it)) Q E s:=by
 have#[o,Y,hc,Z]:=id hit;unfold pyNext;apply ae (yh (jx (name:=Str.ofString "__next__") hit.typeIs qe (fx qe hit.typeIs vU ?_ (vT _))));show wpAny _ _ (field (.ref it) 0>>=_) _ _ s;apply ae (nB Y Z (x:=.ref x) rfl ?_);show wpAny _ _ (if (Value.ref x==Value.none)=true then _ else _) _ _ s;rw[aw (show ¬((Value.ref x==Value.none)=true) from sg)];show wpAny _ _ (field (.ref it) 1>>=_) _ _ s;apply ae (nB Y Z (x:=.int i 0) rfl ?_);show wpAny _ _ (seqItems? (.ref x)>>=_) _ _ s;apply ae (qc W hd ?_);dsimp only;rw[jj,U];show wpAny _ _ (rule _>>=λ_=>setField (.ref it) 0 .none>>=_) _ _ _;apply ae (wd (ae (su Y Z (by simp) ?_)));apply jF I λh' e hk B=>?_;apply ae (qZ (T:="StopIteration") (b:=true) B isSubtype_stop ?_);show af (hQ _ λb o n e=>hk b o ((gu ..).extBut b o n e))
def N9 {id I:String}{rest:List Value}{Q:Unit->Shared->Prop}(hC:h.get? C=some (hY C N nm q k0 k2 k3))(Y:h.get? x=some (aO C dd ws n))(B:splitId id=some ("tuple",I))(hk:builtinKind id=some .slot\/builtinKind id=some .method)(W:argsOk id #[.ref x::rest,[]])(U:Q () #[h,g,d,t,os]) :
  wpAny M A (checkBuiltinCall id #[.ref x::rest,[]]) Q E #[h,g,d,t,os]:=by
 have inst:∀{R:Bool->Shared->Prop},R true #[h,g,d,t,os]->wpAny M A (isInstance (.ref x) (.type "tuple")) R E #[h,g,d,t,os]:=λ{R} hr=>by
  unfold isInstance;unfold aO at Y
  repeat (first|(with_reducible refine rg Y ?_)|(with_reducible refine mY hC ?_)|wp_step)
  show hr
 rcases hk with hk|hk <;>
 ·simp only[checkBuiltinCall,hk,B];apply ae (inst ?_);simp only[zu,eh,kh];cases hsig:Manifest.signature? id with
  |none=>show af U
  |some Z =>
   simp only[argsOk,hsig]at W;have h2:Bind.checkArgs id Z #[.ref x::rest,[]]=pure ():=W;show wpAny M A (Bind.checkArgs id Z #[.ref x::rest,[]]) Q E _;rw[h2];show af U
def zJ {id Z:String}{b:Builtin}{rest:List Value}{Q:QqV}(hC:h.get? C=some (hY C N nm q k0 k2 k3))(Y:h.get? x=some (aO C dd ws n))(U:splitId id=some ("tuple",Z))(hk:builtinKind id=some .slot\/builtinKind id=some .method)(I:plainId id=true)(B:entryFor table id=some b)(ha:argsOk id #[.ref x::rest,[]])
  (hc:wpAny (model prog w) A.in1 (b #[.ref x::rest,[]]) (λfin s'=>∃v,fin=.done (.ret v)/\Q v s') E #[h,g,d,t,os]):wpAny (model prog w) A (call (.builtin id) (.ref x::rest)) Q E #[h,g,d,t,os]:=by
 apply qd (gB I B (N9 hC Y U hk ha (cg hc (λfin s' h'=>?_) λ_ _ e=>e)));have#[v,rfl,W]:=h';show W
def wC:splitId "tuple.__iter__"=some ("tuple","__iter__"):=by kernel_rfl
def zO:builtinKind "tuple.__iter__"=some .slot:=by kernel_rfl
def S5 {Q:QqV}(U:h.get? C=some (hY C N nm q k0 k2 k3))(I:h.Ns N mN)(hi:mN "__iter__"=none)(Y:h.get? x=some (aO C dd ws n))
  (hQ:Q (.ref h.objs.size) #[h.push {cls:=.type "tuple_iterator",data:=.fields #v[.ref x,.int 0 0]},g,d,t,os]):wpAny (model prog w) A (pyIter (.ref x)) Q E #[h,g,d,t,os]:=by
 have B:=PySem.F.slot_tuple_iter.lookup;have hb:=PySem.F.slot_tuple_iter.bind (.ref x);have Z:=Y;unfold pyIter specialOf;unfold aO at Y
 repeat (first|(with_reducible refine rg Y ?_)|(with_reducible refine xp U I B ?_;rw[hi])|wp_step)
 have go:∀(E:QqV) (R:Option (Value×List Value)->Shared->Prop),R (some (.builtin "tuple.__iter__",[.ref x])) #[h,g,d,t,os]->wpAny (model prog w) A (do let r←bindSpecial (Value.builtin "tuple.__iter__") (Value.ref x);pure (some r)) R E #[h,g,d,t,os]:=λE R W=>ae (fb hb (af W));have fin:wpAny (model prog w) A (call (.builtin "tuple.__iter__") [.ref x]) (λr s'=>∃y,r=.ref y/\y=h.objs.size/\s'=#[h.push {cls:=.type "tuple_iterator",data:=.fields #v[.ref x,.int 0 0]},g,d,t,os]) E #[h,g,d,t,os]:=by
  apply zJ U Z wC (.inl zO) PySem.F.slot_tuple_iter.plain PySem.F.entry_tuple_iter (PySem.F.args_tuple_iter_1 _) ?_;show wpAny _ _ (do ret (← newFields "tuple_iterator" [.ref x,rawInt 0])) _ _ _;show ae (jt (af #[_,rfl,_,rfl,rfl,rfl]))
 have tail:wpAny (model prog w) A (match (some (Value.builtin "tuple.__iter__",[Value.ref x]):Option (Value×List Value)) with
    |some (g,first)=>if (g==Value.none)=true then (do let r←(do rule "iter.none";raiseError "TypeError" s!"'{← typeNameOf (.ref x)}' object is not iterable":Sem Value);pure (some r)) else (do let r←call g first;pure (some r))
    |_=>pure none:Sem (Option Value)) (λa s'=>wpAny (model prog w) A (match a with
     |some it=>(do match←(do typeLookup (← typeOf it) "__next__":Sem (Option Value)) with
       |none=>(do rule "iter.non-iterator";raiseError "TypeError" s!"iter() returned non-iterator of type '{← typeNameOf it}'":Sem Value)
       |some _=>pure it)
     |none=>(do match←bindSpecialIfBound? (.ref x) "__getitem__" with
       |none=>(do rule "iter.not-iterable";raiseError "TypeError" s!"'{← typeNameOf (.ref x)}' object is not iterable":Sem Value)
       |some _=>(do rule "iter.getitem-fallback";newFields "iterator" [.ref x,<- mkInt 0]))) Q E s') E #[h,g,d,t,os]:=by
  dsimp only;rw[aw (show ¬((Value.builtin "tuple.__iter__" == Value.none)=true) from sg)];apply ae (cg fin (λr s' W=>?_) λ_ _ e=>e);have#[y,rfl,rfl,rfl]:=W;apply af ?_;dsimp only;apply ae (ae (jX (T:="tuple_iterator") #[_,cf _ rfl,rfl] (fb qe.lookup ?_)));show af hQ
 apply wo ?_;split
 ·show go _ _ tail
 ·show wpAny_tryCatch (go _ _ tail)
def wL {k:Nat}(ab:x≠it)(hd:ox.data=.seq xs k):∀(n i:Nat) (s:Shared) (Q:List Value->Shared->Prop),IsTupIter s.heap it x i->s.heap.get? x=some ox->i+n<=xs.size ->
  (∀h',IsTupIter h' it x (i+n)->Heap.SameBut it s.heap h'->Q ((xs.toList.drop i).take n) {s with heap:=h'})->wpAny (model prog w) A (draw (.ref it) n) Q E s
 |0=>λi s Q hit hx hn hQ=>by
  dsimp only[draw];show af (by simpa using hQ s.heap hit (.refl ..))
 |n+1=>λi s Q hit hx hn hQ=>by
  dsimp only[draw];have hv:xs[i]?=some xs[i]:=ix (dt .B .a (.k .a9 .B) hn);apply ae (HH hit hx hd hv λh₁ W Z=>?_);apply ae (cm (wL ab hd n (i+1) _ _ W (by rw[Z.2 x ab];show hx) (dt .aD .a .M hn) λI Y U=>af ?_));have ag:xs.toList.drop i=xs[i]::xs.toList.drop (i+1):=by
   rw[ky (by simpa using (by(show dt .B .a (.k .a9 .B) hn):i<xs.size))];simp
  have:=hQ I (by rw[show i+(n+1)=i+1+n by(show fE .c7 .n)];show Y) (Z.trans U);rw[ag,List.take_succ_cons]at this;show this
end
structure tf (G:Stc):Prop where
 here:∃N mN nm q k0 k2 k3,G.hb.get? G.cM=some (hY G.cM N nm q k0 k2 k3)/\G.hb.Ns N mN/\mN "__iter__"=none/\mN "__lt__"=none/\mN "__len__"=none/\mN "__init__"=none
def WX {G:Stc}(K:tf G):FJ G:=λA E s x ws n dd Q hh Y hx hQ=>by
 have#[N,mN,nm,q,k0,k2,k3,hC,hN,hi,_]:=K.here;have ag:x≠s.heap.objs.size:=gn (gv hx);have#[h,g,d,t,os]:=s;have ao:=Y _ _ hC;have aj:=hN.keeps Y;have hl:=PySem.F.slot_tuple_iter.lookup;have ar:h.get? x=some (aO G.cM dd ws n):=hx;have ab:h.get? x=some {cls:=.ref G.cM,dict:=dd,data:=.seq ws.toArray n,slots:=#v[]}:=hx;have ni:∀R:Bool->Shared->Prop,R false #[h,g,d,t,os]->wpAny G.M A (notIterableAtAll (.ref x)) R E #[h,g,d,t,os]:=λR hr=>by
  unfold notIterableAtAll specialOf
  repeat (first|(with_reducible refine rg ab ?_)|(with_reducible refine xp ao aj hl ?_;rw[hi])|wp_step)
  show hr
 unfold unpackItems;apply ae (ni _ ?_);simp only[eh,kh];have hp:(h.push {cls:=.type "tuple_iterator",data:=.fields #v[.ref x,.int 0 0]}).get? x=some {cls:=.ref G.cM,dict:=dd,data:=.seq ws.toArray n,slots:=#v[]}:=av _ ab;apply ae (cm (S5 ao aj hi ar ?_));apply ae (cm (wL (xs:=ws.toArray) (k:=n) ag rfl ws.length 0 _ _ #[_,cf _ rfl,rfl,rfl] hp (by simp) λh₁ W Z=>?_));have ai:List.take ws.length (List.drop 0 ws.toArray.toList)=ws:=by simp
 rw[ai,aw (by simp)];have U:h₁.get? x=some {cls:=.ref G.cM,dict:=dd,data:=.seq ws.toArray n,slots:=#v[]}:=by rw[Z.2 x ag];show hp
 apply ae (cm (ML (xs:=ws.toArray) (n:=n) hh W U rfl (by simp) λB I=>?_));simp only[wt,eh,kh];show af (hQ B λb o hb e=>I b o hb (Z.extBut b o hb (av _ e)))
variable {x y:Addr}{ns ms:List Int}{n:Nat}
abbrev jL (ns ms:List Int):Option Fin×Unit:=if ns=ms then (none,()) else (some (.done (.ret (.bool (ru ns ms)))),())
def oY:∀ns:List Int,ru ns ns=false
 | []=>rfl
 |a::as=>(br rfl).trans (oY as)
section
variable {prog:Program}{w:World}{M:Model}{A:Around}{E:QqV}{h:Heap}{g:Array GenState}{d:Drawn}{t:Nat}{os:OsState}{C N:Addr}{nm q:Str}{k0 k2 k3:Option Value}{mN:Str->Option Value}{dd de:Option Addr}
def NB {s:Shared}(f:Value×Value->Option Fin×Unit->Sem (ForInStep (Option Fin×Unit)))
  (hf:∀a b st,f (a,b) st=(do let r←eqBool a b;if (!r)=true then (do rule "tuple.compare.by-the-first-pair-that-differs";let v←richCompare .Lt a b;let z←ret v;pure (.done (some z,()))) else pure (.yield (none,())))) :
  ∀{ws us:List Value} {ns ms:List Int} {Q:Option Fin×Unit->Shared->Prop},IntsAre ws ns->IntsAre us ms->ns.length=ms.length->Q (jL ns ms) s->wpAny (model prog w) A (forIn (ws.zip us) (none,()) f) Q E s:=by
 intro ws us ns ms Q h1;induction h1 generalizing us ms Q with
 |nil =>
  intro W U Y;cases W with
  |nil=>rw[List.zip_nil_left,og];show af Y
  |cons=>simp at U
 | @cons a ta ws ns h1 ih =>
  intro W U Y;cases W with
  |nil=>simp at U
  | @cons b tb us ms W =>
   rw[List.zip_cons_cons,pj,hf];apply ae (ae (wpAny_eqBool_int ?_));by_cases Z:a=b
   ·subst Z;simp -iota only[rj,zu,eh,kh];apply af (ih W (by simpa using U) ?_);have e:jL (a::ns) (a::ms)=jL ns ms:=by unfold jL;rw[show ru (a::ns) (a::ms)=ru ns ms from br rfl];simp
    rw[e]at Y;show Y
   ·have I:(a==b)=false:=by simpa using Z
    rw[I];simp -iota only[Bool.not_false,yj];have e:jL (a::ns) (b::ms)=(some (.done (.ret (.bool (decide (a<b))))),()):=by unfold jL;rw[show ru (a::ns) (b::ms)=decide (a<b) from aw Z,aw λq=>Z (List.cons.inj q).1]
    rw[e]at Y;apply ae (wd (ae ?_));have B:∀R:Value->Shared->Prop,R (.bool (decide (a<b))) s->wpAny (model prog w) A (richCompare .Lt (.int a ta) (.int b tb)) R E s:=λR hr=>lt_int hr;show B _ (ae (af (af (af Y))))
def NA {ox W:Obj}{ws us:List Value}{m:Nat}{P:Fin->Shared->Prop}(hx:h.get? x=some ox)(dx:ox.data=.seq ws.toArray n)(B:h.get? y=some W)(dy:W.data=.seq us.toArray m)(I:IntsAre ws ns)(U:IntsAre us ms)(hl:ns.length=ms.length)
  (inst:∀R:Bool->Shared->Prop,R true #[h,g,d,t,os]->wpAny (model prog w) A (isInstance (.ref y) (.type "tuple")) R E #[h,g,d,t,os]) (Y:P (.done (.ret (.bool (ru ns ms)))) #[h,g,d,t,os]):wpAny (model prog w) A (Builtin.«tuple.__lt__» #[[.ref x,.ref y],[]]) P E #[h,g,d,t,os]:=by
 unfold Builtin.«tuple.__lt__»;apply ae (fb (a:=(.ref x,[.ref y])) (by rfl) ?_);dsimp only;apply ae (inst _ ?_);simp -iota only[zu,eh,kh];apply ae (m:=Builtin.Tuple.tupleItemsOf (.ref x)) (ae (qc hx dx (af ?_)));apply ae (m:=Builtin.Tuple.tupleItemsOf (.ref y)) (ae (qc B dy (af ?_)));apply ae (NB _ (λa b st=>by rfl) (ws:=ws) (us:=us) I U hl ?_);unfold jL;by_cases e:ns=ms
 ·rw[br e];subst e;rw[oY]at Y;have Z:ws.toArray.size=us.toArray.size:=by simp[I.length,U.length]
  have e2:Builtin.Tuple.tupleCompareSizes .Lt ws.toArray.size us.toArray.size=.bool false:=by unfold Builtin.Tuple.tupleCompareSizes;rw[Z];simp
  show wpAny _ _ (ret (Builtin.Tuple.tupleCompareSizes .Lt ws.toArray.size us.toArray.size)) _ _ _;rw[e2];show af Y
 ·rw[aw e];show af Y
def E5 {ws us:List Value}{m:Nat}{P:Fin->Shared->Prop}(B:h.get? C=some (hY C N nm q k0 k2 k3))(Y:h.get? x=some (aO C dd ws n))(Z:h.get? y=some (aO C de us m))(h1:IntsAre ws ns)(h2:IntsAre us ms)(U:ns.length=ms.length)
  (I:P (.done (.ret (.bool (ru ns ms)))) #[h,g,d,t,os]):wpAny (model prog w) A (Builtin.«tuple.__lt__» #[[.ref x,.ref y],[]]) P E #[h,g,d,t,os]:=NA Y rfl Z rfl h1 h2 U (λR W=>by
  unfold isInstance;unfold aO at Z
  repeat (first|(with_reducible refine rg Z ?_)|(with_reducible refine mY B ?_)|wp_step)
  show W) I
def D6:splitId "tuple.__lt__"=some ("tuple","__lt__"):=by kernel_rfl
def IT:builtinKind "tuple.__lt__"=some .slot:=by kernel_rfl
def N8 {ws us:List Value}{m:Nat}{Q:Bool->Shared->Prop}(hu:A.units<cLine)(hC:h.get? C=some (hY C N nm q k0 k2 k3))(hn:h.Ns N mN)(I:mN "__lt__"=none)(W:h.get? x=some (aO C dd ws n))(hy:h.get? y=some (aO C de us m))(h1:IntsAre ws ns)(h2:IntsAre us ms)(hl:ns.length=ms.length)
  (hQ:Q (ru ns ms) #[h,g,d,t,os]):wpAny (model prog w) A (keyLt' oneType' (.ref x) (.ref y)) Q E #[h,g,d,t,os]:=by
 rw[keyLt'_oneType,oneLt'_eq];simp -iota only[yj];apply ae (wpAny_cRoomFor hu ?_);have B:=PySem.F.slot_tuple_lt.lookup;have Z:typeLookup (.type "tuple") "__lt__"=pure (some (.builtin "tuple.__lt__")):=B;have hb:=PySem.F.slot_tuple_lt.bind (.ref x);have Y:h.get? x=some {cls:=.ref C,dict:=dd,data:=.seq ws.toArray n,slots:=#v[]}:=W;have fin:∀(E:QqV) (R:QqV),R (.bool (ru ns ms)) #[h,g,d,t,os]->wpAny (model prog w) A (call (.builtin "tuple.__lt__") [.ref x,.ref y]) R E #[h,g,d,t,os]:=λE R U =>
  zJ hC W D6 (.inl IT) PySem.F.slot_tuple_lt.plain PySem.F.entry_tuple_lt (PySem.F.args_tuple_lt_2 _ _) (E5 hC W hy h1 h2 hl #[_,rfl,U])
 have sp:∀(R:Option (Value×List Value)->Shared->Prop),R (some (.builtin "tuple.__lt__",[.ref x])) #[h,g,d,t,os]->wpAny (model prog w) A (bindSpecialIfBound? (.ref x) "__lt__") R E #[h,g,d,t,os]:=λR U=>by
  have go:∀(E:QqV),wpAny (model prog w) A (do let r←bindSpecial (Value.builtin "tuple.__lt__") (Value.ref x);pure (some r)) R E #[h,g,d,t,os]:=λE=>ae (fb hb (af U));unfold bindSpecialIfBound? specialOf
  repeat (first|(with_reducible refine rg Y ?_)|(with_reducible refine xp hC hn Z ?_;rw[I])|wp_step)
  apply wo ?_;split
  ·show go _
  ·show wpAny_tryCatch (go _)
 unfold callSpecialIfBound?;apply ae (cm (ae (sp _ ?_)));apply ae (fin _ _ (af ?_));show rf hQ
end
end MP
end
section
namespace MP
open PySem PyProof.Rows PySem.W
variable {ts:List (Int×Int×Int)}{C:Addr}{h:Heap}
abbrev tl (t:Int×Int×Int):List Int:=[t.1,t.2.1,t.2.2]
def BX (s t:Int×Int×Int):leT s t=!(ru (tl t) (tl s)):=rfl
abbrev LeT (s t:Int×Int×Int):Prop:=s.1<t.1\/(s.1=t.1/\(s.2.1<t.2.1\/(s.2.1=t.2.1/\s.2.2<=t.2.2)))
def yb (s t:Int×Int×Int):leT s t=true↔LeT s t:=by
 rw[BX,fh];unfold LeT;by_cases U:t.1=s.1
 ·rw[show ru (tl t) (tl s)=ru [t.2.1,t.2.2] [s.2.1,s.2.2] from br U];by_cases h2:t.2.1=s.2.1
  ·rw[show ru [t.2.1,t.2.2] [s.2.1,s.2.2]=ru [t.2.2] [s.2.2] from br h2];by_cases h3:t.2.2=s.2.2
   ·rw[show ru [t.2.2] [s.2.2]=false from br h3];apply#[λ_=>.inr #[U.symm,.inr #[h2.symm,fG h3.symm]],λ_=>rfl]
   ·rw[show ru [t.2.2] [s.2.2]=decide (t.2.2<s.2.2) from aw h3,rh]
    (show#[λW=>(.inr #[(ud .a7 .e .d7 U),(.inr #[(ud .a7 .e .d7 h2),(ud (.ik .A .B) .a (.ig .B .A) W)])]),λW=>((oh h3).elim (λZ=>(W.elim (λY=>(lF .bF .c .cA (.il .D .C) U Y)) λY=>(Y.2.elim (λI=>(lF .bF .c .cA (.il .D .C) h2 I)) λI=>(ud .bF .a (.ik .B .A) I.2)))) λZ=>(ud .bF .a .bT Z))])
  ·rw[show ru [t.2.1,t.2.2] [s.2.1,s.2.2]=decide (t.2.1<s.2.1) from aw h2,rh]
   (show#[λW=>(.inr #[(ud .a7 .e .d7 U),(.inl ((oh h2).elim (λZ=>(dN .b0 .c (.ig .B .A) .bT W Z)) λZ=>(ud .b0 .a .b0 Z)))]),λW=>((oh h2).elim (λZ=>(W.elim (λY=>(lF .bF .c .cA (.il .D .C) U Y)) λY=>(Y.2.elim (λI=>(ud .bF .a .bT I)) λI=>(ud .bF .a .d7 I.1)))) λZ=>(ud .bF .a .bT Z))])
 ·rw[show ru (tl t) (tl s)=decide (t.1<s.1) from aw U,rh]
  (show#[λW=>(.inl ((oh U).elim (λZ=>(dN .b0 .c (.ig .B .A) .bT W Z)) λZ=>(ud .b0 .a .b0 Z))),λW=>((oh U).elim (λZ=>(W.elim (λY=>(ud .bF .a .bT Y)) λY=>(ud .bF .a .d7 Y.1))) λZ=>(ud .bF .a .bT Z))])
def LeT.trans {a b c:Int×Int×Int}(U:LeT a b)(W:LeT b c):LeT a c:=by
 unfold LeT at *;rcases U with p|⟨p,Y⟩
 ·show .inl (W.elim (λZ=>(tG .b0 .b (.il .A .C) (.il .C .B) p Z)) λZ=>(tG .b0 .b (.il .A .C) (.ie .C .B) p Z.1))
 ·rcases W with q|⟨q,Z⟩
  ·show .inl (tG .b0 .b (.ie .A .C) (.il .C .B) p q)
  ·apply .inr #[p.trans q,?_];rcases Y with p|⟨p,Y⟩
   ·show .inl (Z.elim (λZ=>(tG .b0 .b (.il .A .C) (.il .C .B) p Z)) λZ=>(tG .b0 .b (.il .A .C) (.ie .C .B) p Z.1))
   ·rcases Z with q|⟨q,Z⟩
    ·show .inl (tG .b0 .b (.ie .A .C) (.il .C .B) p q)
    ·show .inr #[p.trans q,Int.le_trans Y Z]
def LeT.total (a b:Int×Int×Int):LeT a b\/LeT b a:=by
 rcases Int.lt_trichotomy a.1 b.1 with h|h|h
 ·show .inl (.inl h)
 ·rcases Int.lt_trichotomy a.2.1 b.2.1 with g|g|g
  ·show .inl (.inr #[h,.inl g])
  ·show(Int.le_total a.2.2 b.2.2).imp (λk=>.inr #[h,.inr #[g,k]]) λk=>.inr #[h.symm,.inr #[g.symm,k]]
  ·show .inr (.inr #[h.symm,.inl g])
 ·show .inr (.inl h)
def LeT.WI {a b:Int×Int×Int}(h1:LeT a b)(h2:LeT b a):a=b:=by
 unfold LeT at *;have I:a.1=b.1:=by(show h1.elim (λY=>(h2.elim (λZ=>(dN .a7 .i .b0 .bT Y Z)) λZ=>(ud .a7 .e .d7 Z.1))) λY=>(ud .a7 .f .a7 Y.1))
 have e2:a.2.1=b.2.1:=by(show h1.elim (λY=>(lF .a7 [[0,-1,1],[0,-1,1]] .cA (.il .C .D) I Y)) λY=>(h2.elim (λZ=>(lF .a7 .g .cA (.il .D .C) I Z)) λZ=>(Y.2.elim (λU=>(Z.2.elim (λW=>(dN .a7 .i .b0 .bT U W)) λW=>(ud .a7 .e .d7 W.1))) λU=>(ud .a7 .f .a7 U.1))))
 have e3:a.2.2=b.2.2:=by(show h1.elim (λY=>(lF .a7 [[0,-1,1],[0,-1,1]] .cA (.il .C .D) I Y)) λY=>(h2.elim (λZ=>(lF .a7 .g .cA (.il .D .C) I Z)) λZ=>(Y.2.elim (λU=>(lF .a7 [[0,-1,1],[0,-1,1]] .cA (.il .C .D) e2 U)) λU=>(Z.2.elim (λW=>(lF .a7 .g .cA (.il .D .C) e2 W)) λW=>(dN .a7 .i (.ik .A .B) (.ik .B .A) U.2 W.2)))))
 show Prod.ext I (Prod.ext e2 e3)
def iK:∀{a b:List (Int×Int×Int)},a.Perm b->a.Pairwise LeT->b.Pairwise LeT->a=b
 | [],b,Z,_,_=>by simpa using Z.nil_eq
 |x::a,[],Z,_,_=>by have:=Z.length_eq;simp at this
 |x::a,y::b,Z,I,hb=>by
  have U:=ib.mp I;have W:=ib.mp hb;have Y:x=y:=by
   have h1:LeT y x:=by
    have:x∈y::b:=Z.mem_iff.mp (.head _);rcases bw.mp this with rfl|h
    ·unfold LeT;(show .inr #[(qK (.ie .A .A) .n),(.inr #[(qK (.ie .A .A) .n),(qK (.ik .A .A) .j)])])
    ·show W.1 x h
   have B:LeT x y:=by
    have:y∈x::a:=Z.mem_iff.mpr (.head _);rcases bw.mp this with rfl|h
    ·unfold LeT;(show .inr #[(qK (.ie .A .A) .n),(.inr #[(qK (.ie .A .A) .n),(qK (.ik .A .A) .j)])])
    ·show U.1 y h
   show B.WI h1
  subst Y;rw[iK (Z.cons_inv) U.2 W.2]
def iO (ts:List (Int×Int×Int)):(ts.mergeSort leT).Pairwise LeT:=by
 have h:=List.pairwise_mergeSort (le:=leT) (λa b c W Y=>(yb a c).mpr (((yb a b).mp W).trans ((yb b c).mp Y))) (λa b=>by
  rcases LeT.total a b with h|h
  ·rw[(yb a b).mpr h];rfl
  ·rw[(yb b a).mpr h];simp) ts
 show h.imp λZ=>(yb _ _).mp Z
abbrev oZ (ts:List (Int×Int×Int))(i j:Nat):Bool:=ru (tl (ts.getD i (0,0,0))) (tl (ts.getD j (0,0,0)))
def eG {i j:Nat}:oZ ts j i=false↔LeT (ts.getD i (0,0,0)) (ts.getD j (0,0,0)):=by
 rw[<- yb,BX];unfold oZ;cases ru (tl (ts.getD j (0,0,0))) (tl (ts.getD i (0,0,0)))<;>simp
def NC (ts:List (Int×Int×Int)):lH (oZ ts) where
 asym:=λa b h=>by
  rw[eG];have W:¬LeT (ts.getD b (0,0,0)) (ts.getD a (0,0,0)):=λY=>by rw[<- eG]at Y;rw[h]at Y;cases Y
  rcases LeT.total (ts.getD a (0,0,0)) (ts.getD b (0,0,0)) with Z|Z
  ·show Z
  ·show absurd Z W
 tr:=λa b c W Z=>by
  rw[eG]at *;show W.trans Z
def wJ {p:Array Nat}(U:vt ts.length p)(hu:jV (oZ ts) p ts.length):p.toList.map (λi=>ts.getD i (0,0,0))=ts.mergeSort leT:=by
 apply iK ?_ ?_ (iO ts)
 ·have Z:(p.toList.map λi=>ts.getD i (0,0,0)).Perm ((List.range ts.length).map λi=>ts.getD i (0,0,0)):=(gM.mp U.perm).map _;have h2:((List.range ts.length).map λi=>ts.getD i (0,0,0))=ts:=by
   apply List.ext_getElem ?_ ?_
   ·simp
   ·intro i Z h2;simp at Z;simp[List.getD,Z]
  rw[h2]at Z;show Z.trans (List.mergeSort_perm ts leT).symm
 ·rw[iI];intro i j I Y W;simp only[ak,gh]at I Y;have hs:=U.size;have:=hu i j W (fe .B .b .O (.e .C .B) Y hs);rw[eG]at this;simp only[at0,Array.getD,I,Y,dite_true]at this;simpa using this
abbrev Mts (C:Addr)(h:Heap):List (Int×Int×Int)->List Value->Prop
 | []=>λvs=>vs=[]
 |t::ts=>λvs=>∃x dd ws n us,vs=.ref x::us/\h.get? x=some (aO C dd ws n)/\IntsAre ws (tl t)/\Mts C h ts us
def Mts.length:{ts:List (Int×Int×Int)}->{vs:List Value}->Mts C h ts vs->ts.length=vs.length
 | []=>λe=>e▸rfl
 |_::_=>λZ=>by have#[_,_,_,_,_,e,_,_,r]:=Z;show e▸bx (·+1) r.length
def Mts.at {vs:List Value}(m:Mts C h ts vs)(i:Nat)(Z:i<ts.length):∃x dd ws n,vs.getD i Value.none=.ref x/\h.get? x=some (aO C dd ws n)/\IntsAre ws (tl (ts.getD i (0,0,0))):=by
 induction ts generalizing vs i with
 |nil=>show absurd Z (fu i)
 |cons t ts Y =>
  have#[x,dd,ws,n,us,e,g,q,r]:=m;subst e;cases i with
  |zero=>refine#[x,dd,ws,n,rfl,g,q]
  |succ i=>show Y r i (mP Z)
def Mts.mono {h':Heap}(hk:je h h'):{ts:List (Int×Int×Int)}->{vs:List Value}->Mts C h ts vs->Mts C h' ts vs
 | []=>λe=>e
 |_::_=>λZ=>by have#[x,dd,ws,n,us,e,g,q,r]:=Z;apply#[x,dd,ws,n,us,e,hk _ _ g (.inl #[λq=>(nomatch q),_,_,rfl]),q,r.mono hk]
def Mts.of {G:Stc}:{ts:List (Int×Int×Int)}->{vs:List Value}->VRs G h (ts.map mtV) vs->Mts G.cM h ts vs
 | []=>λe=>e
 |t::_=>λZ=>by have#[_,us,e,#[a,ws,n,dd,Y,g,r],rest]:=Z;apply#[a,dd,ws,n,us,Y▸e,g,tj (ns:=tl t) r,Mts.of rest]
def Mts.vr {G:Stc}:{ts:List (Int×Int×Int)}->{vs:List Value}->Mts G.cM h ts vs->VRs G h (ts.map mtV) vs
 | []=>λe=>e
 |t::_=>λZ=>by have#[x,_,_,_,us,e,g,q,r]:=Z;apply#[.ref x,us,e,.mt g (VRs.ints (ns:=tl t) q),r.vr]
def Mts.pick {vs:List Value}(m:Mts C h ts vs):(l:List Nat)->(∀i∈l,i<ts.length)->Mts C h (l.map λi=>ts.getD i (0,0,0)) (l.map λi=>vs.getD i Value.none)
 | []=>λ_=>rfl
 |i::l=>λZ=>by
  have#[x,dd,ws,n,e,g,W]:=m.at i (Z i (.head _));apply#[x,dd,ws,n,l.map λi=>vs.getD i Value.none,bx (·::_) e,g,W,m.pick l λj Y=>Z j (.tail _ Y)]
section
variable {G:Stc}{A:Around}{E:QqV}{s:Shared}{σ:St}
def xD (K:tf G){a:Addr}{vs:List Value}{n:Nat}{P:Fin->Shared->Prop}(hu:A.units<cLine)(ab:∀b o,G.hb.get? b=some o->s.heap.get? b=some o)(bn:G.hb.get? a=none)(ho:IsL s.heap a vs.toArray n)(m:Mts G.cM s.heap ts vs)(Y:ts.length<64)
  (h:∀h' aE k,At a s.heap h'->IsL h' a aE.toArray k->Mts G.cM s.heap (ts.mergeSort leT) aE->P (.done (.ret .none)) {s with heap:=h'}):wpAny G.M A (Builtin.«list.sort» #[[.ref a],[]]) P E s:=by
 have#[N,mN,nm,q,k0,k2,k3,hC,hN,hi,ca,_]:=K.here;have Z:=m.length;have ha:a<s.heap.objs.size:=gv ho;have s1:=gu s.heap a (Obj.mapSeq λ_=>(#v[]:Array Value));have ai:s.heap.get? a=some (seqObj "list" vs.toArray n):=ho;have#[e1,ar]:∃e1,(s.heap.update a (Obj.mapSeq λ_=>(#v[]:Array Value))).get? a=some (seqObj "list" #v[] e1):=#[_,get?_update_seq ai λ_=>#v[]];rw[list_sort_plain];apply ae (listItems_at ai rfl ?_);apply ae (listUpdate_at ai rfl ?_ (by rw[cv,sizeLine_eq];(show fy .bA .d .aH .b8 Y Z)) (bh _));apply ae (seqEpoch_at ar rfl ?_);apply ae (wpAny_newTuple ?_ (by show vs.length<=_;rw[sizeLine_eq];(show fy .bA .d .aH .b8 Y Z)));apply ae (wpAny_newList ?_ (bh _));apply cm ?_;show wpAny G.M A _ P E {s with heap:=((s.heap.update a (Obj.mapSeq λ_=>(#v[]:Array Value))).push (seqObj "tuple" vs.toArray 0)).push (seqObj "list" #v[] 0)};dsimp only;have other:∀b o,b≠a->s.heap.get? b=some o->(((s.heap.update a (Obj.mapSeq λ_=>(#v[]:Array Value))).push (seqObj "tuple" vs.toArray 0)).push (seqObj "list" #v[] 0)).get? b=some o:=λb o hb e =>
  av _ (av _ (by rw[s1.2 b hb];show e))
 have I:(((s.heap.update a (Obj.mapSeq λ_=>(#v[]:Array Value))).push (seqObj "tuple" vs.toArray 0)).push (seqObj "list" #v[] 0)).get? a=some (seqObj "list" #v[] e1):=av _ (av _ ar);generalize hH:((s.heap.update a (Obj.mapSeq λ_=>(#v[]:Array Value))).push (seqObj "tuple" vs.toArray 0)).push (seqObj "list" #v[] 0)=H at *;have frz:je s.heap H:=λb o e f=>other b o (λq=>by subst q;rw[show s.heap.get? b=_ from ho]at e;cases e;show za rfl rfl f) e;have mH:=m.mono frz;have cd:H.get? G.cM=some (hY G.cM N nm q k0 k2 k3):=other _ _ (λq=>by subst q;rw[bn]at hC;cases hC) (ab _ _ hC);have cc:H.Ns N mN:=by
  have#[o,es,ep,ao,r]:=hN;apply#[o,es,ep,other _ _ (λq=>by subst q;rw[bn]at ao;cases ao) (ab _ _ ao),r]
 have fin:∀(out:List Value) (hz:out.length<64),Mts G.cM s.heap (ts.mergeSort leT) out->P (.done (.ret .none)) {s with heap:=H.update a (Obj.mapSeq λ_=>out.toArray)}:=λout hz mo=>by
  have#[c2,bl]:∃c2,(H.update a (Obj.mapSeq λ_=>out.toArray)).get? a=some (seqObj "list" out.toArray c2):=#[_,get?_update_seq I λ_=>out.toArray];have s2:=gu H a (Obj.mapSeq λ_=>out.toArray);show h _ out c2 #[λb o hb e=>by rw[s2.2 b hb];show other b o hb e,#[_,bl],λo e=>by have rfl:=ah (e.symm.trans ho);show za rfl rfl] bl mo
 by_cases h2:vs.toArray.size<2
 ·rw[br h2,br h2];apply ae (af ?_);rw[StateT.run_pure];apply ae (af ?_);dsimp only;have e:(arrOf (SortSt.mk' general' (vs.toArray.zip vs.toArray) #v[] 7 none)).map (·.2)=vs.toArray:=by
   show(vs.toArray.zip vs.toArray).map (·.2)=vs.toArray;have e0:vs.toArray.zip vs.toArray=(vs.zip vs).toArray:=by simp
   rw[e0,List.map_toArray,List.map_snd_zip (az _)]
  rw[e];apply ae (seqEpoch_at I rfl ?_);apply ae (listUpdate_at I rfl ?_ (bh _) (by rw[cv,sizeLine_eq];(show fy (.k .A (.a (.n 16777216) .U)) .d .aH .b8 Y Z)));simp only[yl,eh,kh];apply af (fin vs (fy .aM .d .aH .b8 Y Z) ?_);have:ts.mergeSort leT=ts:=by
   simp only[cv]at h2;cases ts with
   |nil=>simp
   |cons t r =>
    cases r with
    |nil=>simp
    |cons u r=>simp at Z;(show False.elim (fy .ff .c (.l .A .W) (.e (.a .L .U) .A) h2 Z))
  rw[this];show m
 ·rw[aw h2,aw h2];simp only[cv]at h2;apply ae (kas_kind (T:=.ref G.cM) (dp (.k .W .A) .a (.g .A .W) h2) (λv hv=>?_) (by rfl) (by simp) ?_)
  ·clear h other hH ar ai;have#[i,hi,rfl]:=iw.mp hv;have#[x,dd,ws,k,e,g,_]:=mH.at i (fe .B .z .cZ .O Z hi);have e':vs[i]=.ref x:=by rw[<- e];simp[List.getD,hi]
   rw[e'];intro A Q E s' hk hq;unfold typeOf;apply ae (lJ (hk _ _ g) ?_);show af hq
  have run:=CB (n:=ts.length) (lt:=oZ ts) (cmp:=kas_ask G.prog G.w A oneType' vs) (s:={s with heap:=H}) (Q:=λp s'=>s'={s with heap:=H}/\vt ts.length p/\jV (oZ ts) p ts.length) (t:=kas_sort vs.length) (λi j C hi hj hc=>by
   have#[x,dd,ws,k,e,g,hx]:=mH.at i hi;have#[y,de,us,k',e',g',hy]:=mH.at j hj;unfold kas_ask;rw[e,e'];show N8 hu cd cc ca g g' hx hy rfl hc) (by rw[<- Z];show ki (λq hq=>#[rfl,hq.1,hq.2]) (D7 (NC ts) (fy .H .z .C (.g .B .W) Z h2)))
  apply ae (cg (kat_run (ks:=vs) (vs:=vs) (Q:=λag s'=>s'={s with heap:=H}/\∃p:Array Nat,arrOf ag=p.map (kas_item (vs.toArray.zip vs.toArray))/\failedOf ag=none/\vt ts.length p/\jV (oZ ts) p ts.length)
   rfl (dp (.k .W .A) .a (.g .A .W) h2) (fy .aM .d .aH .b8 Y Z) (λp ag s' a1 a2 a3 a4=>#[a4.1,p,a2,a3,a4.2.1,a4.2.2]) run) ?_ λ_ _ e=>e)
  rintro ⟨⟨⟩,ag⟩ s' ⟨rfl,p,cb,hf,aj,bu⟩;dsimp only;have bd:=kat_snds rfl cb;rw[bd];have bv:=aj.size;have be:(p.toList.map λi=>vs.getD i Value.none).length<64:=by rw[ak,gh];(show fy .aM .b .aH .C Y bv)
  apply ae (seqEpoch_at I rfl ?_);apply ae (listUpdate_at I rfl ?_ (bh _) (by rw[cv,sizeLine_eq];(show dp (.k .A (.a (.n 16777216) .U)) .a .aM be)));rw[hf];simp only[yl,eh,kh];apply af (fin _ be ?_);rw[<- wJ aj bu];apply m.pick p.toList λi hi=>?_;have:=(gM.mp aj.perm).mem_iff.mp hi;simpa using this
def GH {C:Cal}{sc:Scope}{d:Nat}{a:Ex}{o:Expr}{apos pos:Pos}(K:tf G)(ha:fg G C sc d a o)(hb:mu o=true)(U:(apos.endLine==pos.line)=true) :
  fg G C sc d (.bm .sort a .nil) (.Call (.Attribute o "sort" apos) [] [] pos):=λA E env ρ σ Q s c h =>
 mw hb rfl (by decide) U (nj (ha c h) λv σ₁ s₁ w q vr r x pl =>
  rW (k:=.sort) r vr q.1 (pk rfl md (c.go r x) q.2 λvs σ₂ s₂ ws I ai r₂ Y=>by
   have W:=vr.mono Y.frz;have#[b,rfl,Z]:=xk (v:=v) I;have#[rfl,ts,e,ab,Z]:=BP (vs:=vs) Z;have rfl:=ai;have rfl:=W;have#[us,n,hl,hv]:=r₂.L _ _ e;have aj:=r₂.new b (.inl (by rw[e];rfl));apply fx PySem.F.slot_list_sort #[_,hl,rfl] PyProof.Rows.entry_list_sort (xD K (by have:=c.ao.units;show A.units+1<_;(show dt .cV .a (.l (.a (.a .A (.m 30 .C)) .b0) .B) this)) r₂.base aj hl (Mts.of hv) ab λh' aE k ag ar m'=>#[_,rfl,?_]) (PyProof.Rows.args_list_sort _);have hz:((ts.mergeSort leT).map mtV).length<=bp:=by
    have:=(List.mergeSort_perm ts leT).length_eq;rw[ak,this];unfold bp;(show dp .bH .a .aM ab)
   have R':=r₂.putL ag (λq=>by rw[e]at q;cases q) ar m'.vr hz;apply#[.none,_,Z,.none,R',x.trans (Y.to (Evo.putL ag (λq=>by rw[e]at q;cases q) _))]))
end
structure qo (G:Stc)(fN fM:Addr):Prop where
 made:Looks G.M G.hb (Bind.madeBy (.ref G.cM)) none
 here:Looks G.M G.hb (Bind.madeHere "tuple.__new__" (.ref G.cM)) ()
 chk:∀x,Looks G.M G.hb (checkBuiltinCall "tuple.__new__" #[[.ref G.cM,x],[]]) ()
 mro:Looks G.M G.hb (mroOf (.ref G.cM)) [.ref G.cM,.type "tuple",.type "object"]
 self:Looks G.M G.hb (isSubtype (.ref G.cM) (.ref G.cM)) true
 tup:Looks G.M G.hb (isSubtype (.ref G.cM) (.type "tuple")) true
 init:Looks G.M G.hb (typeLookup (.ref G.cM) "__init__") (some (.builtin "object.__init__"))
 call:Looks G.M G.hb (specialOf (.ref G.cM) "__call__") (some (.builtin "type.__call__"))
 typ:Looks G.M G.hb (isInstance (.ref G.cM) (.type "type")) true
 isT:Looks G.M G.hb (isType (.ref G.cM)) true
 del:Looks G.M G.hb (classHasDel G.cM) false
 new:∀(A:Around) (E:QqV) (s:Shared) (Q:QqV),(∀b o,G.hb.get? b=some o->s.heap.get? b=some o)->Q (.ref fN) {s with toks:=s.toks+1}->wpAny G.M A (getAttr (.ref G.cM) "__new__") Q E s
 make:∀(A:Around) (E:QqV) (s:Shared) (expr:Bool) (Q:QqV),(∀b o,G.hb.get? b=some o->s.heap.get? b=some o)->Q (.ref s.heap.objs.size) {s with heap:=s.heap.push {cls:=.type "method",data:=.fields #v[.ref fM,.ref G.cM]},toks:=s.toks+1}->wpAny G.M A (getAttr (.ref G.cM) "_make" expr) Q E s
 typNew:∀(A:Around) (E:QqV) (s:Shared) (expr:Bool) (Q:QqV),Q (.builtin "tuple.__new__") {s with toks:=s.toks+1}->wpAny G.M A (getAttr (.type "tuple") "__new__" expr) Q E s
def z6:plainId "tuple.__new__"=true:=by decide +kernel
def A2:entryFor table "tuple.__new__"=some Builtin.«tuple.__new__»:=fF (by kernel_rfl)
section
variable {G:Stc}{A:Around}{E:QqV}{s:Shared}{fN fM:Addr}
public abbrev eT (G:Stc)(h:Heap):Prop:=∀b o,G.hb.get? b=some o->h.get? b=some o
def D3 (K:qo G fN fM){x:Addr}{ws:List Value}{n:Nat}{Q:QqV}(hb:eT G s.heap)(W:IsT s.heap x ws.toArray n)(hz:ws.length<=bp)
  (h:∀h' y dd,(∀b o,s.heap.get? b=some o->h'.get? b=some o)->s.heap.get? y=none->h'.get? y=some (aO G.cM dd ws 0)->Q (.ref y) {s with heap:=h'}) :
  wpAny G.M A (call (.builtin "tuple.__new__") [.ref G.cM,.ref x]) Q E s:=by
 apply qd (gB z6 A2 ((K.chk (.ref x)) _ _ _ _ hb ?_));unfold Builtin.«tuple.__new__»;dsimp only;apply ae (K.isT _ _ _ _ hb ?_);simp -iota only[zu,eh,kh];apply ae (K.tup _ _ _ _ hb ?_);simp -iota only[zu,eh,kh];apply ae (K.here _ _ _ _ hb ?_);apply ae (K.init _ _ _ _ hb ?_);rw[br (by decide)];have Y:ws.toArray.size<=sizeLine:=by rw[cv];show pn hz
 apply ae (fb (a:=()) rfl ?_);apply ae (fb (a:=()) rfl ?_);apply ae ?_;apply wpAny_collect_seq x (.inr rfl) W rfl rfl (λh₁ Z=>ae (af ?_)) Y;apply ae (wpAny_alloc ?_);unfold newObj newObjAsIs;dsimp only;rw[aw (by simp only[cv]at Y ⊢;(show ax .bL .a .aQ Y))];apply ae (ae (wpAny_alloc ?_));have hk:∀b o,s.heap.get? b=some o->((h₁.push {cls:=.type "dict",data:=.dict #v[]}).push (aO G.cM (some h₁.objs.size) ws 0)).get? b=some o:=λb o e=>av _ (av _ (Z b o e));have e:ws.toArray.toList.toArray=ws.toArray:=by simp
 apply ae (K.del _ _ _ _ (λb o e=>hk b o (hb b o e)) ?_);simp -iota only[eh,kh];apply af (af ?_);have U:(h₁.push {cls:=.type "dict",data:=.dict #v[]}).objs.size=h₁.objs.size+1:=gr ..;show Q (.ref (h₁.push {cls:=.type "dict",data:=.dict #v[]}).objs.size) _;apply h _ _ (some h₁.objs.size) hk ?_ (cf _ rfl);rw[U];cases hq:s.heap.get? (h₁.objs.size+1) with
 |none=>rfl
 |some o=>show absurd (gv (Z _ _ hq)) (sd.mpr (Nat.le_succ _))
abbrev uE (p0 p1 p2 p3 p4 p5 p6 p7 p8 p9 p10:Pos)(doc:Str)(c0 c1:Nat):List Stmt:=
 [.Expr (.Constant (.str doc) c0 p0) p1,.Return (some (.Call (.Attribute (.Name "tuple" p2) "__new__" p3) [.Name "_cls" p4,.Tuple [.Name "a" p5,.Name "b" p6,.Name "size" p7] c1 p8] [] p9)) p10]
abbrev zy (more:List (Str×Const)):Scope:=
 {kind:=.function,names:=[("_cls",.local),("a",.local),("b",.local),("size",.local),("tuple",.globalImplicit)],isGenerator:=false,isCoroutine:=false,more:=more}
def tX {C:Cal}{sc:Scope}{d:Nat}{x:Str}{k:Nat}{p pos:Pos}:yt G C sc d .pass (.Expr (.Constant (.str x) k p) pos):=λA E env ρ σ K s c h =>
 wpAny_Expr (by
  show wpAny _ _ (mkText x) _ _ s;apply wpAny_mkText ?_;show qy.here .next h c.F c.R) (by unfold interactive;rw[c.eo.kind];rfl) (fH rfl _ _ _)
def EO (K:qo G fN fM){pl:Sem Bool}{Q:Value×List Value->Shared->Prop}(h:Q (.builtin "tuple.__new__",[]) {s with toks:=s.toks+1}):wpAny G.M A (getMethod (.type "tuple") "__new__" pl) Q E s:=by
 unfold getMethod specialOf;have Z:typeOf (.type "tuple")=pure (.type "type"):=by first|rfl|kernel_rfl
 apply ae (ae (fb Z (fb KF.slot_tga.lookup ?_)));dsimp only;rw[br canon_tga];show ae (K.typNew _ _ _ _ _ (af h))
variable {σ:St}
def sV {C:Cal}{sc:Scope}{d:Nat}{env:Env}{ρ:Fr}{c e:Ex}{B I:Expr}{p apos pos:Pos}{vs:List V}{τ:St->Prop}{Q:QqV}(Kg:GOk G)(K:qo G fN fM)(hc:fg G C sc d c B)(he:fg G C sc d e I)(Z:noStar [B,I]=true)(Y:(apos.endLine==pos.line)=true)
  (hx:sc.names.lookup ("tuple":Str)=some .globalImplicit) (hg:G.gl "tuple"=some (.type "tuple")) (z:Cx G sc d A env ρ σ s)
  (hw:wpE C c ρ σ λv σ'=>wpE C e ρ σ' λu W=>v=.obj G.cM/\u=.T vs/\vs.length<=bp/\τ W)
  (k:∀σ₁ s₁ y,τ σ₁->VR G s₁.heap (.mt vs) (.ref y)->Rel G σ₁ s₁.heap->Go [] σ s σ₁ s₁->Q (.ref y) s₁) :
  wpAny G.M A (eval (.Call (.Attribute (.Name "tuple" p) "__new__" apos) [B,I] [] pos) env) Q E s:=by
 apply mw rfl Z (by simp) Y (kn Kg z.eo z.R (by rw[z.es];show hx) (by decide) hg λpl=>?_);apply EO K ?_;have ab:qa G C sc d %[c,e|0] [B,I]:=jy hc (jy he md (gb (gb Z).2).1) (gb Z).1;apply pk (P:=λus σ=>on2 us λv u=>v=.obj G.cM/\u=.T vs/\vs.length<=bp/\τ σ) Z ab (z.at (s₁:={s with toks:=s.toks+1}) z.F z.R) hw λus σ₁ s₁ ws q vr r U=>?_;have#[v,u,rfl,rfl,rfl,hz,q]:=sI (vs:=us) q;have#[w1,w2,rfl,rfl,a,us,n,rfl,g,rr]:=vr.two;apply D3 K r.base g (by rw[<- rr.length];show hz) λh' y dd hk hy hm=>?_;show k σ₁ _ y q (.mt hm (rr.mono λb o e _=>hk b o e)) (r.keeps hk) ((Go.refl.tok.trans U).to (Evo.keeps hk))
def dH {n:Nat}{dflt:List V}{b:jw}{vs:List V}{i:Nat}{v:V}(h:vs[i]?=some v):frameOf #[n,dflt,b] vs i=some v:=by
 unfold frameOf jS;rw[ke (bc.mp h).1];show h
def rL {d:Nat}{p0 p1 p2 p3 p4 p5 p6 p7 p8 p9 W:Pos}{doc:Str}{c0 c1:Nat}{more:List (Str×Const)}{x y z:V}{wx wy wz:Value}{Q:V->St->Prop}(Kg:GOk G)(K:qo G fN fM)(Kf:FnAt G fN 4 [] (zy more) (uE p0 p1 p2 p3 p4 p5 p6 p7 p8 p9 W doc c0 c1))(Y:(p3.endLine==p9.line)=true)(hg:G.gl "tuple"=some (.type "tuple"))
  (ao:AOk A (d+1)) (R:Rel G σ s.heap) (vx:VR G s.heap x wx) (vy:VR G s.heap y wy) (vz:VR G s.heap z wz) (h:Q (.mt [x,y,z]) σ):wpAny G.M A (call (.ref fN) [.ref G.cM,wx,wy,wz]) (jg G [] σ s Q) E s:=by
 apply tC (b:=.nil) (vs:=[.obj G.cM,x,y,z]) (d:=d) Kf (λA' E' env s' c=>?_) ao R %[.obj _,vx,vy,vz|0] (by simp) (by simp);have B:Cal:=λ_ _ _ _=>False;have l:∀(i:Nat) (nm:Str) (p:Pos),(zy more).names[i]?=some (nm,.local)->jl nm=true->fg G B (zy more) d (.l i) (.Name nm p):=λi nm p hi hn=>nU hi rfl hn;apply mj (cg (tX (C:=B) (K:=λfl ρ' σ'=>fl=.next/\ρ'=frameOf #[4,[],.nil] [.obj G.cM,x,y,z]/\σ'=σ) c #[rfl,rfl,rfl]) (λf ab lf=>?_) λ_ _ x=>x);have#[fl,ρ',σ',fr,#[rfl,rfl,U],I,R2,x2]:=lf;rw[U]at I R2 x2;cases fr;apply mj (wpAny_Return_some ?_);have ht:fg G B (zy more) d (.T %[.l 1,.l 2,.l 3|0]) (.Tuple [.Name "a" p5,.Name "b" p6,.Name "size" p7] c1 p8):=
  B6 (jy (l 1 _ _ rfl (by decide)) (jy (l 2 _ _ rfl (by decide)) (jy (l 3 _ _ rfl (by decide)) md λ_=>rfl) λ_=>rfl) λ_=>rfl)
 apply sV (vs:=[x,y,z]) (τ:=λσ'=>σ'=σ) Kg K (l 0 _ _ rfl (by decide)) ht rfl Y rfl hg (c.at I R2) ?_ λσ₁ s₁ yy q vr r Z=>?_
 ·apply#[.obj G.cM,dH rfl,x,dH rfl,y,dH rfl,z,dH rfl,ba rfl,rfl,rfl,ba rfl,rfl]
 ·rw[q]at r Z;apply#[.ret (.mt [x,y,z]),_,σ,.ret vr,h,I.evo Z.e,r,x2.trans Z.wide]
end
variable {y:Addr}{dd:Option Addr}{ws:List Value}{n:Nat}
def oS:Slot "object" "__init__" "object.__init__":=
 Slot.of (owner:="object") (n:="__init__") (by rw[fj,dh];kernel_rfl) (by decide +kernel) (by decide +kernel) (by decide +kernel) (.inl (by decide +kernel)) (by rw[jh];kernel_rfl)
def wY:entryFor table "object.__init__"=some Builtin.«object.__init__»:=fF (by kernel_rfl)
def zB:builtinKind "object.__init__"=some .slot:=by kernel_rfl
def wX:splitId "object.__init__"=some ("object","__init__"):=by kernel_rfl
def zC (a:Value)(rest:List Value):argsOk "object.__init__" #[a::rest,[]]:=by unfold argsOk;kernel_rfl
section
variable {G:Stc}{A:Around}{E:QqV}{s:Shared}{fN fM:Addr}{σ:St}
def pB (K:qo G fN fM){h:Heap}{base:Value}{r:Bool}(hb:eT G h)(Z:h.get? y=some (aO G.cM dd ws n))(Y:Looks G.M G.hb (isSubtype (.ref G.cM) base) r):Looks G.M h (isInstance (.ref y) base) r:=λA Q E s hk W=>by
 unfold isInstance typeOf;apply ae (ae (lJ (hk _ _ Z) (af ?_)));show Y _ _ _ _ (λb o e=>hk _ _ (hb _ _ e)) W
def EM (K:qo G fN fM){rest:List Value}{P:Fin->Shared->Prop}(hb:eT G s.heap)(U:s.heap.get? y=some (aO G.cM dd ws n))(W:P (.done (.ret .none)) s) :
  wpAny G.M A (Builtin.«object.__init__» #[.ref y::rest,[]]) P E s:=by
 have Y:∀{R:QqV},R (.ref G.cM) s->wpAny G.M A (typeOf (.ref y)) R E s:=λ{R} Z=>by
  unfold typeOf;show ae (lJ U (af Z))
 unfold Builtin.«object.__init__»;dsimp only;by_cases Z:(!rest.isEmpty||!([]:List (Str×Value)).isEmpty)=true
 ·rw[br Z];apply ae (Y (ae (K.init _ _ _ _ hb (ae (K.made _ _ _ _ hb ?_)))));have B:(some (Value.builtin "object.__init__") != some (Value.builtin "object.__init__"))=false:=yl _;have I:((none:Option String) != some "object.__new__")=true:=rfl;rw[B,I];show af W
 ·rw[aw Z];show af W
def EN (K:qo G fN fM)(Z:Looks G.M G.hb (isSubtype (.ref G.cM) (.type "object")) true){n:Nat}{rest:List Value}{Q:QqV}(hb:eT G s.heap)(Y:s.heap.get? y=some (aO G.cM dd ws n))(U:Q .none s) :
  wpAny G.M A (call (.builtin "object.__init__") (.ref y::rest)) Q E s:=by
 have I:∀(A:Around) (E:QqV) (R:Unit->Shared->Prop),R () s->wpAny G.M A (checkBuiltinCall "object.__init__" #[.ref y::rest,[]]) R E s:=λA E R W =>
  check_slot (M:=G.M) (i:="object.__init__") (owner:="object") (n:="__init__") (self:=.ref y) (rest:=rest) (kw:=[]) zB wX (pB K hb Y Z) (zC (.ref y) rest) W
 apply qd ?_;apply gB (id:="object.__init__") (b:=Builtin.«object.__init__») oS.plain wY ?_;apply I _ _ _ ?_;show EM K hb Y U
def tU (K:qo G fN fM)(Z:Looks G.M G.hb (isSubtype (.ref G.cM) (.type "object")) true){rest:List Value}{Q:Option Value->Shared->Prop}(hb:eT G s.heap)(I:s.heap.get? y=some (aO G.cM dd ws n))(B:Q (some .none) s) :
  wpAny G.M A (callSpecial? (.ref y) "__init__" rest []) Q E s:=by
 have Y:∀{R:QqV},R (.ref G.cM) s->wpAny G.M A (typeOf (.ref y)) R E s:=λ{R} U=>by
  unfold typeOf;show ae (lJ I (af U))
 have W:∀{R:Option Value->Shared->Prop},R (some (.builtin "object.__init__")) s->wpAny G.M A (specialOf (.ref y) "__init__") R E s:=λ{R} U=>by
  unfold specialOf;show ae (Y (K.init _ _ _ _ hb U))
 unfold callSpecial?;apply ae (W ?_);dsimp only;apply cm ?_;apply ae (fb (oS.bind (.ref y)) ?_);apply ae ?_;show EN K Z hb I (af B)
structure tK (G:Stc)(fN:Addr):Prop where
 fn:∃p0 p1 p2 p3 p4 p5 p6 p7 p8 p9 p10 doc c0 c1 more,FnAt G fN 4 [] (zy more) (uE p0 p1 p2 p3 p4 p5 p6 p7 p8 p9 p10 doc c0 c1)/\(p3.endLine==p9.line)=true
 tup:G.gl "tuple"=some (.type "tuple")
 obj:Looks G.M G.hb (isSubtype (.ref G.cM) (.type "object")) true
def o9 {d:Nat}{x y z:V}{wx wy B:Value}{Q:V->St->Prop}{P:Fin->Shared->Prop}(Kg:GOk G)(K:qo G fN fM)(U:tK G fN)(ao:AOk A (d+1))(R:Rel G σ s.heap)(vx:VR G s.heap x wx)(vy:VR G s.heap y wy)(vz:VR G s.heap z B)(h:Q (.mt [x,y,z]) σ)
  (hP:∀w s',jg G [] σ s Q w s'->P (.done (.ret w)) s'):wpAny G.M A (Builtin.«type.__call__» #[[.ref G.cM,wx,wy,B],[]]) P E s:=by
 have#[p0,p1,p2,p3,p4,p5,p6,p7,p8,p9,ab,doc,c0,c1,more,Kf,Z]:=U.fn;have hb:eT G s.heap:=R.base;unfold Builtin.«type.__call__»;dsimp only;rw[aw (show ¬((Value.ref G.cM==Value.type "type")=true) from sg)];apply ae (K.mro _ _ _ _ hb ?_);rw[aw (by simp)];apply ae (K.made _ _ _ _ hb ?_);dsimp only;apply ae (K.new _ _ _ _ hb ?_);apply ae (cm ?_);apply cg (rL (Q:=λv σ'=>v=.mt [x,y,z]/\σ'=σ) Kg K Kf Z U.tup ao R vx vy vz #[rfl,rfl]) (λw s' l=>?_) λ_ _ e=>e;have#[v,σ',#[rfl,W],vr,r,I]:=l;rw[W]at r I;have#[yy,ws,n,dd,rfl,g,rr]:=vr;have Y:eT G s'.heap:=r.base;apply ae ((pB K Y g K.self) _ _ _ s' (λ_ _ e=>e) ?_);simp only[zu,eh,kh];apply ae (cm (tU K U.obj Y g ?_));simp only[yl,eh,kh];show af (hP _ _ #[_,σ,h,.mt g rr,r,Go.refl.tok.trans I])
def AF {d:Nat}{x y z:V}{W Y Z:Value}{Q:V->St->Prop}(Kg:GOk G)(K:qo G fN fM)(Kn:tK G fN)(Km:tf G)(ao:AOk A (d+2))(R:Rel G σ s.heap)(vx:VR G s.heap x W)(B:VR G s.heap y Y)(I:VR G s.heap z Z)(h:Q (.mt [x,y,z]) σ) :
  wpAny G.M A (call (.ref G.cM) [W,Y,Z]) (jg G [] σ s Q) E s:=by
 have#[N,mN,nm,q,k0,k2,k3,hC,hN,_]:=Km.here;have U:=R.base _ _ hC;apply qd (uf ?_);show wpAny _ A.in1 (callAny (.ref G.cM) #[[W,Y,Z],[]]) _ _ s;unfold callAny;apply ae (yu U ?_);show wpAny _ _ (callAny.viaDunder (.ref G.cM) #[[W,Y,Z],[]]) _ _ s;unfold callAny.viaDunder;apply ae (K.call _ _ _ _ R.base ?_);dsimp only;apply ae (fb (tc_bind (.ref G.cM)) ?_);dsimp only;apply ae (fb (a:=true) (by rfl) ?_);rw[br rfl];apply af #[rfl,?_];apply codeAny_call_builtin_at (lS _ (by decide +kernel)) entry_typeCall ?_;apply check_slot (M:=G.M) (i:="type.__call__") (owner:="type") (n:="__call__") tc_kind tc_split (K.typ.keeps R.base) (tc_args _ _ _) ?_;apply o9 (d:=d) Kg K Kn (ao.make _ _) R vx B I h λw s' l=>?_;show l
end
end MP
end
section
namespace MP
open PySem PyProof.Rows PySem.W
section
variable {G:Stc}{A:Around}{E:QqV}{s:Shared}{fN fM:Addr}{σ:St}
def qG (K:qo G fN fM)(I:tf G){pos:Pos}{args:List (Bool×Sem Value)}{Q:QqV}(Z:args.any (·.1)=false)
  (h:wpAny G.M A (evalArgs (.ref G.cM) true args []) (λx s₁=>eT G s₁.heap/\wpAny G.M A (call (.ref G.cM) x.pos x.kw) Q E s₁) E s):wpAny G.M A (callWith pos (.ref G.cM) [] args []) Q E s:=by
 have#[N,mN,nm,q,k0,k2,k3,U,B,_]:=I.here;unfold callWith;apply ae (cm (cg h (λx s₁ h₁=>ae (gj ?_)) λ_ _ x=>x));have#[hb,Y]:=h₁;simp -iota only[Z,List.any_nil,we];apply ae (m:=keeperOf (.ref G.cM)) ?_;unfold keeperOf;apply ae (yu (hb _ _ U) ?_);apply ae (K.call _ _ _ _ hb ?_);rw[br (by decide)];apply af ?_;show ae (cg Y (λr s₂ W=>ae (cm (wpAny_point (af W)))) λ_ _ x=>x)
def tW {C:Cal}{sc:Scope}{d:Nat}{a b c:Ex}{x:Str}{I U W:Expr}{p pos:Pos}(Kg:GOk G)(K:qo G fN fM)(Kn:tK G fN)(Km:tf G)(hd:2<=d)(ha:fg G C sc d a I)(hb:fg G C sc d b U)(hc:fg G C sc d c W)(Z:noStar [I,U,W]=true)
  (hx:sc.names.lookup x=some .globalImplicit) (hn:jl x=true) (hv:G.gl x=some (.ref G.cM)):fg G C sc d (.N a b c) (.Call (.Name x p) [I,U,W] [] pos):=λA E env ρ σ Q s z h=>by
 have B:qa G C sc d %[a,b,c|0] [I,U,W]:=jy ha (jy hb (jy hc md (gb (gb (gb Z).2).2).1) (gb (gb Z).2).1) (gb Z).1;have ab:AOk A (d-2+2):=by rw[aa hd];show z.ao
 apply Call_ (kn Kg z.eo z.R (by rw[z.es];show hx) hn hv (qG K Km (jm Z pos env) (ou (jm Z pos env) (oN (P:=λvs σ=>on3 vs λx y z=>Q (.mt [x,y,z]) σ) (B z h) λvs σ₁ s₁ ws q vr r Y=>#[r.base,?_]))));have#[u1,u2,u3,rfl,q]:=UW q;have#[w1,w2,w3,rfl,va,vb,vc]:=vr.three;show Y.back (AF Kg K Kn Km ab r va vb vc q)
def yQ:splitId "tuple.__len__"=some ("tuple","__len__"):=by kernel_rfl
def EH:builtinKind "tuple.__len__"=some .slot:=by kernel_rfl
end
section
variable {prog:Program}{w:World}{A:Around}{E:QqV}{h:Heap}{g:Array GenState}{d:Drawn}{t:Nat}{os:OsState}{C N:Addr}{nm q:Str}{k0 k2 k3:Option Value}{mN:Str->Option Value}{dd:Option Addr}
def V5 {x:Addr}{ws:List Value}{n:Nat}{Q:QqV}(U:h.get? C=some (hY C N nm q k0 k2 k3))(I:h.Ns N mN)(B:mN "__len__"=none)(W:h.get? x=some (aO C dd ws n))(hz:ws.length<=bp)
  (hQ:∀u tk,Q (.int ws.length u) #[h,g,d,tk,os]):wpAny (model prog w) A (call (.builtin "len") [.ref x]) Q E #[h,g,d,t,os]:=by
 apply Calls.call_function_entry kind_len plain_len entry_len (args_len1 _) ?_;unfold Builtin.«len»;have Y:=PySem.F.slot_tuple_len.lookup;have Z:h.get? x=some {cls:=.ref C,dict:=dd,data:=.seq ws.toArray n,slots:=#v[]}:=W;unfold bp at hz
 repeat (first|(with_reducible refine rg Z ?_)|(with_reducible refine xp U I Y ?_;rw[B])|wp_step)
 apply fb (PySem.F.slot_tuple_len.bind (.ref x)) ?_;dsimp only;apply ae (zJ U W yQ (.inl EH) PySem.F.slot_tuple_len.plain PySem.F.entry_tuple_len (PySem.F.args_tuple_len_1 _) ?_);unfold Builtin.«tuple.__len__»;apply ae (fb (a:=(.ref x,[])) (by rfl) ?_);dsimp only;apply ae (m:=Builtin.Tuple.tupleItemsOf (.ref x)) (ae (qc Z rfl (af ?_)));apply ae (wpAny_mkInt (af #[_,rfl,af ?_]));dsimp only;apply ae (cm ?_);apply fb (a:=((ws.toArray.size:Nat):Int)) (by rfl) ?_;apply ae (wpAny_letGo ?_);rw[aw (by simp),aw (by simp only[cv];(show dp (.ij .M .L) .a .bH hz))];apply ae (wpAny_mkInt (af #[_,rfl,?_]));simpa using hQ _ _
end
section
variable {G:Stc}{A:Around}{E:QqV}{s:Shared}{fN fM:Addr}{σ:St}
abbrev oX (p:Fin 20->Pos)(doc:Str)(c0 c1:Nat)(rest:List Stmt):List Stmt:=
 [.Expr (.Constant (.str doc) c0 (p 0)) (p 1),.Assign [.Name "result" (p 2)] (.Call (.Attribute (.Name "tuple" (p 3)) "__new__" (p 4)) [.Name "cls" (p 5),.Name "iterable" (p 6)] [] (p 7)) (p 8),
  .If (.Compare (.Call (.Name "len" (p 9)) [.Name "result" (p 10)] [] (p 11)) [.NotEq] [.Constant (.int 3) c1 (p 12)] (p 13)) rest [] (p 14),.Return (some (.Name "result" (p 15))) (p 16)]
abbrev qk (ns:List (Str×NameKind))(more:List (Str×Const)):Scope:=
 {kind:=.function,names:=("cls",.local)::("iterable",.local)::("result",.local)::ns,isGenerator:=false,isCoroutine:=false,more:=more}
def F8 {d:Nat}{p:Fin 20->Pos}{doc:Str}{c0 c1:Nat}{rest:List Stmt}{ns:List (Str×NameKind)}{more:List (Str×Const)}{x y z:V}{w:Value}{Q:V->St->Prop}(Kg:GOk G)(K:qo G fN fM)(Km:tf G)(Kf:FnAt G fM 2 [] (qk ns more) (oX p doc c0 c1 rest))(U:((p 4).endLine==(p 7).line)=true)(hg:G.gl "tuple"=some (.type "tuple"))(ab:G.gl "len"=some (.builtin "len"))
  (ht:(qk ns more).names.lookup ("tuple":Str)=some .globalImplicit) (hl:(qk ns more).names.lookup ("len":Str)=some .globalImplicit)
  (ao:AOk A (d+1)) (R:Rel G σ s.heap) (vx:VR G s.heap (.T [x,y,z]) w) (h:Q (.mt [x,y,z]) σ):codeAny G.M A (.call (.ref fM) #[[.ref G.cM,w],[]]) (wants (jg G [] σ s Q) E) s:=by
 have#[N,mN,nm,q,k0,k2,k3,hC,hN,_,_,be,_]:=Km.here;apply t6 (b:=.nil) (vs:=[.obj G.cM,.T [x,y,z]]) (d:=d) Kf (λA' E' env s' c=>?_) ao R %[.obj _,vx|0] (by simp) (by simp);have C0:Cal:=λ_ _ _ _=>False;have l:∀(i:Nat) (nm:Str) (p:Pos),(qk ns more).names[i]?=some (nm,.local)->jl nm=true->fg G C0 (qk ns more) d (.l i) (.Name nm p):=λi nm p hi hn=>nU hi rfl hn;apply mj (cg (tX (C:=C0) (K:=λfl ρ' σ'=>fl=.next/\ρ'=frameOf #[2,[],.nil] [.obj G.cM,.T [x,y,z]]/\σ'=σ) c #[rfl,rfl,rfl]) (λf bv lf=>?_) λ_ _ x=>x);have#[fl,ρ',σ',fr,#[rfl,rfl,bd],F2,R2,x2]:=lf;rw[bd]at F2 R2 x2;cases fr;apply mj ?_;rw[exec_Assign];apply ae (gj ?_);rw[td rfl];apply ae (af ?_);rw[aw (by decide)];apply ae (sV (vs:=[x,y,z]) (τ:=λσ'=>σ'=σ) Kg K (l 0 _ _ rfl (by decide)) (l 1 _ _ rfl (by decide)) rfl U ht hg (c.at F2 R2) #[.obj G.cM,dH rfl,.T [x,y,z],dH rfl,rfl,rfl,ba rfl,rfl] λσ₁ s₁ yy I vr r Y=>?_);rw[I]at r Y;rw[oC (sc:=qk ns more) (r:=none) rfl c.es (by unfold Env.blockKind;rw[c.eo.kind];rfl)];apply ae (af ?_);show wpAny G.M A' (do assignAll (.ref yy) [assign (.Name "result" (p 2)) env];pure Flow.next) _ _ _;apply ae ?_;show wpAny G.M A' (assign (.Name "result" (p 2)) env (.ref yy)) _ _ _;apply assign_Name (jA (X:=envX env) (i:=2) (k:=.local) c.eo (F2.evo Y.e) r (by rw[c.es];rfl) rfl (λ_ _ e=>nomatch e) vr (.head _) (λ_ _ e=>nomatch e) λZ F3 R3 x3=>af ?_);dsimp only;have#[_,ws,n,dd,ey,g,rr]:=vr.mono x3.frz;cases ey;have ca:=rr.length;have B:upd (frameOf #[2,[],.nil] [.obj G.cM,.T [x,y,z]]) 2 (V.mt [x,y,z]) 2=some (.mt [x,y,z]):=bg _ _ _;apply mj (wpAny_If ?_);apply wj ?_ rfl;have ai:eT G Z.heap:=R3.base;have ag:∀(E:QqV) (Q:QqV) (tk:Nat) (pp:Pos),(∀w,VR G Z.heap (.mt [x,y,z]) w->Q w {Z with toks:=tk})->wpAny G.M A' (eval (.Name "result" pp) env) Q E {Z with toks:=tk}:=λE Q tk pp hq =>
  wpAny_Name (kE (s:={Z with toks:=tk}) (i:=2) (k:=.local) c.eo F3 (by rw[c.es];rfl) rfl (by decide) B hq) (by decide)
 apply Call_ (kn Kg c.eo R3 (by rw[c.es];show hl) (by decide) ab ?_);apply Calls.callWith_builtin rfl (Calls.evalArgs_plain (Calls.spliced_cons (ag _ _ _ _ λw aj=>nG ?_)));have#[bl,bn,n',cb,rfl,g',aE]:=aj;have W:=aE.length;apply V5 (ai _ _ hC) (hN.keeps ai) be g' (by rw[<- W];simp[bp]) λu bu=>?_;apply wpAny_Constant_int ?_;rw[<- W];apply ne_int (rf ?_);have e:((([x,y,z]:List V).length:Int) != 3)=false:=rfl;rw[e];apply iH ?_;dsimp only;apply mj (wpAny_Return_some (ag _ _ _ _ λw2 ar=>?_));apply#[.ret (.mt [x,y,z]),_,σ,.ret ar,h,F3,R3,x2.trans (Y.wide.trans x3.tok)]
end
end MP
end
section
namespace MP
open PySem PyProof.Rows PySem.W
def sF:Manifest.owners.lookup (String.ofList ['p','a','m'].reverse)=some Manifest.sig_map:=by kernel_rfl
def zj:Slot "map" "__next__" "map.__next__":=
 .of (owner:="map") (n:="__next__") (by rw[fj,dh];kernel_rfl) (by decide +kernel) (by decide +kernel) (by decide +kernel)
  (by first|show .inl (by decide +kernel)|show .inr (by decide +kernel)) (by rw[jh];kernel_rfl)
def iM:Slot "map" "__iter__" "map.__iter__":=
 .of (owner:="map") (n:="__iter__") (by rw[fj,dh];kernel_rfl) (by decide +kernel) (by decide +kernel) (by decide +kernel)
  (by first|show .inl (by decide +kernel)|show .inr (by decide +kernel)) (by rw[jh];kernel_rfl)
def rF:Slot "map" "__init__" "object.__init__":=
 .of (owner:="object") (n:="__init__") (by rw[fj,dh];kernel_rfl) (by decide +kernel) (by decide +kernel) (by decide +kernel)
  (by first|show .inl (by decide +kernel)|show .inr (by decide +kernel)) (by rw[jh];kernel_rfl)
def pT:entryFor table "map.__next__"=some Builtin.«map.__next__»:=fF (by kernel_rfl)
def rK:entryFor table "map.__new__"=some Builtin.«map.__new__»:=fF (by kernel_rfl)
def pU:entryFor table "map.__iter__"=some Builtin.«dict_keyiterator.__iter__»:=
 lL (id':="dict_keyiterator.__iter__") (by kernel_rfl) (by first|rfl|decide +kernel|(unfold String.splitOn;simp +decide [String.splitOnAux])) (by decide +kernel) (by kernel_rfl)
def rO (a:Value):argsOk "map.__next__" #[[a],[]]:=by
 unfold argsOk;rw[nR (id:="map.__next__") (n:=['_','_','t','x','e','n','_','_']) (o:=['p','a','m']) (by kernel_rfl) sF];kernel_rfl
def rP (a:Value):argsOk "map.__iter__" #[[a],[]]:=by
 unfold argsOk;rw[nR (id:="map.__iter__") (n:=['_','_','r','e','t','i','_','_']) (o:=['p','a','m']) (by kernel_rfl) sF];kernel_rfl
def yF (a b c:Value):argsOk "object.__init__" #[[a,b,c],[]]:=by
 unfold argsOk;rw[nR (id:="object.__init__") (n:=['_','_','t','i','n','i','_','_']) (o:=['t','c','e','j','b','o']) (by kernel_rfl) F.owner_object];kernel_rfl
def BS:mroOf (.type "map")=pure [.type "map",.type "object"]:=by rw[mroOf_type];kernel_rfl
def pA:typeLookup (.type "map") "__new__"=pure (some (.builtin "map.__new__")):=by rw[fj,dh];kernel_rfl
def AD:TypeCalled "map" "map.__new__" "object.__init__":=
 #[by decide +kernel,by decide +kernel,#[_,_,BS],madeBy_type BS pA (by decide +kernel),by decide +kernel,by rw[jh];kernel_rfl,rF]
def tQ (a b:Value):checkTypeCall "map" #[[a,b],[]]=pure ():=by kernel_rfl
def x7 (a b:Value):checkBuiltinCall "map.__new__" #[[.type "map",a,b],[]]=pure ():=by kernel_rfl
def zF:typeLookup (.type "map") "__len__"=pure none:=by rw[fj,dh];kernel_rfl
def x9:typeLookup (.type "map") "__length_hint__"=pure none:=by rw[fj,dh];kernel_rfl
def M0:isSubtype (.type "map") (.type "map")=pure true:=by rw[jh];kernel_rfl
variable {f:Value}
public abbrev n9 (h:Heap)(m t it:Addr)(f:Value):Prop:=h.get? m=some {cls:=.type "map",data:=.fields #v[.ref t,f]}/\h.get? t=some {cls:=.type "tuple",data:=.seq #v[.ref it]}
section
variable {prog:Program}{w:World}{A:Around}{E:QqV}{s:Shared}
def N6 (f:Value)(l:Addr)(items:Array Value) :
  Meets (Builtin.«map.__new__» #[[.type "map",f,.ref l],[]]) (λ_ R s=>s.heap.IsList l items /\
   R (.ok (.ret (.ref (s.heap.objs.size+2)))) {s with heap:=((s.heap.push {cls:=.type "list_iterator",data:=.fields #v[.ref l,.int 0 0]}).push {cls:=.type "tuple",data:=.seq #v[.ref s.heap.objs.size]}).push {cls:=.type "map",data:=.fields #v[.ref (s.heap.objs.size+1),f]}}):=
 .of_wp λprog w A R s h=>by
  have#[Y,h]:=h;have Z:(s.heap.push {cls:=.type "list_iterator",data:=.fields #v[.ref l,.int 0 0]}).objs.size=s.heap.objs.size+1:=gr ..;unfold Builtin.«map.__new__» Builtin.SmallTypes.newClass;apply ae ?_;dsimp only;apply ae (fb (a:=true) (by rfl) ?_);rw[aw (by decide)];apply ae (fb (a:=true) M0 ?_);rw[aw (by decide)];apply af ?_;dsimp only;apply ae (fb (a:=()) (by rfl) ?_);rw[aw (by simp)];unfold Builtin.SmallTypes.iterAll;apply ae ?_;simp only[List.drop_succ_cons,yp,pj,og];apply ae (ae (ae (cm (wpAny_pyIter_list Y (af ?_)))));dsimp only;apply af (af ?_);show wpAny _ _ (newTuple [Value.ref s.heap.objs.size]>>=_) _ _ _;apply ae (m:=newTuple _) (jt ?_ (by first|size_fits|rfl));apply ae ?_;show wpAny _ _ (newObj (.type "map") (.fields [_,_].toArray)) _ _ _;apply jt ?_ (by first|size_fits|rfl);apply af #[_,rfl,?_];have W:((s.heap.push {cls:=.type "list_iterator",data:=.fields #v[.ref l,.int 0 0]}).push {cls:=.type "tuple",data:=.seq #v[.ref s.heap.objs.size]}).objs.size=s.heap.objs.size+2:=by rw[gr,Z]
  simp only[Array.toList_push,sv,Z,W,List.headD];show h
def K4 {l:Addr}{items:Array Value}{Q:QqV}(I:s.heap.IsList l items)
  (h:∀h',n9 h' (s.heap.objs.size+2) (s.heap.objs.size+1) s.heap.objs.size f->h'.IsListIter s.heap.objs.size l 0->h'.objs.size=s.heap.objs.size+3->(∀b o,s.heap.get? b=some o->h'.get? b=some o)->Q (.ref (s.heap.objs.size+2)) {s with heap:=h'}) :
  wpAny (model prog w) A (call (.type "map") [f,.ref l]) Q E s:=by
 apply callType_new AD (by decide) (tQ _ _) (x7 _ _) (λobj=>yF obj _ _) rK (N6 f l items) #[I,?_];have U:(s.heap.push {cls:=.type "list_iterator",data:=.fields #v[.ref l,.int 0 0]}).objs.size=s.heap.objs.size+1:=gr ..;have W:((s.heap.push {cls:=.type "list_iterator",data:=.fields #v[.ref l,.int 0 0]}).push {cls:=.type "tuple",data:=.seq #v[.ref s.heap.objs.size]}).objs.size=s.heap.objs.size+2:=by rw[gr,U]
 have Z:=cf ((s.heap.push {cls:=.type "list_iterator",data:=.fields #v[.ref l,.int 0 0]}).push {cls:=.type "tuple",data:=.seq #v[.ref s.heap.objs.size]}) (o:={cls:=.type "map",data:=.fields #v[.ref (s.heap.objs.size+1),f]}) rfl;have Y:=cf (s.heap.push {cls:=.type "list_iterator",data:=.fields #v[.ref l,.int 0 0]}) (o:={cls:=.type "tuple",data:=.seq #v[.ref s.heap.objs.size]}) rfl;rw[W]at Z;rw[U]at Y;apply#[#[_,Z,rfl],h _ #[Z,av _ Y] #[_,av _ (av _ (cf _ rfl)),rfl,rfl] (by rw[gr,W]) λb o x=>av _ (av _ (av _ x))]
def y9 {Z f:Addr}{v:Value}{args:List Value}{R:Result->Shared->Prop}(Y:s.heap.get? Z=some {cls:=.type "method",data:=.fields #v[.ref f,v]})(h:codeAny (model prog w) A (.call (.ref f) #[v::args,[]]) R s):codeAny (model prog w) A (.call (.ref Z) #[args,[]]) R s:=by
 apply uf ?_;show wpAny _ _ (callAny (.ref Z) #[args,[]]) _ _ _;unfold callAny;apply ae (yu Y ?_);dsimp only;rw[br (by decide)];show af #[rfl,h]
def yY {m t it:Addr}{Q:QqV}(Z:n9 s.heap m t it f)(h:Q (.ref m) s):wpAny (model prog w) A (pyIter (.ref m)) Q E s:=by
 have hT:s.TypeIs (.ref m) "map":=#[_,Z.1,rfl];apply dW hT iM (fx iM hT pU ?_ (rP _));show wpAny _ _ (ret (.ref m)) _ _ s;show af #[_,rfl,"map",_,hT,zj.lookup,h]
def oQ {m t it:Addr}{Q:Option Value->Shared->Prop}(W:n9 s.heap m t it f)
  (h:wpAny (model prog w) A.in1 (Builtin.SmallTypes.nextOf (.ref it)) (λx s₁=>n9 s₁.heap m t it f/\wpAny (model prog w) A.in1 (call f [x]) (λv s'=>Q (some v) s') (λ_ _=>False) s₁) (λe s'=>s'.TypeIs e "StopIteration"/\Q none s') s):wpAny (model prog w) A (pyNext (.ref m)) Q E s:=by
 have hT:s.TypeIs (.ref m) "map":=#[_,W.1,rfl];unfold pyNext;apply ae (yh (jx (name:=Str.ofString "__next__") hT zj (fx zj hT pT ?_ (rO _))));show wpAny _ _ (field (.ref m) 0>>=_) _ _ s;apply ae (nB W.1 rfl (x:=.ref t) rfl ?_);apply ae (qc W.2 rfl ?_);dsimp only;apply ae ?_;simp only[List.forIn_toArray,pj,og];apply ae (ae (cm (cg h (λx s₁ h₁=>af ?_) λe s₁ h₁=>?_)))
 ·dsimp only;apply af ?_;have#[Z,h₁]:=h₁;apply ae (nB Z.1 rfl (x:=f) rfl ?_);apply ae (cm (cg h₁ (λv s₂ Y=>?_) λ_ _ x=>x.elim));show ae (wpAny_letGo (af #[_,rfl,af Y]))
 ·show ae (qZ (T:="StopIteration") (b:=true) h₁.1 isSubtype_stop (af h₁.2))
end
end MP
end
section
namespace MP
open PySem PyProof.Rows PySem.W
structure qN (G:Stc)(fM:Addr):Prop where
 here:∃(p:Fin 20->Pos) (doc:Str) (c0 c1:Nat) (rest:List Stmt) (ns:List (Str×NameKind)) (more:List (Str×Const)),FnAt G fM 2 [] (qk ns more) (oX p doc c0 c1 rest)/\((p 4).endLine==(p 7).line)=true /\
  (qk ns more).names.lookup ("tuple":Str)=some .globalImplicit/\(qk ns more).names.lookup ("len":Str)=some .globalImplicit
 tup:G.gl "tuple"=some (.type "tuple")
 len:G.gl "len"=some (.builtin "len")
def gS (σ:St)(a:Addr)(xs ys:List V):(σ.cz a xs).cz a ys=σ.cz a ys:=by
 unfold St.cz
 congr 1
 funext j
 simp only[upd];split<;>rfl
def AOk.ins {A:Around}{d k:Nat}(h:AOk A (d+1))(hk:k<=30):AOk {A with units:=A.units+k} d:=#[h.handled,by have:=h.depth;dsimp only;(show dt (.l (.a (.a .A (.m 3 .B)) (.n 20)) .C) .a .c2 this),by have:=h.units;dsimp only;(show dj (.l (.a (.a .M (.m 30 .C)) .b0) .D) .b (.k .B (.n 30)) (.l (.a (.a .A (.m 30 .Q)) .b0) .D) hk this)]
def BH {G:Stc}{σ:St}{h h':Heap}{it:Addr}(R:Rel G σ h)(hd:¬σ.dom it)(hb:G.hb.get? it=none)(Z:∀o,h.get? it=some o->¬Frz o)(hk:∀b o,b≠it->h.get? b=some o->h'.get? b=some o):Rel G σ h':=
 R.same (λb o e Y=>hk b o (λq=>hd (q▸Y)) e) (λb o e f=>hk b o (λq=>Z o (q▸e) f) e) λb o e=>hk b o (λq=>by rw[q,hb]at e;cases e) (R.base b o e)
section
variable {G:Stc}{A:Around}{E:QqV}{s:Shared}{fN fM:Addr}{σ₀ σ:St}
def oA {α:Type}{l:List α}(h:l.length=2):∃a b,l=[a,b]:=by
 have#[a,r,rfl]:=mr h;have#[b,r,rfl]:=mr (uk h);have rfl:=lO.mp (uk (uk h));apply#[a,b,rfl]
def G5 {α:Type}{l:List α}(h:l.length=3):∃a b c,l=[a,b,c]:=by
 have#[a,r,rfl]:=mr h;have#[b,c,rfl]:=oA (uk h);apply#[a,b,c,rfl]
def DZ {d:Nat}{l S it m t q:Addr}{ts:List (List V)}{res:Value}{R:Result->Shared->Prop}(Kg:GOk G)(K:qo G fN fM)(Km:tf G)(Mk:qN G fM)(ao:AOk A (d+2))(dn:∀t∈ts,t.length=3)(ea:l≠S)(dc:σ.L l=some (ts.map V.T))(hz:ts.length<=bp)
  (own:∀b∈[it,m,t,q],s.heap.get? b=none/\¬σ.dom b/\b≠S/\G.hb.get? b=none) (dL:m≠it) (dv:t≠it) (dx:q≠it)
  (hR:∀s',Rel G (σ.cz S (ts.map V.mt)) s'.heap->Go [] σ₀ s (σ.cz S (ts.map V.mt)) s'->R (.ok (.ret res)) s') :
  ∀(k i:Nat) (s':Shared),ts.length-i=k->i<=ts.length->Rel G (σ.cz S ((ts.take i).map V.mt)) s'.heap->Go [] σ₀ s (σ.cz S ((ts.take i).map V.mt)) s'->n9 s'.heap m t it (.ref q)->s'.heap.get? q=some {cls:=.type "method",data:=.fields #v[.ref fM,.ref G.cM]}->s'.heap.IsListIter it l i ->
   codeAny G.M A (.builtin "list.extend.loop" #[[.ref S,.ref m,res],[]]) R s':=by
 have#[p,doc,c0,c1,rest,ns,more,Kf,ch,ct,dV]:=Mk.here;have nd:∀(xs:List V),∀b∈[it,m,t,q],¬(σ.cz S xs).dom b:=λxs b hb dm=>(dJ dm).elim (own b hb).2.1 (own b hb).2.2.1;have I:it∈[it,m,t,q]:=.head _;have mm:m∈[it,m,t,q]:=.tail _ (.head _);have tm:t∈[it,m,t,q]:=.tail _ (.tail _ (.head _));have qm:q∈[it,m,t,q]:=.tail _ (.tail _ (.tail _ (.head _)));have nf:∀{h:Heap} {i:Nat},h.IsListIter it l i->∀o,h.get? it=some o->¬Frz o:=λ{h i} da o e=>by
  have#[o',dz,ef,ed]:=da;have rfl:=ah (dz.symm.trans e);show jq ef ed (by decide) (by decide)
 have hL:∀(xs:List V),(σ.cz S xs).L l=some (ts.map V.T):=λxs=>by simp only[St.cz,bz ea];show dc
 have cn:∀b∈[it],s.heap.get? b=none:=λb hb=>by have rfl:=aq.mp hb;show(own _ I).1
 intro k;induction k with
 |zero =>
  intro i s' hk hi Rr x hm hq hit;have eb:i=ts.length:=by(show fe .C [[1,1,-1],[1,0,1]] .aK .a0 hk (aa (ax .A .a .A hi)))
  subst eb;apply yr F.entry_extend_loop ?_;rw[gN F.plain_extend_loop _];show wpAny _ A.in1 (pyNext (.ref m)>>=_) _ _ _;have#[ws,n,hl,cc]:=Rr.L l _ (hL _);have bn:=cc.length;apply ae (oQ hm (wpAny_nextOf_list_end (A:=A.in1.in1) ao.handled hit hl.isList (by rw[List.getElem?_toArray,<- kx.symm];simp at bn;(show ax .A .E .b8 bn)) λh' e he df=>#[df,?_]));have U:∀b o,b≠it->s'.heap.get? b=some o->h'.get? b=some o:=he;have R':=BH Rr (nd _ _ I) (own _ I).2.2.2 (nf hit) U;have x':=x.but (s':={s' with heap:=h'}) (λb o hb e=>U b o (λq=>hb (q▸.head _)) e) .rfl cn;rw[rk]at R' x';show af (hR _ R' x')
 |succ k ih =>
  intro i s' hk hi Rr x hm hq hit;have ag:i<ts.length:=by(show dj .B .z (.e .C .V) .a0 hk (aa (ax .A .a .A hi)))
  apply yr F.entry_extend_loop ?_;rw[gN F.plain_extend_loop _];show wpAny _ A.in1 (pyNext (.ref m)>>=_) _ _ _;have#[ws,n,hl,cc]:=Rr.L l _ (hL _);have#[w,hw,vr]:=cc.get (i:=i) (v:=.T ts[i]) (by simp[ag]);apply ae (oQ hm (wpAny_nextOf_list_item hit hl.isList (by simpa using hw) λh₁ bd cd=>?_));have U:∀b o,b≠it->s'.heap.get? b=some o->h₁.get? b=some o:=λb o hb e=>by rw[cd.2 b hb];show e
  have cx:=BH Rr (nd _ _ I) (own _ I).2.2.2 (nf hit) U;have ck:=x.but (s':={s' with heap:=h₁}) (λb o hb e=>U b o (λq=>hb (q▸.head _)) e) .rfl cn;have ab:n9 h₁ m t it (.ref q):=#[U _ _ dL hm.1,U _ _ dv hm.2];have aj:=U _ _ dx hq;apply#[ab,qd (y9 aj ?_)];have hf:je s'.heap h₁:=λb o e f=>U b o (λq=>nf hit o (q▸e) f) e;have h3:=dn ts[i] (lr ag);have#[a,b,c,bu]:=G5 h3;rw[bu]at vr;apply codeAny_mono (F8 (s:={s' with heap:=h₁}) (A:=A.in1.in1) (d:=d) (Q:=λv σ'=>v=.mt [a,b,c]/\σ'=σ.cz S ((ts.take i).map V.mt)) (E:=λ_ _=>False) Kg K Km Kf ch Mk.tup Mk.len ct dV (ao.ins (k:=2) (iF (.k .W (.n 30)) .j)) cx (vr.mono hf) #[rfl,rfl]) λr s₂ hr=>?_;cases r with
  |error e=>show hr.elim
  |ok fl =>
   cases fl with
   |ret w' =>
    have#[v,σ',#[rfl,rfl],cb,ca,bl]:=hr;have Y:∀b∈[it,m,t,q],∀o,h₁.get? b=some o->s₂.heap.get? b=some o:=λb hb o e=>bl.keep b o e (nd _ b hb) (λh=>nomatch h);have hS:(σ.cz S ((ts.take i).map V.mt)).L S=some ((ts.take i).map V.mt):=bg _ _ _;have#[us,n',ar,ai]:=ca.L S _ hS;have aE:=ai.length;have ec:us.length=i:=by rw[<- aE];simp;(show(Ar.nv _ _).2.2.elim (λq1=>(fy .C .i .A .aQ (Ar.nv _ _).1 q1)) λq1=>(pq .C .q .aF .A .aA hi (Ar.nv _ _).1 q1))
    have dr:(ts.take (i+1)).map V.mt=(ts.take i).map V.mt++[.mt [a,b,c]]:=by rw[kr ag,bu];simp
    have cl:us.length+1<=sizeLine:=by rw[ec];show pn (fe .F .b .Q .O hz ag)
    have#[bv,be]:=LH (f:=λx=>x.push w') ca hS ar (ai.append %[cb|0]) (by simp;(show mf .F .h .Q .X .aV hz ag (Ar.nv _ _).1)) (by simp);rw[gS,<- dr]at bv be;show wpAny _ A.in1 (updateSeq S (·.push w')>>=_) _ _ _;have ne:∀z∈[it,m,t,q],S≠z:=λz hz e=>(own z hz).2.2.1 e.symm;have Z:∀z∈[it,m,t,q],∀o,s₂.heap.get? z=some o->(s₂.heap.update S (Obj.mapSeq (·.push w'))).get? z=some o:=λz hz o e=>(lh _ _ (ne z hz)).trans e;apply ae (wpAny_updateSeq ar rfl (af #[plainId_quiet F.plain_extend_loop _,?_]) (by simp only[cv];(show ax .A .a .F cl)) (by simp only[Array.size_push,cv];(show ax .aC .a .F cl)));have#[o1,dy,r1]:=bd;show ih (i+1) _ (jd .C .v (.e .C .L) .bC .aL hk (aa (ax .A .a .A hi)) (aa (ax .F .a .B ag))) (ax .F .a .B ag) bv ((ck.trans bl).to be) #[Z _ mm _ (Y _ mm _ ab.1),Z _ tm _ (Y _ tm _ ab.2)] (Z _ qm _ (Y _ qm _ aj)) #[o1,Z _ I _ (Y _ I _ dy),r1]
   |_=>show hr.elim
end
section
variable {prog:Program}{w:World}{A:Around}{E:QqV}{s:Shared}
def rM {m t it:Addr}{f:Value}{Q:QqV}(hm:n9 s.heap m t it f)
  (h:∀h' n',(∀b o,s.heap.get? b=some o->h'.get? b=some o)->IsL h' s.heap.objs.size #v[] n'->codeAny (model prog w) A.in1 (.builtin "list.extend.loop" #[[.ref s.heap.objs.size,.ref m,.none],[]]) (wants (λr s₂=>r=.none/\Q (.ref s.heap.objs.size) s₂) E) {s with heap:=h'}) :
  wpAny (model prog w) A (call (.type "list") [.ref m]) Q E s:=by
 apply callType_codes (Q₁:=λobj s₁=>obj=.ref s.heap.objs.size/\s₁={s with heap:=s.heap.push {cls:=.type "list",data:=.seq #v[]}}) F.called_list (F.typeCall_list_1 _) F.entry_list_init
  (code_list_new _ #[rfl,rfl]) λobj s₁ h₁=>?_
 have#[rfl,rfl]:=h₁;have B:(s.heap.push {cls:=.type "list",data:=.seq #v[]}).get? s.heap.objs.size=some {cls:=.type "list",data:=.seq #v[]}:=cf _ rfl;apply#[#[_,B,rfl],F.args_list_init_2 _ _,?_];generalize ag:s.heap.objs.size=S at B h;have lt:∀{b:Addr} {o:Obj},s.heap.get? b=some o->S≠b:=λ{b o} e q=>by have:=gv e;rw[ag,q]at this;show fp _ this
 have ab:S≠m:=lt hm.1;show wpAny _ _ (do let old←Builtin.List.listItems (.ref S);Builtin.List.listUpdate (.ref S) (λ_=>#v[]);letGo old.toList.reverse;Builtin.List.listExtendWith (.ref S) (.ref m) .none) _ _ _;apply ae ?_;unfold Builtin.List.listItems;apply ae (qc B rfl (af ?_));show wpAny _ _ (updateSeq S (λ_=>#v[])>>=λ_=>letGo (#v[]:Array Value).toList.reverse>>=λ_=>Builtin.List.listExtendWith (.ref S) (.ref m) .none) _ _ _;apply ae (wpAny_updateSeq B rfl ?_);have W:=kl (Obj.mapSeq (λ_=>(#v[]:Array Value))) B rfl;apply ae (wpAny_letGo ?_);have U:∀b o,s.heap.get? b=some o->((s.heap.push {cls:=.type "list",data:=.seq #v[]}).update S (Obj.mapSeq (λ_=>(#v[]:Array Value)))).get? b=some o:=
  λb o e=>(lh _ _ (lt e)).trans (av _ e)
 have Z:n9 ((s.heap.push {cls:=.type "list",data:=.seq #v[]}).update S (Obj.mapSeq (λ_=>(#v[]:Array Value)))) m t it f:=#[U _ _ hm.1,U _ _ hm.2];unfold Builtin.List.listExtendWith;apply ae (jX (T:="map") #[_,Z.1,rfl] ?_);have h1:Builtin.List.listSameRef (.ref S) (.ref m)=false:=by simp[Builtin.List.listSameRef,ab]
 have h2:(Value.type "map" == Value.type "list")=false:=by decide
 have h3:(Value.type "map" == Value.type "tuple")=false:=by decide
 simp only[h1,h2,h3,we,eh,kh];apply ae (yY Z ?_);apply ae (cm ?_);unfold Builtin.List.listLengthHint;apply ae (iG (T:="map") #[_,Z.1,rfl] zF ?_);show wpAny _ _ (specialOf (Value.ref m) (Str.ofString "__length_hint__")>>=_) _ _ _;apply ae (iG (T:="map") #[_,Z.1,rfl] x9 ?_);apply af ?_;show wpAny _ _ (rule "list.extend.makes-room" >>= λ_=>Builtin.List.listTouch (.ref S)>>=λ_=>again (.builtin "list.extend.loop" #[[.ref S,.ref m,.none],[]])) _ _ _;apply ae (wd ?_);apply ae ?_;show wpAny _ _ (updateSeq S (·.push .none)>>=λ_=>updateSeq S (·.pop)) _ _ _;apply ae (wpAny_updateSeq W rfl ?_);have Y:=kl (Obj.mapSeq (·.push Value.none)) W rfl;apply wpAny_updateSeq (hz:=by seq_fits) Y rfl ?_;have I:=kl (Obj.mapSeq (·.pop)) Y rfl;apply af #[plainId_quiet F.plain_extend_loop _,h _ _ (λb o e=>?_) I];have hb:S≠b:=lt e;show(lh _ _ hb).trans ((lh _ _ hb).trans (U b o e))
end
end MP
end
section
namespace MP
open PySem PyProof.Rows PySem.W
section
variable {G:Stc}{fN fM:Addr}{C:Cal}{sc:Scope}{d:Nat}
def rE {e:Ex}{xl xm xM:Str}{y:Expr}{p p' bd ap pos I:Pos}(Kg:GOk G)(K:qo G fN fM)(Km:tf G)(Mk:qN G fM)(hd:3<=d)(he:fg G C sc d e y)(ca:noStar [y]=true)
  (hl:sc.names.lookup xl=some .globalImplicit) (dx:jl xl=true) (dv:G.gl xl=some (.type "list"))
  (hm:sc.names.lookup xm=some .globalImplicit) (dr:jl xm=true) (dn:G.gl xm=some (.type "map"))
  (hM:sc.names.lookup xM=some .globalImplicit) (dL:jl xM=true) (dz:G.gl xM=some (.ref G.cM)) :
  fg G C sc d (.M e) (.Call (.Name xl p) [.Call (.Name xm p') [.Attribute (.Name xM bd) "_make" ap,y] [] I] [] pos):=λA E env ρ σ Q s c h=>by
 have R:=c.R;have bl:noStar [.Attribute (.Name xM bd) "_make" ap,y]=true:=ca;apply Call_ (kn Kg c.eo R (by rw[c.es];show hl) dx dv (gC (jm (args:=[.Call (.Name xm p') [.Attribute (.Name xM bd) "_make" ap,y] [] I]) rfl pos env) (ou (jm (args:=[.Call (.Name xm p') [.Attribute (.Name xM bd) "_make" ap,y] [] I]) rfl pos env) (spliced_more ?_ rfl))));apply Call_ (kn Kg c.eo R (by rw[c.es];show hm) dr dn (gC (jm bl I env) (ou (jm bl I env) (spliced_more ?_ rfl))));apply Attribute_name (kn Kg c.eo R (by rw[c.es];show hM) dL dz (K.make _ _ _ _ _ R.base ?_));have R0:=R.push {cls:=.type "method",data:=.fields #v[.ref fM,.ref G.cM]};have x0:Go [] σ s σ {s with heap:=s.heap.push {cls:=.type "method",data:=.fields #v[.ref fM,.ref G.cM]},toks:=s.toks+1}:=Go.refl.to (Evo.push _ _ _ _);apply spliced_more (nj (he (c.go R0 x0) h) λv σ₁ s₁ w q vr r ag=>?_) ((gb ca).1 env);have#[l,ts,rfl,ai,h3,q]:=q;have rfl:=vr;apply nG ?_;have#[us,n,hL,dV]:=r.L _ _ ai;have hz:=r.Ll _ _ ai;simp only[ak]at hz;have aj:s.heap.get? s.heap.objs.size=none:=none_at_size _;have cc:¬σ.dom s.heap.objs.size:=λdm=>by have#[o,e]:=R.mx dm;rw[aj]at e;cases e
 have ch:(s.heap.push {cls:=.type "method",data:=.fields #v[.ref fM,.ref G.cM]}).get? s.heap.objs.size=some {cls:=.type "method",data:=.fields #v[.ref fM,.ref G.cM]}:=cf _ rfl;have cd:=ag.keep _ _ ch cc (λh=>nomatch h);have cb:¬σ₁.dom s.heap.objs.size:=λdm=>(ag.dom _ dm).elim cc λe=>by rw[ch]at e;cases e
 apply K4 hL.isList λZ ar hit ab hk=>?_;have r₂:=r.keeps hk;have bv:Go [] σ s σ₁ {s₁ with heap:=Z}:=(x0.trans ag).to (Evo.keeps hk);apply nG ?_;apply rM ar λbe n' Y aE=>?_;have hS:Z.get? Z.objs.size=none:=none_at_size _;have cn:At Z.objs.size Z be:=At.grow hS Y aE;have cl:σ₁.L Z.objs.size=none:=by
  cases hq:σ₁.L Z.objs.size with
  |none=>rfl
  |some ys=>have#[o,ho,_]:=r₂.vC hq;rw[hS]at ho;cases ho
 have ct:=r₂.putL (ws:=[]) (xs:=[]) cn (λ_=>hS) aE .nil (ba rfl);have bu:Evo [] σ₁ Z (σ₁.cz Z.objs.size []) be:=Evo.putL cn (λ_=>hS) [];have old:∀b,s₁.heap.objs.size<=b->s.heap.get? b=none/\¬σ₁.dom b/\G.hb.get? b=none:=λb hb=>by
  have e1:s₁.heap.get? b=none:=nh hb;apply#[(x0.trans ag).new e1,λdm=>?_,?_]
  ·have#[o,e]:=r.mx dm;rw[e1]at e;cases e
  ·cases hq:G.hb.get? b with
   |none=>rfl
   |some o=>have:=r.base _ _ hq;rw[e1]at this;cases this
 have bn:s.heap.objs.size<s₁.heap.objs.size:=gv cd;have own:∀b∈[s₁.heap.objs.size,s₁.heap.objs.size+2,s₁.heap.objs.size+1,s.heap.objs.size],s.heap.get? b=none/\¬σ₁.dom b/\b≠Z.objs.size/\G.hb.get? b=none:=λb hb=>by
  have ck:b<Z.objs.size:=by
   simp only[bw,lq,or_false]at hb;rcases hb with rfl|rfl|rfl|rfl<;>(first|show ax .B .E .b4 ab Ar.y|show ax (.l .aM .B) .E .b4 ab Ar.y|show ax .cV .E .b4 ab Ar.y|show fe .B .z (.e .B (.a .C .aZ)) .O ab bn Ar.y|omega)
  by_cases W:s₁.heap.objs.size<=b
  ·have#[o1,o2,o3]:=old b W;apply#[o1,o2,gn ck,o3]
  ·simp only[bw,lq,or_false]at hb;rcases hb with rfl|rfl|rfl|rfl
   ·(show#[(False.elim (dp .ff .r (.j .A .A) W)),#[(λq1=>(dp .ff .r (.j .A .A) W)),#[(ax .cY [[-1,-1]] .b4 ab),(False.elim (dp .ff .r (.j .A .A) W))]]])
   ·(show#[(False.elim (dp .ff .r (.j .A .aM) W)),#[(λq1=>(dp .ff .r (.j .A .aM) W)),#[(ax (.u .aM .B) [[-1,-1]] .b4 ab),(False.elim (dp .ff .r (.j .A .aM) W))]]])
   ·(show#[(False.elim (dp .ff .r (.j .A .P) W)),#[(λq1=>(dp .ff .r (.j .A .P) W)),#[(ax (.u .P .B) [[-1,-1]] .b4 ab),(False.elim (dp .ff .r (.j .A .P) W))]]])
   ·apply#[aj,cb,gn ck,?_];cases hq:G.hb.get? s.heap.objs.size with
    |none=>rfl
    |some o=>have:=R.base _ _ hq;rw[aj]at this;cases this
 have dy:l≠Z.objs.size:=λe=>by rw[e,cl]at ai;cases ai
 have#[oi,df,ri]:=hit;have dc:(s₁.heap.objs.size+2:Nat)≠s₁.heap.objs.size:=by(show iy (.u .aM .A) .j)
 have da:(s₁.heap.objs.size+1:Nat)≠s₁.heap.objs.size:=by(show iy (.u .P .A) .j)
 have cx:(s.heap.objs.size:Nat)≠s₁.heap.objs.size:=by(show ax .cY .x .B bn)
 apply DZ (it:=s₁.heap.objs.size) (m:=s₁.heap.objs.size+2) (t:=s₁.heap.objs.size+1) (q:=s.heap.objs.size) (S:=Z.objs.size) (l:=l) (σ₀:=σ) (σ:=σ₁) (s:=s) (d:=d-3) (A:=A.in1) Kg K Km Mk ((AOk.less c.ao (d':=d-3+2+1) (ax (.k (.a .aM .U) .B) .a (.e (.a .A .aZ) .B) (aa (dp (.k .aZ .A) .a (.k .aZ .A) hd)))).ins (k:=1) (iF (.k .U (.n 30)) .j)) h3 dy ai hz own dc da cx
  (λs' R' x'=>#[rfl,_,_,q _ cl,.L _,R',x']) ts.length 0 _ rfl (bh _) (by simpa using ct) (by simpa using bv.to bu) #[Y _ _ ar.1,Y _ _ ar.2] (Y _ _ (hk _ _ cd)) #[oi,Y _ _ df,ri]
end
end MP
end
section
namespace MP
open PySem PyProof.Rows
section
variable {e:Ex}{x:Str}{y:Expr}{p pos:Pos}
variable {G:Stc}{C:Cal}{sc:Scope}{d:Nat}
def BA {k:BF}{id:String}{W:Addr->St->(V->St->Prop)->Prop}(K:GOk G)(he:fg G C sc d e y)(Y:noStar [y]=true)(U:sc.names.lookup x=some .globalImplicit)(B:jl x=true)(I:G.gl x=some (.builtin id))
  (hk:∀vs σ Q,CW k vs σ Q->on1 vs λv=>fR v λa=>W a σ Q)
  (hc:∀{A E σ s a Q},AOk A d->Rel G σ s.heap->W a σ Q->wpAny G.M A (call (.builtin id) [.ref a]) (jg G [] σ s Q) E s) :
  fg G C sc d (.bf k %[e|0]) (.Call (.Name x p) [y] [] pos):=λA E env ρ σ Q s c h=>by
 apply oG (P:=λvs σ=>CW k vs σ Q) K Y (jy he md (gb Y).1) U B I c h λvs σ₁ s₁ ws q vr r Z=>?_;have#[v,rfl,q]:=mW (vs:=vs) (hk vs σ₁ Q q);have#[a,rfl,q]:=xk (v:=v) q;have#[w,rfl,rfl]:=vr.one;show Z.back (hc c.ao r q)
def GQ (K:GOk G)(he:fg G C sc d e y)(ag:noStar [y]=true)(hx:sc.names.lookup x=some .globalImplicit)(hn:jl x=true)(hv:G.gl x=some (.builtin "max")) :
  fg G C sc d (.bf .maxL %[e|0]) (.Call (.Name x p) [y] [] pos):=BA (k:=.maxL) (W:=λa σ Q=>∃ns:List Int,σ.L a=some (ns.map V.int)/\ns≠[]/\∀m∈ns,(∀n∈ns,n<=m)->Q (.int m) σ) K he ag hx hn hv (λ_ _ _ q=>q) @λA E σ s a Q ao R q=>by
 have#[ns,e,ai,q]:=q;have#[ws,n,hl,ab]:=R.L _ _ e;have hi:=tj ab;have#[xs,ex]:=hi.allInts.items;have Y:ns=xs.toList.map (·.1):=by
  rw[<- hi.numsOf,<- nums_intItems,<- ex]
 have Z:0<xs.size:=by
  have h3:=List.length_pos_iff.mpr ai;rw[Y,ak,gh]at h3;show h3
 have U:=hl.isList;rw[ex]at U;apply max_intList ao.handled U Z λv h' tk hv hk=>?_;have zz:=intItems_at hv;clear hv;have#[t,rfl]:=zz;have#[h1,h2]:=argBest_gt (numAt xs) (xs.size-1);apply#[_,_,q _ ?_ λa ha=>?_,.int _ _,R.keeps hk,Go.refl.to (Evo.keeps hk)]
 ·rw[Y,numAt_eq];show getD_mem (by rw[ak,gh];(show fe .B .b .I (.e .Q .B) h1 (aa (dp .D .a .H Z))))
 ·rw[Y]at ha;have#[j,hj,rfl]:=mem_getD ha;rw[ak,gh]at hj;rw[<- numAt_eq];show h2 j (fe .A .d .O .cS hj (aa (dp .D .a .H Z)))
def yR (K:GOk G)(he:fg G C sc d e y)(ab:noStar [y]=true)(hx:sc.names.lookup x=some .globalImplicit)(hn:jl x=true)(hv:G.gl x=some (.builtin "sorted")) :
  fg G C sc d (.bf .sorted %[e|0]) (.Call (.Name x p) [y] [] pos):=BA (k:=.sorted) (W:=λa σ Q=>∃ns:List Int,σ.L a=some (ns.map V.int)/\ns.length<64/\∀Z:List Int,Z.Perm ns->Z.Pairwise (·<=·)->∀c,σ.L c=Option.none->Q (.L c) (σ.cz c (Z.map V.int))) K he ab hx hn hv (λ_ _ _ q=>q) @λA E σ s a Q ao R q=>by
 have#[ns,e,B,q]:=q;have#[ws,n,hl,U]:=R.L _ _ e;have I:ws.length=ns.length:=by have:=U.length;simpa using this.symm
 apply sorted_ints hl.isList (tj U) (fy .aM .b .aH .C B I) λout Z hi hp ho=>?_;have#[k,ag]:=sortedAll_at s.heap ws out;have Y:s.heap.get? (s.heap.objs.size+1)=none:=nh (Nat.le_succ _);apply E6 (vs:=Z.map V.int) (ws:=out.toList) (n:=k) R .refl Y (λb o=>sortedAll_old) ag (VRs.ints hi) ?_ (q Z hp ho);rw[ak,hp.length_eq];unfold bp;(show dp .bH .a .aM B)
end
section
variable {tupled:Bool}{e:Ex}{o:Expr}{apos pos:Pos}
variable {G:Stc}{C:Cal}{sc:Scope}{d:Nat}
def BZ {name:Str}{id:String}{it:It}{W:V->St->(List V->(St->Prop)->St->Prop)->Prop}(K:GOk G)(he:fg G C sc d e o)(hb:mu o=true)(Z:(apos.endLine==pos.line)=true)(slot:Slot "dict" name id)(ty:typeOf (.builtin id)=pure (.type "method_descriptor"))
  (hit:∀ρ σ P,vW C it ρ σ P->wpE C e ρ σ λv σ=>W v σ P) (hW:∀v σ P,W v σ P->∃a,v=.dct a/\(σ.D a).isSome=true)
  (hc:∀{A E a σ s P},AOk A d->Rel G σ s.heap->W (.dct a) σ P ->
   wpAny G.M A (call (.builtin id) [.ref a]) (λv s₁=>wpAny G.M A (pyIter v) (yL G σ s tupled P) E s₁) E s):dQ G C sc d tupled it (.Call (.Attribute o name apos) [] [] pos):=λA E env ρ σ P s c h=>by
 apply mw hb rfl (by decide) Z (nj (he c (hit ρ σ P h)) λv σ₁ s₁ w q vr r x pl=>?_);have#[a,rfl,hD]:=hW v σ₁ P q;have rfl:=vr;have#[xs,e1]:=bt.mp hD;have#[ds,hd,_]:=r.D _ _ e1;apply nD hd.typeIs lM slot ty hd.mapOf.noDict ?_;apply pk (C:=C) (P:=λvs σ'=>vs=[]/\σ'=σ₁) rfl md (c.go r x) #[rfl,rfl] λvs σ₂ s₂ ws U B r₂ Y=>?_;have#[rfl,rfl]:=U;have rfl:=B;apply cg (hc c.ao r₂ q) (λv _ l=>cg l (λag _ l=>?_) λ_ _ x=>x) λ_ _ x=>x;have#[I,σ',e,ht,p,hp,r',x',hn,ab]:=l;have x3:=x.trans Y;apply#[I,σ',e,ht,p,hp,r',x3.trans x',λb hb=>x3.new (hn b hb),ab]
def CD {σ:St}{h:Heap}{a:Addr}{es:List (Key×V)}(r:Rel G σ h)(e:σ.D a=some es):∃o ds ep,h.get? a=some o/\DRs G h es ds/\h.DictAt G.kk a ds ep/\∀h':Heap,h'.get? a=some o->h'.DictAt G.kk a ds ep:=by
 have#[ds,hd,I]:=r.D _ _ e;have#[ep,o,Z,U,W]:=hd.dictAt;apply#[o,ds,ep,U,I,#[o,Z,U,W],λh' Y=>#[o,Z,Y,W]]
def sL {σ:St}{s:Shared}{h:Heap}{a:Addr}{o:Obj}{P:List V->(St->Prop)->St->Prop}{es:List (Key×V)}(I:Itr G)(hI:I.it=h.objs.size)(Y:I.own=[h.objs.size])(B:Obj)(Z:∀b o,s.heap.get? b=some o->h.get? b=some o)(R:Rel G σ s.heap)(e:σ.D a=some es)(ho:s.heap.get? a=some o)(ht:I.tup=true->tupled=true)(hp:P I.vs I.Gd (σ.fJ a o))(pos:I.pos 0 (h.push B)) :
  yL G σ s tupled P (.ref h.objs.size) {s with heap:=h.push B}:=by
 have dm:(σ.D a).isSome\/(σ.S a).isSome:=.inl (by rw[e];rfl);have U:Rel G (σ.fJ a o) h:=(R.keeps Z).yZ (Z _ _ ho) dm;have W:s.heap.get? h.objs.size=none:=by
  cases hq:s.heap.get? h.objs.size with
  |none=>rfl
  |some o=>have:=Z _ _ hq;rw[none_at_size h]at this;cases this
 apply#[I,σ.fJ a o,by rw[hI],ht,hp,pos,U.push _,Go.refl.to (((Evo.keeps Z).trans (Evo.yZ dm)).trans (Evo.push _ _ _ _)),λb hb=>?_,λb hb=>?_]
 ·rw[Y]at hb;have rfl:=aq.mp hb;show W
 ·rw[Y]at hb;have rfl:=aq.mp hb;intro dz;have#[o',e']:=U.mx dz;rw[none_at_size h]at e';cases e'
def NP (K:GOk G)(he:fg G C sc d e o)(hb:mu o=true)(Z:(apos.endLine==pos.line)=true):dQ G C sc d tupled (.keys e) (.Call (.Attribute o "keys" apos) [] [] pos):=
 BZ (it:=.keys e) (W:=FQ) K he hb Z PySem.F.slot_dict_keys PySem.F.type_dict_keys (λρ σ P h=>h) (λv σ P q=>by
  have#[a,rfl,es,e,q]:=yz (v:=v) q;apply#[a,rfl,by rw[e];rfl]) @λA E a σ s P ao R q=>by
 have#[es,e,q]:=q;have#[o,ds,ep,B,dr,Y,I]:=CD R e;have U:=gT K R (.inr (.inl (by rw[e];rfl)):σ.dom a);apply call_meetsIn PySem.F.slot_dict_keys Y.dictOf.typeIs PySem.F.entry_dict_keys (PySem.F.args_dict_keys_1 _) (PySem.W.kdl_meets_keys G.kk a U) #[#[ds,Y.dictOf],?_];apply PySem.W.kdl_pyIter_keys #[_,cf _ rfl,rfl,rfl] (Y.push _) ?_;show sL (NL G _ a o es ds ep (pairs_at dr).1 I) rfl rfl _ (λb o e=>av _ e) R e B (λh=>nomatch h) (q o) #[_,cf _ rfl,rfl,rfl]
def J0 (K:GOk G)(he:fg G C sc d e o)(hb:mu o=true)(Z:(apos.endLine==pos.line)=true):dQ G C sc d true (.items e) (.Call (.Attribute o "items" apos) [] [] pos):=
 BZ (it:=.items e) (W:=AU) K he hb Z PySem.F.slot_dict_items PySem.F.type_dict_items (λρ σ P h=>h) (λv σ P q=>by
  have#[a,rfl,es,e,q]:=yz (v:=v) q;apply#[a,rfl,by rw[e];rfl]) @λA E a σ s P ao R q=>by
 have#[es,e,q]:=q;have#[o,ds,ep,B,dr,Y,I]:=CD R e;have U:=gT K R (.inr (.inl (by rw[e];rfl)):σ.dom a);apply call_meetsIn PySem.F.slot_dict_items Y.dictOf.typeIs PySem.F.entry_dict_items (PySem.F.args_dict_items_1 _) (meets_dict_items G.kk a U) #[#[ds,Y.dictOf],?_];apply wpAny_pyIter_items #[_,cf _ rfl,rfl,rfl] (Y.push _) ?_;apply sL (IX G _ a (gn (gv (av _ B))) o es ds ep I) rfl rfl _ (λb o e=>av _ e) R e B (λh=>rfl) (q o) #[#[_,_,cf _ rfl],dr.mono λb o e _=>av _ (av _ e)]
end
def nK (n:Nat):sliceRange ((n:Int)-1) (-1) (-1)=(List.range n).map λk=>n-1-k:=by
 unfold sliceRange;have e:((if (-1:Int)>0 then (if ((n:Int)-1) < -1 then (-1-((n:Int)-1)+-1-1) / -1 else 0) else (if ((n:Int)-1)>-1 then (((n:Int)-1) - -1 - -1-1)/(-(-1)) else 0)):Int).toNat=n:=by
  rw[aw (by decide)];by_cases h:((n:Int)-1)>-1
  ·rw[br h];show((((n:Int)-1) - -1 - -1-1)/1).toNat=n;rw[Int.ediv_one];(show(Ar.ton _).elim (λZ=>(ax .C .f (.ie .L (.s (.s (.s (.s .P .U) (.ng 1)) (.ng 1)) .U)) Z.2)) λZ=>(fy .C .s (.ik (.s (.s (.s (.s .P .U) (.ng 1)) (.ng 1)) .U) .O) .G Z.1 Z.2))
  ·rw[aw h];(show(Ar.ton _).elim (λZ=>(fy .C .s (.ig (.ng 1) (.s .P .U)) (.ie .L .O) h Z.2)) λZ=>(fy .C .s (.ig (.ng 1) (.s .P .U)) .G h Z.2))
 dsimp only;rw[e];apply List.map_congr_left λk hk=>?_;have:=gI.mp hk;omega
def JB {α Z:Type}{f:α->Option Z}{g:α->Z}:∀l:List α,(∀k∈l,f k=some (g k))->l.filterMap f=l.map g
 | []=>λ_=>rfl
 |x::l=>λh=>by rw[List.filterMap_cons_some (h x (.head _)),ju,JB l λk hk=>h k (.tail _ hk)]
def HZ (ws:List Value):slicePick ws.toArray none none (some (-1))=ws.reverse.toArray:=by
 unfold slicePick;have e:sliceBounds none none (some (-1)) ws.toArray.size=((ws.length:Int)-1,-1,-1):=by
  unfold sliceBounds;simp
 rw[e];dsimp only;rw[nK,List.filterMap_map];apply bx List.toArray (List.ext_getElem? λi=>?_);have g:∀k∈List.range ws.length,((λx=>ws.toArray[x]?) ∘ λk=>ws.length-1-k) k=some (ws.reverse[k]?.getD .none):=λk hk=>by
  have hk:=gI.mp hk;have h2:ws.length-1-k<ws.length:=by(show Ar.sub _ _ (λq1 Y=>(Ar.sub _ _ (λI W=>(dj .B .b .a5 (.e .V .B) Y W)) λI W=>(mf .B .h .N .a5 .Z hk Y W))) λq1 Y=>(fe .B .b .N .G hk Y))
  simp only[Function.comp_apply,List.getElem?_toArray];rw[List.getElem?_reverse hk,bq h2];rfl
 have e2:(List.range ws.length).filterMap ((λx=>ws.toArray[x]?) ∘ λk=>ws.length-1-k)=(List.range ws.length).map λk=>ws.reverse[k]?.getD .none:=by
  show JB _ g
 rw[e2,cj];rcases Nat.lt_or_ge i ws.length with h|h
 ·rw[List.getElem?_range h];have U:i<ws.reverse.length:=by rw[vm];show h
  rw[bq U];show some (ws.reverse[i]?.getD Value.none)=_;rw[bq U];rfl
 ·rw[lg (by rw[tq];show h),lg (by rw[vm];show h)];rfl
section
variable {G:Stc}{C:Cal}{sc:Scope}{d:Nat}
def M4 {a:Ex}{x st:Expr}{p pos:Pos}(ha:fg G C sc d a x)(B:fg G C sc d (.neg (.int 1)) st):fg G C sc d (.rev a) (.Subscript x (.Slice none none (some st) p) pos):=λ_ _ _ _ _ _ _ c h =>
 Subscript_ (nj (ha c h) λv σ₁ s₁ w q vr r x =>
  wpAny_Slice (lK (lK (nj (evalPart_some_step (B (Q:=λv σ'=>v=.int (-1)/\σ'=σ₁) (c.go r x) #[1,rfl,rfl,rfl])) λag σ₂ s₂ ab W Z r₂ Y=>by
   have#[rfl,rfl]:=W;have#[t,rfl]:=Z;have#[l,rfl,xs,e,q]:=xk (v:=v) q;have rfl:=vr;have#[ws,n,hl,hv]:=r₂.L _ _ e;have I:(s₂.heap.push {cls:=.type "slice",data:=.fields #v[.none,.none,.int (-1) t]}).IsList l ws.toArray:=(hl.push _).isList;have U:=hv.length;have hz:=r₂.Ll _ _ e;apply tail_any (T:="list") (id:="list.__getitem__") (ops:=[.ref l,.ref s₂.heap.objs.size]) I.typeIs nC.lookup (wpAny_getItem_list_slice I (Heap.IsSliceOf.new ..) .none .none (.int _ _) (by decide) ?_ (by simp only[cv];rw[<- U];show pn hz)) rfl;rw[HZ];show kL (s₁:={s₂ with heap:=s₂.heap.push {cls:=.type "slice",data:=.fields #v[.none,.none,.int (-1) t]}}) (r₂.push _) ((x.trans Y).to (Evo.push _ _ _ _)) (hv.reverse.mono λ_ _ e _=>av _ e) (by rw[vm];show hz) q))))
def DRs.without {h:Heap}(k:Key):{es:List (Key×V)}->{ds:List (Key×Value)}->DRs G h es ds->DRs G h (delD es k) (PySem.without ds k)
 | [],ds=>λr=>by have rfl:=r;show .nil
 |(k',v)::es,ds=>λr=>by
  have#[w,us,rfl,a,r]:=r;have Z:=DRs.without k r;unfold delD PySem.without at Z ⊢;rw[lR,lR];by_cases c:k'=k
  ·subst c;rw[aw (by simp),aw (by simp)];show Z
  ·rw[br (by simpa using c),br (by simpa using c)];show .cons a Z
def MB {o i:Ex}{x y:Expr}{p pos:Pos}(ho:fg G C sc d o x)(hi:fg G C sc d i y):yt G C sc d (.delD o i) (.Delete [.Subscript x y p] pos):=λA E env ρ σ K s c h=>by
 rw[arm_exec_Delete];apply ae (gj (ae ?_));rw[arm_deleteEach_cons];apply ae (wpAny_delete_Subscript (nj (ho c h) λv σ₁ s₁ w q vr r Z=>nj (hi (c.go r Z) q) λai σ₂ s₂ ag U W r₂ Y=>?_));have#[a,rfl,ds,kk,e,B,ab,q]:=yz (v:=v) U;have rfl:=vr;have#[vs,hd,dr]:=r₂.D _ _ e;have hl:=dr.look kk;have I:=dr.length;unfold delItem
 try with_reducible refine cm ?_
 apply ae (wpAny_sequenceKey hd.typeIs (by decide) ?_);apply ae (jx (name:=Str.ofString "__delitem__") hd.typeIs PySem.F.slot_dict_delitem
  (call_meetsIn PySem.F.slot_dict_delitem hd.typeIs PySem.F.entry_dict_delitem (PySem.F.args_dict_delitem_2 _ _) (meets_dict_delitem_pairs G.kk a (key_is B W)) #[vs,hd,by rw[<- I];show pn (r₂.Dl _ _ e),?_,λh' hm hs=>?_]))
 ·cases hq:valueAt vs kk with
  |some _=>rfl
  |none =>
   have#[u,hu]:=bt.mp ab;rw[hu,hq]at hl;show hl.elim
 ·have hz:(delD ds kk).length<=bp:=gp (oq _ _) (r₂.Dl _ _ e);have#[r',x']:=QM r₂ e hs hm (dr.without kk) hz;apply af ?_;rw[arm_deleteEach_nil];apply af (af ?_);apply#[.next,ρ,_,.next,q,c.F.evo ((Z.trans Y).e.trans x'),r',((Z.trans Y).to x').wide]
end
end MP
end
section
set_option genInjectivity false
set_option genSizeOf false
set_option backward.match.sparseCases false
namespace MP
open PySem PyProof.Rows PySem.W
section
variable {pos:Pos}{b:Ex}{y:Expr}
variable {G:Stc}{C:Cal}{sc:Scope}{d:Nat}
def GW:fg G C sc d .dct0 (.Dict [] [] pos):=λ_ _ _ _ _ _ _ c h =>
 wpAny_Dict_empty #[.dct _,_,h _ c.R.freshD,.dct _,c.R.putD (At.push _) (λ_=>none_at_size _) (λb f e=>c.R.ID (none_at_size _) e rfl) (Heap.DictOf.new _) .nil (by simp[bp]),Go.refl.to (Evo.putD (At.push _) (λ_=>none_at_size _) _)]
def M6 {op:BoolOp}(h:fg G C sc d b y):fg G C sc d b (.BoolOp op [y] pos):=λ_ _ _ _ _ _ _ c q=>BoolOp_one (h c q)
def DF (h:tu G C sc d b y):tu G C sc d b (.BoolOp .And [y] pos):=λ_ _ _ _ _ _ _ c q =>
 isTrue_and (rG (h c q) λt σ₁ s₁ q r x=>by
  cases t with
  |true=>show isTrue_and_nil (kz.back x (kz.here q r))
  |false=>show kz.back x (kz.here q r))
def DE (h:tu G C sc d b y):tu G C sc d b (.BoolOp .Or [y] pos):=λ_ _ _ _ _ _ _ c q =>
 isTrue_or (rG (h c q) λt σ₁ s₁ q r x=>by
  cases t with
  |false=>show isTrue_or_nil (kz.back x (kz.here q r))
  |true=>show kz.back x (kz.here q r))
end
structure Tab where
 cap:Str->Bool
 gl:List (Str×Value)
 attrs:List Str
 meths:List (Nat×Str)
 fns:List (Nat×Addr)
 cM:Addr
 cS:Addr
structure TabOk (G:Stc)(T:Tab)(C:Cal)(d:Nat):Prop where
 g:GOk G
 gl:∀x v,T.gl.lookup x=some v->G.gl x=some v
 attrs:G.attrs=T.attrs
 cap:G.cap=T.cap
 cal:iZ G (λk=>T.fns.lookup k) C (d-1)
 lam:qO G C (d-1)
 meth:∀k name,T.meths.lookup k=some name->∃f,T.fns.lookup k=some f/\MethAt G name f
 init:∃f,T.fns.lookup 0=some f/\qU G f
 cM:G.cM=T.cM
 cS:G.cS=T.cS
 mt:∃fN fM,qo G fN fM/\tK G fN/\qN G fM
 ma:tf G
 unp:FJ G
 d3:3<=d
abbrev gW (i:Nat)(x:Expr):Option Expr:=match i with|0=>(vw x).b.1|_=>(vw x).b.2
abbrev kg (x:Expr):List Comprehension×Scope:=(vw x).g
abbrev hdG:List Comprehension->Expr×Expr×List Expr
 |g::_=>(g.target,g.iter,g.ifs)
 | []=>(default,default,[])
abbrev SF (x:Expr):Bool:=kT 0 x&&!(kids x).isEmpty
abbrev iP (x:Expr):BoolOp×List Expr×Pos:=((vw x).op,kids x,x.pos)
def W3 {x:Expr}(h:SF x=true):∃z r,(iP x).2.1=z::r/\x=.BoolOp (iP x).1 (z::r) (iP x).2.2:=by
 cases x
 case BoolOp =>
  cases values with
  |nil=>cases h
  |cons z r=>refine#[z,r,rfl,rfl]
 all_goals show Bool.noConfusion (show false=true from h)
abbrev many (x:Expr):Bool:=!(kids x).tail.tail.isEmpty
abbrev bo (op:BoolOp)(a b:Expr)(p:Pos)(m:Bool):Expr:=.BoolOp op (a::bif m then (iP b).2.1 else [b]) p
abbrev I7 (op:BoolOp)(b:Expr)(p:Pos)(m:Bool):Bool:=!m||(SF b&&(decide ((iP b).1=op)&&decide ((iP b).2.2=p)))
abbrev hint (op:BoolOp)(x:Expr):Expr:=bif many x then .BoolOp op (kids x).tail x.pos else kid 1 x
def yB {op:BoolOp}{b:Expr}{p:Pos}:(m:Bool)->I7 op b p m=true->m=false\/∃z r,b=.BoolOp op (z::r) p/\∀a,bo op a b p m=.BoolOp op (a::z::r) p
 |false,_=>.inl rfl
 |true,h=>by
  have#[h0,Z]:=band (show(SF b&&(decide ((iP b).1=op)&&decide ((iP b).2.2=p)))=true from h);have#[Z,W]:=band Z;have Y:=ay Z;clear Z;have rfl:=Y;have rfl:=ay W;have#[z,r,e,U]:=W3 h0;show .inr #[z,r,U,λa=>bx (λl=>Expr.BoolOp (iP b).1 (a::l) (iP b).2.2) e]
abbrev glob (T:Tab)(sc:Scope)(x:Str)(v:Value):Bool:=decide (sc.names.lookup x=some .globalImplicit)&&(jl x&&decide (T.gl.lookup x=some v))
abbrev uB (x:Expr):Bool:=!(kT 7 x)
abbrev tZ (sc:Scope):Tg->Expr->Expr
 |.v i=>λx=>.Name (xy sc i) x.pos
 |.T is=>λx=>.Tuple (te sc is (kids x)) (exK x) x.pos
abbrev I6 (T:Tab)(sc:Scope):Tg->Expr->Bool
 |.v i=>λ_=>ownAt T.cap sc i
 |.T is=>λx=>u5 T.cap sc is
abbrev Exs.isNil:Exs->Bool
 |.nil=>true
 |_=>false
abbrev KI:BF->Nat
 |.len=>1
 |.set=>0
 |.maxL=>1
 |.sorted=>1
abbrev Exs.len:Exs->Nat
 |.nil=>0
 |.cons _ es=>es.len+1
abbrev CH:BF->Value
 |.len=>.builtin "len"
 |.maxL=>.builtin "max"
 |.sorted=>.builtin "sorted"
 |.set=>.type "set"
abbrev NR:BF->Bool
 |_=>false
abbrev isSort:BM->Bool
 |.sort=>true
 |_=>false
abbrev nm (x:Expr):Expr:=.Name (lj x) x.pos
abbrev Ex.isNone:Ex->Bool
 |.none=>true
 |_=>false
mutual
noncomputable def reE (T:Tab):Ex->Scope->Expr->Expr
 |.none=>λ_ x=>.Constant .none (exK x) x.pos
 |.bool b=>λ_ x=>.Constant (.bool b) (exK x) x.pos
 |.int i=>λ_ x=>.Constant (.int i) (exK x) x.pos
 |.str t=>λ_ x=>.Constant (.str t) (exK x) x.pos
 |.l i=>λsc x=>.Name (xy sc i) x.pos
 |.b op a b=>λsc x=>.BinOp (reE T a sc (kid 0 x)) (binOp op) (reE T b sc (kid 1 x)) x.pos
 |.neg a=>λsc x=>.UnaryOp .USub (reE T a sc (kid 0 x)) x.pos
 |.not a=>λsc x=>.UnaryOp .Not (reE T a sc (kid 0 x)) x.pos
 |.and a b=>λsc x=>bo .And (reE T a sc (kid 0 x)) (reE T b sc (hint .And x)) x.pos (many x)
 |.or a b=>λsc x=>bo .Or (reE T a sc (kid 0 x)) (reE T b sc (hint .Or x)) x.pos (many x)
 |.c op a b=>λsc x=>.Compare (reE T a sc (kid 0 x)) [n7 op] [reE T b sc (kid 1 x)] x.pos
 |.I c a b=>λsc x=>.IfExp (reE T c sc (kid 0 x)) (reE T a sc (kid 1 x)) (reE T b sc (kid 2 x)) x.pos
 |.L es=>λsc x=>.List (rq T es sc (kids x)) x.pos
 |.T es=>λsc x=>.Tuple (rq T es sc (kids x)) (exK x) x.pos
 |.dct0=>λ_ x=>.Dict [] [] x.pos
 |.call _ es=>λsc x=>.Call (nm (kid 0 x)) (rq T es sc (kids x).tail) [] x.pos
 |.meth e m es=>λsc x=>.Call (.Attribute (reE T e sc (kid 0 (kid 0 x))) ((T.meths.lookup m).getD "") (kid 0 x).pos) (rq T es sc (kids x).tail) [] x.pos
 |.attr e i=>λsc x=>.Attribute (reE T e sc (kid 0 x)) ((T.attrs[i]?).getD "") x.pos
 |.g e=>λsc x=>.Attribute (reE T e sc (kid 0 x)) "get" x.pos
 |.h e=>λsc x=>.Attribute (reE T e sc (kid 0 x)) "__contains__" x.pos
 |.bm k e es=>λsc x=>.Call (.Attribute (reE T e sc (kid 0 (kid 0 x))) (vH k) (kid 0 x).pos) (rq T es sc (kids x).tail) [] x.pos
 |.bf k es=>λsc x=>.Call (nm (kid 0 x)) (rq T es sc (kids x).tail) [] x.pos
 |.w f es=>λsc x=>.Call (.Name (xy sc f) (kid 0 x).pos) (rq T es sc (kids x).tail) [] x.pos
 |.sub e i=>λsc x=>.Subscript (reE T e sc (kid 0 x)) (reE T i sc (kid 1 x)) x.pos
 |.slc e lo hi=>λsc x=>.Subscript (reE T e sc (kid 0 x)) (.Slice ((gW 0 (kid 1 x)).map (reE T lo sc)) ((gW 1 (kid 1 x)).map (reE T hi sc)) none (kid 1 x).pos) x.pos
 |.rev e=>λsc x=>.Subscript (reE T e sc (kid 0 x)) (.Slice none none (some (.UnaryOp .USub (.Constant (.int 1) (exK (kid 0 (kid 0 (kid 1 x)))) (kid 0 (kid 0 (kid 1 x))).pos) (kid 0 (kid 1 x)).pos)) (kid 1 x).pos) x.pos
 |.K _ it t cs more=>λsc x=>.ListComp (HO T more (si (kg x).2 sc) (kid 0 x))
   (#[tZ (si (kg x).2 sc) t (hdG (kg x).1).1,wM T it sc (hdG (kg x).1).2.1,rq T cs (si (kg x).2 sc) (hdG (kg x).1).2.2,0]::HM T more (si (kg x).2 sc) (kg x).1.tail) (kg x).2 x.pos
 |.n es=>λsc x=>.Call (nm (kid 0 x)) (rq T es sc (kids x).tail) [] x.pos
 |.N a b c=>λsc x=>.Call (nm (kid 0 x)) [reE T a sc (kid 1 x),reE T b sc (kid 2 x),reE T c sc (kid 3 x)] [] x.pos
 |.M e=>λsc x=>.Call (nm (kid 0 x)) [.Call (nm (kid 0 (kid 1 x))) [.Attribute (nm (kid 0 (kid 1 (kid 1 x)))) "_make" (kid 1 (kid 1 x)).pos,reE T e sc (kid 2 (kid 1 x))] [] (kid 1 x).pos] [] x.pos
 |.dead=>λ_ x=>x
noncomputable def rq (T:Tab):Exs->Scope->List Expr->List Expr
 |.nil=>λ_ _=>[]
 |.cons e es=>λsc l=>reE T e sc (l.headD default)::rq T es sc l.tail
noncomputable def wM (T:Tab):It->Scope->Expr->Expr
 |.rng1 e=>λsc x=>.Call (nm (kid 0 x)) [reE T e sc (kid 1 x)] [] x.pos
 |.rng2 e f=>λsc x=>.Call (nm (kid 0 x)) [reE T e sc (kid 1 x),reE T f sc (kid 2 x)] [] x.pos
 |.enum e=>λsc x=>.Call (nm (kid 0 x)) [reE T e sc (kid 1 x)] [] x.pos
 |.seq e=>λsc x=>reE T e sc x
 |.keys e=>λsc x=>.Call (.Attribute (reE T e sc (kid 0 (kid 0 x))) "keys" (kid 0 x).pos) [] [] x.pos
 |.items e=>λsc x=>.Call (.Attribute (reE T e sc (kid 0 (kid 0 x))) "items" (kid 0 x).pos) [] [] x.pos
noncomputable def HM (T:Tab):Gens->Scope->List Comprehension->List Comprehension
 |.elt _=>λ_ _=>[]
 |.cons it t cs more=>λsc l=>#[tZ sc t (hdG l).1,wM T it sc (hdG l).2.1,rq T cs sc (hdG l).2.2,0]::HM T more sc l.tail
noncomputable def HO (T:Tab):Gens->Scope->Expr->Expr
 |.elt e=>λsc x=>reE T e sc x
 |.cons _ _ _ more=>λsc x=>HO T more sc x
end
abbrev tOk:Ex->Bool
 |.not a=>tOk a
 |.and a b=>tOk a&&tOk b
 |.or a b=>tOk a&&tOk b
 |.I _ a b=>tOk a&&tOk b
 |.c _ _ _=>true
 |.l _=>true
 |.attr _ _=>true
 |.w _ _=>true
 |.sub _ _=>true
 |.b _ _ _=>true
 |.dead=>true
 |_=>false
mutual
noncomputable def okE (T:Tab):Ex->Scope->Expr->Bool
 |.none=>λ_ _=>true
 |.bool _=>λ_ _=>true
 |.int _=>λ_ _=>true
 |.str _=>λ_ _=>true
 |.l i=>λsc _=>kindAt isVar sc i
 |.b _ a b=>λsc x=>okE T a sc (kid 0 x)&&okE T b sc (kid 1 x)
 |.neg a=>λsc x=>okE T a sc (kid 0 x)
 |.not a=>λsc x=>okE T a sc (kid 0 x)
 |.and a b=>λsc x=>okE T a sc (kid 0 x)&&(okE T b sc (hint .And x)&&I7 .And (reE T b sc (hint .And x)) x.pos (many x))
 |.or a b=>λsc x=>okE T a sc (kid 0 x)&&(okE T b sc (hint .Or x)&&I7 .Or (reE T b sc (hint .Or x)) x.pos (many x))
 |.c op a b=>λsc x=>okE T a sc (kid 0 x)&&(okE T b sc (kid 1 x)&&!(behindInMarks (n7 op) (reE T b sc (kid 1 x))))
 |.I c a b=>λsc x=>tOk c&&(okE T c sc (kid 0 x)&&(okE T a sc (kid 1 x)&&okE T b sc (kid 2 x)))
 |.L es=>λsc x=>noStar (rq T es sc (kids x))&&nM T es sc (kids x)
 |.T es=>λsc x=>noStar (rq T es sc (kids x))&&nM T es sc (kids x)
 |.dct0=>λ_ _=>true
 |.call f es=>λsc x=>(T.fns.lookup f).any (λa=>glob T sc (lj (kid 0 x)) (.ref a))&&(noStar (rq T es sc (kids x).tail)&&nM T es sc (kids x).tail)
 |.meth e m es=>λsc x=>(T.meths.lookup m).isSome&&(okE T e sc (kid 0 (kid 0 x))&&(mu (reE T e sc (kid 0 (kid 0 x)))&&(((kid 0 x).pos.endLine==x.pos.line)&&(decide ((rq T es sc (kids x).tail).length<30) &&
   (noStar (rq T es sc (kids x).tail)&&nM T es sc (kids x).tail)))))
 |.attr e i=>λsc x=>(T.attrs[i]?).isSome&&(mu (reE T e sc (kid 0 x))&&okE T e sc (kid 0 x))
 |.g e=>λsc x=>mu (reE T e sc (kid 0 x))&&okE T e sc (kid 0 x)
 |.h e=>λsc x=>mu (reE T e sc (kid 0 x))&&okE T e sc (kid 0 x)
 |.bm k e es=>λsc x=>(!isSort k||es.isNil)&&(okE T e sc (kid 0 (kid 0 x))&&(mu (reE T e sc (kid 0 (kid 0 x)))&&(((kid 0 x).pos.endLine==x.pos.line)&&(decide ((rq T es sc (kids x).tail).length<30) &&
   (noStar (rq T es sc (kids x).tail)&&nM T es sc (kids x).tail)))))
 |.bf k es=>λsc x=>Nat.beq es.len (KI k)&&(glob T sc (lj (kid 0 x)) (CH k)&&(noStar (rq T es sc (kids x).tail)&&nM T es sc (kids x).tail))
 |.w f es=>λsc x=>kindAt isVar sc f&&(noStar (rq T es sc (kids x).tail)&&nM T es sc (kids x).tail)
 |.sub e i=>λsc x=>!(isSlice (reE T i sc (kid 1 x)))&&(okE T e sc (kid 0 x)&&okE T i sc (kid 1 x))
 |.slc e lo hi=>λsc x=>okE T e sc (kid 0 x)&&((match gW 0 (kid 1 x) with|none=>lo.isNone|some l=>okE T lo sc l)&&(match gW 1 (kid 1 x) with|none=>hi.isNone|some l=>okE T hi sc l))
 |.rev e=>λsc x=>okE T e sc (kid 0 x)
 |.K fv it t cs more=>λsc x=>MY T it sc (isTup (tZ (si (kg x).2 sc) t (hdG (kg x).1).1)) (hdG (kg x).1).2.1&&(I6 T (si (kg x).2 sc) t (hdG (kg x).1).1&&(MZ T cs (si (kg x).2 sc) (hdG (kg x).1).2.2 &&
   (RO T more (si (kg x).2 sc) (kg x).1.tail (kid 0 x)&&(uB (wM T it sc (hdG (kg x).1).2.1)&&(decide ((kg x).2.kind=.function)&&(decide (((kg x).2.names.map (·.1)).Nodup) &&
   (uA sc fv 0 (kg x).2.names&&u6 (kg x).2 (#[tZ (si (kg x).2 sc) t (hdG (kg x).1).1,wM T it sc (hdG (kg x).1).2.1,rq T cs (si (kg x).2 sc) (hdG (kg x).1).2.2,0]::HM T more (si (kg x).2 sc) (kg x).1.tail))))))))
 |.n es=>λsc x=>!es.isNil&&(glob T sc (lj (kid 0 x)) (.ref T.cS)&&(noStar (rq T es sc (kids x).tail)&&nM T es sc (kids x).tail))
 |.N a b c=>λsc x=>glob T sc (lj (kid 0 x)) (.ref T.cM)&&(noStar [reE T a sc (kid 1 x),reE T b sc (kid 2 x),reE T c sc (kid 3 x)]&&(okE T a sc (kid 1 x)&&(okE T b sc (kid 2 x)&&okE T c sc (kid 3 x))))
 |.M e=>λsc x=>glob T sc (lj (kid 0 x)) (.type "list")&&(glob T sc (lj (kid 0 (kid 1 x))) (.type "map")&&(glob T sc (lj (kid 0 (kid 1 (kid 1 x)))) (.ref T.cM)&&(noStar [reE T e sc (kid 2 (kid 1 x))]&&okE T e sc (kid 2 (kid 1 x)))))
 |.dead=>λ_ _=>true
noncomputable def nM (T:Tab):Exs->Scope->List Expr->Bool
 |.nil=>λ_ _=>true
 |.cons e es=>λsc l=>okE T e sc (l.headD default)&&nM T es sc l.tail
noncomputable def MZ (T:Tab):Exs->Scope->List Expr->Bool
 |.nil=>λ_ _=>true
 |.cons e es=>λsc l=>tOk e&&(okE T e sc (l.headD default)&&MZ T es sc l.tail)
noncomputable def MY (T:Tab):It->Scope->Bool->Expr->Bool
 |.rng1 e=>λsc _ x=>glob T sc (lj (kid 0 x)) (.type "range")&&(noStar [reE T e sc (kid 1 x)]&&okE T e sc (kid 1 x))
 |.rng2 e f=>λsc _ x=>glob T sc (lj (kid 0 x)) (.type "range")&&(noStar [reE T e sc (kid 1 x),reE T f sc (kid 2 x)]&&(okE T e sc (kid 1 x)&&okE T f sc (kid 2 x)))
 |.enum e=>λsc tp x=>tp&&(glob T sc (lj (kid 0 x)) (.type "enumerate")&&(noStar [reE T e sc (kid 1 x)]&&okE T e sc (kid 1 x)))
 |.seq e=>λsc _ x=>okE T e sc x
 |.keys e=>λsc _ x=>mu (reE T e sc (kid 0 (kid 0 x)))&&(((kid 0 x).pos.endLine==x.pos.line)&&okE T e sc (kid 0 (kid 0 x)))
 |.items e=>λsc tp x=>tp&&(mu (reE T e sc (kid 0 (kid 0 x)))&&(((kid 0 x).pos.endLine==x.pos.line)&&okE T e sc (kid 0 (kid 0 x))))
noncomputable def RO (T:Tab):Gens->Scope->List Comprehension->Expr->Bool
 |.elt e=>λsc _ x=>okE T e sc x
 |.cons it t cs more=>λsc l x=>MY T it sc (isTup (tZ sc t (hdG l).1)) (hdG l).2.1&&(I6 T sc t (hdG l).1&&(MZ T cs sc (hdG l).2.2&&(RO T more sc l.tail x&&uB (wM T it sc (hdG l).2.1))))
end
abbrev BI (T:Tab)(sc:Scope):Tgt->Expr->Expr
 |.v i=>λx=>.Name (xy sc i) x.pos
 |.attr o i=>λx=>.Attribute (reE T o sc (kid 0 x)) ((T.attrs[i]?).getD "") x.pos
 |.sub o i=>λx=>.Subscript (reE T o sc (kid 0 x)) (reE T i sc (kid 1 x)) x.pos
 |.T is=>λx=>.Tuple (te sc is (kids x)) (exK x) x.pos
abbrev PS (T:Tab)(sc:Scope):Tgt->Expr->Bool
 |.v i=>λ_=>ownAt T.cap sc i
 |.attr o i=>λx=>okE T o sc (kid 0 x)&&(T.attrs[i]?).isSome
 |.sub o i=>λx=>okE T o sc (kid 0 x)&&okE T i sc (kid 1 x)
 |.T is=>λx=>u5 T.cap sc is
abbrev zk (T:Tab)(sc:Scope):List Tgt->List Expr->List Expr
 | []=>λ_=>[]
 |t::ts=>λl=>BI T sc t (l.headD default)::zk T sc ts l.tail
abbrev oR (T:Tab)(sc:Scope):List Tgt->List Expr->Bool
 | []=>λ_=>true
 |t::ts=>λl=>PS T sc t (l.headD default)&&oR T sc ts l.tail
abbrev stB (x:Stmt):List Stmt×List Stmt:=((sw x).b,(sw x).c)
abbrev zS:List Tgt->Bool
 | [.v _]=>true
 |_=>false
abbrev zU:Ex->Bool
 |.K _ _ _ _ _=>true
 |_=>false
abbrev J1:List Tgt->Option (List Nat)
 | [.T is]=>some is
 |_=>none
abbrev PT (T:Tab)(sc:Scope)(ts:List Tgt)(e:Ex)(xs hs:List Expr)(y:Expr):Option (Option (List Str))->Bool
 |none=>false
 |some none=>oR T sc ts hs&&(eF y||(zS ts&&zU e))
 |some (some names)=>(J1 ts).any λis=>eF y&&(UX T.cap sc is names&&decide is.Nodup)
abbrev VE:Bop->Bool
 |.add=>true
 |.sub=>true
 |_=>false
mutual
noncomputable def reS (T:Tab)(sc:Scope):Stm->Stmt->Stmt
 |.a ts e=>λx=>.Assign (zk T sc ts (e8 x).tail) (reE T e sc (st0 x)) x.pos
 |.aug i op e=>λx=>.AugAssign (.Name (xy sc i) ((e8 x).getD 1 default).pos) (binOp op) (reE T e sc (st0 x)) x.pos
 |.delD o i=>λx=>.Delete [.Subscript (reE T o sc (kid 0 (st0 x))) (reE T i sc (kid 1 (st0 x))) (st0 x).pos] x.pos
 |.expr e=>λx=>.Expr (reE T e sc (st0 x)) x.pos
 |.C c t e=>λx=>.If (reE T c sc (st0 x)) (jE T sc t (stB x).1) (jE T sc e (stB x).2) x.pos
 |.loop c b=>λx=>.While (reE T c sc (st0 x)) (jE T sc b (stB x).1) [] x.pos
 |.each t it b=>λx=>.For (tZ sc t ((e8 x).getD 1 default)) (wM T it sc (st0 x)) (jE T sc b (stB x).1) [] x.pos
 |.ret e=>λx=>.Return ((e8 x).head?.map (reE T e sc)) x.pos
 |.brk=>λx=>.Break x.pos
 |.cont=>λx=>.Continue x.pos
 |.pass=>λx=>bif (e8 x).isEmpty then .Pass x.pos else .Expr (.Constant (.str (C7 (st0 x))) (exK (st0 x)) (st0 x).pos) x.pos
 |.dead=>λx=>x
noncomputable def jE (T:Tab)(sc:Scope):jw->List Stmt->List Stmt
 |.nil=>λ_=>[]
 |.cons s ss=>λl=>reS T sc s (l.headD default)::jE T sc ss l.tail
end
mutual
noncomputable def okS (T:Tab)(sc:Scope):Stm->Stmt->Bool
 |.a ts e=>λx=>okE T e sc (st0 x)&&PT T sc ts e (zk T sc ts (e8 x).tail) (e8 x).tail (reE T e sc (st0 x)) (swp sc (zk T sc ts (e8 x).tail) (reE T e sc (st0 x)))
 |.aug i op e=>λx=>VE op&&(ownAt T.cap sc i&&okE T e sc (st0 x))
 |.delD o i=>λx=>okE T o sc (kid 0 (st0 x))&&okE T i sc (kid 1 (st0 x))
 |.expr e=>λx=>eF (reE T e sc (st0 x))&&okE T e sc (st0 x)
 |.C c t e=>λx=>tOk c&&(okE T c sc (st0 x)&&(nL T sc t (stB x).1&&nL T sc e (stB x).2))
 |.loop c b=>λx=>tOk c&&(okE T c sc (st0 x)&&nL T sc b (stB x).1)
 |.each t it b=>λx=>I6 T sc t ((e8 x).getD 1 default)&&(MY T it sc (isTup (tZ sc t ((e8 x).getD 1 default))) (st0 x)&&(nL T sc b (stB x).1&&uB (wM T it sc (st0 x))))
 |.ret e=>λx=>match (e8 x).head? with
  |some y=>okE T e sc y
  |none=>e.isNone
 |.brk=>λ_=>true
 |.cont=>λ_=>true
 |.pass=>λ_=>true
 |.dead=>λ_=>true
noncomputable def nL (T:Tab)(sc:Scope):jw->List Stmt->Bool
 |.nil=>λ_=>true
 |.cons s ss=>λl=>okS T sc s (l.headD default)&&nL T sc ss l.tail
end
end MP
end
section
namespace MP
open PySem PyProof.Rows PySem.W
section
variable {sc:Scope}{x y u:Expr}{α:Type}{e a b:Ex}{p pos:Pos}{es:Exs}{args:List Expr}{n:Nat}
variable {G:Stc}{T:Tab}{C:Cal}{d:Nat}
def qq (K:TabOk G T C d){x:Str}{v:Value}(h:glob T sc x v=true):sc.names.lookup x=some .globalImplicit/\jl x=true/\G.gl x=some v:=
 #[ay (band h).1,(band (band h).2).1,K.gl _ _ (ay (band (band h).2).2)]
def gU (h:uB x=true):∀env v,foldedSetIterable x env v=pure v:=by
 intro env v;cases x<;>first|rfl|show Bool.noConfusion (show false=true from h)
def TabOk.own (K:TabOk G T C d){i:Nat}(h:ownAt T.cap sc i=true):∃k,sc.names[i]?=some (xy sc i,k)/\Own G (xy sc i) k/\jl (xy sc i)=true:=z9 (by rw[K.cap];show h)
def tS (K:TabOk G T C d):(t:Tg)->(x:Expr)->I6 T sc t x=true->wm G C sc d t (tZ sc t x)
 |.v i,x,h=>by have#[k,Y,Z,W]:=K.own h;show LM (C:=C) Y Z
 |.T is,x,h=>LN (C:=C) K.unp (by rw[K.cap];show h)
def pJ {a:Option α}{d:α}(h:a.isSome=true):a=some (a.getD d):=by
 cases a with
 |none=>cases h
 |some x=>rfl
def vJ (K:TabOk G T C d){i:Nat}(h:(T.attrs[i]?).isSome=true):G.attrs[i]?=some ((T.attrs[i]?).getD ""):=by
 rw[K.attrs];show pJ h
def W5 {op:BoolOp}{m:Bool}(H:∀z r,fg G C sc d a x->fg G C sc d b (.BoolOp op (z::r) p)->fg G C sc d e (.BoolOp op (x::z::r) p))(Z:fg G C sc d a x)(hb:fg G C sc d b y)(h:I7 op y p m=true) :
  fg G C sc d e (bo op x y p m):=by
 rcases yB m h with rfl|⟨z,r,rfl,Y⟩
 ·show H y [] Z (M6 hb)
 ·rw[Y];show H z r Z hb
def W4 {op:BoolOp}{m:Bool}(H:∀z r,tu G C sc d a x->tu G C sc d b (.BoolOp op (z::r) p)->tu G C sc d e (.BoolOp op (x::z::r) p))(Z:tu G C sc d a x)(hb:tu G C sc d b y)(h:I7 op y p m=true) :
  tu G C sc d e (bo op x y p m):=by
 rcases yB m h with rfl|⟨z,r,rfl,Y⟩
 ·show H y [] Z (by cases op;show DF hb;show DE hb)
 ·rw[Y];show H z r Z hb
def DD (K:TabOk G T C d){f:Nat}(h:((T.fns.lookup f).any λa=>glob T sc (lj x) (.ref a))=true)(Z:qa G C sc d es args)(Y:noStar args=true):fg G C sc d (.call f es) (.Call (nm x) args [] pos):=by
 have#[a,e,h]:=any_some h;have#[g1,g2,g3]:=qq K h;show GZ K.g (K.cal.more (wu _ _)) e Z Y g1 g2 g3
def DA (K:TabOk G T C d){m:Nat}{o:Expr}{ap:Pos}(h:(T.meths.lookup m).isSome=true)(U:fg G C sc d e o)(h2:mu o=true)(B:(ap.endLine==pos.line)=true)(I:decide (args.length<30)=true)(Y:noStar args=true)(Z:qa G C sc d es args) :
  fg G C sc d (.meth e m es) (.Call (.Attribute o ((T.meths.lookup m).getD "") ap) args [] pos):=by
 have#[f,W,M]:=K.meth _ _ (pJ h);show GP (K.cal.more (wu _ _)) W M U Z h2 Y (ay I) B
def ME (K:TabOk G T C d){k:BM}{o:Expr}{ap:Pos}(h:(!isSort k||es.isNil)=true)(B:es.isNil=true->args=[])(Y:fg G C sc d e o)(U:mu o=true)(W:(ap.endLine==pos.line)=true)(h4:decide (args.length<30)=true)(I:noStar args=true)(Z:qa G C sc d es args) :
  fg G C sc d (.bm k e es) (.Call (.Attribute o (vH k) ap) args [] pos):=by
 by_cases hk:k=.sort
 ·subst hk;have rfl:=B h;cases es with
  |nil=>show GH K.ma Y U W
  |cons _ _=>cases h
 ·show QY K.g hk Y Z U I (ay h4) W
def HN {l:List Expr}:(es:Exs)->es.isNil=true->rq T es sc l=[]
 |.nil,_=>rfl
def MR {l:List Expr}:(es:Exs)->(!es.isNil)=true->rq T es sc l≠[]
 |.cons _ _,_=>List.cons_ne_nil _ _
def D9 (K:TabOk G T C d)(Z:args≠[])(h:glob T sc (lj x) (.ref T.cS)=true)(W:noStar args=true)(Y:qa G C sc d es args):fg G C sc d (.n es) (.Call (nm x) args [] pos):=by
 have#[g1,g2,g3]:=qq K h;have#[f,U,M]:=K.init;show GO K.g K.cal (gp (by decide) K.d3) U M Y W Z g1 g2 (K.cS▸g3)
def rD (K:TabOk G T C d){c:Ex}{v w:Expr}(h:glob T sc (lj x) (.ref T.cM)=true)(Z:noStar [u,v,w]=true)(W:fg G C sc d a u)(hb:fg G C sc d b v)(Y:fg G C sc d c w):fg G C sc d (.N a b c) (.Call (nm x) [u,v,w] [] pos):=by
 have#[g1,g2,g3]:=qq K h;have#[fN,fM,I,U,B]:=K.mt;show tW K.g I U K.ma (gp (by decide) K.d3) W hb Y Z g1 g2 (K.cM▸g3)
def oD (K:TabOk G T C d){z:Expr}{q:Pos}(h1:glob T sc (lj x) (.type "list")=true)(h2:glob T sc (lj y) (.type "map")=true)(h3:glob T sc (lj z) (.ref T.cM)=true)(I:noStar [u]=true)(B:fg G C sc d e u) :
  fg G C sc d (.M e) (.Call (nm x) [.Call (nm y) [.Attribute (nm z) "_make" q,u] [] p] [] pos):=by
 have#[g1,g2,g3]:=qq K h1;have#[U,k2,k3]:=qq K h2;have#[W,Y,Z]:=qq K h3;have#[fN,fM,Mk,Mn,Mm]:=K.mt;show rE K.g Mk K.ma Mm K.d3 B I g1 g2 g3 U k2 k3 W Y (K.cM▸Z)
def mD (h:e.isNone=true):e=.none:=by
 cases e<;>first|rfl|show Bool.noConfusion h
def O9 {l m:List α}{a:α}(h:l.drop n=a::m):l[n]?=some a:=by
 have:=bx (λl=>l[0]?) h;simpa using this
def O8 {l m:List α}{a:α}(h:l.drop n=a::m):l.drop (n+1)=m:=by
 have:=bx (λl=>l.drop 1) h;simpa using this
def fO:(Z:Gens)->(l:List Comprehension)->∀g∈HM T Z sc l,g.is_async=0
 |.elt _,_,_,h=>nomatch h
 |.cons _ _ _ more,l,g,h=>(bw.mp h).elim (λe=>e▸rfl) (fO more l.tail g)
def ft {p:Prop}(h:false=true):p:=Bool.noConfusion h
def MG (K:TabOk G T C d):(k:BF)->Nat.beq 1 (KI k)=true->NR k=false->glob T sc (lj x) (CH k)=true->noStar [u]=true->fg G C sc d e u->fg G C sc d (.bf k %[e|0]) (.Call (nm x) [u] [] pos)
 |.len=>λ_ _ h Z Y=>by have#[g1,g2,g3]:=qq K h;show M9 K.g Y Z g1 g2 g3
 |.maxL=>λ_ _ h Z Y=>by have#[g1,g2,g3]:=qq K h;show GQ K.g Y Z g1 g2 g3
 |.sorted=>λ_ _ h Z Y=>by have#[g1,g2,g3]:=qq K h;show yR K.g Y Z g1 g2 g3
 |.set=>λh=>ft h
def MF (K:TabOk G T C d){f:Ex}{v:Expr}:(k:BF)->Nat.beq 2 (KI k)=true->glob T sc (lj x) (CH k)=true->noStar [u,v]=true->fg G C sc d e u->fg G C sc d f v->fg G C sc d (.bf k %[e,f|0]) (.Call (nm x) [u,v] [] pos)
 |.len=>λh=>ft h
 |.set=>λh=>ft h
 |.maxL=>λh=>ft h
 |.sorted=>λh=>ft h
def MH (K:TabOk G T C d):(k:BF)->Nat.beq 0 (KI k)=true->glob T sc (lj x) (CH k)=true->fg G C sc d (.bf k .nil) (.Call (nm x) [] [] pos)
 |.set=>λ_ h=>by have#[g1,g2,g3]:=qq K h;show GJ K.g g1 g2 g3
 |.len=>λh=>ft h
 |.maxL=>λh=>ft h
 |.sorted=>λh=>ft h
def bf3 (k:BF)(h:Nat.beq (n+3) (KI k)=true):False:=by
 cases k<;>first|show nomatch (show Nat.beq (n+2) 0=true from h)|show nomatch (show Nat.beq (n+3) 0=true from h)|show nomatch (show Nat.beq (n+1) 0=true from h)
mutual
theorem kj (K:TabOk G T C d):(e:Ex)->(sc:Scope)->(x:Expr)->okE T e sc x=true->fg G C sc d e (reE T e sc x)
 |.none=>λsc x h=>GN
 |.bool b=>λsc x h=>H0
 |.int i=>λsc x h=>B9
 |.str t=>λsc x h=>M1
 |.l i=>λsc x h=>by have#[k,h1,Z,Y]:=tx h;show nU h1 Z Y
 |.b op a b=>λsc x h=>BB (kj K a sc _ (band h).1) (kj K b sc _ (band h).2)
 |.neg a=>λsc x h=>B8 (kj K a sc _ h)
 |.not a=>λsc x h=>M7 (kj K a sc _ h)
 |.and a b=>λsc x h=>let Z:=band (band h).2;W5 (λ_ _=>snd_and) (kj K a sc _ (band h).1) (kj K b sc _ Z.1) Z.2
 |.or a b=>λsc x h=>let Z:=band (band h).2;W5 (λ_ _=>QU) (kj K a sc _ (band h).1) (kj K b sc _ Z.1) Z.2
 |.c op a b=>λsc x h=>let Z:=band (band h).2;MC (kj K a sc _ (band h).1) (kj K b sc _ Z.1) ((fh _).mp Z.2)
 |.I c a b=>λsc x h=>let Z:=band (band h).2;let Y:=band Z.2;MA (nJ K c sc _ (band h).1 Z.1) (kj K a sc _ Y.1) (kj K b sc _ Y.2)
 |.L es=>λsc x h=>M8 (iL K es sc _ (band h).1 (band h).2)
 |.T es=>λsc x h=>B6 (iL K es sc _ (band h).1 (band h).2)
 |.dct0=>λsc x h=>GW
 |.call f es=>λsc x h=>let Z:=band (band h).2;DD K (band h).1 (iL K es sc _ Z.1 Z.2) Z.1
 |.meth e m es=>λsc x h=>let Z:=band (band h).2;let Y:=band Z.2;let W:=band Y.2;let U:=band W.2;let I:=band U.2
  DA K (band h).1 (kj K e sc _ Z.1) Y.1 W.1 U.1 I.1 (iL K es sc _ I.1 I.2)
 |.attr e i=>λsc x h=>let Z:=band (band h).2;wH K.g (kj K e sc _ Z.2) Z.1 (vJ K (band h).1)
 |.g e=>λsc x h=>yT (kj K e sc _ (band h).2) (band h).1
 |.h e=>λsc x h=>yS (kj K e sc _ (band h).2) (band h).1
 |.bm k e es=>λsc x h=>let Z:=band (band h).2;let Y:=band Z.2;let W:=band Y.2;let U:=band W.2;let I:=band U.2
  ME K (band h).1 (HN es) (kj K e sc _ Z.1) Y.1 W.1 U.1 I.1 (iL K es sc _ I.1 I.2)
 |.bf k .nil=>λsc x h=>MH K k (band h).1 (band (band h).2).1
 |.bf k %[e|0]=>λsc x h=>let Z:=band (band h).2;let W:=band Z.2
  MG K k (band h).1 rfl Z.1 W.1 (kj K e sc _ (band W.2).1)
 |.bf k %[e,f|0]=>λsc x h=>let Z:=band (band h).2;let W:=band Z.2;let U:=band W.2
  MF K k (band h).1 Z.1 W.1 (kj K e sc _ U.1) (kj K f sc _ (band U.2).1)
 |.bf k (.cons e (.cons f (.cons g r)))=>λsc x h=>(bf3 k (band h).1).elim
 |.w f es=>λsc x h=>let Z:=band (band h).2;by have#[k,e1,e2,e3]:=tx (band h).1;show rX K.g (K.lam.more (wu _ _)) e1 e2 e3 (iL K es sc _ Z.1 Z.2) Z.1
 |.sub e i=>λsc x h=>let Z:=band (band h).2;B7 (kj K e sc _ Z.1) (kj K i sc _ Z.2) ((fh _).mp (band h).1)
 |.slc e lo hi=>λsc x h=>let Z:=band (band h).2;M3 (kj K e sc _ (band h).1)
   (by
    cases B:gW 0 (kid 1 x) with
    |none=>show .inl #[mD (by have:=Z.1;rw[B]at this;show this),rfl]
    |some y=>show .inr #[_,rfl,kj K lo sc y (by have:=Z.1;rw[B]at this;show this)])
   (by
    cases B:gW 1 (kid 1 x) with
    |none=>show .inl #[mD (by have:=Z.2;rw[B]at this;show this),rfl]
    |some y=>show .inr #[_,rfl,kj K hi sc y (by have:=Z.2;rw[B]at this;show this)])
 |.rev e=>λsc x h=>M4 (kj K e sc _ h) (B8 B9)
 |.K fv it t cs more=>λsc x h=>let Z:=band (band h).2;let Y:=band Z.2;let W:=band Y.2;let U:=band W.2;let I:=band U.2;let h7:=band I.2;let h8:=band h7.2
  wG (BE K it sc _ _ (band h).1) (tS K t _ Z.1) (BG K cs _ _ Y.1) (HB K more _ _ _ _ _ _ 0 rfl (λg hg=>(bw.mp hg).elim (λe=>e▸rfl) (fO more _ g)) W.1) (gU U.1) (ay I.1) (ay h7.1) h8.1 h8.2 (fO more _)
 |.n es=>λsc x h=>let Z:=band (band h).2;let Y:=band Z.2;D9 K (MR es (band h).1) Z.1 Y.1 (iL K es sc _ Y.1 Y.2)
 |.N a b c=>λsc x h=>let Z:=band (band h).2;let Y:=band Z.2;let W:=band Y.2;rD K (band h).1 Z.1 (kj K a sc _ Y.1) (kj K b sc _ W.1) (kj K c sc _ W.2)
 |.M e=>λsc x h=>let Z:=band (band h).2;let Y:=band Z.2;let W:=band Y.2;oD K (band h).1 Z.1 Y.1 W.1 (kj K e sc _ W.2)
 |.dead=>λsc x h=>DC
theorem nJ (K:TabOk G T C d):(e:Ex)->(sc:Scope)->(x:Expr)->tOk e=true->okE T e sc x=true->tu G C sc d e (reE T e sc x)
 |.not a=>λsc x t h=>H7 (nJ K a sc _ t h)
 |.and a b=>λsc x t h=>let Z:=band (band h).2;W4 (λ_ _=>HA) (nJ K a sc _ (band t).1 (band h).1) (nJ K b sc _ (band t).2 Z.1) Z.2
 |.or a b=>λsc x t h=>let Z:=band (band h).2;W4 (λ_ _=>MJ) (nJ K a sc _ (band t).1 (band h).1) (nJ K b sc _ (band t).2 Z.1) Z.2
 |.c op a b=>λsc x t h=>let Z:=band (band h).2;H9 (kj K a sc _ (band h).1) (kj K b sc _ Z.1) ((fh _).mp Z.2)
 |.I c a b=>λsc x t h=>let Z:=band (band h).2;let Y:=band Z.2;H8 (nJ K c sc _ (band h).1 Z.1) (nJ K a sc _ (band t).1 Y.1) (nJ K b sc _ (band t).2 Y.2)
 |.l i=>λsc x t h=>by have#[k,W,Z,Y]:=tx h;show xw (nU W Z Y) (λ_ _=>rfl) λρ σ Q q=>q
 |.attr e i=>λsc x t h=>let Z:=band (band h).2;xw (wH K.g (kj K e sc _ Z.2) Z.1 (vJ K (band h).1)) (λ_ _=>rfl) λρ σ Q q=>q
 |.w f es=>λsc x t h=>let Z:=band (band h).2;by have#[k,B,I,U]:=tx (band h).1;show xw (rX K.g (K.lam.more (wu _ _)) B I U (iL K es sc _ Z.1 Z.2) Z.1) (λ_ _=>rfl) λρ σ Q q=>q
 |.sub e i=>λsc x t h=>let Z:=band (band h).2;xw (B7 (kj K e sc _ Z.1) (kj K i sc _ Z.2) ((fh _).mp (band h).1)) (λ_ _=>rfl) λρ σ Q q=>q
 |.b op a b=>λsc x t h=>xw (BB (kj K a sc _ (band h).1) (kj K b sc _ (band h).2)) (λ_ _=>rfl) λρ σ Q q=>q
 |.dead=>λsc x t h=>DB
 |.none=>λ_ _ t _=>ft t
 |.bool _=>λ_ _ t _=>ft t
 |.int _=>λ_ _ t _=>ft t
 |.str _=>λ_ _ t _=>ft t
 |.neg _=>λ_ _ t _=>ft t
 |.L _=>λ_ _ t _=>ft t
 |.T _=>λ_ _ t _=>ft t
 |.dct0=>λ_ _ t _=>ft t
 |.call _ _=>λ_ _ t _=>ft t
 |.meth _ _ _=>λ_ _ t _=>ft t
 |.g _=>λ_ _ t _=>ft t
 |.h _=>λ_ _ t _=>ft t
 |.bm _ _ _=>λ_ _ t _=>ft t
 |.bf _ _=>λ_ _ t _=>ft t
 |.slc _ _ _=>λ_ _ t _=>ft t
 |.rev _=>λ_ _ t _=>ft t
 |.K _ _ _ _ _=>λ_ _ t _=>ft t
 |.n _=>λ_ _ t _=>ft t
 |.N _ _ _=>λ_ _ t _=>ft t
 |.M _=>λ_ _ t _=>ft t
theorem iL (K:TabOk G T C d):(es:Exs)->(sc:Scope)->(l:List Expr)->noStar (rq T es sc l)=true->nM T es sc l=true->qa G C sc d es (rq T es sc l)
 |.nil=>λsc l Z h=>md
 |.cons e es=>λsc l Z h=>jy (kj K e sc _ (band h).1) (iL K es sc _ (gb Z).2 (band h).2) (gb Z).1
theorem BG (K:TabOk G T C d):(es:Exs)->(sc:Scope)->(l:List Expr)->MZ T es sc l=true->sr G C sc d es (rq T es sc l)
 |.nil=>λsc l h=>EZ
 |.cons e es=>λsc l h=>let Z:=band (band h).2;AA (nJ K e sc _ (band h).1 Z.1) (BG K es sc _ Z.2)
theorem BE (K:TabOk G T C d):(it:It)->(sc:Scope)->(Y:Bool)->(x:Expr)->MY T it sc Y x=true->dQ G C sc d Y it (wM T it sc x)
 |.rng1 e,sc,Y,x,h=>let Z:=band (band h).2;by have#[g1,g2,g3]:=qq K (band h).1;show NO K.g (kj K e sc _ Z.2) Z.1 g1 g2 g3
 |.rng2 e f,sc,Y,x,h=>let Z:=band (band h).2;let W:=band Z.2;by have#[g1,g2,g3]:=qq K (band h).1;show NN K.g (kj K e sc _ W.1) (kj K f sc _ W.2) Z.1 g1 g2 g3
 |.enum e,sc,true,x,h=>let Z:=band h;let W:=band Z.2;by have#[g1,g2,g3]:=qq K Z.1;show NQ K.g (kj K e sc _ W.2) W.1 g1 g2 g3
 |.enum e,sc,false,x,h=>nomatch h
 |.seq e,sc,Y,x,h=>SE (kj K e sc _ h)
 |.keys e,sc,Y,x,h=>let Z:=band (band h).2;NP K.g (kj K e sc _ Z.2) (band h).1 Z.1
 |.items e,sc,true,x,h=>let U:=band h;let Z:=band U.2;J0 K.g (kj K e sc _ Z.2) U.1 Z.1
 |.items e,sc,false,x,h=>nomatch h
theorem HB (K:TabOk G T C d):(Z:Gens)->(sc:Scope)->(x:Expr)->(l:List Comprehension)->(gens:List Comprehension)->(scope:Scope)->(pos:Pos)->(depth:Nat)->gens.drop (depth+1)=HM T Z sc l->(∀g∈gens,g.is_async=0)->RO T Z sc l x=true->ue G C sc d Z (HO T Z sc x) gens scope pos depth
 |.elt e=>λsc x l gens scope pos depth hd Y h=>FI (kj K e sc _ h) (kx.mpr (List.drop_eq_nil_iff.mp hd))
 |.cons it t cs more=>λsc x l gens scope pos depth hd Y h =>
  let I:=band (band h).2;let U:=band I.2;let W:=band U.2
  AO (BE K it sc _ _ (band h).1) (tS K t _ I.1) (BG K cs _ _ U.1) (HB K more sc x _ gens scope pos (depth+1) (O8 hd) Y W.1) (O9 hd) (λg' B=>Y g' (cw B)) (gU W.2)
end
end
section
variable {e:Ex}
variable {G:Stc}{T:Tab}{C:Cal}{d:Nat}{sc:Scope}
def QZ (K:TabOk G T C d):(t:Tgt)->(x:Expr)->PS T sc t x=true->mM G C sc d t (BI T sc t x)
 |.v i,x,h=>by have#[k,Y,Z,W]:=K.own h;show B4 Y Z
 |.attr o i,x,h=>G7 K.g (kj K o sc _ (band h).1) (vJ K (band h).2)
 |.sub o i,x,h=>LK (kj K o sc _ (band h).1) (kj K i sc _ (band h).2)
 |.T is,x,h=>LJ K.unp (by rw[K.cap];show h)
def JK (t:Tgt)(x:Expr)(xs:List Expr)(env:Env):assignEach (BI T sc t x::xs) env=(false,assign (BI T sc t x) env)::assignEach xs env:=by
 cases t<;>rfl
def BD (K:TabOk G T C d):(ts:List Tgt)->(l:List Expr)->oR T sc ts l=true->hU G C sc d ts (zk T sc ts l)
 | [],_,_=>.nil
 |t::ts,l,h=>.cons (QZ K t _ (band h).1) (JK t _ _) (BD K ts _ (band h).2)
def G6:(ts:List Tgt)->(l:List Expr)->zS ts=true->oR T sc ts l=true->∃i x p,ts=[.v i]/\zk T sc ts l=[.Name x p]/\x=xy sc i/\ownAt T.cap sc i=true
 | []=>λl q h=>ft q
 |t::r=>λl q h=>by
  cases t<;>cases r<;>first|refine⟨_,_,_,rfl,rfl,rfl,(band h).1⟩|show ft q
def WY:(ts:List Tgt)->(is:List Nat)->J1 ts=some is->ts=[.T is]
 | []=>λis h=>iv h
 |t::r=>λis h=>by
  cases t<;>cases r<;>first|show iv h|(have rfl:=ah h;rfl)
def U3 (K:TabOk G T C d)(t:Tg)(x:Expr)(h:I6 T sc t x=true):CL G C sc d t (tZ sc t x):=wm.plain (C:=C) (tS K t x h)
def WB {op:Bop}(h:VE op=true):op=.add\/op=.sub:=by
 cases op<;>first|show .inl rfl|show .inr rfl|show Bool.noConfusion h
def OG (h:zU e=true):∃fv it t cs more,e=.K fv it t cs more:=by
 cases e<;>first|refine⟨_,_,_,_,_,rfl⟩|show Bool.noConfusion h
def MK (K:TabOk G T C d){ts:List Tgt}{pos:Pos}{l:List Expr}{y:Expr}(hc:zU e=true)(hv:zS ts=true)(ht:oR T sc ts l=true)(h:okE T e sc y=true):yt G C sc d (.a ts e) (.Assign (zk T sc ts l) (reE T e sc y) pos):=by
  have#[fv,it,t,cs,more,rfl]:=OG hc;have#[i,x',p',rfl,e2,rfl,hk]:=G6 ts l hv ht;have#[kd,o1,o2,o3]:=K.own hk;rw[e2];have h2:=band (band h).2;have B:=band h2.2;have I:=band B.2;have U:=band I.2;have W:=band U.2;have Y:=band W.2;have Z:=band Y.2;show oH o1 o2 (BE K it sc _ _ (band h).1) (tS K t _ h2.1) (BG K cs _ _ B.1) (HB K more _ _ _ _ _ _ 0 rfl (λg hg=>(bw.mp hg).elim (λe=>e▸rfl) (fO more _ g)) I.1) (gU U.1) (ay W.1) (ay Y.1) Z.1 Z.2 (fO more _)
def DH (K:TabOk G T C d){ts:List Tgt}{pos:Pos}{l:List Expr}{y:Expr}(h:okE T e sc y=true):(o:Option (Option (List Str)))->swp sc (zk T sc ts l) (reE T e sc y)=o->PT T sc ts e (zk T sc ts l) l (reE T e sc y) o=true->yt G C sc d (.a ts e) (.Assign (zk T sc ts l) (reE T e sc y) pos)
 |none,_,Y=>nomatch Y
 |some none,W,Y=>(Classical.em (eF (reE T e sc y)=true)).elim (λU=>yV (BD K ts l (band Y).1) (kj K e sc y h) U W) λU =>
  ((sy ..).mp (band Y).2).elim (λZ=>absurd Z U) λZ=>MK K (band Z).2 (band Z).1 (band Y).1 h
 |some (some names),W,Y=>by
  have#[is,I,Z]:=any_some Y;have rfl:=WY ts is I;show snd_swap K.unp (kj K e sc y h) (band Z).1 W (by rw[K.cap];show(band (band Z).2).1) (ay (band (band Z).2).2)
mutual
theorem X6 (K:TabOk G T C d):(s:Stm)->(x:Stmt)->okS T sc s x=true->yt G C sc d s (reS T sc s x)
 |.a ts e=>λx h=>DH K (band h).1 _ rfl (band h).2
 |.aug i op e=>λx h=>by
  have#[k,I,U,W]:=K.own (band (band h).2).1;show MI (WB (band h).1) (kj K e sc _ (band (band h).2).2) I U W
 |.delD o i=>λx h=>MB (kj K o sc _ (band h).1) (kj K i sc _ (band h).2)
 |.expr e=>λx h=>GS (kj K e sc _ (band h).2) (band h).1
 |.C c t e=>λx h=>let Z:=band (band h).2;let Y:=band Z.2;GY (nJ K c sc _ (band h).1 Z.1) (kF K t _ Y.1) (kF K e _ Y.2)
 |.loop c b=>λx h=>let Z:=band (band h).2;GR (nJ K c sc _ (band h).1 Z.1) (kF K b _ Z.2)
 |.each t it b=>λx h=>let Z:=band (band h).2;let Y:=band Z.2;GU (U3 K t _ (band h).1) (BE K it sc _ _ Z.1) (kF K b _ Y.1) (gU Y.2)
 |.ret e=>λx h=>by
  show yt G C sc d _ (.Return ((e8 x).head?.map (reE T e sc)) x.pos);have h:(match (e8 x).head? with|some y=>okE T e sc y|none=>e.isNone)=true:=h;cases q:(e8 x).head? with
  |some y=>rw[q]at h;show M5 (kj K e sc y h)
  |none=>rw[q]at h;have rfl:=mD h;show GK
 |.brk=>λx h=>MD
 |.cont=>λx h=>GX
 |.pass=>λx h=>by
  show yt G C sc d _ (bif (e8 x).isEmpty then _ else _);cases (e8 x).isEmpty
  ·show tX
  ·show GL
 |.dead=>λx h=>GV
theorem kF (K:TabOk G T C d):(b:jw)->(l:List Stmt)->nL T sc b l=true->iV G C sc d b (jE T sc b l)
 |.nil=>λl h=>DG
 |.cons s ss=>λl h=>yW (X6 K s _ (band h).1) (kF K ss _ (band h).2)
end
end
structure vR (G:Stc)(T:Tab):Prop where
 g:GOk G
 gl:∀x v,T.gl.lookup x=some v->G.gl x=some v
 attrs:G.attrs=T.attrs
 cap:G.cap=T.cap
 meth:∀k name,T.meths.lookup k=some name->∃f,T.fns.lookup k=some f/\MethAt G name f
 init:∃f,T.fns.lookup 0=some f/\qU G f
 cM:G.cM=T.cM
 cS:G.cS=T.cS
 mt:∃fN fM,qo G fN fM/\tK G fN/\qN G fM
 ma:tf G
structure KW (G:Stc)(T:Tab)(P:Nat->Option Fn):Prop where
 base:vR G T
 lam:∀k cs a,G.clo k cs a->∃n sc e b,P (1000+k)=some #[n+cs.length,[],.cons (.ret b) .nil]/\dS G a n cs sc e/\okE T b sc e=true/\reE T b sc e=e
 fn:∀k a,T.fns.lookup k=some a->∃fn sc body,P k=some fn/\FnAt G a fn.n fn.dflt sc body/\nL T sc fn.body body=true/\jE T sc fn.body body=body
section
variable {G:Stc}{T:Tab}{P:Nat->Option Fn}
def vR.tab (B:vR G T){C:Cal}{d:Nat}(Y:iZ G (λk=>T.fns.lookup k) C (d-1))(Z:qO G C (d-1))(hd:3<=d):TabOk G T C d:=
 #[B.g,B.gl,B.attrs,B.cap,Y,Z,B.meth,B.init,B.cM,B.cS,B.mt,B.ma,WX B.ma,hd]
def o7 (K:KW G T P):∀n,iZ G (λk=>T.fns.lookup k) (fk P n) (2*n+2)/\qO G (fk P n) (2*n+2)
 |0=>⟨λk a hk=>by
  have#[fn,sc,body,hp,Z,hc]:=K.fn k a hk;have#[o,fd,U,W,_]:=Z.here;apply#[#[o,fd,U,W],λao R vr h=>h.elim],λk cs a hk=>by
  have#[m,sc,e,b,hp,Z,hc]:=K.lam k cs a hk;have#[o,fd,U,W,_]:=Z.here;apply#[#[o,fd,U,W],λao R vr h=>h.elim]⟩
 |n+1=>by
  have#[ar,ab]:=o7 K n;have tb:TabOk G T (fk P n) (2*n+3):=K.base.tab ar ab (iy (.k .aZ (.a (.m 2 .A) .aZ)) .j);apply#[λk a hk=>?_,λk cs a hk=>?_]
  ·have#[fn,sc,body,hp,Z,hc]:=K.fn k a hk;have#[o,fd,U,W,_]:=Z.here;apply#[#[o,fd,U,W],@λA E vs ws σ Q s ao R vr h=>?_];have#[aE,Y,B,I,h]:=h;have rfl:=ah (hp.symm.trans Y);show OL (b:=fn.body) (d:=2*n+3) Z (hc.2▸kF tb fn.body body hc.1) ao R vr B I h
  ·have#[m,sc,e,b,hp,Z,ai,ag]:=K.lam k cs a hk;have#[o,fd,U,W,_]:=Z.here;apply#[#[o,fd,U,W],@λA E vs ws σ Q s ao R vr h=>?_];have#[aE,Y,B,I,h]:=h;have rfl:=ah (hp.symm.trans Y);have aj:frameOf #[m+cs.length,[],.cons (.ret b) .nil] (vs++cs)=λi=>(vs++cs)[i]?:=by
    funext i
    unfold frameOf jS;dsimp only;rw[List.drop_nil,dg]
   rw[aj]at h;have hl:vs.length=m:=by
    rw[List.length_append]at B I;dsimp only[List.length_nil]at B I
    (show fe .C .i (.k .X .R) (.k .R (.a .X .O)) B I)
   show K5 (d:=2*n+3) Z (ag▸kj tb b sc e ai) ao R vr hl h
end
end MP
end
section
set_option backward.match.sparseCases false
namespace MP
open PySem PyProof.Rows PySem.W
variable {G:Stc}{h h₀:Heap}{d:Data}{a:Addr}{T:Tab}{fn:Fn}
abbrev CX:Value->Tok
 |.int _ t=>t
 |.str _ t=>t
 |_=>0
abbrev AZ:Value->Addr
 |.ref a=>a
 |_=>0
abbrev A9:V->Value->Bool
 |.none=>λw=>decide (w=.none)
 |.bool a=>λw=>decide (w=.bool a)
 |.int a=>λw=>decide (w=.int a (CX w))
 |.str a=>λw=>decide (w=.str a (CX w))
 |_=>λ_=>false
abbrev o6:List V->List Value->Bool
 | []=>λws=>ws.isEmpty
 |v::vs=>λws=>!ws.isEmpty&&(A9 v (ws.headD .none)&&o6 vs ws.tail)
def EY {v:V}{w:Value}(e:A9 v w=true):VR G h v w:=by
 cases v<;>first|show ay e▸.none|show ay e▸.bool _|show ay e▸.int _ _|show ay e▸.str _ _|show Bool.noConfusion e
def q9:(vs:List V)->(ws:List Value)->o6 vs ws=true->VRs G h vs ws
 | []=>λws e=>by
  cases ws with
  |nil=>show .nil
  |cons w ws=>show Bool.noConfusion (show false=true from e)
 |v::vs=>λws e=>by
  cases ws with
  |nil=>show Bool.noConfusion (show false=true from e)
  |cons w ws =>
   have e:=band (show(A9 v w&&o6 vs ws)=true from e);show .cons (EY e.1) (q9 vs ws e.2)
abbrev pZ:Data->Option FuncData
 |.func f=>some f
 |_=>none
abbrev jQ:Data->Option (Array Value)
 |.fields vs=>some vs
 |_=>none
abbrev CE:Data->Option (Array Value×Nat)
 |.seq vs n=>some (vs,n)
 |_=>none
def mI {f:FuncData}(h:pZ d=some f):d=.func f:=by
 cases d<;>first|show bx _ (ah h)|show iv h
def iT {f:Array Value}(h:jQ d=some f):d=.fields f:=by
 cases d<;>first|show bx _ (ah h)|show iv h
def A7 {f:Array Value×Nat}(h:CE d=some f):d=.seq f.1 f.2:=by
 cases d<;>first|show ah h▸rfl|show iv h
abbrev KC:FuncBody->Option (List Stmt)
 |.stmts b=>some b
 |.expr _=>none
def KA {d:FuncBody}{f:List Stmt}(h:KC d=some f):d=.stmts f:=by
 cases d
 ·show bx _ (ah h)
 ·show iv h
abbrev told {α:Type}(f:Data->Option α)(h:Heap)(a:Addr):Option α:=(h.get? a).bind λo=>f o.data
def nT {α:Type}{f:Data->Option α}{x:α}(e:told f h a=some x):∃o,h.get? a=some o/\f o.data=some x:=fc.mp e
abbrev CG (h:Heap)(cd:Value)(q:Str):Bool:=decide (cd=.ref (AZ cd))&&(told jQ h (AZ cd)).any λvs=>(vs[1]?:Option Value).any λw=>decide (w=.str q (CX w))
abbrev OD (h:Heap)(dflt:List V)(v:Value):Bool:=(decide (v=.none)&&dflt.isEmpty)||(decide (v=.ref (AZ v))&&(told CE h (AZ v)).any λds=>o6 dflt ds.1.toList)
abbrev VJ (T:Tab)(h:Heap)(fn:Fn)(fd:FuncData)(body:List Stmt):Bool:=
 decide (fd.scope.kind=.function)&&(!fd.scope.isCoroutine&&(!fd.scope.isGenerator&&(decide ((fd.scope.names.map (·.1)).Nodup)&&(fd.scope.names.all (λp=>p.2 != .free)&&(fd.closure.isEmpty&&(decide (fd.globals=mainGlobals)&&(decide (fd.builtins=builtinsNs) &&
 (CG h fd.code fd.qualname&&(uw fd.params&&(so (fd.params.args.map (·.arg)) fd.scope.names&&(decide (fd.params.args.length=fn.n)&&(OD h fn.dflt fd.defaults&&(decide (fn.dflt.length<=fn.n)&&nL T fd.scope fn.body body)))))))))))))
abbrev SP (fd:FuncData):Option (Scope×List Stmt):=(KC fd.body).map λb=>(fd.scope,b)
abbrev bodyOf (h:Heap)(a:Addr):Option (Scope×List Stmt):=(told pZ h a).bind SP
abbrev pO (T:Tab)(h:Heap)(fn:Fn)(a:Addr):Bool:=(told pZ h a).any λfd=>(KC fd.body).any λb=>VJ T h fn fd b
def AB {cd:Value}{q:Str}(e:CG h cd q=true):h.CodeRec cd q:=by
 have#[vs,Y,I]:=any_some (band e).2;have#[o,W,hd]:=nT Y;have#[w,Z,U]:=any_some I;apply#[_,o,vs,_,ay (band e).1,W,iT hd,Z.trans (bx some (ay U))]
def uC {l:List (Str×NameKind)}(h:l.all (λp=>p.2 != .free)=true)(i:Nat)(x:Str):l[i]?≠some (x,.free):=λe =>
 absurd (ja.mp h _ (cw e)) (by simp)
def JA (hk:∀b o,h₀.get? b=some o->G.hb.get? b=some o)(B:G.hb.NoLimit)(e:pO T h₀ fn a=true):∃x,bodyOf h₀ a=some x/\FnAt G a fn.n fn.dflt x.1 x.2/\nL T x.1 fn.body x.2=true:=by
 have#[fd,h1,e]:=any_some e;have#[b,h2,e]:=any_some e;have#[o,ho,hd]:=nT h1;have g1:=band e;have g2:=band g1.2;have g3:=band g2.2;have g4:=band g3.2;have g5:=band g4.2;have g6:=band g5.2;have g7:=band g6.2;have g8:=band g7.2;have g9:=band g8.2;have I:=band g9.2;have U:=band I.2;have W:=band U.2;have Y:=band W.2;have Z:=band Y.2;apply#[(fd.scope,b),(fc.mpr #[fd,h1,bx (Option.map λb=>(fd.scope,b)) h2]),#[B,ay g1.1,(fh _).mp g2.1,(fh _).mp g3.1,ay g4.1,uC g5.1,o,fd,hk _ _ ho,mI hd,rfl,KA h2,um.mp g6.1,ay g7.1,ay g8.1,(AB g9.1).keeps hk,I.1,U.1,ay W.1,?_,ay Z.1],Z.2];apply((sy ..).mp Y.1).imp (λq=>#[ay (band q).1,um.mp (band q).2]) λq=>?_;have#[ds,h3,q2]:=any_some (band q).2;have#[ot,ab,ag]:=nT h3;apply#[_,ot,ds.1.toList,ds.2,ay (band q).1,hk _ _ ab,A7 ag,q9 _ _ q2]
abbrev RC (T:Tab)(fn:Fn)(x:Scope×List Stmt):Scope×List Stmt:=(x.1,jE T x.1 fn.body x.2)
def VH (hk:∀b o,h₀.get? b=some o->G.hb.get? b=some o)(Z:G.hb.NoLimit)(e:pO T h₀ fn a=true)(Y:bodyOf h₀ a=(bodyOf h₀ a).map (RC T fn)) :
  ∃sc body,FnAt G a fn.n fn.dflt sc body/\nL T sc fn.body body=true/\jE T sc fn.body body=body:=by
 have#[x,W,I,U]:=JA hk Z e;rw[W]at Y;apply#[x.1,x.2,I,U,(bx Prod.snd (ah Y)).symm]
def C5 (hk:∀b o,h₀.get? b=some o->G.hb.get? b=some o)(Z:G.hb.NoLimit)(e:pO T h₀ fn a=true){f:Scope×List Stmt->Scope×List Stmt}(W:bodyOf h₀ a=(bodyOf h₀ a).map f):∃x,bodyOf h₀ a=some x/\FnAt G a fn.n fn.dflt (f x).1 (f x).2:=by
 have#[x,Y,U,_]:=JA hk Z e;rw[Y]at W;apply#[x,Y,ah W▸U]
end MP
end
section
namespace MP
namespace SM
abbrev fn0:Fn:=⟨5,[.none,.str "",.str "",.bool true],(.cons .pass
 (.cons (.a [(.attr (.l 0) 0)] (.l 1))
 (.cons (.a [(.attr (.l 0) 1),(.attr (.l 0) 2)] .none)
 (.cons (.a [(.attr (.l 0) 3)] (.l 4))
 (.cons (.expr (.meth (.l 0) 1 %[.l 2,.l 3|0]))
 .nil)))))⟩
abbrev fn1:Fn:=⟨3,[],(.cons .pass
 (.cons (.expr (.meth (.l 0) 2 %[.l 1|0]))
 (.cons (.expr (.meth (.l 0) 3 %[.l 2|0]))
 .nil)))⟩
abbrev fn2:Fn:=⟨2,[],(.cons .pass
 (.cons (.C (.c .is (.l 1) (.attr (.l 0) 1)) (.cons (.ret .none)
 .nil) .nil)
 (.cons (.a [(.attr (.l 0) 1)] (.l 1))
 (.cons (.a [(.attr (.l 0) 4),(.attr (.l 0) 5)] .none)
 .nil))))⟩
abbrev fn3:Fn:=⟨2,[],(.cons .pass
 (.cons (.C (.c .is (.l 1) (.attr (.l 0) 2)) (.cons (.ret .none)
 .nil) .nil)
 (.cons (.a [(.attr (.l 0) 2)] (.l 1))
 (.cons (.a [(.attr (.l 0) 4),(.attr (.l 0) 5)] .none)
 (.cons (.a [(.attr (.l 0) 6)] .none)
 (.cons (.expr (.meth (.l 0) 4 .nil))
 .nil))))))⟩
abbrev fn5:Fn:=⟨5,[.int 0,.none,.int 0,.none],(.cons .pass
 (.cons (.a [(.T [5,6,7,8])] (.T %[.attr (.l 0) 1,.attr (.l 0) 2,.attr (.l 0) 7,.h (.attr (.l 0) 8)|0]))
 (.cons (.C (.c .is (.l 2) .none) (.cons (.a [(.v 2)] (.bf .len %[.l 5|0]))
 .nil) .nil)
 (.cons (.C (.c .is (.l 4) .none) (.cons (.a [(.v 4)] (.bf .len %[.l 6|0]))
 .nil) .nil)
 (.cons (.a [.T [9,10,11]] (.T %[.l 1,.l 3,.int 0|0]))
 (.cons (.a [(.v 12)] .dct0)
 (.cons (.a [(.v 13)] (.L .nil))
 (.cons (.each (.v 14) (.rng2 (.l 1) (.l 2)) (.cons (.a [(.v 15)] (.g (.l 12)))
 (.cons (.a [(.v 16)] .dct0)
 (.cons (.each (.v 17) (.seq (.bm .get (.l 7) %[.sub (.l 5) (.l 14),.l 13|0])) (.cons (.C (.c .lt (.l 17) (.l 3)) (.cons .cont
 .nil) .nil)
 (.cons (.C (.c .ge (.l 17) (.l 4)) (.cons .brk
 .nil) .nil)
 (.cons (.a [(.v 18),(.sub (.l 16) (.l 17))] (.b .add (.w 15 %[.b .sub (.l 17) (.int 1),.int 0|0]) (.int 1)))
 (.cons (.C (.c .gt (.l 18) (.l 11)) (.cons (.a [.T [9,10,11]] (.T %[.b .add (.b .sub (.l 14) (.l 18)) (.int 1),.b .add (.b .sub (.l 17) (.l 18)) (.int 1),.l 18|0]))
 .nil) .nil)
 .nil)))))
 (.cons (.a [(.v 12)] (.l 16))
 .nil)))))
 (.cons (.loop (.and (.c .gt (.l 9) (.l 1)) (.and (.c .gt (.l 10) (.l 3)) (.and (.not (.w 8 %[.sub (.l 6) (.b .sub (.l 10) (.int 1))|0])) (.c .eq (.sub (.l 5) (.b .sub (.l 9) (.int 1))) (.sub (.l 6) (.b .sub (.l 10) (.int 1))))))) (.cons (.a [.T [9,10,11]] (.T %[.b .sub (.l 9) (.int 1),.b .sub (.l 10) (.int 1),.b .add (.l 11) (.int 1)|0]))
 .nil))
 (.cons (.loop (.and (.c .lt (.b .add (.l 9) (.l 11)) (.l 2)) (.and (.c .lt (.b .add (.l 10) (.l 11)) (.l 4)) (.and (.not (.w 8 %[.sub (.l 6) (.b .add (.l 10) (.l 11))|0])) (.c .eq (.sub (.l 5) (.b .add (.l 9) (.l 11))) (.sub (.l 6) (.b .add (.l 10) (.l 11))))))) (.cons (.aug 11 .add (.int 1))
 .nil))
 (.cons (.loop (.and (.c .gt (.l 9) (.l 1)) (.and (.c .gt (.l 10) (.l 3)) (.and (.w 8 %[.sub (.l 6) (.b .sub (.l 10) (.int 1))|0]) (.c .eq (.sub (.l 5) (.b .sub (.l 9) (.int 1))) (.sub (.l 6) (.b .sub (.l 10) (.int 1))))))) (.cons (.a [.T [9,10,11]] (.T %[.b .sub (.l 9) (.int 1),.b .sub (.l 10) (.int 1),.b .add (.l 11) (.int 1)|0]))
 .nil))
 (.cons (.loop (.and (.c .lt (.b .add (.l 9) (.l 11)) (.l 2)) (.and (.c .lt (.b .add (.l 10) (.l 11)) (.l 4)) (.and (.w 8 %[.sub (.l 6) (.b .add (.l 10) (.l 11))|0]) (.c .eq (.sub (.l 5) (.b .add (.l 9) (.l 11))) (.sub (.l 6) (.b .add (.l 10) (.l 11))))))) (.cons (.a [(.v 11)] (.b .add (.l 11) (.int 1)))
 .nil))
 (.cons (.ret (.N (.l 9) (.l 10) (.l 11)))
 .nil)))))))))))))⟩
abbrev fn6:Fn:=⟨1,[],(.cons .pass
 (.cons (.C (.c .isNot (.attr (.l 0) 4) .none) (.cons (.ret (.attr (.l 0) 4))
 .nil) .nil)
 (.cons (.a [.T [1,2]] (.T %[.bf .len %[.attr (.l 0) 1|0],.bf .len %[.attr (.l 0) 2|0]|0]))
 (.cons (.a [(.v 3)] (.L %[.T %[.int 0,.l 1,.int 0,.l 2|0]|0]))
 (.cons (.a [(.v 4)] (.L .nil))
 (.cons (.loop (.l 3) (.cons (.a [(.T [5,6,7,8])] (.bm .pop (.l 3) .nil))
 (.cons (.a [(.T [9,10,11]),(.v 12)] (.meth (.l 0) 5 %[.l 5,.l 6,.l 7,.l 8|0]))
 (.cons (.C (.l 11) (.cons (.expr (.bm .append (.l 4) %[.l 12|0]))
 (.cons (.C (.and (.c .lt (.l 5) (.l 9)) (.c .lt (.l 7) (.l 10))) (.cons (.expr (.bm .append (.l 3) %[.T %[.l 5,.l 9,.l 7,.l 10|0]|0]))
 .nil) .nil)
 (.cons (.C (.and (.c .lt (.b .add (.l 9) (.l 11)) (.l 6)) (.c .lt (.b .add (.l 10) (.l 11)) (.l 8))) (.cons (.expr (.bm .append (.l 3) %[.T %[.b .add (.l 9) (.l 11),.l 6,.b .add (.l 10) (.l 11),.l 8|0]|0]))
 .nil) .nil)
 .nil))) .nil)
 .nil))))
 (.cons (.expr (.bm .sort (.l 4) .nil))
 (.cons (.a [(.v 13),(.v 14),(.v 15)] (.int 0))
 (.cons (.a [(.v 16)] (.L .nil))
 (.cons (.each (.T [17,18,19]) (.seq (.l 4)) (.cons (.C (.and (.c .eq (.b .add (.l 13) (.l 15)) (.l 17)) (.c .eq (.b .add (.l 14) (.l 15)) (.l 18))) (.cons (.aug 15 .add (.l 19))
 .nil) (.cons (.C (.l 15) (.cons (.expr (.bm .append (.l 16) %[.T %[.l 13,.l 14,.l 15|0]|0]))
 .nil) .nil)
 (.cons (.a [.T [13,14,15]] (.T %[.l 17,.l 18,.l 19|0]))
 .nil)))
 .nil))
 (.cons (.C (.l 15) (.cons (.expr (.bm .append (.l 16) %[.T %[.l 13,.l 14,.l 15|0]|0]))
 .nil) .nil)
 (.cons (.expr (.bm .append (.l 16) %[.T %[.l 1,.l 2,.int 0|0]|0]))
 (.cons (.a [(.attr (.l 0) 4)] (.M (.l 16)))
 (.cons (.ret (.attr (.l 0) 4))
 .nil))))))))))))))⟩
end SM
namespace SM
abbrev fn7:Fn:=⟨1,[],(.cons .pass
 (.cons (.C (.c .isNot (.attr (.l 0) 5) .none) (.cons (.ret (.attr (.l 0) 5))
 .nil) .nil)
 (.cons (.a [(.v 1),(.v 2)] (.int 0))
 (.cons (.a [(.attr (.l 0) 5),(.v 3)] (.L .nil))
 (.cons (.each (.T [4,5,6]) (.seq (.meth (.l 0) 6 .nil)) (.cons (.a [(.v 7)] (.str ""))
 (.cons (.C (.and (.c .lt (.l 1) (.l 4)) (.c .lt (.l 2) (.l 5))) (.cons (.a [(.v 7)] (.str "replace"))
 .nil) (.cons (.C (.c .lt (.l 1) (.l 4)) (.cons (.a [(.v 7)] (.str "delete"))
 .nil) (.cons (.C (.c .lt (.l 2) (.l 5)) (.cons (.a [(.v 7)] (.str "insert"))
 .nil) .nil)
 .nil))
 .nil))
 (.cons (.C (.l 7) (.cons (.expr (.bm .append (.l 3) %[.T %[.l 7,.l 1,.l 4,.l 2,.l 5|0]|0]))
 .nil) .nil)
 (.cons (.a [.T [1,2]] (.T %[.b .add (.l 4) (.l 6),.b .add (.l 5) (.l 6)|0]))
 (.cons (.C (.l 6) (.cons (.expr (.bm .append (.l 3) %[.T %[.str "equal",.l 4,.l 1,.l 5,.l 2|0]|0]))
 .nil) .nil)
 .nil))))))
 (.cons (.ret (.l 3))
 .nil))))))⟩
end SM
namespace SM
abbrev rJ:Fn:=⟨1,[],(.cons (.a [(.v 1)] (.attr (.l 0) 2))
 (.cons (.a [(.attr (.l 0) 7),(.v 2)] .dct0)
 (.cons (.each (.T [3,4]) (.enum (.l 1)) (.cons (.a [(.v 5)] (.bm .setdefault (.l 2) %[.l 4,.L .nil|0]))
 (.cons (.expr (.bm .append (.l 5) %[.l 3|0]))
 .nil)))
 (.cons (.a [(.attr (.l 0) 8),(.v 6)] (.bf .set .nil))
 (.cons (.a [(.v 7)] (.attr (.l 0) 0))
 (.cons (.C (.l 7) (.cons (.each (.v 4) (.keys (.l 2)) (.cons (.C (.w 7 %[.l 4|0]) (.cons (.expr (.bm .add (.l 6) %[.l 4|0]))
 .nil) .nil)
 .nil))
 (.cons (.each (.v 4) (.seq (.l 6)) (.cons (.delD (.l 2) (.l 4))
 .nil))
 .nil)) .nil)
 (.cons (.a [(.attr (.l 0) 9),(.v 8)] (.bf .set .nil))
 (.cons (.a [(.v 9)] (.bf .len %[.l 1|0]))
 (.cons (.C (.and (.attr (.l 0) 3) (.c .ge (.l 9) (.int 200))) (.cons (.a [(.v 10)] (.b .add (.b .fdiv (.l 9) (.int 100)) (.int 1)))
 (.cons (.each (.T [4,11]) (.items (.l 2)) (.cons (.C (.c .gt (.bf .len %[.l 11|0]) (.l 10)) (.cons (.expr (.bm .add (.l 8) %[.l 4|0]))
 .nil) .nil)
 .nil))
 (.cons (.each (.v 4) (.seq (.l 8)) (.cons (.delD (.l 2) (.l 4))
 .nil))
 .nil))) .nil)
 .nil)))))))))⟩
abbrev EG:Ex:=(.b .mod (.b .fdiv (.l 1) (.b .pow (.int 2) (.b .mod (.l 0) (.int 8)))) (.int 2))
abbrev fnL:Fn:=#[2,[],.cons (.ret EG) .nil]
end SM
namespace R10
open SM
abbrev xP:Fn:=⟨3,[],(.cons (.a [(.v 3)] (.int 0))
 (.cons (.loop (.and (.c .lt (.l 3) (.bf .len %[.l 0|0])) (.c .notIn (.sub (.l 0) (.l 3)) (.l 2))) (.cons (.aug 3 .add (.int 1))
 .nil))
 (.cons (.C (.c .eq (.l 3) (.bf .len %[.l 0|0])) (.cons (.ret (.l 3))
 .nil) .nil)
 (.cons (.a [(.v 4)] (.L .nil))
 (.cons (.each (.v 5) (.rng1 (.b .add (.l 3) (.int 1))) (.cons (.a [(.v 6)] (.K [(2,1)] (.seq (.slc (.l 0) (.b .sub (.l 3) (.l 5)) (.l 3))) (.v 1) .nil (.elt (.w 2 %[.l 1|0]))))
 (.cons (.C (.c .eq (.l 6) (.rev (.bf .sorted %[.l 6|0]))) (.cons (.expr (.bm .append (.l 4) %[.l 5|0]))
 .nil) .nil)
 .nil)))
 (.cons (.ret (.b .sub (.l 3) (.bf .maxL %[.l 4|0])))
 .nil))))))⟩
abbrev uT:Fn:=⟨4,[],(.cons (.C (.and (.c .eq (.l 0) (.l 1)) (.c .eq (.l 2) (.l 3))) (.cons (.ret (.L .nil))
 .nil) .nil)
 (.cons (.ret (.L %[.T %[.I (.c .eq (.l 0) (.l 1)) (.str "insert") (.I (.c .eq (.l 2) (.l 3)) (.str "delete") (.str "replace")),.l 0,.l 1,.l 2,.l 3|0]|0]))
 .nil))⟩
abbrev UQ:jw:=.cons (.a [(.v 8)] (.L %[.T %[.str "equal",.int 0,.int 4,.int 0,.int 4|0],.T %[.str "insert",.int 4,.int 4,.int 4,.int 6|0],.T %[.str "equal",.int 4,.int 6,.int 6,.int 8|0]|0])) .nil
abbrev UL:jw:=.cons (.a [.T [9,10]] (.T %[.L %[.b .add (.l 21) (.int 1),.b .add (.l 21) (.int 2),.b .add (.l 21) (.int 3),.b .add (.l 21) (.int 9),.b .add (.l 21) (.int 4),.b .add (.l 21) (.int 5)|0],.L %[.b .add (.l 21) (.int 1),.b .add (.l 21) (.int 2),.b .add (.l 21) (.int 3),.b .add (.l 21) (.int 9),.b .add (.l 21) (.int 4),.neg (.int 1),.b .add (.l 21) (.int 4),.b .add (.l 21) (.int 5)|0]|0])) UQ
abbrev UM:jw:=.cons (.a [(.v 21)] (.b .mul (.int 10) (.bf .len %[.l 0|0]))) UL
abbrev UN:jw:=.cons (.C (.c .ne (.meth (.n %[.none,.b .add (.l 3) (.L %[.neg (.int 1)|0]),.l 3,.bool false|0]) 7 .nil) (.l 8)) %[.ret (.bool false)|0] .nil) UM
abbrev RF:jw:=.cons (.a [(.v 8)] (.b .add (.I (.c .gt (.l 21) (.int 0)) (.L %[.T %[.str "equal",.int 0,.l 21,.int 0,.l 21|0]|0]) (.L .nil)) (.call 11 %[.l 21,.b .add (.l 21) (.int 1),.l 21,.l 21|0]))) UN
abbrev UO:jw:=.cons (.a [(.v 21)] (.bf .len %[.l 3|0])) RF
abbrev UP:jw:=.cons (.each (.v 6) (.seq (.slc (.l 0) (.int 2) .none)) %[.a [(.v 7)] (.b .fdiv (.l 6) (.int 6)),.C (.c .eq (.b .mod (.l 6) (.int 6)) (.int 0)) %[.aug 3 .add (.b .mul (.L %[.neg (.int 1)|0]) (.b .add (.int 1) (.b .mod (.l 7) (.int 2)))),.aug 4 .add (.b .mul (.L %[.neg (.int 2)|0]) (.b .add (.int 1) (.b .mod (.b .fdiv (.l 7) (.int 2)) (.int 2)))),.expr (.bm .append (.l 5) %[.T %[.bf .len %[.l 3|0],.bf .len %[.l 4|0],.L .nil|0]|0])|0] %[.expr (.bm .append (.l 3) %[.b .mod (.l 7) (.l 2)|0]),.expr (.bm .append (.l 4) %[.b .mod (.l 7) (.l 2)|0]),.expr (.bm .append (.sub (.sub (.l 5) (.neg (.int 1))) (.int 2)) %[.b .mod (.l 7) (.l 2)|0])|0]|0]) UO
abbrev RG:jw:=.cons (.a [(.T [3,4,5])] (.T %[.L .nil,.L .nil,.L %[.T %[.int 0,.int 0,.L .nil|0]|0]|0])) UP
abbrev RH:jw:=.cons (.a [(.v 2)] (.sub (.L %[.int 64,.int 16,.int 5,.int 2|0]) (.b .mod (.l 1) (.int 4)))) RG
abbrev UR:jw:=.cons (.a [(.T [20,1])] (.slc (.b .add (.l 0) (.L %[.int 0,.int 0|0])) .none (.int 2))) RH
abbrev US:jw:=.cons (.a [(.v 0)] (.slc (.l 0) .none (.int 63))) UR
abbrev DO:jw:=US
abbrev DX:jw:=(.cons (.aug 4 .add (.b .mul (.L %[.int 0|0]) (.int 200)))
 .nil)
abbrev PM:jw:=.cons (.ret (.c .eq (.meth (.n %[.I (.c .eq (.b .mod (.l 20) (.int 256)) (.int 0)) .none (.l 11),.l 3,.l 4|0]) 7 .nil) (.l 13))) .nil
abbrev PN:jw:=.cons (.aug 13 .add (.call 11 %[.l 14,.bf .len %[.l 3|0],.l 15,.bf .len %[.l 4|0]|0])) PM
abbrev PQ:jw:=.cons (.each (.T [16,17,18]) (.seq (.l 5)) %[.a [(.v 19)] (.I (.c .eq (.l 16) (.int 0)) (.int 0) (.call 10 %[.l 18,.l 11,.l 12|0])),.C (.c .lt (.l 19) (.bf .len %[.l 18|0])) %[.aug 13 .add (.call 11 %[.l 14,.b .add (.l 16) (.l 19),.l 15,.b .add (.l 17) (.l 19)|0]),.a [.T [14,15]] (.T %[.b .add (.l 16) (.bf .len %[.l 18|0]),.b .add (.l 17) (.bf .len %[.l 18|0])|0]),.expr (.bm .append (.l 13) %[.T %[.str "equal",.b .add (.l 16) (.l 19),.l 14,.b .add (.l 17) (.l 19),.l 15|0]|0])|0] .nil|0]) PN
abbrev UT:jw:=.cons (.a [(.v 14),(.v 15)] (.int 0)) PQ
abbrev UU:jw:=.cons (.a [(.v 13)] (.L .nil)) UT
abbrev HW:jw:=.cons (.a [(.v 12)] (.K [(3,4),(4,11)] (.seq (.l 3)) (.v 1) %[.and (.c .eq (.w 4 %[.l 1|0]) (.int 0)) (.c .le (.bf .len %[.K [(2,1)] (.seq (.l 3)) (.v 1) %[.c .eq (.l 1) (.l 2)|0] (.elt (.l 1))|0]) (.b .add (.b .fdiv (.bf .len %[.l 3|0]) (.int 100)) (.int 1)))|0] (.elt (.l 1)))) UU
abbrev sC:jw:=HW
abbrev uK:Ex:=.c .eq (.l 0) (.b .add (.l 1) (.int 9))
abbrev fnN:Fn:=#[2,[],.cons (.ret uK) .nil]
abbrev yG:Exs:=.cons (.l 9) %[.l 10,.bool false|0]
abbrev O7:Ex:=.l 8
abbrev P (k:Nat):Option Fn:=match k with
 |0=>some fn0|1=>some fn1|2=>some fn2|3=>some fn3|4=>some rJ|5=>some fn5|6=>some fn6|7=>some fn7|10=>some xP|11=>some uT|1000=>some fnL|1001=>some fnN|_=>none
abbrev D4 (cap:PySem.Str->Bool):Tab where
 cap:=cap
 gl:=[("len",.builtin "len"),("sorted",.builtin "sorted"),("min",.builtin "min"),("max",.builtin "max"),("divmod",.builtin "divmod"),("set",.type "set"),("list",.type "list"),("range",.type "range"),("map",.type "map"),("enumerate",.type "enumerate"),("tuple",.type "tuple"),("Match",.ref 135),("SequenceMatcher",.ref 242),("_law_first",.ref 251),("_law_change",.ref 258),("law",.ref 263)]
 attrs:=["isjunk","a","b","autojunk","matching_blocks","opcodes","fullbcount","b2j","bjunk","bpopular"]
 meths:=[(0,"__init__"),(1,"set_seqs"),(2,"set_seq1"),(3,"set_seq2"),(4,"_SequenceMatcher__chain_b"),(5,"find_longest_match"),(6,"get_matching_blocks"),(7,"get_opcodes")]
 fns:=[(0,160),(1,167),(2,174),(3,181),(4,188),(5,196),(6,203),(7,210),(10,251),(11,258)]
 cM:=135
 cS:=242
abbrev xr (k:Nat)(x:PySem.Str):Bool:=match k with
 |0=>false
 |1=>decide (x=PySem.Str.ofString "n")
 |_=>decide (x=PySem.Str.ofString "n")||decide (x=PySem.Str.ofString "bits")
public abbrev tab:Tab:=D4 (xr 2)
end R10
end MP
end
section
namespace MP
open PySem PyProof.Rows PySem.W
abbrev newOf (b:List Stmt):List Stmt:=
 let s0:=b.getD 0 default;let s1:=b.getD 1 default;let d:=st0 s0;let c:=st0 s1;let f:=kid 0 c;let t:=kid 2 c
 uE d.pos s0.pos (kid 0 f).pos f.pos (kid 1 c).pos (kid 0 t).pos (kid 1 t).pos (kid 2 t).pos t.pos c.pos s1.pos (C7 d) (exK d) (exK t)
abbrev N2 (b:List Stmt):Bool:=(kid 0 (st0 (b.getD 1 default))).pos.endLine==(st0 (b.getD 1 default)).pos.line
abbrev uI (b:List Stmt):List Pos:=
 let s0:=b.getD 0 default;let s1:=b.getD 1 default;let s2:=b.getD 2 default;let s3:=b.getD 3 default;let c:=st0 s1;let q:=st0 s2;let l:=kid 0 q
 [(st0 s0).pos,s0.pos,((e8 s1).getD 1 default).pos,(kid 0 (kid 0 c)).pos,(kid 0 c).pos,(kid 1 c).pos,(kid 2 c).pos,c.pos,s1.pos,(kid 0 l).pos,(kid 1 l).pos,l.pos,(kid 1 q).pos,q.pos,s2.pos,(st0 s3).pos,s3.pos]
abbrev HY (l:List Pos):Fin 20->Pos:=λi=>l.getD i.1 #[0,0,0,0]
abbrev RZ (b:List Stmt):List Stmt:=oX (HY (uI b)) (C7 (st0 (b.getD 0 default))) (exK (st0 (b.getD 0 default))) (exK (kid 1 (st0 (b.getD 2 default)))) (sw (b.getD 2 default)).b
abbrev IJ (b:List Stmt):Bool:=(HY (uI b) 4).endLine==(HY (uI b) 7).line
end MP
end
section
set_option backward.match.sparseCases false
open PySem PySem.W PyProof.Rows
set_option maxHeartbeats 0
namespace Mine
open MP
abbrev tB (w:World)(os:OsState):Thread:=#[RR (jS (tA w os)),(tA w os).code,(tA w os).pos,(tA w os).stack]
abbrev XB (w:World)(os:OsState):Option (Flow×SharedT×Code×Pos):=U9 TB pw w 11 an 1 400 (sA w os) (tB w os)
abbrev s3 (w:World)(os:OsState):SharedT:=(XB w os).elim (S4 w os) (·.2.1)
abbrev F (w:World)(os:OsState):Shared:=(s3 w os).abs
abbrev viewOf (p:Program):Program:={p with main:={p.main with body:=[0,2,3,4,5,7,8,9].filterMap λi=>p.main.body[i]?}}
abbrev qv:Program:=viewOf pw
public abbrev loose:List Str:=[Str.ofString "_tuplegetter",Str.ofString "Match",Str.ofString "SequenceMatcher"]
@[reducible] def oO:=PySem.Challenge.rw_dm0056_10
public abbrev Xt:Shared->Bool:=λs=>xlAt qv [] s&&recOk (RowW.records oO.row.toRowW) s
abbrev BW (w:World)(s:Shared):Bool:=staticsOk (importedModules pw.main.body) (boot_heap w.params) s.heap&&namesBound pw s.heap&&gensDone s&&laidKept (boot_heap w.params) s.heap
abbrev NU (h:Heap)(x:Str):Option Value:=(h.nsMap mainGlobals x).or (h.nsMap builtinsNs x)
abbrev lZ (h:Heap)(a:Addr)(xs:List Str):Bool:=xs.all λx=>(h.nsMap a x).isNone
abbrev isFn (h:Heap)(a:Addr):Bool:=(h.get? a).any λo=>decide (o.cls=.type "function")&&(pZ o.data).isSome
abbrev fragOf (h:Heap)(as:List Addr):Frag:=as.filterMap λa=>(h.get? a).map λo=>(a,o)
public abbrev K8 (h:Heap):Frag:=fragOf h [135,134,136,91,2,82,89]
abbrev VZ:jw:=.cons .dead %[.dead|0]
abbrev VY:jw:=.cons .dead %[.dead,.dead,.dead|0]
abbrev II:List (Str×NameKind):=[("tuple",.globalImplicit),("len",.globalImplicit),("TypeError",.globalImplicit)]
abbrev I8 (h:Heap):Bool:=h.isNs mainGlobals&&h.isNs builtinsNs&&h.isNs 241&&h.isNs 134&&h.isNs cStatics&&(h.nsMap cStatics "sys.recursionlimit").isNone&&(h.get? sysModules).isSome
abbrev J8 (h:Heap):Bool:=R10.tab.gl.all λp=>decide (NU h p.1=some p.2)
abbrev uH (h:Heap):Bool:=R10.tab.meths.all λp=>decide ((h.nsMap 241 p.2)=(R10.tab.fns.lookup p.1).map Value.ref)
abbrev kS (c:Nat)(h:Heap):Bool:=R10.tab.fns.all λp=>isFn h p.2&&match R10.P p.1 with|some fn=>pO (R10.D4 (R10.xr c)) h fn p.2|none=>false
abbrev newOk (h:Heap):Bool:=pO R10.tab h #[4,[],VZ] 82&&(bodyOf h 82).any λx=>N2 x.2
abbrev zH (h:Heap):Bool:=pO R10.tab h #[2,[],VY] 89&&(bodyOf h 89).any λx=>IJ x.2
abbrev UZ (x:Scope×List Stmt):Scope×List Stmt:=(zy [],newOf x.2)
abbrev PV (x:Scope×List Stmt):Scope×List Stmt:=(qk II [],RZ x.2)
abbrev RB (c k:Nat)(x:Scope×List Stmt):Scope×List Stmt:=match R10.P k with
 |some fn=>RC (R10.D4 (R10.xr c)) fn x
 |none=>x
abbrev eN (h:Heap):List (Option (Scope×List Stmt)):=R10.tab.fns.map λp=>bodyOf h p.2
abbrev eL (c:Nat)(h:Heap):List (Option (Scope×List Stmt)):=R10.tab.fns.map λp=>(bodyOf h p.2).map (RB c p.1)
abbrev frees (h:Heap):Heap:=h.update 260 λ_=>{cls:=.none,data:=.freed}
public abbrev rx (k:Nat):Tab:=R10.D4 (R10.xr k)
abbrev XI:Expr->Option (Arguments×Expr×Scope×Pos)
 |.Lambda a e s p=>some (a,e,s,p)
 |_=>none
abbrev kM (x:Expr):Arguments×Expr×Scope×Pos:=(XI x).getD (#[[],[],none,[],[],none,[]],default,default,default)
abbrev VB (k:Nat)(b:Ex)(x:Expr):Expr:=.Lambda (kM x).1 (reE (rx k) b (kM x).2.2.1 (kM x).2.1) (kM x).2.2.1 (kM x).2.2.2
abbrev cG (st:Stmt):Expr:=kid 0 (st0 st)
abbrev cA (st:Stmt):Expr:=kid 0 (cG st)
abbrev cM (st:Stmt):Expr:=kid 0 (cA st)
abbrev cL (st:Stmt):Expr:=kid 1 (cM st)
abbrev cR (st:Stmt):List Expr:=(kids (cM st)).drop 2
abbrev cMr (sc:Scope)(st:Stmt):Expr:=.Call (nm (kid 0 (cM st))) (VB 1 R10.uK (cL st)::rq (rx 1) R10.yG sc (cR st)) [] (cM st).pos
abbrev cDr (sc:Scope)(st:Stmt):Expr:=reE (rx 1) R10.O7 sc (kid 1 (st0 st))
abbrev XK (sc:Scope)(st:Stmt):Stmt:=.If (.Compare (.Call (.Attribute (cMr sc st) "get_opcodes" (cA st).pos) [] [] (cG st).pos) [.NotEq] [cDr sc st] (st0 st).pos) (stB st).1 [] st.pos
abbrev PZ (st:Stmt):Stmt:=.Assign [.Name "isjunk" ((e8 st).getD 1 default).pos] (VB 2 SM.EG (st0 st)) st.pos
abbrev at1 (x:Scope×List Stmt):Stmt:=x.2.getD 11 default
abbrev at2 (x:Scope×List Stmt):Stmt:=x.2.getD 13 default
abbrev V8 (x:Scope×List Stmt):Scope×List Stmt:=(x.1,jE (rx 0) x.1 R10.DO x.2++XK x.1 (at1 x)::(jE (rx 1) x.1 R10.DX (x.2.drop 12)++PZ (at2 x)::jE (rx 2) x.1 R10.sC (x.2.drop 14)))
abbrev vS:Value->Str
 |.str s _=>s
 |_=>""
abbrev vI:Value->Int
 |.int i _=>i
 |_=>0
abbrev vB:Value->Bool
 |.bool b=>b
 |_=>false
abbrev VA (c:Str):List (Str×NameKind):=[("x",.«local»),(c,.free)]
abbrev V9:List Str:=["x"]
abbrev cellAt (sc:Scope)(i:Nat)(x:Str):Bool:=decide (sc.names[i]?=some (x,.cell))
abbrev NJ (k:Nat)(b:Ex)(c:Str)(l:Arguments×Expr×Scope×Pos):Bool:=decide (l.2.2.1.kind=.function)&&(!l.2.2.1.isCoroutine&&(!l.2.2.1.isGenerator&&(decide (l.2.2.1.names=VA c)&&(uw l.1&&(decide (l.1.args.map (·.arg)=V9)&&(l.1.defaults.isEmpty&&(l.1.kw_defaults.isEmpty&&okE (rx k) b l.2.2.1 l.2.1)))))))
abbrev ifC (sc:Scope)(st:Stmt):Bool:=glob (rx 1) sc (lj (kid 0 (cM st))) (.ref (rx 1).cS)&&(noStar (rq (rx 1) R10.yG sc (cR st))&&(nM (rx 1) R10.yG sc (cR st)&&(((cA st).pos.endLine==(cG st).pos.line)&&(okE (rx 1) R10.O7 sc (kid 1 (st0 st))&&(!behindInMarks .NotEq (cDr sc st)&&mu (cMr sc st))))))
abbrev apart (p q:Pos):Bool:=!(((p.line:Int)==(q.line:Int))&&((p.col:Int)==(q.col:Int)))
abbrev S7 (x:Scope×List Stmt):Bool:=nL (rx 1) x.1 R10.DX (x.2.drop 12)&&(nL (rx 2) x.1 R10.sC (x.2.drop 14)&&(cellAt x.1 21 "n" && (cellAt x.1 20 "bits" && (cellAt x.1 11 "isjunk" && (NJ 1 R10.uK "n" (kM (cL (at1 x)))&&(NJ 2 SM.EG "bits" (kM (st0 (at2 x)))&&(ifC x.1 (at1 x)&&apart (kM (cL (at1 x))).2.2.2 (kM (st0 (at2 x))).2.2.2)))))))
abbrev Q7 (vs:Array Value):Bool:=decide (vs[11]?=some (.ref 260))&&(decide (vs.getD 11 .none=.ref 260)&&(decide (vs.getD 18 .none=.str (vS (vs.getD 18 .none)) (CX (vs.getD 18 .none)))&&(decide (vs.getD 7 .none=.int (vI (vs.getD 7 .none)) (CX (vs.getD 7 .none)))&&(decide (vs.getD 9 .none=.bool (vB (vs.getD 9 .none)))&&decide (vs.getD 10 .none=.int (vI (vs.getD 10 .none)) (CX (vs.getD 10 .none)))))))
abbrev codeOk (h:Heap):Bool:=(told pZ h 263).any (λfd=>decide (fd.code=.ref 262))&&(h.get? 262).any λo=>decide (o.cls=.type "code")&&(jQ o.data).any Q7
abbrev isPlain:Data->Bool
 |.plain=>true
 |_=>false
abbrev vG (h:Heap):Bool:=decide (h.nsMap mainGlobals "__builtins__"=some (.ref 4))&&(h.get? 4).any λo=>decide (o.cls=.type "module")&&(decide (o.dict=some builtinsNs)&&isPlain o.data)
abbrev IP (h:Heap):Bool:=pO (rx 0) h #[1,[],R10.DO] 263&&((bodyOf h 263).any S7&&(codeOk h&&vG h))
structure Obs (P:Params)(h:Heap):Prop where
 nss:I8 h=true
 no241:lZ h 241 ("__getattribute__" :: "__getattr__" :: "__setattr__" :: R10.tab.attrs)=true
 no134:lZ h 134 ["__iter__","__lt__","__len__","__init__"]=true
 gls:J8 h=true
 meths:uH h=true
 fns:(kS 0 h&&(kS 1 h&&kS 2 h))=true
 new:newOk h=true
 make:zH h=true
 eN:(eN h,eN h,eN h)=(eL 0 h,eL 1 h,eL 2 h)
 newB:bodyOf h 82=(bodyOf h 82).map UZ
 makeB:bodyOf h 89=(bodyOf h 89).map PV
 law:IP h=true
 lawB:bodyOf h 263=(bodyOf h 263).map V8
 g242:h.get? 242=some (excClassObj "SequenceMatcher" "SequenceMatcher" 242 241 [.type "object"] [.type "object"] true [] [] false none none none none (some (.str "SequenceMatcher" 389)) (some (.str "SequenceMatcher" 397)) (some (.bool true)) "object.__new__")
 g135:h.get? 135=some (hY 135 134 "Match" "Match" (some (.ref 65)) (some (.str "Match" 253)) (some (.str "Match" 261)))
 l1:peek (K8 h) #[pw,P] (mroOf (.ref 135))=some [.ref 135,.type "tuple",.type "object"]
 l2:peek (K8 h) #[pw,P] (isType (.ref 135))=some true
 l3:peek (K8 h) #[pw,P] (isSubtype (.ref 135) (.ref 135))=some true
 l4:peek (K8 h) #[pw,P] (isSubtype (.ref 135) (.type "tuple"))=some true
 l5:peek (K8 h) #[pw,P] (isSubtype (.ref 135) (.type "object"))=some true
 l6:peek (K8 h) #[pw,P] (classHasDel 135)=some false
 l7:peek (K8 h) #[pw,P] (typeLookup (.ref 135) "__init__")=some (some (.builtin "object.__init__"))
 l8:peek (K8 h) #[pw,P] (specialOf (.ref 135) "__call__")=some (some (.builtin "type.__call__"))
 l9:peek (K8 h) #[pw,P] (isInstance (.ref 135) (.type "type"))=some true
 l10:peek (K8 h) #[pw,P] (Bind.madeBy (.ref 135))=some none
 l11:peek (K8 h) #[pw,P] (Bind.madeHere "tuple.__new__" (.ref 135))=some ()
 l12:(λx:Value=>peek (K8 h) #[pw,P] (checkBuiltinCall "tuple.__new__" #[[.ref 135,x],[]]))=λx=>some ()
 m1:readsIn (K8 h) 135 (.type "type")=true
 m2:findCls (K8 h) (.ref 135) (.type "type") "__new__"=some (.get (.builtin "staticmethod.__get__") (.ref 136) .none (.ref 135))
 m3:findCls (K8 h) (.ref 135) (.type "type") "_make"=some (.get (.builtin "classmethod.__get__") (.ref 91) .none (.ref 135))
 m4:recIn (K8 h) 136 "staticmethod"=some [.ref 82]
 m5:recIn (K8 h) 91 "classmethod"=some [.ref 89,.bool false]
abbrev asked (w:World)(s:Shared)(h:Heap)(P:Params):=
 ((BW w s,openSeen qv loose (importedModules pw.main.body) Xt true s),
  (I8 h&&lZ h 241 ("__getattribute__" :: "__getattr__" :: "__setattr__" :: R10.tab.attrs)&&lZ h 134 ["__iter__","__lt__","__len__","__init__"]&&J8 h&&uH h&&(kS 0 h&&(kS 1 h&&kS 2 h))&&newOk h&&zH h&&IP h),
  ((eN h,eN h,eN h),bodyOf h 82,bodyOf h 89,h.get? 242,h.get? 135,bodyOf h 263,s.heap.get? 260),
  (peek (K8 h) #[pw,P] (mroOf (.ref 135)),peek (K8 h) #[pw,P] (isType (.ref 135)),peek (K8 h) #[pw,P] (isSubtype (.ref 135) (.ref 135)),peek (K8 h) #[pw,P] (isSubtype (.ref 135) (.type "tuple")),peek (K8 h) #[pw,P] (isSubtype (.ref 135) (.type "object")),
  peek (K8 h) #[pw,P] (classHasDel 135),peek (K8 h) #[pw,P] (typeLookup (.ref 135) "__init__"),peek (K8 h) #[pw,P] (specialOf (.ref 135) "__call__"),peek (K8 h) #[pw,P] (isInstance (.ref 135) (.type "type")),peek (K8 h) #[pw,P] (Bind.madeBy (.ref 135)),
  peek (K8 h) #[pw,P] (Bind.madeHere "tuple.__new__" (.ref 135)),λx:Value=>peek (K8 h) #[pw,P] (checkBuiltinCall "tuple.__new__" #[[.ref 135,x],[]])),
  (readsIn (K8 h) 135 (.type "type"),findCls (K8 h) (.ref 135) (.type "type") "__new__",findCls (K8 h) (.ref 135) (.type "type") "_make",recIn (K8 h) 136 "staticmethod",recIn (K8 h) 91 "classmethod"))
def atB:(λw os=>((XB w os).map λr=>(r.1,r.2.2.1),asked w (F w os) (frees (F w os).heap) w.params))=λw os=>(some (.next,cE),((true,openGood qv loose),true,
  ((eL 0 (frees (F w os).heap),eL 1 (frees (F w os).heap),eL 2 (frees (F w os).heap)),(bodyOf (frees (F w os).heap) 82).map UZ,(bodyOf (frees (F w os).heap) 89).map PV,some (excClassObj "SequenceMatcher" "SequenceMatcher" 242 241 [.type "object"] [.type "object"] true [] [] false none none none none (some (.str "SequenceMatcher" 389)) (some (.str "SequenceMatcher" 397)) (some (.bool true)) "object.__new__"),
   some (hY 135 134 "Match" "Match" (some (.ref 65)) (some (.str "Match" 253)) (some (.str "Match" 261))),(bodyOf (frees (F w os).heap) 263).map V8,some (tabObj #v[])),
  (some [.ref 135,.type "tuple",.type "object"],some true,some true,some true,some true,some false,some (some (.builtin "object.__init__")),some (some (.builtin "type.__call__")),some true,some none,some (),λ_=>some ()),
  (true,some (.get (.builtin "staticmethod.__get__") (.ref 136) .none (.ref 135)),some (.get (.builtin "classmethod.__get__") (.ref 91) .none (.ref 135)),some [.ref 82],some [.ref 89,.bool false]))):=by
 delta F s3 XB tB RR PySem.W.Fast.tw4202317264376624991
 rw[A0]
 kernel_rfl
end Mine
end
section
open PySem PySem.W PyProof.Rows
set_option maxHeartbeats 0
namespace Mine
open MP
def EB {p q:Program}{loose:List Str}{Xt:Shared->Bool}{N:Nat}{g0:Bool}{Z:Params->Heap}{Y:Array GenState}{U:Drawn}{W I:Nat}{ab:Option Value}{M:Nat}{F:World->OsState->Shared}
  (B:∀w:World,(fencedOpening treeTable p w N).map (λs=>(s.heap,s.gens,s.drawn,s.toks))=some (Z w.params,Y,U,W))
  (size:∀w:World,((Z w.params).isNs mainGlobals&&Y.size==0,(Z w.params).objs.size,(Z w.params).nsMap mainGlobals "__annotations__")=(true,I,ab))
  (run:∀(w:World) (os:OsState),topRun treeTable p w I ab M #[Z w.params,Y,U,W,os] (topStub p)=some (F w os)) (le:Nat.ble M N=true)
  (BW:∀(w:World) (os:OsState),(staticsOk (importedModules p.main.body) (Z w.params) (F w os).heap&&namesBound p (F w os).heap&&gensDone (F w os)&&laidKept (Z w.params) (F w os).heap)=true)
  (seen:∀(w:World) (os:OsState),openSeen q loose (importedModules p.main.body) Xt g0 (F w os)=openGood q loose) :
  LeftO p q loose Xt (λs=>s.heap) (λw=>(F w ((fencedOpening treeTable p w N).elim {} (·.os))).heap) N g0:=λw=>by
 have#[#[h,gs,d,k,os],e,e']:=gm.mp (B w);have zz:=by simpa using e'
 clear e';have#[rfl,rfl,rfl,rfl]:h=Z w.params/\gs=Y/\d=U/\k=W:=zz;have#[z1,z2,z3]:_/\_/\_:=by simpa only[nr] using size w
 have r:=topRun_mono (N-M) _ _ _ _ (run w os);rw[show M+(N-M)=N by have:=ba le;(show dt .V .f .a2 (aa (ax .A .a .A this)))]at r;have t:topFrom treeTable p w N #[Z w.params,gs,d,k,os]=some (F w os):=by
  unfold topFrom;dsimp only;rw[z1,z2,z3,r];show(match staticsOk (importedModules p.main.body) (Z w.params) (F w os).heap&&namesBound p (F w os).heap&&gensDone (F w os)&&laidKept (Z w.params) (F w os).heap with|true=>_|false=>_)=_;rw[BW w os]
 unfold openEnds;rw[e];show(topFrom treeTable p w N _).map _=_;rw[t];apply bx some (Prod.ext (seen w os) ?_);show(F w os).heap=_;dsimp only;rw[e];rfl
def jr {α Z:Type}{a c:α}{b d:Z}(h:(a,b)=(c,d)):a=c:=bx (·.1) h
def gw {α Z:Type}{a c:α}{b d:Z}(h:(a,b)=(c,d)):b=d:=bx (·.2) h
def V7 {w:World}{os:OsState}:BW w (F w os)=true:=jr (jr (gw (gy (gy atB w) os)))
def XD (w:World)(os:OsState):Obs w.params (frees (F w os).heap)/\(F w os).heap.get? 260=some (tabObj #v[]):=by
 have v:=gw (gw (gy (gy atB w) os));generalize frees (F w os).heap=h at v ⊢;generalize w.params=P at v ⊢;have U:=jr v;have Z:=jr (gw v);have W:=jr (gw (gw v));have Y:=gw (gw (gw v));simp only[dw]at U;have#[#[#[#[#[#[#[#[a1,a2],a3],a4],a5],a6],a7],a8],a9]:=U;have z:=gw (gw (gw (gw Z)));have b:=gw W;have c:=gw b;have d:=gw c;have e:=gw d;have f:=gw e;have g:=gw f;have i:=gw g;have j:=gw i;have k:=gw j;have l:=gw k;have m:=gw Y;have n:=gw m;have o:=gw n;apply#[#[a1,a2,a3,a4,a5,by rw[a6.1,a6.2.1,a6.2.2];rfl,a7,a8,jr Z,jr (gw Z),jr (gw (gw Z)),a9,jr (gw z),jr (gw (gw (gw Z))),jr z,jr W,jr b,jr c,jr d,jr e,jr f,jr g,jr i,jr j,jr k,jr l,gw l,jr Y,jr m,jr n,jr o,gw o],gw (gw z)]
def R9 (w:World)(os:OsState):topRun treeTable pw w 11 an 2381 (S0 w os) (topStub pw)=some (F w os):=by
 have hp:=gy (gy pre w) os;have hb:=gy (gy blk w) os;have hA:=gy (gy atA w) os;have hv:=jr (gy (gy atB w) os);have hf:=λc q s=>gy (gy (gy (gy fin w) c) q) s;have#[#[fl,I,c3,q3],Y,e]:=gm.mp hv;have ab:fl=.next:=jr e
 have ag:c3=cE:=gw e;subst ab;subst ag;have hF:F w os=I.abs:=by
  unfold F s3;rw[Y];rfl
 have Z:XA w os=some (sA w os,tA w os):=by
  have U:=jr hA;unfold sA tA;cases q:XA w os with
  |none=>rw[q]at U;cases U
  |some x=>rfl
 have B:tB w os=tA w os:=by
  unfold tB;rw[<- gw hA]
 unfold XB at Y;rw[B]at Y;rw[hF];generalize sA w os=sa at Z Y;generalize tA w os=ta at Z Y;unfold XA at Z;unfold th0 at Z;rw[WA]at Z;have e3:TB=treeTable:=PySem.W.Fast.te14364793385576792824.symm;have e1:goT=@segGoT:=PySem.W.Fast.te10295753902157049106.symm;have e2:U9=@segRunT:=PySem.W.Fast.te10110043849684766642.symm;rw[e1,e3]at Z;rw[e2,e3]at Y;rw[e3]at hp hb hf;have hs:=seg_go (n:=1966) (N:=400) (segGo_of Z) (segRun_of Y);apply go_top (n:=12) (N:=2369) hp (piece_block (n:=1) (N:=2368) hb ?_);have:=piece_app (n:=2366) (N:=2) (l:=bE) (rest:=[]) (env:=O6) hs (piece_nil (hf _ _ _));rw[dg]at this;show this
end Mine
end
section
open PySem PySem.W PyProof.Rows
set_option maxHeartbeats 0
namespace Mine
open MP
def V6:∀w:World,((boot_heap w.params).isNs mainGlobals&&(#[[]]:Array GenState).size==0,(boot_heap w.params).objs.size,(boot_heap w.params).nsMap mainGlobals "__annotations__")=(true,11,an):=by
 have h:(λw:World=>((boot_heap w.params).isNs mainGlobals&&(#[[]]:Array GenState).size==0,(boot_heap w.params).objs.size,(boot_heap w.params).nsMap mainGlobals "__annotations__"))=λw=>(true,11,an):=by kernel_rfl
 show λw=>gy h w
abbrev H1 (w:World):Heap:=(F w ((fencedOpening treeTable pw w 4418).elim {} (·.os))).heap
abbrev hook:Hook where
 α:=Heap
 obs:=λs=>s.heap
 val:=H1
 says:=λw h=>∀a o,(H1 w).get? a=some o->h.get? a=some o
 of:=λw s e a o h=>by rw[e];show h
 keeps:=λw h h' x k a o e=>k a o (x a o e)
def left:LeftO pw qv loose Xt (λs=>s.heap) H1 4418 true:=EB (boot_open (by kernel_rfl) (by decide +kernel) (λs=>by kernel_rfl)) V6 R9 (by decide +kernel) (λw os=>V7) λw os=>gw (jr (gw (gy (gy atB w) os)))
def head (Y:∀(d:DefRec) (Z:List (Str×Expr)),defOf qv oO.row.name=some (d,Z)->WalkO qv loose (XL qv []) hook.says oO.row.toRowW d Z λf vs=>PySem.call f vs):oO.Holds:=by
 w_on
 apply holds_law (by decide +kernel) λW=>?_;apply holds_open (q:=qv) (loose:=loose) (Xt:=Xt) (XP:=XL qv []) (Yf:=hook.obs) (Ya:=hook.val) (YP:=hook.says) (N:=4418) left hook.of hook.keeps (λs e=>xl_of s (rB.mp e).1) XL.keeps (by rfl) (by rfl) (by rfl) (λs e=>recFacts_of (rB.mp e).2) (by first|rfl|fail "no head") (by first|assumption|decide +kernel) (by decide +kernel) #[rfl,rfl,rfl,rfl,rfl,by decide +kernel] ?hw ?Y
 case hw=>w_witness2
 case Y=>show Y _ _ (by rfl)
def XE (w:World):Obs w.params (frees (H1 w))/\(H1 w).get? 260=some (tabObj #v[]):=XD w _
end Mine
end
section
set_option tactic.hygienic true
open PySem PySem.W PyProof.Rows
set_option maxHeartbeats 0
namespace Mine
open MP
def G4 (x:Str)(Z:x∈R10.tab.attrs):typeLookup (.type "object") x=pure none:=by
 simp only[R10.tab,R10.D4,bw,lq,or_false]at Z;rcases Z with rfl|rfl|rfl|rfl|rfl|rfl|rfl|rfl|rfl|rfl<;>(rw[fj,dh];kernel_rfl)
abbrev GG (w:World)(h0 hb:Heap)(cp:Str->Bool)(clo:Nat->List V->Addr->Prop):Stc:={prog:=pw,w:=w,hb:=hb,cM:=135,cS:=242,attrs:=R10.tab.attrs,gl:=NU h0,cap:=cp,clo:=clo}
section
variable {w:World}{h0 hb:Heap}{cp:Str->Bool}{clo:Nat->List V->Addr->Prop}(ob:Obs w.params h0)
include ob
def wZ:h0.isNs mainGlobals=true/\h0.isNs builtinsNs=true/\h0.isNs 241=true/\h0.isNs 134=true/\h0.isNs cStatics=true/\h0.nsMap cStatics "sys.recursionlimit"=none/\∃o,h0.get? sysModules=some o:=by
 have h:=ob.nss;unfold I8 at h;simp only[dw,uv]at h;have#[#[#[#[#[#[h1,B],I],U],W],Y],Z]:=h;apply#[h1,B,I,U,W,Y,bt.mp Z]
omit ob in
def qj {h:Heap}{a:Addr}{xs:List Str}(e:lZ h a xs=true){x:Str}(Z:x∈xs):h.nsMap a x=none:=by
 unfold lZ at e;rw[ja]at e;show uv.mp (e x Z)
variable (hk:∀a o,h0.get? a=some o->hb.get? a=some o)
include hk
def ND:hb.NoLimit:=by
 have#[h1,B,I,U,Y,Z,W]:=wZ ob;apply#[_,(uh Y).keeps hk,Z]
def W0:ClsAt hb 242 241 (h0.nsMap 241):=by
 have#[h1,B,Z,I,U,W,Y]:=wZ ob;apply#[#[_,_,_,_,_,_,_,_,_,_,_,_,hk _ _ (ob.g242)],(uh Z).keeps hk]
def XM:GOk (GG w h0 hb cp clo):=by
 have#[U,W,h3,h4,B,I,o,Y]:=wZ ob;have no:=ob.no241;apply#[#[241,_,W0 ob hk,qj no (.head _),qj no (.tail _ (.head _)),qj no (.tail _ (.tail _ (.head _))),λx Z=>#[qj no (.tail _ (.tail _ (.tail _ Z))),G4 x Z]],by show R10.tab.attrs.length<=100;decide,by show R10.tab.attrs.Nodup;decide +kernel,#[o,hk _ _ Y],#[_,_,(uh U).keeps hk,(uh W).keeps hk,λx=>rfl]]
omit hk in
def gl8 (x:Str)(v:Value)(e:R10.tab.gl.lookup x=some v):NU h0 x=some v:=by
 have h:=ob.gls;unfold J8 at h;rw[ja]at h;show ay (h (x,v) (MP.mem_of_lookup e))
omit hk in
def Q4 (c:Nat)(hc:c<3):kS c h0=true/\eN h0=eL c h0:=by
 have#[h1,h2]:=MP.band ob.fns;have#[h2,h3]:=MP.band h2;have b:=ob.eN;rcases (by(show pg λB=>((au (yi.mp B).1).elim (λI=>(dp .ff .r .bY I)) λI=>((au (yi.mp (yi.mp B).2).1).elim (λY=>(jT .ff .c .H (.l .A .U) I Y)) λY=>((au (yi.mp (yi.mp B).2).2).elim (λZ=>(jT .ff .c .cP (.l .A .W) Y Z)) λZ=>(jT .ff .c (.l .A .aZ) (.l .W .A) hc Z))))):c=0\/c=1\/c=2) with rfl|rfl|rfl
 ·apply#[h1,jr b]
 ·apply#[h2,jr (gw b)]
 ·apply#[h3,gw (gw b)]
def SJ {k:Nat}{a:Addr}(e:R10.tab.fns.lookup k=some a):∃o fd,hb.get? a=some o/\o.cls=.type "function"/\o.data=.func fd:=by
 have h:=(Q4 ob 2 (by decide)).1;unfold kS at h;rw[ja]at h;have:=h (k,a) (MP.mem_of_lookup e);rw[dw]at this;have:=this.1;have#[o,Z,h]:=MP.any_some this;have#[W,Y]:=MP.band h;have#[fd,hd]:=bt.mp Y;apply#[o,fd,hk _ _ Z,ay W,mI hd]
omit hk in
def RX {k:Nat}{name:Str}(e:R10.tab.meths.lookup k=some name):h0.nsMap 241 name=(R10.tab.fns.lookup k).map Value.ref:=by
 have h:=ob.meths;unfold uH at h;rw[ja]at h;show ay (h (k,name) (MP.mem_of_lookup e))
def PU (k:Nat)(name:Str)(e:R10.tab.meths.lookup k=some name):∃f,R10.tab.fns.lookup k=some f/\MethAt (GG w h0 hb cp clo) name f:=by
 have no:=ob.no241;have Y:∃f,R10.tab.fns.lookup k=some f:=by
  have h:R10.tab.meths.all (λp=>(R10.tab.fns.lookup p.1).isSome)=true:=by decide +kernel
  show bt.mp (ja.mp h _ (MP.mem_of_lookup e))
 have Z:name∉R10.tab.attrs:=by
  have h:R10.tab.meths.all (λp=>decide (p.2∉R10.tab.attrs))=true:=by decide +kernel
  show ay (ja.mp h _ (MP.mem_of_lookup e))
 have#[f,W]:=Y;have#[o,fd,U,I,hd]:=SJ ob hk W;apply#[f,W,#[#[241,_,o,fd,W0 ob hk,qj no (.head _),qj no (.tail _ (.head _)),?_,U,I,hd],Z,#[_,fj _ _]]];have:=RX ob e;rw[W]at this;show this
def VF:∃f,R10.tab.fns.lookup 0=some f/\qU (GG w h0 hb cp clo) f:=by
 have#[f,Z,M]:=PU ob hk 0 "__init__" rfl;have#[N,mN,of,fd,I,h2,h3,U,W,Y,B]:=M.here;apply#[f,Z,#[N,mN,of,I,U,W,Y]]
def RY:tf (GG w h0 hb cp clo):=by
 have#[h1,B,I,Z,U,W,Y]:=wZ ob;have no:=ob.no134;apply#[#[134,_,_,_,_,_,_,hk _ _ (ob.g135),(uh Z).keeps hk,qj no (.head _),qj no (.tail _ (.head _)),qj no (.tail _ (.tail _ (.head _))),qj no (.tail _ (.tail _ (.tail _ (.head _))))]]
omit ob hk in
def uR (h:Heap):∀l:List Addr,Frag.In (fragOf h l) h
 | [],a,o,e=>by cases e
 |b::l,a,o,e=>by
  unfold fragOf at e;simp only[f9]at e;cases Z:h.get? b with
  |none=>rw[Z]at e;show uR h l a o e
  |some ob =>
   rw[Z]at e;simp only[Option.map_some,List.lookup]at e;split at e
   ·rename_i q;cases e;rw[wq.mp q];show Z
   ·show uR h l a o e
omit ob hk in
def m6:findCls [] (.type "tuple") (.type "type") "__new__"=some (.val (.builtin "tuple.__new__")):=by kernel_rfl
omit ob hk in
def m7:findIn [] (.type "type") "__getattribute__"=some (some (.builtin "type.__getattribute__")):=by kernel_rfl
omit ob hk in
def m8:subIn [] (.type "type") (.type "type")=some true:=by kernel_rfl
omit ob hk in
def m9:opaqueClassAbove (.type "tuple")=pure none:=by kernel_rfl
omit ob hk in
def m10:hookBefore (.type "type")=pure none:=by kernel_rfl
omit ob hk in
def m11:typeOf (.type "tuple")=pure (.type "type"):=by kernel_rfl
def IU:(K8 h0).In hb:=(uR h0 _).keeps hk
def eW {α:Type}{t:Sem α}{r:α}(e:peek (K8 h0) #[pw,w.params] t=some r):Looks (GG w h0 hb cp clo).M (GG w h0 hb cp clo).hb t r:=Looks.of_peek (K:=K8 h0) (IU ob hk) e
def N5:qo (GG w h0 hb cp clo) 82 89 where
 made:=eW ob hk (ob.l10)
 here:=eW ob hk (ob.l11)
 chk:=λx=>eW ob hk (gy ob.l12 x)
 mro:=eW ob hk (ob.l1)
 self:=eW ob hk (ob.l3)
 tup:=eW ob hk (ob.l4)
 init:=eW ob hk (ob.l7)
 call:=eW ob hk (ob.l8)
 typ:=eW ob hk (ob.l9)
 isT:=eW ob hk (ob.l2)
 del:=eW ob hk (ob.l6)
 new:=λA E s Q k h=>cls_bind (K:=K8 h0) (mc:=.type "type") ((IU ob hk).keeps k) (ob.m1) (ob.m2) (qd (sm_get (s:={s with toks:=s.toks+1}) (K:=K8 h0) ((IU ob hk).keeps k) (ob.m4) (handed_on rfl h)))
 make:=λA E s expr Q k h=>cls_bind (K:=K8 h0) (mc:=.type "type") ((IU ob hk).keeps k) (ob.m1) (ob.m3) (qd (cm_get (s:={s with toks:=s.toks+1}) (K:=K8 h0) ((IU ob hk).keeps k) (ob.m5) (handed_on rfl h)))
 typNew:=λA E s expr Q h=>cls_open (K:=[]) (λ_ _ e=>nomatch e) (Looks.of_pure m9) (Looks.of_pure m11) m7 (Looks.of_pure m10) m8 m6 (af (handed_on rfl h))
def XF:tK (GG w h0 hb cp clo) 82:=by
 apply#[?_,gl8 ob "tuple" _ (by decide +kernel),eW ob hk ob.l5];have h:=ob.new;unfold newOk at h;rw[dw]at h;have#[x,Y,W]:=C5 (G:=GG w h0 hb cp clo) hk (ND ob hk) h.1 ob.newB;have Z:=h.2;rw[Y]at Z;apply#[_,_,_,_,_,_,_,_,_,_,_,_,_,_,[],W,Z]
def V3:qN (GG w h0 hb cp clo) 89:=by
 apply#[?_,gl8 ob "tuple" _ (by decide +kernel),gl8 ob "len" _ (by decide +kernel)];have h:=ob.make;unfold zH at h;rw[dw]at h;have#[x,Y,W]:=C5 (G:=GG w h0 hb cp clo) hk (ND ob hk) h.1 ob.makeB;have Z:=h.2;rw[Y]at Z;apply#[_,_,_,_,_,II,[],W,Z,by decide +kernel,by decide +kernel]
def W8:vR (GG w h0 hb cp clo) (R10.D4 cp):=
 #[XM ob hk,gl8 ob,rfl,rfl,PU ob hk,VF ob hk,rfl,rfl,#[82,89,N5 ob hk,XF ob hk,V3 ob hk],RY ob hk]
def HU (c:Nat)(I:c<3)(U:∀k cs a,clo k cs a->∃n sc e b,R10.P (1000+k)=some #[n+cs.length,[],.cons (.ret b) .nil]/\dS (GG w h0 hb (R10.xr c) clo) a n cs sc e/\okE (rx c) b sc e=true/\reE (rx c) b sc e=e):KW (GG w h0 hb (R10.xr c) clo) (rx c) R10.P:=by
 have#[h,Z]:=Q4 ob c I;apply#[W8 ob hk,U,λk a e=>?_];unfold kS at h;rw[ja]at h;have:=h (k,a) (MP.mem_of_lookup e);rw[dw]at this;have Y:=this.2;split at Y
 ·rename_i fn W;have#[sc,body,x,y]:=VH (G:=GG w h0 hb (R10.xr c) clo) hk (ND ob hk) Y (by
   have h3:=List.map_inj_left.mp Z (k,a) (MP.mem_of_lookup e);have B:RB c k=RC (rx c) fn:=by funext x;unfold RB;rw[W]
   rw[<- B];show h3)
  apply#[fn,sc,body,W,x,y]
 ·cases Y
end
end Mine
end
section
namespace MP
open PySem PyProof.Rows PySem.W
variable {G2:Stc}{icap:Nat}{cnm:Str}{ps:Arguments}{e:Expr}
abbrev jI (h:Heap)(p:Addr->Bool):Heap:=#[h.objs.mapIdx λi o=>bif p i then o else {cls:=.none,data:=.freed},h.life]
def eE (h:Heap)(p:Addr->Bool)(a:Addr):(jI h p).get? a=bif p a then h.get? a else none:=by
 unfold jI Heap.get?;dsimp only;rw[Array.getElem?_mapIdx];cases p a
 ·cases h.objs[a]?<;>rfl
 ·cases h.objs[a]?<;>rfl
abbrev iA (G:Stc)(h:Heap)(f c d:Addr)(cap:Str->Bool)(kk:Nat)(v:V):Stc:=
 {G with hb:=jI h λa=>(G.hb.get? a).isSome||(decide (a=f)||(decide (a=c)||decide (a=d))),cap:=cap,clo:=λk cs a=>G.clo k cs a\/(k=kk/\cs=[v]/\a=f)}
mutual
theorem VR.turn {G:Stc}{h:Heap}(e:G2.cM=G.cM)(hb:∀a o,G.hb.get? a=some o->G2.hb.get? a=some o)(W:∀k cs a,G.clo k cs a->G2.clo k cs a):{v:V}->{w:Value}->VR G h v w->VR G2 h v w
 |.none=>λx=>x
 |.bool _=>λx=>x
 |.int _=>λx=>x
 |.str _=>λx=>x
 |.L _=>λx=>x
 |.dct _=>λx=>x
 |.set _=>λx=>x
 |.obj _=>λx=>x
 |.T _=>λZ=>by have#[a,ws,n,Y,g,r]:=Z;apply#[a,ws,n,Y,g,VRs.turn e hb W r]
 |.mt _=>λZ=>by have#[a,ws,n,dd,Y,g,r]:=Z;apply#[a,ws,n,dd,Y,by rw[e];show g,VRs.turn e hb W r]
 |.iE _=>λx=>x
 |.jC _=>λx=>x
 |.clo _ _=>λZ=>by have#[a,o,Y,q,g,r]:=Z;apply#[a,o,Y,W _ _ _ q,hb _ _ g,r]
 |.ro _=>λZ=>by have#[a,ws,n,Y,g,r]:=Z;apply#[a,ws,n,Y,hb _ _ g,r]
theorem VRs.turn {G:Stc}{h:Heap}(e:G2.cM=G.cM)(hb:∀a o,G.hb.get? a=some o->G2.hb.get? a=some o)(Z:∀k cs a,G.clo k cs a->G2.clo k cs a):{vs:List V}->{ws:List Value}->VRs G h vs ws->VRs G2 h vs ws
 | []=>λx=>x
 |_::_=>λY=>by have#[w,us,W,a,r]:=Y;apply#[w,us,W,VR.turn e hb Z a,VRs.turn e hb Z r]
end
def DRs.turn {G:Stc}{h:Heap}(e:G2.cM=G.cM)(hb:∀a o,G.hb.get? a=some o->G2.hb.get? a=some o)(Z:∀k cs a,G.clo k cs a->G2.clo k cs a):{es:List (Key×V)}->{ds:List (Key×Value)}->DRs G h es ds->DRs G2 h es ds
 | []=>λx=>x
 |_::_=>λY=>by have#[w,us,W,a,r]:=Y;apply#[w,us,W,a.turn e hb Z,DRs.turn e hb Z r]
def OV.turn {G:Stc}{h:Heap}(e:G2.cM=G.cM)(hb:∀a o,G.hb.get? a=some o->G2.hb.get? a=some o)(Z:∀k cs a,G.clo k cs a->G2.clo k cs a){v:Option V}{w:Option Value}(x:OV G h v w):OV G2 h v w:=by
 cases v<;>cases w<;>first|show x|show VR.turn e hb Z x
section
variable {G:Stc}{σ:St}{env:Env}{ρ:Fr}{h₀ h:Heap}{f c d:Addr}{cap:Str->Bool}{kk:Nat}{v:V}
structure Turn (G:Stc)(σ:St)(env:Env)(h₀ h:Heap)(f c d:Addr)(cap:Str->Bool)(icap:Nat)(cnm:Str):Prop where
 capm:∀x,cap x=false->G.cap x=false
 cap1:cap cnm=true
 fnew:h₀.objs.size<=f
 cnew:h₀.objs.size<=c
 name:env.scope.names[icap]?=some (cnm,.cell)
 cell:env.cells.lookup cnm=some d
def Turn.base (t:Turn G σ env h₀ h f c d cap icap cnm)(R:Rel G σ h)(a:Addr)(o:Obj)(e:G.hb.get? a=some o):(iA G h f c d cap kk v).hb.get? a=some o:=by
 show(jI h _).get? a=_;rw[eE,e];show R.base a o e
def Turn.out (t:Turn G σ env h₀ h f c d cap icap cnm){a:Addr}(U:G.hb.get? a=none)(W:(h₀.get? a).isSome=true)(Y:a≠d):(iA G h f c d cap kk v).hb.get? a=none:=by
 have Z:a<h₀.objs.size:=by have#[o,e]:=bt.mp W;show gv e
 have B:a≠f:=gn (gz Z t.fnew);have I:a≠c:=gn (gz Z t.cnew);show(jI h _).get? a=_;rw[eE,U,dk B,dk I,dk Y];rfl
def Turn.rel (t:Turn G σ env h₀ h f c d cap icap cnm)(F:FR G σ env ρ h₀)(W:Rel G σ h₀)(R:Rel G σ h):Rel (iA G h f c d cap kk v) σ h:=by
 have hb:=t.base (kk:=kk) (v:=v) R;have Y:∀k cs a,G.clo k cs a->(iA G h f c d cap kk v).clo k cs a:=λ_ _ _ q=>.inl q;have#[cc,w,ab,B,_,U,ag,ai]:=F.cells icap cnm _ t.name (.inl rfl);have rfl:=ah (t.cell.symm.trans ab);apply#[λa xs e=>?_,λa es e=>?_,R.S,λa dd g e=>?_,R.Z,R.Ll,R.Dl,R.inj,R.apart,R.sep,λb dm=>?_,λb o e=>?_]
 ·have#[ws,n,hl,vs]:=R.L a xs e;apply#[ws,n,hl,VRs.turn (G:=G) (G2:=iA G h f c d cap kk v) rfl hb Y vs]
 ·have#[ds,hd,dr]:=R.D a es e;apply#[ds,hd,DRs.turn (G:=G) (G2:=iA G h f c d cap kk v) rfl hb Y dr]
 ·have#[x,#[m,hm,h1,h2],y]:=R.I a dd g e;apply#[x,#[m,hm,λi x q=>OV.turn (G:=G) (G2:=iA G h f c d cap kk v) rfl hb Y (h1 i x q),h2],y]
 ·have#[o,ho]:=W.mx dm;show t.out (R.new b dm) (by rw[ho];rfl) λq=>U (q▸dm)
 ·have e:(jI h _).get? b=some o:=e;rw[eE]at e;cases q:((G.hb.get? b).isSome||(decide (b=f)||(decide (b=c)||decide (b=d)))) with
  |true=>rw[q]at e;show e
  |false=>rw[q]at e;cases e
def Turn.fr (t:Turn G σ env h₀ h f c d cap icap cnm)(Z:FR G σ env ρ h₀)(R:Rel G σ h)(F:FR G σ env ρ h):FR (iA G h f c d cap kk v) σ env ρ h:=by
 have hb:=t.base (kk:=kk) (v:=v) R;have Y:∀k cs a,G.clo k cs a->(iA G h f c d cap kk v).clo k cs a:=λ_ _ _ q=>.inl q;have#[m,hm,hv]:=F.ns;apply#[#[m,hm,λi x e=>OV.turn (G:=G) (G2:=iA G h f c d cap kk v) rfl hb Y (hv i x e)],λi x k e hk=>?_,F.inj,F.loc,F.notfrz,?_,F.allc]
 ·have#[B,w,W,h2,h3,h4,I,U]:=F.cells i x k e hk;apply#[B,w,W,h2,OV.turn (G:=G) (G2:=iA G h f c d cap kk v) rfl hb Y h3,h4,I,λq=>?_];have#[ab,w',g1,#[o,g2,_],_]:=Z.cells i x k e hk;have rfl:=ah (W.symm.trans g1);apply t.out (U (t.capm x q)) (by rw[g2];rfl) λr=>?_;have hi:=F.inj i icap x cnm k _ B e t.name hk (.inl rfl) W (r▸t.cell);subst hi;rw[t.name]at e;cases e;rw[show(iA G h f c d cap kk v).cap cnm=cap cnm from rfl,t.cap1]at q;cases q
 ·have#[B,w,W,h2,h3,h4,I,U]:=Z.cells icap cnm _ t.name (.inl rfl);clear U;have rfl:=ah (t.cell.symm.trans W);have#[m,#[o,es,ep,ho,_],_]:=Z.ns;show t.out F.new (by rw[ho];rfl) λq=>I q.symm
end
abbrev xNm:Str:="x"
structure CQ (ps:Arguments)(lsc:Scope)(cnm:Str):Prop where
 kind:lsc.kind=.function
 co:lsc.isCoroutine=false
 gen:lsc.isGenerator=false
 names:lsc.names=[(xNm,NameKind.«local»),(cnm,NameKind.free)]
 plain:uw ps=true
 args:ps.args.map (·.arg)=[xNm]
 dflt:ps.defaults=[]
 kwd:ps.kw_defaults=[]
def EX {env:Env}(Y:ps.defaults=[])(Z:ps.kw_defaults=[]):defaultsOf ps env=([],[]):=by
 have#[a,b,c,d,e,f,g]:=ps;subst Y Z;rfl
section
variable {G:Stc}{A:Around}{E:QqV}{s:Shared}{env:Env}{ρ:Fr}{σ:St}
structure vN (G G2:Stc)(cap:Str->Bool)(kk:Nat)(f:Addr)(v:V):Prop where
 prog:G2.prog=G.prog
 w:G2.w=G.w
 cM:G2.cM=G.cM
 cS:G2.cS=G.cS
 attrs:G2.attrs=G.attrs
 gl:G2.gl=G.gl
 cap:G2.cap=cap
 clo:∀k cs a,G2.clo k cs a↔G.clo k cs a\/(k=kk/\cs=[v]/\a=f)
 hb:∀a o,G.hb.get? a=some o->G2.hb.get? a=some o
structure CR (G:Stc)(σ:St)(env:Env)(h:Heap)(mg:Str->Option Value)(c P:Addr)(ps:Array Value):Prop where
 g:h.Ns mainGlobals mg
 code:env.code=.ref c
 hd:CodeHd h c P
 tab:h.get? P=some (tabObj ps)
 ne:mainGlobals≠P
 bu:h.BuiltinsAt mg P
 Pb:G.hb.get? P=none
 Pd:¬σ.dom P
 PX:P∉envX env
def xR {Y:Scope}{p2:Pos}{c P:Addr}{b:Int}{mg:Str->Option Value}{cap:Str->Bool}{kk:Nat}{pl:Array Value}{Q:QqV}(L:CQ ps Y cnm)(hx:cnm≠xNm)(eo:yg env)(F:FR G σ env ρ s.heap)(R:Rel G σ s.heap)(bv:G.hb.NoLimit)
  (cx:∀x,cap x=false->G.cap x=false) (ao:cap cnm=true) (ag:env.scope.names[icap]?=some (cnm,.cell)) (hv:ρ icap=some (.int b)) (I:CR G σ env s.heap mg c P pl) (ht:TriplesOk pl.toList) (df:codeAmong p2 pl.toList=none)
  (k:∀G2 f s' B,vN G G2 cap kk f (.int b)->dS G2 f 1 [.int b] Y e->FR G2 σ env ρ s'.heap->Rel G2 σ s'.heap->VR G2 s'.heap (.clo kk [.int b]) (.ref f)->s'.heap.get? P=some (tabObj (pl++#v[rawInt p2.line,rawInt p2.col,.ref B]))->G2.hb.get? P=none->(∀a o,a≠P->s.heap.get? a=some o->s'.heap.get? a=some o)->fY s s'->Q (.ref f) s') :
  wpAny G.M A (eval (.Lambda ps e Y p2) env) Q E s:=by
 have#[hg,bd,C,hP,dr,hB,cn,dy,bn]:=I;have#[d,w,ab,be,ar,dV,dz,ea]:=F.cells icap cnm _ ag (.inl rfl);rw[hv]at ar;have#[w,rfl,t,rfl]:∃w',w=some w'/\VR G s.heap (.int b) w':=by
  cases w with
  |none=>show ar.elim
  |some w=>refine#[w,rfl,ar]
 have dv:closureFor Y env=pure [(cnm,d)]:=by
  have cl:∀n,(n,NameKind.free)∈Y.names->(env.cells.lookup n).isSome=true:=λn hn=>by
   rw[L.names]at hn;rcases bw.mp hn with q|hn
   ·cases q
   ·have rfl:=(rv (aq.mp hn)).1;rw[ab];rfl
  rw[iU cl,L.names];have e1:oz env.cells [(xNm,NameKind.«local»),(cnm,NameKind.free)] []=[(cnm,(env.cells.lookup cnm).getD 0)]:=rfl;rw[e1,ab];rfl
 apply kla_eval (EX L.dflt L.kwd) (kla_makeFunction (clos:=[(cnm,d)]) dv eo.globals hg bd C hP ht df dr hB λB ct h' tk ch ca dn bu ai=>?_);generalize aE:kla_obj "<lambda>" (env.qual ++ "<lambda>") ps e Y [(cnm,d)] ((mg "__name__").getD .none) B ct=Z;have ck:Z.cls=.type "function":=by rw[<- aE]
 have cd:Z.data=.func (kla_fn "<lambda>" (env.qual ++ "<lambda>") ps e Y [(cnm,d)] ((mg "__name__").getD .none) (.ref B) ct):=by rw[<- aE]
 have W:∀a o,a≠P->s.heap.get? a=some o->(h'.push Z).get? a=some o:=λa o hn e=>av _ (ch a o hn e);have dx:¬Frz (tabObj pl):=by
  rintro (⟨_,_,_,h⟩|⟨h|h,_⟩|⟨_,h⟩)<;>cases h
 have aj:je s.heap (h'.push Z):=λa o e f=>W a o (λhm=>dx (ah (e.symm.trans ((bx s.heap.get? hm).trans hP))▸f)) e;have F1:FR G σ env ρ (h'.push Z):=F.but (show ∀a o,a∉[P]->s.heap.get? a=some o->(h'.push Z).get? a=some o from λa o hn e=>W a o (λq=>hn (aq.mpr q)) e) aj λa ha=>by have rfl:=aq.mp ha;show bn
 have R1:Rel G σ (h'.push Z):=R.same (λa o e dm=>W a o (λhm=>dy (hm▸dm)) e) (λa o e f=>aj a o e f) λa o e=>W a o (λhm=>by
  rw[hm,cn]at e;cases e) (R.base a o e)
 have T:Turn G σ env s.heap (h'.push Z) h'.objs.size B d cap icap cnm:=#[cx,ao,gp ca (mh dn),ca,ag,ab];have R2:=T.rel (kk:=kk) (v:=.int b) F R R1;have F2:=T.fr (kk:=kk) (v:=.int b) F R1 F1;have bl:=T.base (kk:=kk) (v:=.int b) R1;have at2:∀a o,(a=h'.objs.size\/a=B\/a=d)->(h'.push Z).get? a=some o->(iA G (h'.push Z) h'.objs.size B d cap kk (.int b)).hb.get? a=some o:=λa o hq e=>by
  show(jI _ _).get? a=_;rw[eE,e];rcases hq with rfl|rfl|rfl<;>simp
 have cb:(iA G (h'.push Z) h'.objs.size B d cap kk (.int b)).hb.get? h'.objs.size=some Z:=at2 _ _ (.inl rfl) (cf _ (by rw[<- aE];rfl));have U:(iA G (h'.push Z) h'.objs.size B d cap kk (.int b)).hb.IsCell d (some (.int b t)):=by
  have#[o,ho,hd]:=be;apply#[o,at2 _ _ (.inr (.inr rfl)) (W _ _ (λhm=>bn (.tail _ (cq.mpr #[(cnm,d),mem_of_lookup ab,hm]))) ho),hd]
 apply k (iA G (h'.push Z) h'.objs.size B d cap kk (.int b)) h'.objs.size _ B #[rfl,rfl,rfl,rfl,rfl,rfl,rfl,λ_ _ _=>Iff.rfl,bl] ?_ F2 R2 #[h'.objs.size,Z,rfl,.inr #[rfl,rfl,rfl],cb,ck] (av _ ai) (T.out (kk:=kk) (v:=.int b) cn (by rw[hP];rfl) λq=>bn (.tail _ (cq.mpr #[(cnm,d),mem_of_lookup ab,q.symm]))) W .rfl;apply#[bv.keeps bl,L.kind,L.co,L.gen,?_,Z,_,cb,cd,rfl,rfl,rfl,rfl,?_,L.plain,?_,?_,rfl,λi x q=>?_,λi j x y cc q1 q2 _ _=>?_,λp hp=>?_,λi x kk q hk=>?_]
 ·rw[L.names];simpa using hx.symm
 ·have#[dL,oc,vs,tt,e2,dc,hd,da]:=bu;clear k W bl F2 ai R2 cd T;cases e2;apply#[B,oc,vs,tt,rfl,at2 _ _ (.inr (.inl rfl)) (av _ dc),hd,da]
 ·rw[L.args,L.names];rfl
 ·have:=bx List.length L.args;simpa using this
 ·rw[L.names]at q
  match i with
  |0=>cases q
  |1 =>
   cases q;apply#[az 1,ao,d,.int b t,.int b,by simp[kla_fn],U,rfl,.int _ _]
  |i+2=>cases q
 ·rw[L.names]at q1 q2
  match i,j with
  |0,_=>cases q1
  |_,0=>cases q2
  |1,1=>rfl
  |i+2,_=>cases q1
  |_,j+2=>cases q2
 ·have rfl:=aq.mp hp;have#[o,ho,_]:=U;apply#[o,ho]
 ·rw[L.names]at q
  match i with
  |0=>show Nat.zero_lt_one
  |1=>cases q;show absurd rfl hk
  |i+2=>cases q
def JD {Z:Scope}{nm:Str}{p1 W p3:Pos}{Y:Nat}{c P:Addr}{b:Int}{mg:Str->Option Value}{cap:Str->Bool}{kk:Nat}{pl:Array Value}{Q:Flow->Shared->Prop}(L:CQ ps Z cnm)(hx:cnm≠xNm)(eo:yg env)(F:FR G σ env ρ s.heap)(R:Rel G σ s.heap)(ag:G.hb.NoLimit)
  (aj:∀x,cap x=false->G.cap x=false) (ao:cap cnm=true) (aE:cap nm=false) (B:env.scope.names[icap]?=some (cnm,.cell)) (U:env.scope.names[Y]?=some (nm,.cell)) (hv:ρ icap=some (.int b)) (I:CR G σ env s.heap mg c P pl) (ht:TriplesOk pl.toList) (ar:codeAmong W pl.toList=none)
  (k:∀G2 f s' c',vN G G2 cap kk f (.int b)->dS G2 f 1 [.int b] Z e->FR G2 σ env (upd ρ Y (.clo kk [.int b])) s'.heap->Rel G2 σ s'.heap->s'.heap.get? P=some (tabObj (pl++#v[rawInt W.line,rawInt W.col,.ref c']))->(∀a o,a≠P->s.heap.get? a=some o->¬σ.dom a->a∉envX env->s'.heap.get? a=some o)->fY s s'->Q .next s') :
  wpAny G.M A (exec (.Assign [.Name nm p1] (.Lambda ps e Z W) p3) env) Q E s:=by
 rw[exec_Assign];apply ae (gj ?_);rw[td (value:=.Lambda ps e Z W) rfl];apply ae (af ?_);rw[aw (by decide)];have bl:=I.Pd;have bn:=I.PX;apply ae (xR (kk:=kk) L hx eo F R ag aj ao B hv I ht ar λG2 f s' c' D LA F2 R2 vr ab _ bd sm=>?_);have hw:swp env.scope [.Name nm p1] (.Lambda ps e Z W)=some none:=rfl;rw[oC hw rfl (by unfold Env.blockKind;rw[eo.kind];rfl)];apply ae (af ?_);have#[cc,w2,be,cb,ca,at2,bu,bv,ai]:=G2;have#[g1,g2,g3,g4,g5,g6,g7,g8,g9]:=id D;dsimp only at g1 g2 g3 g4 g5 g6 g7 g8 g9;subst g1 g2 g7;show wpAny G.M A (do (assign (.Name nm p1) env (.ref f));pure Flow.next) _ _ _;apply ae (assign_Name (zv (G:=#[G.prog,G.w,be,cb,ca,at2,bu,bv,ai]) (v:=.clo kk [.int b]) eo F2 R2 U #[rfl,λ_=>aE] vr λs3 F3 R3 x3=>af ?_));show k _ f s3 c' D LA F3 R3 (x3.keep _ _ ab bl bn) (λa o hn e hd hX=>x3.keep _ _ (bd a o hn e) hd hX) (sm.go x3)
def dS.turn {cap:Str->Bool}{kk n:Nat}{f a:Addr}{v:V}{cs:List V}{sc:Scope}(D:vN G G2 cap kk f v)(Z:∀x,cap x=false->G.cap x=false)(K:dS G a n cs sc e):dS G2 a n cs sc e:=by
 have#[lim,kind,co,gen,nd,o,fd,h1,h2,h3,h4,h5,h6,h7,h8,h9,ab,B,I,U,W,Y]:=K;apply#[lim.keeps D.hb,kind,co,gen,nd,o,fd,D.hb _ _ h1,h2,h3,h4,h5,h6,h7.keeps D.hb,h8,h9,ab,B,λi x q=>?_,U,λp hp=>?_,Y]
 ·have#[g1,g2,c,w,u,g3,#[oc,g4,ag],g5,g6]:=I i x q;apply#[g1,?_,c,w,u,g3,#[oc,D.hb _ _ g4,ag],g5,?_]
  ·rw[D.cap];cases q:cap x with
   |true=>rfl
   |false=>rw[Z x q]at g2;cases g2
  ·show VR.mono (λb o e _=>D.hb b o e) (VR.turn D.cM D.hb (λk cs a q=>(D.clo k cs a).mpr (.inl q)) g6)
 ·have#[o,ho]:=W p hp;apply#[o,D.hb _ _ ho]
end
abbrev IS (C:Cal)(m:Nat)(due:Ex)(ρ:Fr)(K:St->Prop)(v:V)(σ:St):Prop:=
 ∃a,v=.obj a/\(σ.I a).isSome/\C m [v] σ λr σ=>wpE C due ρ σ λu σ=>iJ .ne r u σ λt=>t=false/\K σ
abbrev tP (C:Cal)(args:Exs)(m:Nat)(due:Ex)(f:V)(ρ:Fr)(σ:St)(K:St->Prop):Prop:=
 wh C args ρ σ λvs σ=>∀a d,σ.I a=none->C 0 (.obj a::f::vs) (σ.jv a d λ_=>none) λv σ=>v=.none/\IS C m due ρ K (.obj a) σ
section
variable {G:Stc}{A:Around}{E:QqV}{s:Shared}{env:Env}{ρ:Fr}{σ:St}{T:Tab}{C:Cal}{d:Nat}{sc:Scope}
structure OU (G G2:Stc)(env:Env)(ρ:Fr)(σ:St)(s:Shared)(cap:Str->Bool)(kk:Nat)(f:Addr)(v:V)(P:Addr)(tb:Obj)(σ':St)(s':Shared):Prop where
 D:vN G G2 cap kk f v
 F:FR G2 σ' env ρ s'.heap
 R:Rel G2 σ' s'.heap
 tab:s'.heap.get? P=some tb
 Pb:G2.hb.get? P=none
 keep:∀a o,a≠P->s.heap.get? a=some o->¬σ.dom a->a∉envX env->s'.heap.get? a=some o
 same:fY s s'
 dom:∀a,σ'.dom a->σ.dom a\/s.heap.get? a=none
def uZ {ps:Arguments}{e:Expr}{Z:Scope}{cnm:Str}{p2 p3 ap p4 p5 p6:Pos}{icap:Nat}{c P:Addr}{b:Int}{mg:Str->Option Value}{cap:Str->Bool}{kk m:Nat}{pl:Array Value}{Q:Flow->Shared->Prop}{x:Expr}{mn:Str}{args:Exs}{Y:Ex}{l:List Expr}{y:Expr}{ys:List Stmt}{K:St->Prop}{C1:Cal}(L:CQ ps Z cnm)(hx:cnm≠xNm)(W:Cx G sc d A env ρ σ s)(ar:G.hb.NoLimit)
  (bl:∀x,cap x=false->G.cap x=false) (bn:cap cnm=true) (ai:env.scope.names[icap]?=some (cnm,.cell)) (hv:ρ icap=some (.int b)) (I:CR G σ env s.heap mg c P pl) (ht:TriplesOk pl.toList) (cd:codeAmong p2 pl.toList=none)
  (T1:TabOk G T C1 d) (T2:∀G2 f,vN G G2 cap kk f (.int b)->dS G2 f 1 [.int b] Z e->TabOk G2 {T with cap:=cap} C d)
  (h1:glob T sc (lj x) (.ref T.cS)=true) (h2:noStar (rq {T with cap:=cap} args sc l)=true) (h3:nM {T with cap:=cap} args sc l=true) (h4:T.meths.lookup m=some mn) (h5:(ap.endLine==p4.line)=true) (h6:okE {T with cap:=cap} Y sc y=true) (h7:behindInMarks .NotEq (reE {T with cap:=cap} Y sc y)=false) (ck:mu (.Call (nm x) (.Lambda ps e Z p2::rq {T with cap:=cap} args sc l) [] p3)=true)
  (hw:tP C args m Y (.clo kk [.int b]) ρ σ K)
  (k:∀G2 f σ' s' c',OU G G2 env ρ σ s cap kk f (.int b) P (tabObj (pl++#v[rawInt p2.line,rawInt p2.col,.ref c'])) σ' s'->dS G2 f 1 [.int b] Z e->K σ'->Q .next s') :
  wpAny G.M A (exec (.If (.Compare (.Call (.Attribute (.Call (nm x) (.Lambda ps e Z p2::rq {T with cap:=cap} args sc l) [] p3) mn ap) [] [] p4) [.NotEq] [reE {T with cap:=cap} Y sc y] p5) ys [] p6) env) Q E s:=by
 have#[g1,g2,g3]:=qq T1 h1;have#[fi,dn,M]:=T1.init;have#[N,mN,of,X,_]:=id M.here;have cl:=I.Pd;have dr:=I.PX;apply wpAny_If (wj (mw ck rfl (by decide) h5 (Call_ (kn T1.g W.eo W.R (by rw[W.es];show g1) g2 (T1.cS▸g3) ?_))) h7);have aj:starEach (Expr.Lambda ps e Z p2::rq {T with cap:=cap} args sc l) env=(false,eval (.Lambda ps e Z p2) env)::starEach (rq {T with cap:=cap} args sc l) env:=rfl;apply callWith_cls X (spliced_more (xR (kk:=kk) L hx W.eo W.F W.R ar bl bn ai hv I ht cd λG2 f s2 c' D LA F2 R2 vr B be aE sm=>?_) aj) aj (jm h2 p3 env);have TB:=T2 G2 f D LA;have e9:=D.hb;have eM:G.M=G2.M:=by
  show model _ _=model _ _;rw[D.prog,D.w]
 rw[<- D.prog,<- D.w,eM];have c2:Cx G2 sc d A env ρ σ s2:=#[W.ao,W.es,W.eo,F2,R2];apply oN (G:=G2) (iL TB args sc l h2 h3 c2 hw) λvs σ1 s3 ws q bv r1 x1=>#[λa o g=>r1.base a o (e9 a o g),?_];have#[dv,bd,M2]:=TB.init;have d3:=TB.d3;rw[<- D.cS];apply nj (G:=G2) (t9 (G:=G2) (Q:=IS C m Y ρ K) TB.cal (dp .D .a (.k .aZ .A) d3) bd M2 W.ao q (.cons (vr.mono x1.frz) bv) r1) λv σ2 s4 w q2 cc r2 x2 df=>?_;have#[a,rfl,hI,q2]:=q2;have rfl:=cc;have#[fm,ch,MM]:=TB.meth m mn h4;have#[#[of,fd,ho,hd],hc]:=TB.cal.more (wu _ _) m fm ch;apply mT (G:=G2) MM r2 hI ?_;apply yw (G:=G2) (C:=C) (P:=λvs σ=>vs=[]/\σ=σ2) ho hd rfl md (c2.go r2 (x1.trans x2)) #[rfl,rfl] λdc ct s5 da q3 ag r3 x3=>?_;have#[rfl,rfl]:=q3;apply nj (G:=G2) (hc W.ao r3 (.cons (.obj a) ag) q2) λv4 cn s6 w4 q4 cb r4 x4=>?_;have ab:=(x1.trans x2).trans (x3.trans x4);apply nj (G:=G2) (kj TB Y sc y h6 (c2.go r4 ab) q4) λv5 bu s7 w5 q5 ca r5 x5=>?_;have U:=ab.trans x5;apply fI (G:=G2) (op:=.ne) W.ao r5 (cb.mono x5.frz) ca q5 λb q=>rf ?_;have#[rfl,q]:=q;rw[aw (by decide)];apply iH (k _ f bu _ c' #[D,F2.evo U.e,r5,U.keep _ _ B cl (λh=>nomatch h),be,λa o hn g hd hX=>U.keep _ _ (aE a o hn g) hd (λh=>nomatch h),sm.go U,λa dm=>?_] LA q);rcases U.dom a dm with q|q
 ·show .inl q
 ·apply .inr ?_;cases g:s.heap.get? a with
  |none=>rfl
  |some o =>
   by_cases hP:a=P
   ·clear k;subst hP;rw[B]at q;cases q
   ·rw[aE a o hP g]at q;cases q
end
end MP
end
section
open PySem PySem.W PyProof.Rows
set_option maxHeartbeats 0
namespace Mine
open MP
variable {env:Env}{hb:Heap}{G2:Stc}
abbrev st0:MP.St:=#[λ_=>none,λ_=>none,λ_=>none,λ_=>none,λ_=>none]
def X7 (G:Stc):Rel G st0 G.hb:=by
 apply#[λ_ _ e=>?_,λ_ _ e=>?_,λ_ _ e=>?_,λ_ _ _ e=>?_,λ_ _ e=>?_,λ_ _ e=>?_,λ_ _ e=>?_,λ_ _ _ _ _ e=>?_,λ_ _ _ e=>?_,λ_ _ _ _ _ _ e=>?_,λb d=>?_,λ_ _ e=>e]
 all_goals first|cases e|skip
 unfold MP.St.dom at d;simp[st0]at d
def UB (G:Stc){h:Heap}(hk:∀b o,G.hb.get? b=some o->h.get? b=some o):Rel G st0 h:=by
 have R:=X7 G;apply#[λ_ _ e=>(by cases e),λ_ _ e=>(by cases e),λ_ _ e=>(by cases e),λ_ _ _ e=>(by cases e),λ_ _ e=>(by cases e),R.Ll,R.Dl,R.inj,R.apart,R.sep,R.new,hk]
def ao0:AOk callerA 16:=#[rfl,by decide,by decide]
section
variable {P:Params}{h:Heap}
def WV {v:Value}{x:WData}(W:Well P h v x)(Z:WShape.has [] x .int=true):∃i t,v=.int i t/\x=.int i:=by
 cases W with
 |int i t=>refine#[i,t,rfl,rfl]
 |_=>show Bool.noConfusion (show false=true from Z)
def U0 {v:Value}{x:WData}(W:Well P h v x)(Z:WShape.has [] x (.list .int)=true):∃a vs xs,v=.ref a/\x=.list xs/\h.get? a=some {cls:=.type "list",data:=.seq vs.toArray}/\WellAll P h vs xs/\WShape.hasItems [] xs .int=true:=by
 cases W with
 | @list a vs xs e Y=>refine#[a,vs,xs,rfl,rfl,e,Y,(we _).symm.trans (show(WShape.hasItems [] xs .int||false)=true from Z)]
 |_=>show Bool.noConfusion (show false=true from Z)
def L7 {vs:List Value}{xs:List WData}(W:WellAll P h vs xs):(vs=[]/\xs=[])\/∃v us x ys,vs=v::us/\xs=x::ys/\Well P h v x/\WellAll P h us ys:=by
 cases W with
 |nil=>show .inl #[rfl,rfl]
 |cons W Z=>show .inr #[_,_,_,_,rfl,rfl,W,Z]
def ints_of {vs:List Value}:∀{xs:List WData},WellAll P h vs xs->WShape.hasItems [] xs .int=true->∃ns:List Int,xs=ns.map WData.int/\IntsAre vs ns:=by
 induction vs with
 |nil =>
  intro xs W Z;rcases L7 W with ⟨_,rfl⟩|⟨_,_,_,_,e,_⟩
  ·apply#[[],rfl,.nil]
  ·cases e
 |cons v vs Y =>
  intro xs W Z;rcases L7 W with ⟨e,_⟩|⟨_,_,x,ys,e,rfl,W1,Ws⟩
  ·cases e
  ·cases e;have#[B,U]:=MP.band (show(WShape.has [] x .int&&WShape.hasItems [] ys .int)=true from Z);clear Z;have#[ns,rfl,I]:=Y Ws U;have#[i,t,rfl,rfl]:=WV W1 B;apply#[i::ns,rfl,.cons i t I]
def ON {args:List WData}{vals:List Value}(W:WellAll P h vals args)(Z:WShape.hasAll [] args [.list .int]=true):∃(l:Addr) (vs:List Value) (ns:List Int),vals=[.ref l]/\args=[.list (ns.map WData.int)]/\h.get? l=some {cls:=.type "list",data:=.seq vs.toArray}/\IntsAre vs ns:=by
 rcases L7 W with ⟨_,rfl⟩|⟨v,us,x,ys,rfl,rfl,W1,Y⟩
 ·cases Z
 ·have#[h1,B]:=MP.band (show(WShape.has [] x (.list .int)&&WShape.hasAll [] ys [])=true from Z);rcases L7 Y with ⟨rfl,rfl⟩|⟨_,_,_,_,_,rfl,_⟩
  ·have#[a,vs,xs,rfl,rfl,e,Y,Z]:=U0 W1 h1;have U:=ints_of Y Z;clear Z;have#[ns,rfl,I]:=U;apply#[_,_,ns,rfl,rfl,e,I]
  ·show Bool.noConfusion (show false=true from B)
end
def UK (xs:List WData)(h:oO.pre.holds [] {args:=[.list xs]}=true):xs.length<=63:=by
 have e:oO.pre=.and (.not (.lt (.lit (.int 63)) (.len (.arg 0)))) (.lit (.bool true)):=by rfl
 rw[e]at h;have Y:WTm.value [] (.lt (.lit (.int 63)) (.len (.arg 0))) {args:=[.list xs]}=(less? (.int 63) (.int xs.length)).map WData.bool:=by rfl
 have I:less? (.int 63) (.int xs.length)=some (decide ((63:Int)<xs.length)):=by first|rfl|simp[less?]
 rw[I]at Y;by_cases Z:(63:Int)<xs.length
 ·have W:WTm.value [] (.not (.lt (.lit (.int 63)) (.len (.arg 0)))) {args:=[.list xs]}=some (.bool false):=by
   show(match WTm.value [] (.lt (.lit (.int 63)) (.len (.arg 0))) {args:=[.list xs]} with|some (.bool b)=>some (WData.bool (!b))|_=>none)=_;rw[Y];simp[Z]
  have U:WTm.value [] (.and (.not (.lt (.lit (.int 63)) (.len (.arg 0)))) (.lit (.bool true))) {args:=[.list xs]}=some (.bool false):=by
   show(match WTm.value [] (.not (.lt (.lit (.int 63)) (.len (.arg 0)))) {args:=[.list xs]} with
    |some (.bool false)=>some (WData.bool false)
    |some (.bool true)=>some (.bool true)
    |_=>none)=_
   rw[W]
  unfold WTm.holds at h;rw[U]at h;cases h
 ·(show dp (.k .A (.n 63)) .a (.ig (.n 63) .L) Z)
def RM:(λ(x y:List WData)=>oO.row.claim.post x (WData.bool true) y)=λx y=>true:=by kernel_rfl
def dE {h:Heap}{a:Addr}{o:Obj}(e:(frees h).get? a=some o):a≠260/\h.get? a=some o:=by
 unfold frees at e;by_cases c:a=260
 ·subst c;have Z:(h.update 260 λ_=>{cls:=.none,data:=.freed}).get? 260=none:=by
   unfold Heap.update Heap.get?;dsimp only;rw[Array.getElem?_modify];cases h.objs[(260:Nat)]?<;>rfl
  rw[Z]at e;cases e
 ·apply#[c,(lh _ _ (j4 c)).symm.trans e]
def pK {h:Heap}{a:Addr}{o:Obj}(c:a≠260)(e:h.get? a=some o):(frees h).get? a=some o:=(lh _ _ (j4 c)).trans e
def sT:(xs ys:List Stmt)->execs (xs++ys) env=(execs xs env>>=λf=>match f with|.next=>execs ys env|f=>pure f)
 | [],ys=>by
  rw[sv];show(pure_bind (m:=Sem) Flow.next (λf=>match f with|.next=>execs ys env|f=>pure f)).symm
 |x::xs,ys=>by
  rw[List.cons_append,execs_cons,execs_cons,bind_assoc];apply bx _ (funext λf=>?_);cases f with
  |next=>show sT xs ys
  |_=>show(pure_bind _ _).symm
def sU {M:Model}{A:Around}{E:QqV}(xs ys:List Stmt){s:Shared}{Q:Flow->Shared->Prop}(h:wpAny M A (execs xs env) (λf s'=>f=.next/\wpAny M A (execs ys env) Q E s') E s):wpAny M A (execs (xs++ys) env) Q E s:=by
 rw[sT];apply ae (cg h (λf s' q=>?_) λ_ _ x=>x);have#[rfl,q]:=q;show q
public abbrev noc:Nat->List V->Addr->Prop:=λ_ _ _=>False
abbrev Ph (K:Int->Fr->MP.St->Prop)(i:Nat)(fl:Fl)(ρ:Fr)(σ:MP.St):Prop:=fl=.next/\∃n,ρ i=some (.int n)/\K n ρ σ
abbrev K3 (b:Int)(ρ:Fr)(σ:MP.St):Prop:=fw (fk R10.P 6) R10.sC (upd ρ 11 (.clo 0 [.int b])) σ (jD λv _=>v=.bool true)
abbrev K2 (n:Int)(ρ:Fr)(σ:MP.St):Prop:=tP (fk R10.P 6) R10.yG 7 R10.O7 (.clo 1 [.int n]) ρ σ λσ=>fw (fk R10.P 6) R10.DX ρ σ (Ph K3 20)
def PY {k:Nat}{b:Ex}{c:Str}{l:Arguments×Expr×Scope×Pos}(h:NJ k b c l=true):CQ l.1 l.2.2.1 c/\okE (rx k) b l.2.2.1 l.2.1=true:=by
 unfold NJ at h;have#[d1,h]:=MP.band h;have#[d2,h]:=MP.band h;have#[d3,h]:=MP.band h;have#[d4,h]:=MP.band h;have#[d5,h]:=MP.band h;have#[d6,h]:=MP.band h;have#[d7,h]:=MP.band h;have#[d8,d9]:=MP.band h;apply#[#[ay d1,(fh _).mp d2,(fh _).mp d3,ay d4,d5,ay d6,um.mp d7,um.mp d8],d9]
structure KY (h0:Heap):Prop where
 e0:h0.isNs mainGlobals=true
 code:∀h:Heap,(∀b o,h0.get? b=some o->h.get? b=some o)->CodeHd h 262 260
 built:∀h:Heap,(∀b o,h0.get? b=some o->h.get? b=some o)->h.BuiltinsAt (h0.nsMap mainGlobals) 260
def KY.Q0 {h0 h:Heap}(L:KY h0){G:Stc}{σ:MP.St}{pl:Array Value}(R:Rel G σ h)(hk:∀b o,h0.get? b=some o->G.hb.get? b=some o)(Y:env.code=.ref 262)(Z:h.get? 260=some (tabObj pl))(hb:G.hb.get? 260=none)(hd:¬σ.dom 260)(W:260∉envX env):CR G σ env h (h0.nsMap mainGlobals) 262 260 pl:=
 have k:=λb o e=>R.base b o (hk b o e)
 #[(uh L.e0).keeps k,Y,L.code h k,Z,by decide,L.built h k,hb,hd,W]
def S6 {h0:Heap}(e0:h0.isNs mainGlobals=true)(l3:codeOk h0=true)(l4:vG h0=true):KY h0/\∃o fd W Y,h0.get? 263=some o/\o.data=.func fd/\fd.code=.ref 262/\h0.get? 262=some W/\W.cls=.type "code"/\W.data=.fields Y/\Y[11]?=some (.ref 260):=by
 unfold codeOk at l3;have#[m1,Z]:=MP.band l3;have#[I,bd,m1]:=MP.any_some m1;have#[B,ab,ai]:=nT bd;have U:B.data=.func I:=mI ai;have m1:I.code=.ref 262:=ay m1;have#[W,ag,Z]:=MP.any_some Z;have#[m3,Z]:=MP.band Z;have#[Y,aj,Z]:=MP.any_some Z;unfold Q7 at Z;have#[v1,Z]:=MP.band Z;have#[v2,Z]:=MP.band Z;have#[v3,Z]:=MP.band Z;have#[v4,Z]:=MP.band Z;have#[v5,v6]:=MP.band Z;have ao:W.data=.fields Y:=iT aj;unfold vG at l4;have#[n1,n2]:=MP.band l4;have#[om,aE,n2]:=MP.any_some n2;have#[n3,n2]:=MP.band n2;have#[n4,n5]:=MP.band n2;have ar:om.data=.plain:=by
  cases hq:om.data<;>first|show rfl|(rw[hq]at n5;show Bool.noConfusion (show false=true from n5))
 apply#[#[e0,λh k=>#[W,Y,_,_,_,_,_,_,_,k _ _ ag,ay m3,ao,ay v1,ay v2,ay v3,ay v4,ay v5,ay v6,by decide],λh k=>#[4,om,ay n1,by decide,by decide,by decide,k _ _ aE,ay n3,ay n4,ar]],B,I,W,Y,ab,U,m1,ag,ay m3,ao,ay v1]
def Q8 {x:Str}(e:R10.xr 2 x=false):R10.xr 1 x=false:=(Bool.or_eq_false_iff.mp e).1
def KN {w:World}{h0:Heap}{cp cap:Str->Bool}{clo:Nat->List V->Addr->Prop}{kk:Nat}{f:Addr}{v:V}(D:vN (GG w h0 hb cp clo) G2 cap kk f v):G2=GG w h0 G2.hb cap G2.clo:=by
 have#[pr,w2,B,aj,ai,at2,ab,ag,I]:=G2;have#[g1,g2,g3,U,W,Y,Z,_,_]:=D;dsimp only at g1 g2 g3 U W Y Z;subst g1 g2 g3 U W Y Z;rfl
section
variable {w:World}{h0:Heap}(ob:Obs w.params h0)
include ob
def X5 (hk:∀b o,h0.get? b=some o->hb.get? b=some o):TabOk (GG w h0 hb (R10.xr 0) noc) (rx 0) (fk R10.P 6) 15:=by
 have Z:=HU ob hk 0 (by decide) (λk cs a (q:False)=>q.elim);have#[W,Y]:=o7 Z 6;show Z.base.tab W Y (by decide)
def U4 (hk:∀b o,h0.get? b=some o->hb.get? b=some o){e:Expr}{sc:Scope}{n:Int}{f:Addr}(D:vN (GG w h0 hb (R10.xr 0) noc) G2 (R10.xr 1) 1 f (.int n))(L:dS G2 f 1 [.int n] sc (reE (rx 1) R10.uK sc e))(h:okE (rx 1) R10.uK sc e=true):TabOk G2 (rx 1) (fk R10.P 6) 15:=by
 have Y:∀b o,h0.get? b=some o->G2.hb.get? b=some o:=λb o e=>D.hb _ _ (hk b o e);have Z:=D.clo;rw[KN D]at L ⊢;have W:=HU (clo:=G2.clo) ob Y 1 (by decide) λk cs a q=>by
  rcases (Z k cs a).mp q with q|⟨rfl,rfl,rfl⟩
  ·show(show False from q).elim
  ·apply#[1,_,_,R10.uK,rfl,L,h,rfl]
 have#[I,U]:=o7 W 6;show W.base.tab I U (by decide)
def X4 (hk:∀b o,h0.get? b=some o->hb.get? b=some o){e1 e2:Expr}{W Y:Scope}{n b:Int}{f1 f2:Addr}{Z:Stc}(D1:vN (GG w h0 hb (R10.xr 0) noc) G2 (R10.xr 1) 1 f1 (.int n))(B:dS G2 f1 1 [.int n] W (reE (rx 1) R10.uK W e1))(h1:okE (rx 1) R10.uK W e1=true)
  (I:vN G2 Z (R10.xr 2) 0 f2 (.int b)) (L2:dS Z f2 1 [.int b] Y (reE (rx 2) SM.EG Y e2)) (h2:okE (rx 2) SM.EG Y e2=true):TabOk Z (rx 2) (fk R10.P 6) 15:=by
 have B:=B.turn I λx q=>by rw[D1.cap];show Q8 q
 have ab:∀b o,h0.get? b=some o->Z.hb.get? b=some o:=λb o e=>I.hb _ _ (D1.hb _ _ (hk b o e));have U:=λk cs a=>(I.clo k cs a).trans (or_congr (D1.clo k cs a) Iff.rfl);have e3:Z=GG w h0 Z.hb (R10.xr 2) Z.clo:=by
  rw[KN D1]at I;show KN I
 rw[e3]at B L2 ⊢;have PO:=HU (clo:=Z.clo) ob ab 2 (by decide) λk cs a q=>by
  rcases (U k cs a).mp q with (q|⟨rfl,rfl,rfl⟩)|⟨rfl,rfl,rfl⟩
  ·show(show False from q).elim
  ·apply#[1,_,_,R10.uK,rfl,B,h1,rfl]
  ·apply#[1,_,_,SM.EG,rfl,L2,h2,rfl]
 have#[hc,hl]:=o7 PO 6;show PO.base.tab hc hl (by decide)
end
def KQ {p q:Pos}(h:apart p q=true)(v:Value):codeAmong q [rawInt p.line,rawInt p.col,v]=none:=by
 unfold apart at h;show(if _ then some v else none)=none;rw[aw];show λe=>by rw[e]at h;cases h
def VU (dc:∀ns:List Int,ns.length<=63->fw (fk R10.P 6) R10.DO (frameOf #[1,[],R10.DO] [.ro ns]) st0 (Ph K2 21)):oO.Holds:=by
 apply head λd fm hd w s₀ s₁ mg mb Gr bu a o pm cd doc dV kV ho dr hcd ej cn be args vals as cb da ag aE ca=>?_;clear ca ag da ej hcd dr ho;have#[ob,er]:=XE w;have df:∀b o,(H1 w).get? b=some o->s₁.heap.get? b=some o:=bu;have Z:(WShape.hasAll [] args [.list .int]&&oO.pre.holds [] {args:=args})=true:=cb;rw[dw]at Z;have#[l,vs,ns,rfl,rfl,hl,I]:=ON aE Z.1;have ct:ns.length<=63:=by
  simpa using UK _ Z.2
 have hP:s₁.heap.get? 260=some (tabObj #v[]):=df _ _ er;have hk:∀b o,(frees (H1 w)).get? b=some o->(frees s₁.heap).get? b=some o:=λb o e=>pK (dE e).1 (df _ _ (dE e).2);generalize frees (H1 w)=h0 at ob hk;have dn:∀b o,h0.get? b=some o->s₁.heap.get? b=some o:=λb o e=>(dE (hk b o e)).2;have e0:=(wZ ob).1;have ha:a=263:=by
  have e1:=Gr.T.g.eq_nsMap;have e4:=gl8 ob "law" (.ref 263) (by decide +kernel);have e2:=((uh e0).keeps dn).eq_nsMap;have e3:d.name=("law":Str):=by
   have:(defOf qv oO.row.name).map (λp=>p.1.name)=some ("law":Str):=by kernel_rfl
   rw[hd]at this;show ah this
  rw[e1,<- e2,e3]at cn;unfold NU at e4;rw[cn]at e4;cases e4;rfl
 subst ha;have lim:=ND (hb:=frees s₁.heap) ob hk;have e1:=ob.law;unfold IP at e1;apply MP.QA e1 λl1 l2 l3 l4=>?_;have#[x,hx,FA,ed]:=JA (G:=GG w h0 (frees s₁.heap) (R10.xr 0) noc) hk lim l1;have hB:=ob.lawB;rw[hx]at hB l2;have ec:=bx Prod.snd (ah hB);have l2:S7 x=true:=l2;unfold S7 at l2;apply MP.W9 l2 λc1 c2 c3 c4 c5 c6 c7 c8 c9=>?_;have#[ez,aj]:=PY c6;have#[ey,dL]:=PY c7;unfold ifC at c8;apply MP.Q9 c8 λf1 f2 f3 f4 f5 f6 f7=>?_;have#[LW,ea,et,oc,ev,cc,bd,m1,ef,cl,ck,ch]:=S6 e0 l3 l4;have T0:=X5 ob hk;have base:Rel (GG w h0 (frees s₁.heap) (R10.xr 0) noc) st0 s₁.heap:=UB _ λb o e=>(dE e).2;have eg:(frees s₁.heap).get? l=some {cls:=.type "list",data:=.seq vs.toArray}:=pK (λq=>by
  subst q;rw[hP]at hl;cases hl) hl
 apply qd (y8 (G:=GG w h0 (frees s₁.heap) (R10.xr 0) noc) (b:=R10.DO) (σ:=st0) (vs:=[.ro ns]) (d:=15) FA (λA' E' env s' B bl x' hX=>?_) ao0 base %[.ro eg I|0] (az 1) (az 1));have W:env.code=.ref 262:=by
  rw[bl ea et (hk _ _ cc) bd];show m1
 have ab:260∉envX env:=λq=>by
  have:=hX _ q;rw[hP]at this;cases this
 have ar:∀b,¬st0.dom b:=λb U=>by
  unfold MP.St.dom at U;simp[st0]at U
 have eb:(frees s₁.heap).get? 260=none:=by
  cases hq:(frees s₁.heap).get? 260 with
  |none=>rfl
  |some o=>show absurd rfl (dE hq).1
 rw[ec];apply sU _ _ (cg (kF T0 R10.DO x.2 ed B (dc ns ct)) (λf s2 lf=>?_) λ_ _ q=>q);have#[fl,ρ,σ,fr,q,Fb,Rb,x2]:=lf;have#[rfl,n,hn,q]:=q;cases fr;apply#[rfl,?_];have xx:=x'.trans x2;have en:=xx.keep _ _ hP (ar _) ab;have ai:∀b,σ.dom b->s₁.heap.get? b=none:=λb U=>(xx.dom b U).resolve_left (ar b);have ex:¬σ.dom 260:=λU=>by
  have:=ai _ U;rw[hP]at this;cases this
 apply mj ?_;apply uZ (C:=fk R10.P 6) (C1:=fk R10.P 6) (d:=15) (cap:=R10.xr 1) (kk:=1) (m:=7) (T:=rx 0) ez (by decide +kernel) (B.at Fb Rb) lim (λ_ _=>rfl) (by decide +kernel) (by rw[B.es];show ay c3) hn (LW.Q0 Rb hk W en eb ex ab) trivial rfl T0 (λG2 f D L=>U4 ob hk D L aj) f1 f2 f3 rfl f4 f5 ((fh _).mp f6) f7 q λG2 f bn s3 c' Y L1 q=>?_;have T1:=U4 ob hk Y.D L1 aj;have ei:∀b o,h0.get? b=some o->G2.hb.get? b=some o:=λb o e=>Y.D.hb _ _ (hk b o e);have bv:∀b,bn.dom b->s₁.heap.get? b=none:=λb U=>by
  rcases Y.dom b U with q|q
  ·show ai b q
  ·cases hq:s₁.heap.get? b with
   |none=>rfl
   |some o =>
    have:=xx.keep b o hq (ar b) λq=>by
     have:=hX b q;rw[hq]at this;cases this
    rw[this]at q;cases q
 have dy:¬bn.dom 260:=λU=>by
  have:=bv _ U;rw[hP]at this;cases this
 have eM:G2.M=(GG w h0 (frees s₁.heap) (R10.xr 0) noc).M:=by
  show model _ _=model _ _;rw[Y.D.prog,Y.D.w]
 show wpAny (GG w h0 (frees s₁.heap) (R10.xr 0) noc).M A' (execs (jE (rx 1) x.1 R10.DX (x.2.drop 12)++PZ (at2 x)::jE (rx 2) x.1 R10.sC (x.2.drop 14)) env) _ _ _;rw[<- eM];apply sU _ _ (cg (kF T1 R10.DX _ c1 #[B.ao,B.es,B.eo,Y.F,Y.R] q) (λf' s4 lf=>?_) λ_ _ q=>q);have#[fl,fi,dz,fr,q,F4,R4,x4]:=lf;have#[rfl,b,hb,q]:=q;cases fr;apply#[rfl,?_];have dx:¬dz.dom 260:=λU=>by
  rcases x4.dom _ U with q|q
  ·show dy q
  ·rw[Y.tab]at q;cases q
 have em:=x4.keep _ _ Y.tab dy ab;apply mj ?_;apply JD (cap:=R10.xr 2) (kk:=0) (mg:=h0.nsMap mainGlobals) (c:=262) (P:=260) ey (by decide +kernel) B.eo F4 R4 (lim.keeps Y.D.hb) (λx q=>by rw[Y.D.cap];show Q8 q) (by decide +kernel) (show R10.xr 2 "isjunk"=false by decide +kernel) (by rw[B.es];show ay c4) (by rw[B.es];show ay c5) hb
  (LW.Q0 R4 ei W em Y.Pb dx ab) trivial (KQ c9 _) λG3 f2 s5 fz D2 L2 F5 R5 ek fo sm=>?_
 have T2:=X4 ob hk Y.D L1 aj D2 L2 dL;have eu:G3.M=G2.M:=by
  show model _ _=model _ _;rw[D2.prog,D2.w]
 show wpAny G2.M A' (execs (jE (rx 2) x.1 R10.sC (x.2.drop 14)) env) _ _ _;rw[<- eu];apply cg (kF T2 R10.sC _ c2 #[B.ao,B.es,B.eo,F5,R5] q) (λf s6 lf=>?_) λ_ _ q=>q;have#[fl,eO,eA,fr,q6,F6,R6,x6]:=lf;have hv:f=.ret (.bool true):=by
  cases fr with
  |ret vr=>obtain rfl:_=V.bool true:=q6;show bx Flow.ret vr
  |next=>show V.noConfusion (show V.none=V.bool true from q6)
  |brk=>show q6.elim
  |cont=>show q6.elim
 subst hv;have kept:∀b o,b≠260->s₁.heap.get? b=some o->s6.heap.get? b=some o:=λb o hn e=>R6.base b o (D2.hb _ _ (Y.D.hb _ _ (pK hn e)));have m:=(((xx.same.trans Y.same).go x4).trans sm).go x6;have#[ps,dv]:∃ps,s6.heap.get? 260=some (tabObj ps):=#[_,x6.keep _ _ ek dx ab];apply#[.inl #[.bool true,.bool true,[],rfl,λcls=>rfl,.bool true,?_,λ_=>#[List.nodup_nil,λa h=>nomatch h]],#[λb o e=>?_,λb o e=>?_],m.2,.of_eq (m.1.trans be)]
 ·show gy (gy RM _) _
 ·by_cases c:b=260
  ·subst c;have rfl:=ah (hP.symm.trans e);apply .inr (.inl #[#[262,oc,ev,dn _ _ ef,cl,ck,ch],rfl,#v[],ps,rfl,?_]);rw[dv,Array.empty_append]
  ·show .inl (kept b o c e)
 ·by_cases c:b=260
  ·subst c;apply#[_,dv]
  ·apply#[o,kept b o c e]
end Mine
end
section
namespace MP
open PySem
variable {Q:V->St->Prop}
def mz {σ:St}{a d:Addr}{f:Nat->Option V}:(σ.jv a d f).I a=some (d,f):=bg _ _ _
def lU {σ:St}{a d d':Addr}{f g:Nat->Option V}:(σ.jv a d f).jv a d' g=σ.jv a d' g:=by
 unfold St.jv
 congr 1
 funext j
 simp only[upd];split<;>rfl
section
variable {C:Cal}{ρ:Fr}{σ:St}{e a b:Ex}{es:Exs}
def xh:wpE C (.L es) ρ σ Q=wh C es ρ σ λvs σ=>vs.length<=bp/\∀c,σ.L c=Option.none->Q (.L c) (σ.cz c vs):=rfl
def nS:wpE C (.T es) ρ σ Q=wh C es ρ σ λvs σ=>vs.length<=bp/\Q (.T vs) σ:=rfl
def AX {op:Bop}:wpE C (.b op a b) ρ σ Q=wpE C a ρ σ λY σ=>wpE C b ρ σ λZ σ=>eU op Y Z σ Q:=rfl
def vY:wpE C (.n es) ρ σ Q=wh C es ρ σ λvs σ=>∀a d,σ.I a=Option.none->C 0 (.obj a::vs) (σ.jv a d λ_=>Option.none) λv σ=>v=.none/\Q (.obj a) σ:=rfl
def vZ {m:Nat}:wpE C (.meth e m es) ρ σ Q=wpE C e ρ σ λv σ=>∃a,v=.obj a/\(σ.I a).isSome/\wh C es ρ σ λvs σ=>C m (v::vs) σ Q:=rfl
def FW {fv:List (Nat×Nat)}{it:It}{t:Tg}{cs:Exs}{more:Gens}:wpE C (.K fv it t cs more) ρ σ Q=vW C it ρ σ λvs G σ =>
   nN vs G (λv ρ' acc σ K=>pe t v σ ρ' λρ'=>dX C cs ρ' σ λok σ=>if ok then j8 C more ρ' acc σ K else K ρ' acc σ) (jR fv ρ) [] σ
    λ_ acc σ=>∀c,σ.L c=Option.none->Q (.L c) (σ.cz c acc):=rfl
def FT {K:List V->(St->Prop)->St->Prop}:vW C (.seq e) ρ σ K=wpE C e ρ σ λv σ=>PB v σ K:=rfl
def mv {Q:List V->St->Prop}:wh C (.cons e es) ρ σ Q=wpE C e ρ σ λv σ=>wh C es ρ σ λvs σ=>Q (v::vs) σ:=rfl
def ti {ts:List Tgt}{ss:jw}{K:Fl->Fr->St->Prop}:fw C (.cons (.a ts e) ss) ρ σ K=wpE C e ρ σ λv σ=>lT C ts v ρ σ λρ σ=>fw C ss ρ σ K:=rfl
end
def fC {p q:Prop}(h:q):if false=true then p else q:=h
def iB {p q:Prop}(h:p):if true=true then p else q:=h
def xI (k:Key):k.v.pD=some k:=by cases k<;>rfl
def sq {vs:List V}{G:St->Prop}{T:V->Fr->St->(Fr->St->Prop)->Prop}{K:Fr->St->Prop}(Inv:Nat->Fr->St->Prop)
  (step:∀i v ρ σ,vs[i]?=some v->Inv i ρ σ->G σ/\∀k:Fr->St->Prop,(∀ρ' σ',Inv (i+1) ρ' σ'->k ρ' σ')->T v ρ σ k) (fin:∀ρ σ,Inv vs.length ρ σ->G σ/\K ρ σ) {ρ:Fr} {σ:St} (h0:Inv 0 ρ σ):uS vs G T ρ σ K:=by
 have go:∀(ws:List V) (i:Nat) (ρ:Fr) (σ:St),vs.drop i=ws->Inv i ρ σ->i<=vs.length->uS ws G T ρ σ K:=by
  intro ws;induction ws with
  |nil =>
   intro i ρ σ e h Y;have:i=vs.length:=by have:=List.drop_eq_nil_iff.mp e;(show fy .C .i .A .aQ Y this)
   subst this;show fin ρ σ h
  |cons v ws U =>
   intro i ρ σ e h Y;have W:vs[i]?=some v:=by
    have:=bx (λl=>l[0]?) e;simpa using this
   have I:vs.drop (i+1)=ws:=by
    have:=bx (λl=>l.drop 1) e;simpa using this
   have Z:=(bc.mp W).1;have#[g,t]:=step i v ρ σ W h;apply#[g,t _ λρ' σ' h'=>U (i+1) ρ' σ' I h' Z]
 show go vs 0 ρ σ rfl h0 (bh _)
def bO {T:(Fr->St->Prop)->Fr->St->Prop}(Inv:Nat->Fr->St->Prop)(step:∀n ρ σ,Inv n ρ σ->∀again:Fr->St->Prop,(∀m ρ' σ',m<n->Inv m ρ' σ'->again ρ' σ')->T again ρ σ) :
  ∀(N n:Nat) {ρ:Fr} {σ:St},n<N->Inv n ρ σ->BV T N ρ σ
 |0=>λn {ρ} {σ} h _=>absurd h (fu _)
 |N+1=>λn {ρ} {σ} h Y=>step n ρ σ Y _ λm ρ' σ' Z h'=>bO Inv step N m (fe .B .b (.l .C .L) .O h Z) h'
abbrev posOf (k:Key)(bs:List Key):List Nat:=(List.range bs.length).filter λj=>decide (bs[j]?=some k)
def eB (k:Key)(bs:List Key)(b:Key):posOf k (bs++[b])=posOf k bs++if b=k then [bs.length] else []:=by
 unfold posOf;rw[List.length_append,ee,List.range_succ,sf]
 congr 1
 ·apply List.filter_congr λj Z=>?_;rw[ke (gI.mp Z)]
 ·simp[lR]
structure B2J (σ₀ σ:St)(db:Addr)(bs:List Key):Prop where
 tab:∃es,σ.D db=some es/\es.length<=bs.length/\(∀k,es.lookup k=none->posOf k bs=[]) /\
  (∀k w,es.lookup k=some w->∃c,w=.L c/\σ.L c=some ((posOf k bs).map λj:Nat=>V.int j)/\σ₀.L c=none) /\
  ∀k k' c,es.lookup k=some (.L c)->es.lookup k'=some (.L c)->k=k'
 old:∀a xs,σ₀.L a=some xs->σ.L a=some xs
 I:σ.I=σ₀.I
 S:σ.S=σ₀.S
 D:∀a,a≠db->σ.D a=σ₀.D a
 keys:∀es,σ.D db=some es->(es.map (·.1)).Nodup/\∀k∈es.map (·.1),k∈bs
def B2J.start {σ₀:St}{db:Addr}:B2J σ₀ (σ₀.qu db []) db []:=
 ⟨#[[],bg _ _ _,az _,λk _=>rfl,λk w e=>(by cases e),λk k' c e=>(by cases e)],λa xs e=>e,rfl,rfl,λa h=>bz h,λes e=>by
  have rfl:=ah ((bg σ₀.D db []).symm.trans e);apply#[List.nodup_nil,λk h=>nomatch h]⟩
def zb {es:List (Key×V)}{k k':Key}{v:V}:(es++[(k,v)]).lookup k'=(es.lookup k').or (if k'=k then some v else none):=by
 induction es with
 |nil=>simp[List.lookup];split<;>simp_all
 |cons e r Z =>
  have#[a,b]:=e;simp only[List.cons_append,List.lookup];split
  ·rfl
  ·show Z
public abbrev hV (k:Key)(bs:List Key):List V:=(posOf k bs).map λj:Nat=>V.int j
def lX (k:Key)(bs:List Key)(b:Key):hV k (bs++[b])=hV k bs++if b=k then [.int bs.length] else []:=by
 unfold hV;rw[eB,cu]
 congr 1
 split<;>rfl
def B2J.step {σ₀ σ:St}{db c:Addr}{bs:List Key}(h:B2J σ₀ σ db bs)(hc:σ.L c=none)(b:Key):∃es,σ.D db=some es/\es.length<=bs.length /\
  ∃c',(es.lookup b).getD (.L c)=.L c'/\((σ.cz c []).qu db (if (es.lookup b).isSome then es else es++[(b,.L c)])).L c'=some (hV b bs) /\
   B2J σ₀ (((σ.cz c []).qu db (if (es.lookup b).isSome then es else es++[(b,.L c)])).cz c' (hV b bs++[.int bs.length])) db (bs++[b]):=by
 have#[es,hD,ab,aj,B,ag]:=h.tab;apply#[es,hD,ab,?_];have ao:σ₀.L c=none:=by
  cases hq:σ₀.L c with
  |none=>rfl
  |some xs=>rw[h.old c xs hq]at hc;cases hc
 cases hb:es.lookup b with
 |some w =>
  have#[c1,rfl,aE,ca]:=B b w hb;have bu:c1≠c:=λe=>by rw[e,hc]at aE;cases aE
  apply#[c1,rfl,?_,?_]
  ·show upd σ.L c [] c1=_;rw[bz bu];show aE
  ·simp only[Option.isSome_some,yj];apply#[#[es,bg _ _ _,by simp;(show ax .U .a .A ab),λk e=>?_,λk w e=>?_,ag],λa xs e=>?_,h.I,h.S,λa ha=>?_,λcb Z=>?_]
   ·have hk:b≠k:=λq=>by rw[<- q,hb]at e;cases e
    rw[eB,aj k e,aw hk];rfl
   ·have#[c2,rfl,W,bd]:=B k w e;apply#[c2,rfl,?_,bd];show upd (upd σ.L c []) c1 _ c2=some (hV k (bs++[b]));rw[lX];by_cases hk:b=k
    ·subst hk;rw[hb]at e;cases e;rw[bg,br rfl]
    ·have bv:c2≠c1:=λq=>hk (ag b k c1 hb (q▸e));have ai:c2≠c:=λq=>by rw[q,hc]at W;cases W
     rw[bz bv,bz ai,aw hk,dg];show W
   ·show upd (upd σ.L c []) c1 _ a=some xs;have h1:a≠c1:=λq=>by rw[q,ca]at e;cases e
    have h2:a≠c:=λq=>by rw[q,ao]at e;cases e
    rw[bz h1,bz h2];show h.old a xs e
   ·show upd σ.D db es a=_;rw[bz ha];show h.D a ha
   ·have rfl:=ah ((bg σ.D db es).symm.trans Z);have#[k1,k2]:=h.keys _ hD;apply#[k1,λk hk=>dq _ (k2 k hk)]
 |none =>
  have hp:posOf b bs=[]:=aj b hb;have bl:hV b bs=[]:=by unfold hV;rw[hp];rfl
  apply#[c,rfl,?_,?_]
  ·show upd σ.L c [] c=_;rw[bg,bl]
  ·simp only[wt,eh,kh];apply#[#[es++[(b,V.L c)],(show upd σ.D db (es++[(b,V.L c)]) db=_ from bg _ _ _),by simp;(show ax .A .a .A ab),λk e=>?_,λk w e=>?_,λk k' c2 e Z=>?_],λa xs e=>?_,h.I,h.S,λa ha=>?_,λcb Z=>?_]
   ·rw[zb]at e;cases hk:es.lookup k with
    |some w=>rw[hk]at e;cases e
    |none =>
     rw[hk,gD]at e;have ar:b≠k:=λq=>by rw[br q.symm]at e;cases e
     rw[eB,aj k hk,aw ar];rfl
   ·rw[zb]at e;cases hk:es.lookup k with
    |some w' =>
     rw[hk,Option.some_or]at e;cases e;have#[c2,rfl,W,bd]:=B k _ hk;apply#[c2,rfl,?_,bd];show upd (upd σ.L c []) c _ c2=some (hV k (bs++[b]));have ai:c2≠c:=λq=>by rw[q,hc]at W;cases W
     have ar:b≠k:=λq=>by rw[<- q,hb]at hk;cases hk
     rw[bz ai,bz ai,lX,aw ar,dg];show W
    |none =>
     rw[hk,gD]at e;split at e
     ·rename_i q;cases e;subst q;apply#[c,rfl,?_,ao];show upd (upd σ.L c []) c _ c=some (hV k (bs++[k]));rw[bg,lX,br rfl]
     ·cases e
   ·rw[zb]at e Z;have fresh:∀k2,es.lookup k2≠some (.L c):=λk2 e2=>by
     have#[c3,e3,be,_]:=B k2 _ e2;cases e3;rw[hc]at be;cases be
    cases hk:es.lookup k with
    |some w =>
     rw[hk,Option.some_or]at e;cases e;cases Y:es.lookup k' with
     |some w'=>rw[Y,Option.some_or]at Z;cases Z;show ag k k' c2 hk Y
     |none =>
      rw[Y,gD]at Z;split at Z
      ·cases Z;show absurd hk (fresh k)
      ·cases Z
    |none =>
     rw[hk,gD]at e;split at e
     ·rename_i q;cases e;cases Y:es.lookup k' with
      |some w'=>rw[Y,Option.some_or]at Z;cases Z;show absurd Y (fresh k')
      |none =>
       rw[Y,gD]at Z;split at Z
       ·rename_i q';rw[q,q']
       ·cases Z
     ·cases e
   ·show upd (upd σ.L c []) c _ a=some xs;have h2:a≠c:=λq=>by rw[q,ao]at e;cases e
    rw[bz h2,bz h2];show h.old a xs e
   ·show upd σ.D db _ a=_;rw[bz ha];show h.D a ha
   ·have zz:=ah ((bg σ.D db (es++[(b,V.L c)])).symm.trans Z);clear Z;have rfl:=zz;have#[k1,k2]:=h.keys _ hD;rw[cu];apply#[List.nodup_append.mpr #[k1,by simp,λx hx y hy=>?_],λk hk=>?_]
    ·have rfl:=aq.mp hy;rintro rfl;have#[p,bn,rfl]:=cq.mp hx;rw[rl]at hb;have:=hb p bn;simp at this
    ·rcases cy.mp hk with hk|hk
     ·show dq _ (k2 k hk)
     ·show ew _ hk
end MP
end
section
set_option tactic.hygienic true
namespace MP
variable {i j k:Nat}{seen:Nat->Nat->Prop}
abbrev hit (as bs:List Key)(rm:Key->Bool)(i j:Nat):Bool:=match as[i]?,bs[j]? with
 |some a,some b=>decide (a=b)&&!rm a
 |_,_=>false
def ku {as bs:List Key}{rm:Key->Bool}:hit as bs rm i j=true↔∃c,as[i]?=some c/\bs[j]?=some c/\rm c=false:=by
 cases Y:as[i]? with
 |none=>rw[show hit as bs rm i j=false by unfold hit;rw[Y]];apply#[(λh=>nomatch h),λh=>by have#[c,Z,_]:=h;cases Z]
 |some a =>
  cases hb:bs[j]? with
  |none=>rw[show hit as bs rm i j=false by unfold hit;rw[Y,hb]];apply#[(λh=>nomatch h),λh=>by have#[c,_,Z,_]:=h;cases Z]
  |some b =>
   rw[show hit as bs rm i j=(decide (a=b)&&!rm a) by unfold hit;rw[Y,hb],dw,yk,fh];apply#[λh=>?_,λh=>?_]
   ·have#[rfl,h]:=h;apply#[_,rfl,rfl,h]
   ·have#[c,Z,W,h]:=h;have rfl:=ah Z;have rfl:=ah W;apply#[rfl,h]
structure Run (as bs:List Key)(rm:Key->Bool)(alo ahi blo bhi i j k:Nat):Prop where
 ai:alo<=i
 ia:i+k<=ahi
 bj:blo<=j
 jb:j+k<=bhi
 eq:∀t,t<k->hit as bs rm (i+t) (j+t)=true
structure vQ (as bs:List Key)(rm:Key->Bool)(alo ahi blo bhi i j k:Nat):Prop where
 run:Run as bs rm alo ahi blo bhi i j k
 zero:k=0->i=alo/\j=blo
 max:∀i' j' k',0<k'->Run as bs rm alo ahi blo bhi i' j' k'->k'<k\/(k'=k/\(i<i'\/(i=i'/\j<=j')))
def vQ.uniq {as bs:List Key}{rm:Key->Bool}{alo ahi blo bhi i' j' k':Nat}(h:vQ as bs rm alo ahi blo bhi i j k)(h':vQ as bs rm alo ahi blo bhi i' j' k'):i=i'/\j=j'/\k=k':=by
 by_cases hk:k=0
 ·by_cases W:k'=0
  ·have a:=h.zero hk;have b:=h'.zero W
   (show#[(fe .C .l (.e .A .C) .cZ a.1 b.1),#[(fe .C .l (.e .A .C) .cZ a.2 b.2),(fy .C .i .G .a1 hk W)]])
  ·have:=h.max _ _ _ ((au W).elim (λZ=>(dp .H .r .bY Z)) λZ=>(dp .H .a .H Z)) h'.run
   (show#[((au W).elim (λZ=>(dt .C .p .d3 Z)) λZ=>(this.elim (λY=>(dj .C .g .aK .X hk Y)) λY=>(mf .C .C .aK .cC .d2 hk Z Y.1))),#[((au W).elim (λZ=>(dt .C .p .d3 Z)) λZ=>(this.elim (λY=>(dj .C .g .aK .X hk Y)) λY=>(mf .C .C .aK .cC .d2 hk Z Y.1))),((au W).elim (λZ=>(fy .C .i .G (.l .B .O) hk Z)) λZ=>(this.elim (λY=>(fy .C .i .G .S hk Y)) λY=>(ax .C .e .b8 Y.1)))]])
 ·by_cases W:k'=0
  ·have:=h'.max _ _ _ ((au hk).elim (λZ=>(dp .H .r .bY Z)) λZ=>(dp .H .a .H Z)) h.run
   (show#[((au hk).elim (λZ=>(dt .C .p .d3 Z)) λZ=>(this.elim (λY=>(dj .C .g .aK .X W Y)) λY=>(mf .C .C .aK .cC .d2 W Z Y.1))),#[((au hk).elim (λZ=>(dt .C .p .d3 Z)) λZ=>(this.elim (λY=>(dj .C .g .aK .X W Y)) λY=>(mf .C .C .aK .cC .d2 W Z Y.1))),((au hk).elim (λZ=>(fy .C .s .a1 .bY W Z)) λZ=>(this.elim (λY=>(fy .C .s .a1 .B W Y)) λY=>(ax .C .f .C Y.1)))]])
  ·have a:=h.max _ _ _ ((au hk).elim (λZ=>(ax .H .r (.l .B .O) Z)) λZ=>((au W).elim (λY=>(dp .H .r .bY Y)) λY=>(dp .H .a .H Y))) h'.run;have b:=h'.max _ _ _ ((au hk).elim (λZ=>(dp .H .r .bY Z)) λZ=>(dp .H .a .H Z)) h.run
   (show#[((au hk).elim (λZ=>(dt .C .p .d3 Z)) λZ=>((au W).elim (λY=>(dt .C .p .d3 Y)) λY=>(a.elim (λI=>(b.elim (λU=>(dj .C .g .R .X I U)) λU=>(dj .C .g .R .d2 I U.1))) λI=>(b.elim (λU=>(dj .C .g .bK .X I.1 U)) λU=>(I.2.elim (λq5=>(U.2.elim (λq6=>(fy .C .i .B .S q5 q6)) λq6=>(ax .C .e .b8 q6.1))) λq5=>(ax .C .f .C q5.1)))))),#[((au hk).elim (λZ=>(dt .C .p .d3 Z)) λZ=>((au W).elim (λY=>(dt .C .p .d3 Y)) λY=>(a.elim (λI=>(b.elim (λU=>(dj .C .g .R .X I U)) λU=>(dj .C .g .R .d2 I U.1))) λI=>(b.elim (λU=>(dj .C .g .bK .X I.1 U)) λU=>(I.2.elim (λq5=>(U.2.elim (λq6=>(dj .C .g .R .X q5 q6)) λq6=>(dj .C .g .R .d2 q5 q6.1))) λq5=>(U.2.elim (λq6=>(dj .C .g .bK .X q5.1 q6)) λq6=>(fy .C .i .A .aQ q5.2 q6.2))))))),((au hk).elim (λZ=>(ax .C [[0,1],[1,1]] .bY Z)) λZ=>((au W).elim (λY=>(ax .C [[1,1],[0,1]] (.l .B .O) Y)) λY=>(a.elim (λI=>(b.elim (λU=>(fy .C .s .S .B I U)) λU=>(ax .C .f .C U.1))) λI=>(ax .C .e .b8 I.1))))]])
abbrev el (as bs:List Key)(rm:Key->Bool)(alo blo:Nat):Nat->Nat->Nat
 |i+1,j+1=>if alo<=i/\blo<=j/\hit as bs rm i j=true then el as bs rm alo blo i j+1 else 0
 |_,_=>0
section
variable {as bs:List Key}{rm:Key->Bool}{alo ahi blo bhi:Nat}
def v8:el as bs rm alo blo (i+1) (j+1)=if alo<=i/\blo<=j/\hit as bs rm i j=true then el as bs rm alo blo i j+1 else 0:=rfl
def JI:el as bs rm alo blo alo j=0:=by
 cases alo with
 |zero=>cases j<;>rfl
 |succ n =>
  cases j with
  |zero=>rfl
  |succ j =>
   rw[v8];rw[aw]
   (show λZ=>(dp .ff .r (.k .P .A) Z.1))
def v9:∀{i j:Nat},el as bs rm alo blo i j<=i/\el as bs rm alo blo i j<=j/\(0<el as bs rm alo blo i j->Run as bs rm alo i blo j (i-el as bs rm alo blo i j) (j-el as bs rm alo blo i j) (el as bs rm alo blo i j))
 |0,j=>#[bh _,bh _,λh=>absurd h (fp 0)]
 |i+1,0=>#[bh _,bh _,λh=>absurd h (fp 0)]
 |i+1,j+1=>by
  rw[v8];split
  ·rename_i c;have#[Z,W,R]:=v9 (i:=i) (j:=j);apply#[by show ax .aC .a .A Z,by show ax .aC .a .A W,λ_=>?_];by_cases h0:0<el as bs rm alo blo i j
   ·have R:=R h0;generalize el as bs rm alo blo i j=m at *;apply#[?_,by show dt (.k .a7 .Q) .a (.e .a7 .Q) (aa (ax .aC .a .A Z)),?_,by show dt (.k .a7 .Q) .a (.e .a7 .Q) (aa (ax .aC .a .A W)),λt ht=>?_]
    ·have:=R.ai;(show jd .A .k .I .bC (.e (.a .B .V) .Y) this (aa (ax .A .a .A Z)) (aa (ax .aC .a .A Z)))
    ·have:=R.bj;(show jd .A .k .I .bC (.e (.a .B .V) .Y) this (aa (ax .A .a .A W)) (aa (ax .aC .a .A W)))
    ·by_cases hm:t<m
     ·have:=R.eq t hm;have e1:i+1-(m+1)+t=i-m+t:=by(show vg (.e .M .a1) .l (.e (.a .A .V) .Y) .bC (aa (ax .aC .a .A Z)) (aa (ax .A .a .A Z)))
      have e2:j+1-(m+1)+t=j-m+t:=by(show vg (.e .M .a1) .l (.e (.a .A .V) .Y) .bC (aa (ax .aC .a .A W)) (aa (ax .A .a .A W)))
      rw[e1,e2];show this
     ·have e1:i+1-(m+1)+t=i:=by(show mf .V [[1,0,1,-1],[1,1,0,1]] (.l .B .V) (.g .B .D) (.e (.a .A .V) .Q) ht hm (aa (ax .aC .a .A Z)))
      have e2:j+1-(m+1)+t=j:=by(show ui .V .v (.e .a5 .F) (.e (.a .D .a4) .Y) (.e (.a .A .a4) .Q) e1 (aa (ax .aC .a .A Z)) (aa (ax .aC .a .A W)))
      rw[e1,e2];show c.2.2
   ·have ab:el as bs rm alo blo i j=0:=by(show dp .G .t (.g .O .A) h0)
    rw[ab];apply#[by show fe .A .d .I (.e (.a .B (.a .O .U)) .Q) c.1 (aa (iy .a3 .j)),by show ax (.k .b1 .L) .a (.e .b1 .L) (aa (iy .a3 .j)),by show fe .A .d .I (.e (.a .B (.a .O .U)) .Q) c.2.1 (aa (iy .a3 .j)),by show ax (.k .b1 .L) .a (.e .b1 .L) (aa (iy .a3 .j)),λt ht=>?_];have:t=0:=by(show dp .G .t (.l .A (.a .O .U)) ht)
    subst this;show c.2.2
  ·apply#[bh _,bh _,λh=>absurd h (fp 0)]
def JJ:∀{i j i' j' k':Nat},i'+k'=i->j'+k'=j->Run as bs rm alo ahi blo bhi i' j' k'->k'<=el as bs rm alo blo i j
 |i,j,i',j',0,_,_,_=>bh _
 |i,j,i',j',k'+1,U,W,R=>by
  subst U;subst W;show _<=el as bs rm alo blo (i'+k'+1) (j'+k'+1);have:=R.ai;have:=R.bj;rw[v8];rw[br #[by(rename_i Z;show dt .b1 .a .A Z),by show dt .b1 .a .A this,R.eq k' (iy (.l .A .P) .j)]];have:=JJ (i:=i'+k') (j:=j'+k') (i':=i') (j':=j') (k':=k') rfl rfl #[R.ai,by have:=R.ia;(show dt .K .a .M this),R.bj,by have:=R.jb;(show dt .K .a .M this),λt Y=>R.eq t (ax .J .a .B Y)]
  (show ax .aC .a .A this)
structure Scan (as bs:List Key)(rm:Key->Bool)(alo ahi blo bhi:Nat)(seen:Nat->Nat->Prop)(i j k:Nat):Prop where
 run:Run as bs rm alo ahi blo bhi i j k
 zero:k=0->i=alo/\j=blo
 at_:0<k->seen (i+k-1) (j+k-1)
 max:∀i' j',seen i' j'->0<el as bs rm alo blo (i'+1) (j'+1)->el as bs rm alo blo (i'+1) (j'+1)<k\/(el as bs rm alo blo (i'+1) (j'+1)=k/\(i<i'+1-k\/(i=i'+1-k/\j<=j'+1-k)))
def Scan.start (Y:alo<=ahi)(hb:blo<=bhi):Scan as bs rm alo ahi blo bhi (λ_ _=>False) alo blo 0:=
 #[#[az _,Y,az _,hb,λt Z=>absurd Z (fu _)],λ_=>#[rfl,rfl],λh=>absurd h (fp 0),λ_ _ h=>h.elim]
def Scan.skip {Z:Nat->Nat->Prop}(h:Scan as bs rm alo ahi blo bhi seen i j k)(U:∀i' j',seen i' j'->Z i' j')(W:∀i' j',Z i' j'->seen i' j'\/el as bs rm alo blo (i'+1) (j'+1)=0\/el as bs rm alo blo (i'+1) (j'+1)<k\/(el as bs rm alo blo (i'+1) (j'+1)=k/\(i<i'+1-k\/(i=i'+1-k/\j<=j'+1-k)))):Scan as bs rm alo ahi blo bhi Z i j k:=
 ⟨h.run,h.zero,λh0=>U _ _ (h.at_ h0),λi' j' Y h0=>by
  rcases W i' j' Y with q|q|q|q
  ·show h.max i' j' q h0
  ·(show .inl (fy .B .c .H .G h0 q))
  ·show .inl q
  ·show .inr q⟩
def Scan.take {Y:Nat->Nat->Prop}{i j I W:Nat}(h:Scan as bs rm alo ahi blo bhi seen i j k)(hi:I<ahi)(hj:W<bhi)(hk:k<el as bs rm alo blo (I+1) (W+1))(h0:Y I W)
  (hs:∀i' j',Y i' j'->seen i' j'\/(i'=I/\j'=W)\/el as bs rm alo blo (i'+1) (j'+1)=0):Scan as bs rm alo ahi blo bhi Y (I+1-el as bs rm alo blo (I+1) (W+1)) (W+1-el as bs rm alo blo (I+1) (W+1)) (el as bs rm alo blo (I+1) (W+1)):=by
 have#[h1,h2,R]:=v9 (as:=as) (bs:=bs) (rm:=rm) (alo:=alo) (blo:=blo) (i:=I+1) (j:=W+1);have R:=R (ax .H .a .S hk);apply#[#[R.ai,by show dj .K .b .X (.e .M .V) hi (aa (ax .U .a .U h1)),R.bj,by show dj .K .b .X (.e .M .V) hj (aa (ax .U .a .U h2)),R.eq],λh0=>by show#[(dj .C .g .R .Z hk h0),(dj .C .g .R .Z hk h0)],λ_=>?_,λi' j' ab h0=>?_]
 ·have e1:I+1-el as bs rm alo blo (I+1) (W+1)+el as bs rm alo blo (I+1) (W+1)-1=I:=by(rename_i z1;show Ar.sub _ _ (λq1 p1=>(dj .C [[1,-1,-1],[1,1,1]] (.e .P .S) (.e .S .L) (aa (ax .bM .a .aI z1)) p1)) λq1 p1=>(eQ .C [[1,0,-1,1,0],[1,1,1,0,1]] .bI (.e .P .a2) (.k .L .C) .Z h1 (aa (ax .bM .a .aI z1)) q1 p1))
  have e2:W+1-el as bs rm alo blo (I+1) (W+1)+el as bs rm alo blo (I+1) (W+1)-1=W:=by(rename_i z1;show Ar.sub _ _ (λq1 p1=>(dj .C [[1,-1,-1],[1,1,1]] (.e .P .S) (.e .S .L) (aa (ax .bM .a .aI z1)) p1)) λq1 p1=>(eQ .C [[1,0,-1,1,0],[1,1,1,0,1]] .bI (.e .P .a2) (.k .L .C) .Z h2 (aa (ax .bM .a .aI z1)) q1 p1))
  rw[e1,e2];show h0
 ·rcases hs i' j' ab with q|⟨rfl,rfl⟩|q
  ·have:=h.max i' j' q h0
   (rename_i z1;show .inl ((Ar.imp z1).elim (λq1=>(fe .B .c .N (.g .O .B) hk q1)) λq1=>(this.elim (λq2=>(fe .B .b .N .O hk q2)) λq2=>(fe .B .b .N (.e .A .C) hk q2.1))))
  ·show .inr #[rfl,.inr #[rfl,az _]]
  ·(show .inl (fy .B .c .H .G h0 q))
def Scan.best {i j:Nat}(h:Scan as bs rm alo ahi blo bhi seen i j k)(hs:∀i' j',alo<=i'->i'<ahi->blo<=j'->j'<bhi->0<el as bs rm alo blo (i'+1) (j'+1)->seen i' j'):vQ as bs rm alo ahi blo bhi i j k:=by
 apply#[h.run,h.zero,λi' j' k' h0 R=>?_];have hm:=JJ (i:=i'+k'-1+1) (j:=j'+k'-1+1) (dt (.e .M .Q) .e (.e .Q .M) (aa (ax .bM .a .aI h0))) (dt (.e .M .Q) .e (.e .Q .M) (aa (ax .bM .a .aI h0))) R;have:=h.max (i'+k'-1) (j'+k'-1) (hs _ _ (by have:=R.ai;(show mf .A .k .b7 .aV (.e .L .a2) h0 this (aa (ax .bM .a .aI h0)))) (by have:=R.ia;(show dj .B .b .cT (.e .P .S) this (aa (ax .bM .a .aI h0)))) (by have:=R.bj;(show mf .A .k .b7 .aV (.e .L .a2) h0 this (aa (ax .bM .a .aI h0)))) (by have:=R.jb;(show dj .B .b .cT (.e .P .S) this (aa (ax .bM .a .aI h0)))) (fy .H .b .aI .aQ h0 hm)) (fy .H .b .aI .aQ h0 hm);generalize el as bs rm alo blo (i'+k'-1+1) (j'+k'-1+1)=e at *;rcases Nat.lt_or_ge k' k with c|c
 ·show .inl c
 ·rcases this with q|⟨q,q'⟩
  ·show absurd (gz q c) (sd.mpr hm)
  ·have e2:k'=k:=Nat.le_antisymm (q▸hm) c;have s1:i'+k'-1+1-k=i':=by(show Ar.sub _ _ (λq1 I=>(Ar.sub _ _ (λW Z=>(jd .C .J .bK (.e .T .Y) (.e .Y .R) e2 I Z)) λW Z=>(yI .C [[1,0,-1,-1,1,0],[1,1,1,1,0,1]] .b7 .bK (.e .T .Y) (.k .R .U) .aG h0 e2 I W Z))) λq1 I=>(Ar.sub _ _ (λW Z=>(yJ .C [[1,-1,1,0,-1],[1,0,0,1,0]] .bK (.k .Y .D) .G (.e .Y .R) e2 q1 I Z)) λW Z=>(pq .C .q .b7 .G (.k .R .U) h0 I W)))
   have s2:j'+k'-1+1-k=j':=by(show Ar.sub _ _ (λq1 I=>(Ar.sub _ _ (λW Z=>(jd .C .J .bK (.e .T .Y) (.e .Y .R) e2 I Z)) λW Z=>(yI .C [[1,0,-1,-1,1,0],[1,1,1,1,0,1]] .b7 .bK (.e .T .Y) (.k .R .U) .aG h0 e2 I W Z))) λq1 I=>(Ar.sub _ _ (λW Z=>(yJ .C [[1,-1,1,0,-1],[1,0,0,1,0]] .bK (.k .Y .D) .G (.e .Y .R) e2 q1 I Z)) λW Z=>(pq .C .q .b7 .G (.k .R .U) h0 I W)))
   rw[s1,s2]at q';show .inr #[e2,q']
abbrev zp (as bs:List Key)(ok:Key->Bool)(alo blo:Nat):Nat->Nat->Nat->Nat×Nat×Nat
 |i+1,j+1,k=>if alo<i+1/\blo<j+1/\hit as bs (λc=>!ok c) i j=true then zp as bs ok alo blo i j (k+1) else (i+1,j+1,k)
 |i,j,k=>(i,j,k)
abbrev iC (as bs:List Key)(ok:Key->Bool)(ahi bhi:Nat):Nat->Nat->Nat->Nat->Nat
 |0,_,_,k=>k
 |n+1,i,j,k=>if i+k<ahi/\j+k<bhi/\hit as bs (λc=>!ok c) (i+k) (j+k)=true then iC as bs ok ahi bhi n i j (k+1) else k
def eI {ok:Key->Bool}:zp as bs ok alo blo (i+1) (j+1) k=if alo<i+1/\blo<j+1/\hit as bs (λc=>!ok c) i j=true then zp as bs ok alo blo i j (k+1) else (i+1,j+1,k):=rfl
def ua {ok:Key->Bool}{n:Nat}:iC as bs ok ahi bhi (n+1) i j k=if i+k<ahi/\j+k<bhi/\hit as bs (λc=>!ok c) (i+k) (j+k)=true then iC as bs ok ahi bhi n i j (k+1) else k:=rfl
abbrev grow (as bs:List Key)(js:Key->Bool)(alo ahi blo bhi i j k:Nat):Nat×Nat×Nat:=
 let p:=zp as bs (λc=>!js c) alo blo i j k
 let q:=iC as bs (λc=>!js c) ahi bhi (ahi-p.1) p.1 p.2.1 p.2.2
 let r:=zp as bs js alo blo p.1 p.2.1 q
 (r.1,r.2.1,iC as bs js ahi bhi (ahi-r.1) r.1 r.2.1 r.2.2)
end
end MP
end
section
namespace MP
open PySem
variable {σ σ₁:St}{c:Addr}{k k':Key}{bs:List Key}{es:List (Key×V)}
structure Kp (σ σ':St):Prop where
 L:∀a xs,σ.L a=some xs->σ'.L a=some xs
 D:∀a es,σ.D a=some es->σ'.D a=some es
 S:σ'.S=σ.S
 I:σ'.I=σ.I
def Kp.refl (σ:St):Kp σ σ:=#[λ_ _ e=>e,λ_ _ e=>e,rfl,rfl]
def Kp.trans {σ₂:St}(h:Kp σ σ₁)(h':Kp σ₁ σ₂):Kp σ σ₂:=#[λa xs e=>h'.L a xs (h.L a xs e),λa xs e=>h'.D a xs (h.D a xs e),h'.S.trans h.S,h'.I.trans h.I]
def Kp.noL (h:Kp σ σ₁)(Z:σ₁.L c=none):σ.L c=none:=by
 cases q:σ.L c with
 |none=>rfl
 |some xs=>rw[h.L _ _ q]at Z;cases Z
def Kp.noD (h:Kp σ σ₁)(Z:σ₁.D c=none):σ.D c=none:=by
 cases q:σ.D c with
 |none=>rfl
 |some xs=>rw[h.D _ _ q]at Z;cases Z
def Kp.cz (h:Kp σ σ₁){xs:List V}(Z:σ.L c=none):Kp σ (σ₁.cz c xs):=⟨λa ys e=>by
 have:a≠c:=λq=>by rw[q,Z]at e;cases e
 show upd σ₁.L c xs a=_;rw[bz this];show h.L a ys e,h.D,h.S,h.I⟩
def Kp.qu (h:Kp σ σ₁){xs:List (Key×V)}(Z:σ.D c=none):Kp σ (σ₁.qu c xs):=⟨h.L,λa ys e=>by
 have:a≠c:=λq=>by rw[q,Z]at e;cases e
 show upd σ₁.D c xs a=_;rw[bz this];show h.D a ys e,h.S,h.I⟩
abbrev wc:Key->Prop
 |.int _=>True
 |.str s=>PyData.strOk s=true
def FU {K:Bool->Prop}(h:wc k)(h':wc k')(q:K (decide (k=k'))):vX k.v k'.v σ K:=by
 cases k with
 |int a =>
  cases k' with
  |int b =>
   show K (a==b);have:(a==b)=decide (Key.int a=Key.int b):=by
    by_cases e:a=b
    ·simp[e]
    ·simp[e]
   rw[this];show q
  |str b =>
   apply#[.int a,.str b,rfl,?_,?_]
   ·show(if PyData.strOk b then some (PyData.str b) else none)=_;rw[br (show PyData.strOk b=true from h')]
   ·have:PyData.eqv (.int a) (.str b)=decide (Key.int a=Key.str b):=by simp[PyData.eqv]
    rw[this];show q
 |str a =>
  cases k' with
  |int b =>
   apply#[.str a,.int b,?_,rfl,?_]
   ·show(if PyData.strOk a then some (PyData.str a) else none)=_;rw[br (show PyData.strOk a=true from h)]
   ·have:PyData.eqv (.str a) (.int b)=decide (Key.str a=Key.int b):=by simp[PyData.eqv]
    rw[this];show q
  |str b =>
   show K (a==b);have:(a==b)=decide (Key.str a=Key.str b):=by
    by_cases e:a=b
    ·simp[e]
    ·simp[e]
   rw[this];show q
def rS {K:Bool->Prop}(h:wc k)(h':wc k')(q:K (decide (k=k'))):iJ .eq k.v k'.v σ K:=FU h h' q
def sE {j:Nat}:j∈posOf k bs↔bs[j]?=some k:=by
 unfold posOf;rw[nF,gI,yk];apply#[λh=>h.2,λh=>#[(bc.mp h).1,h]]
def HX:(posOf k bs).Pairwise (·<·):=List.Pairwise.filter _ mQ
def DR:(posOf k bs).length<=bs.length:=by
 have:=oq (λj=>decide (bs[j]?=some k)) (List.range bs.length)
 rwa [tq]at this
abbrev TabAt (σ:St)(db:Addr)(bs:List Key)(rm:Key->Bool):Prop:=∃es,σ.D db=some es /\
 (∀k,rm k=true->es.lookup k=none)/\∀k,rm k=false->(es.lookup k=none/\posOf k bs=[])\/∃c,es.lookup k=some (.L c)/\σ.L c=some (hV k bs)
def TabAt.keep {σ':St}{db:Addr}{rm:Key->Bool}(h:TabAt σ db bs rm)(k:Kp σ σ'):TabAt σ' db bs rm:=by
 have#[es,I,U,W]:=h;apply#[es,k.D _ _ I,U,λq Y=>(W q Y).imp_right λZ=>by have#[c,e1,B]:=Z;apply#[c,e1,k.L _ _ B]]
def TabAt.get {db nl:Addr}{rm:Key->Bool}(h:TabAt σ db bs rm)(I:σ.L nl=some [])(k:Key) :
  ∃es c,σ.D db=some es/\(es.lookup k).getD (.L nl)=.L c/\σ.L c=some ((if rm k then [] else posOf k bs).map λj:Nat=>V.int j):=by
 have#[es,Z,h2,B]:=h;cases U:rm k with
 |true=>refine#[es,nl,Z,by rw[h2 k U];rfl,I]
 |false =>
  rcases B k U with ⟨W,Y⟩|⟨c,W,Y⟩
  ·apply#[es,nl,Z,by rw[W];rfl,by rw[Y];show I]
  ·apply#[es,c,Z,by rw[W];rfl,Y]
def jU:es.any (λe=>e.1==k)=(es.lookup k).isSome:=by
 induction es with
 |nil=>rfl
 |cons e r Z =>
  have#[a,b]:=e;simp only[List.any_cons,List.lookup,Z];by_cases h:k=a
  ·subst h;simp
  ·rw[ph (j4 h),ph h];rfl
def HT {v:V}:(putD es k v).length<=es.length+1:=by
 unfold putD;split<;>simp
def zK {v:V}:(putD es k v).lookup k'=if k'=k then some v else es.lookup k':=by
 unfold putD;split
 ·rename_i h;rw[jU]at h;induction es with
  |nil=>cases h
  |cons e r Y =>
   have#[a,b]:=e;simp only[ju,List.lookup]at h ⊢;by_cases hk:a=k
   ·subst hk;rw[br rfl];by_cases Z:k'=a
    ·subst Z;simp
    ·rw[aw Z];have U:(k'==a)=false:=ph Z;simp only[List.lookup,U];clear Y h;induction r with
     |nil=>rfl
     |cons e r Y =>
      have#[a',b']:=e;simp only[ju,List.lookup];by_cases W:a'=a
      ·subst W;rw[br rfl];simp only[List.lookup,U];show Y
      ·rw[aw W];simp only[List.lookup];cases k'==a' with
       |true=>rfl
       |false=>show Y
   ·rw[aw hk];have I:(k==a)=false:=ph (j4 hk);rw[I]at h;simp only[List.lookup];by_cases Z:k'=a
    ·subst Z;rw[aw hk];simp
    ·rw[ph Z];show Y h
 ·rename_i h;rw[jU]at h;rw[zb];by_cases Z:k'=k
  ·skip
   subst Z;cases q:es.lookup k' with
   |none=>simp
   |some w=>rw[q]at h;show absurd rfl h
  ·simp[Z]
end MP
end
section
set_option backward.match.sparseCases false
namespace MP
open PySem
variable {v a:V}{α:Type}{σ:St}
def sO (h:isNone v=true):v=.none:=by
 cases v<;>first|rfl|show Bool.noConfusion h
def nO {P:Prop}{x:α}(h:none=some x):P:=nomatch h
def lz {Z:Type}{o:Option α}{f:α->Option Z}{b:Z}(h:o.bind f=some b):∃a,o=some a/\f a=some b:=fc.mp h
def omap {Z:Type}{o:Option α}{f:α->Z}{b:Z}(h:o.map f=some b):∃a,o=some a/\f a=b:=gm.mp h
abbrev xN (a b:V):Option (Int×Int):=(vInt a).bind λi=>(vInt b).map λj=>(i,j)
def eH {b:V}{p:Int×Int}(h:xN a b=some p):a=.int p.1/\b=.int p.2:=by
 have#[i,e,h]:=lz h;have#[j,Z,rfl]:=omap h;apply#[rp e,rp Z]
abbrev pb {α:Type}(c:Prop)[Decidable c](x:α):Option α:=if c then some x else none
def uy {c:Prop}[Decidable c]{x y:α}(h:pb c x=some y):c/\x=y:=by
 unfold pb at h;by_cases q:c
 ·rw[br q]at h;apply#[q,ah h]
 ·rw[aw q]at h;cases h
abbrev iQ (op:Bop)(a b:V):Option V:=(xN a b).bind λp=>match op with
 |.add=>some (.int (p.1+p.2))
 |.sub=>some (.int (p.1-p.2))
 |.mul=>pb (p.1.natAbs<2^60\/p.2.natAbs<2^60) (.int (p.1*p.2))
 |.fdiv=>pb (0<p.2/\p.2.natAbs<2^60) (.int (p.1/p.2))
 |.mod=>pb (0<p.2) (.int (p.1%p.2))
 |.pow=>pb (0<=p.2/\p.2<=1000/\p.1.natAbs<2^64) (.int (p.1^p.2.toNat))
def xU {op:Bop}{b:V}{Q:V->St->Prop}(h:iQ op a b=some v)(q:Q v σ):eU op a b σ Q:=by
 have#[#[i,j],e,h]:=lz h;have#[rfl,rfl]:=eH e;clear e;cases op with
 |add=>cases h;show q
 |sub=>cases h;show q
 |mul=>have#[c,rfl]:=uy h;apply#[c,q]
 |fdiv =>
  have#[c,rfl]:=uy h;have c:0<j/\j.natAbs<2^60:=c;apply#[(by(rename_i Z Y;show mq (.iu .A .O) .a .bQ Z.1):j≠0),c.2,?_];rw[gL _ (by show 0<=j;(rename_i Z Y;show mq .a4 .a .bQ Z.1))];show q
 |mod =>
  have#[c,rfl]:=uy h;have c:0<j:=c;apply#[(by(rename_i Z Y;show mq (.iu .A .O) .a .bQ Z):j≠0),?_];rw[gK _ (by show 0<=j;(rename_i Z Y;show mq .a4 .a .bQ Z))];show q
 |pow=>have#[c,rfl]:=uy h;apply#[c.1,c.2.1,c.2.2,q]
abbrev A1 (σ:St):V->Option Bool
 |.none=>some false
 |.bool b=>some b
 |.int i=>some (i != 0)
 |.L a=>(σ.L a).map λxs=>!xs.isEmpty
 |.clo _ _=>some true
 |_=>none
def kU:∀(v:V) {b:Bool} {K:Bool->Prop},A1 σ v=some b->K b->tc v σ K:=by
 intro v b K h q;cases v
 case none=>have rfl:=ah h;show q
 case bool=>have rfl:=ah h;show q
 case int=>have rfl:=ah h;show q
 case L=>have#[xs,e,rfl]:=omap h;apply#[xs,e,q]
 case clo=>have rfl:=ah h;show q
 all_goals show nO h
abbrev ur (σ:St)(op:Cop)(a b:V):Option Bool:=match op with
 |.eq=>(vInt a).elim ((vStr a).bind λx=>(vStr b).map λy=>x==y) λi=>(vInt b).map λj=>decide (i=j)
 |.ne=>(vInt a).elim ((vStr a).bind λx=>(vStr b).map λy=>!(x==y)) λi=>(vInt b).map λj=>decide (i≠j)
 |.lt=>(xN a b).map λp=>decide (p.1<p.2)
 |.le=>(xN a b).map λp=>decide (p.1<=p.2)
 |.gt=>(xN a b).map λp=>decide (p.2<p.1)
 |.ge=>(xN a b).map λp=>decide (p.2<=p.1)
 |.is=>pb (isNone b=true) (isNone a)
 |.isNot=>pb (isNone b=true) (!(isNone a))
 |_=>none
def deq (x y:Int):(x==y)=decide (x=y):=by
 by_cases e:x=y
 ·simp[e]
 ·simp[e]
def dne (x y:Int):(!(x==y))=decide (x≠y):=by rw[deq];by_cases e:x=y<;>simp[e]
def xT {op:Cop}{b:V}{r:Bool}{K:Bool->Prop}(h:ur σ op a b=some r)(q:K r):iJ op a b σ K:=by
 have Z:∀{a:V} {K:Bool->Prop},K (isNone a)->L4 a .none σ K:=λ{a K} q=>q;cases op with
 |eq =>
  cases e:vInt a with
  |some i =>
   have rfl:=rp e;have#[j,U,rfl]:=omap h;have rfl:=rp U;show K (i==j);rw[deq];show q
  |none =>
   unfold ur at h;rw[e]at h;have#[x,W,h]:=lz h;have#[y,Y,rfl]:=omap h;have rfl:=gP W;have rfl:=gP Y;show q
 |ne =>
  cases e:vInt a with
  |some i =>
   have rfl:=rp e;have#[j,U,rfl]:=omap h;have rfl:=rp U;show K (!(i==j));rw[dne];show q
  |none =>
   unfold ur at h;rw[e]at h;have#[x,W,h]:=lz h;have#[y,Y,rfl]:=omap h;have rfl:=gP W;have rfl:=gP Y;show q
 |lt=>have#[p,e,rfl]:=omap h;have#[rfl,rfl]:=eH e;show q
 |le=>have#[p,e,rfl]:=omap h;have#[rfl,rfl]:=eH e;show q
 |gt=>have#[p,e,rfl]:=omap h;have#[rfl,rfl]:=eH e;show q
 |ge=>have#[p,e,rfl]:=omap h;have#[rfl,rfl]:=eH e;show q
 |is=>have#[c,rfl]:=uy h;have rfl:=sO c;show Z q
 |isNot=>have#[c,rfl]:=uy h;have rfl:=sO c;show Z (K:=λr=>K (!r)) q
 |isIn=>cases h
 |notIn=>cases h
def ifO {c:Prop}[Decidable c]{x:Option α}{y:α}(h:(if c then x else none)=some y):c/\x=some y:=by
 by_cases q:c
 ·rw[br q]at h;apply#[q,h]
 ·rw[aw q]at h;cases h
abbrev JF (xs:List V)(i:Int):Option V:=if 0<=gk xs.length i then xs[(gk xs.length i).toNat]? else none
abbrev CA (σ:St)(a i:V):Option V:=(vInt i).bind λi=>match nH a with
 |some a=>(σ.L a).bind λxs=>JF xs i
 |none=>(QJ a).bind λxs=>if i.natAbs<2^60 then JF xs i else none
def xS {i:V}{K:V->Prop}(h0:CA σ a i=some v)(q:K v):rR a i σ K:=by
 have#[j,e,h]:=lz h0;clear h0;have e:=rp e;subst e;cases e:nH a with
 |some b =>
  rw[e]at h;have e:=kA e;subst e;have#[xs,e,h]:=lz (o:=σ.L b) h;have#[c,h]:=ifO h;apply#[xs,v,e,c,h,q]
 |none =>
  rw[e]at h;have#[xs,e,h]:=lz (o:=QJ a) h;have e:=LC e;subst e;have#[c,h]:=ifO h;have#[c2,h]:=ifO h;apply#[v,c,c2,h,q]
abbrev JH (σ:St)(k:BF)(vs:List V):Option V:=match k with
 |.len=>match vs with
  | [v]=>(nH v).elim ((LG v).bind λa=>(σ.D a).map λxs=>.int xs.length) λa=>(σ.L a).map λxs=>.int xs.length
  |_=>none
 |_=>none
def O0 (k:BF)(vs:List V){Q:V->St->Prop}(h:JH σ k vs=some v)(q:Q v σ):CW k vs σ Q:=by
 cases vs with
 |nil=>cases k<;>show nO h
 |cons u r =>
  cases k
  case len =>
   cases r with
   |cons=>show nO h
   |nil =>
    cases e:nH u with
    |some a =>
     have rfl:=kA e;have#[xs,e,rfl]:=omap h;apply#[xs,e,q]
    |none =>
     have h:(nH u).elim ((LG u).bind λa=>(σ.D a).map λxs=>V.int xs.length) (λa=>(σ.L a).map λxs=>.int xs.length)=some v:=h;rw[e]at h;have#[a,U,h]:=lz (o:=LG u) h;have rfl:=LD U;have W:=omap h;clear h;have#[xs,e,rfl]:=W;apply#[xs,e,q]
  case set=>show nO h
  case maxL=>show nO h
  case sorted=>show nO h
  all_goals cases r with
  |nil=>show nO h
  |cons w r =>
   cases r with
   |cons=>show nO h
   |nil =>
    first
    |(have#[p,e,rfl]:=omap (o:=xN u w) h;have#[rfl,rfl]:=eH e;show q)
    |(have#[#[i,j],e,h]:=lz (o:=xN u w) h;have#[rfl,rfl]:=eH e;have#[c,rfl]:=uy h;have c:0<j/\j.natAbs<2^60:=c;apply⟨(by(rename_i Z Y;show mq (.iu .A .O) .a .bQ Z.1):j≠0),c.2,?_⟩;rw[gL _ (by show 0<=j;(rename_i Z Y;show mq .a4 .a .bQ Z.1)),gK _ (by show 0<=j;(rename_i Z Y;show mq .a4 .a .bQ Z.1))];show q)
mutual
noncomputable def evV (σ:St)(ρ:Fr):Ex->Option V
 |.none=>some .none
 |.bool b=>some (.bool b)
 |.int i=>some (.int i)
 |.str s=>some (.str s)
 |.l x=>ρ x
 |.b op a b=>(evV σ ρ a).bind λva=>(evV σ ρ b).bind λvb=>iQ op va vb
 |.neg a=>(evV σ ρ a).bind λv=>(vInt v).map λi=>.int (-i)
 |.not a=>(evV σ ρ a).bind λv=>(A1 σ v).map λb=>.bool !b
 |.c op a b=>(evV σ ρ a).bind λva=>(evV σ ρ b).bind λvb=>(ur σ op va vb).map .bool
 |.I c a b=>(evT σ ρ c).bind λt=>if t then evV σ ρ a else evV σ ρ b
 |.T es=>(fD σ ρ es).bind λvs=>if vs.length<=bp then some (.T vs) else none
 |.attr e x=>(evV σ ρ e).bind λv=>(QL v).bind λa=>(σ.I a).bind λp=>p.2 x
 |.sub e i=>(evV σ ρ e).bind λv=>(evV σ ρ i).bind λj=>CA σ v j
 |.bf k es=>(fD σ ρ es).bind λvs=>JH σ k vs
 |_=>none
noncomputable def fD (σ:St)(ρ:Fr):Exs->Option (List V)
 |.nil=>some []
 |.cons e es=>(evV σ ρ e).bind λv=>(fD σ ρ es).map λvs=>v::vs
noncomputable def evT (σ:St)(ρ:Fr):Ex->Option Bool
 |.not a=>(evT σ ρ a).map λb=>!b
 |.and a b=>(evT σ ρ a).bind λt=>if t then evT σ ρ b else some false
 |.or a b=>(evT σ ρ a).bind λt=>if t then some true else evT σ ρ b
 |.c op a b=>(evV σ ρ a).bind λva=>(evV σ ρ b).bind λvb=>ur σ op va vb
 |.I c a b=>(evT σ ρ c).bind λt=>if t then evT σ ρ a else evT σ ρ b
 |.l x=>(ρ x).bind λv=>A1 σ v
 |.int i=>some (i != 0)
 |.bool b=>some b
 |.attr e x=>(evV σ ρ e).bind λv=>(QL v).bind λa=>(σ.I a).bind λp=>(p.2 x).bind λu=>A1 σ u
 |.sub e i=>(evV σ ρ e).bind λv=>(evV σ ρ i).bind λj=>(CA σ v j).bind λr=>A1 σ r
 |.b op a b=>(evV σ ρ a).bind λva=>(evV σ ρ b).bind λvb=>(iQ op va vb).bind λr=>A1 σ r
 |_=>none
end
section
variable {i j:Int}
variable {σ:St}{ρ:Fr}{e a b c:Ex}{es:Exs}
@[simp] theorem VL:evV σ ρ .none=some .none:=rfl
@[simp] theorem VM {x:Bool}:evV σ ρ (.bool x)=some (.bool x):=rfl
@[simp] theorem WS:evV σ ρ (.int i)=some (.int i):=rfl
@[simp] theorem WR {x:Nat}:evV σ ρ (.l x)=ρ x:=rfl
@[simp] theorem C8 {op:Bop}:evV σ ρ (.b op a b)=(evV σ ρ a).bind λY=>(evV σ ρ b).bind λZ=>iQ op Y Z:=rfl
@[simp] theorem WQ:evV σ ρ (.neg a)=(evV σ ρ a).bind λv=>(vInt v).map λi=>.int (-i):=rfl
@[simp] theorem WT {op:Cop}:evV σ ρ (.c op a b)=(evV σ ρ a).bind λY=>(evV σ ρ b).bind λZ=>(ur σ op Y Z).map .bool:=rfl
@[simp] theorem nY:evV σ ρ (.T es)=(fD σ ρ es).bind λvs=>if vs.length<=bp then some (.T vs) else none:=rfl
@[simp] theorem WO {i:Ex}:evV σ ρ (.sub e i)=(evV σ ρ e).bind λv=>(evV σ ρ i).bind λj=>CA σ v j:=rfl
@[simp] theorem XO {k:BF}:evV σ ρ (.bf k es)=(fD σ ρ es).bind λvs=>JH σ k vs:=rfl
@[simp] theorem VK:fD σ ρ .nil=some []:=rfl
@[simp] theorem du:fD σ ρ (.cons e es)=(evV σ ρ e).bind λv=>(fD σ ρ es).map λvs=>v::vs:=rfl
@[simp] theorem WU:evT σ ρ (.not a)=(evT σ ρ a).map λb=>!b:=rfl
@[simp] theorem NZ:evT σ ρ (.and a b)=(evT σ ρ a).bind λt=>if t then evT σ ρ b else some false:=rfl
@[simp] theorem XQ:evT σ ρ (.or a b)=(evT σ ρ a).bind λt=>if t then some true else evT σ ρ b:=rfl
@[simp] theorem C9 {op:Cop}:evT σ ρ (.c op a b)=(evV σ ρ a).bind λY=>(evV σ ρ b).bind λZ=>ur σ op Y Z:=rfl
@[simp] theorem NY {x:Nat}:evT σ ρ (.l x)=(ρ x).bind λv=>A1 σ v:=rfl
@[simp] theorem U1:vInt (.int i)=some i:=rfl
@[simp] theorem TU:iQ .add (.int i) (.int j)=some (.int (i+j)):=rfl
@[simp] theorem TQ:iQ .sub (.int i) (.int j)=some (.int (i-j)):=rfl
@[simp] theorem TR:iQ .mul (.int i) (.int j)=pb (i.natAbs<2^60\/j.natAbs<2^60) (.int (i*j)):=rfl
@[simp] theorem SX:iQ .fdiv (.int i) (.int j)=pb (0<j/\j.natAbs<2^60) (.int (i/j)):=rfl
@[simp] theorem TS:iQ .mod (.int i) (.int j)=pb (0<j) (.int (i%j)):=rfl
@[simp] theorem VT {l:Addr}:JH σ .len [.L l]=(σ.L l).map λxs=>.int xs.length:=rfl
@[simp] theorem VN:ur σ .lt (.int i) (.int j)=some (decide (i<j)):=rfl
@[simp] theorem VO:ur σ .le (.int i) (.int j)=some (decide (i<=j)):=rfl
@[simp] theorem VP:ur σ .gt (.int i) (.int j)=some (decide (j<i)):=rfl
@[simp] theorem VQ:ur σ .ge (.int i) (.int j)=some (decide (j<=i)):=rfl
@[simp] theorem VS:ur σ .eq (.int i) (.int j)=some (decide (i=j)):=rfl
end
section
variable {x:Nat}{e:Ex}
variable {C:Cal}{σ:St}{ρ:Fr}
mutual
theorem jc:∀(e:Ex) {v:V} {Q:V->St->Prop},evV σ ρ e=some v->Q v σ->wpE C e ρ σ Q
 |.none=>λh q=>by cases (h:some _=some _);show q
 |.bool b=>λh q=>by cases (h:some _=some _);show q
 |.int b=>λh q=>by cases (h:some _=some _);show q
 |.str b=>λh q=>by cases (h:some _=some _);show q
 |.l x=>λh q=>#[_,h,q]
 |.b op a b=>λh q=>by
  have#[W,Z,h]:=lz h;have#[U,Y,h]:=fc.mp h;show jc a Z (jc b Y (xU h q))
 |.neg a=>λh q=>by
  have#[W,Z,h]:=lz h;apply jc a Z ?_;have#[i,Y,rfl]:=omap h;apply#[i,rp Y,q]
 |.not a=>λh q=>by
  have#[W,Z,h]:=lz h;have#[b,Y,rfl]:=gm.mp h;show jc a Z (kU _ Y q)
 |.c op a b=>λh q=>by
  have#[W,Z,h]:=lz h;have#[U,Y,h]:=fc.mp h;have#[r,I,rfl]:=gm.mp h;show jc a Z (jc b Y (xT I q))
 |.I c a b=>λh q=>by
  have#[t,Z,h]:=lz h;apply uc c Z ?_;cases t with
  |true=>show iB (jc a h q)
  |false=>show fC (jc b h q)
 |.T es=>λh q=>by
  have#[vs,Z,h]:=lz h;have#[c,h]:=ifO h;cases h;show nu es Z #[c,q]
 |.attr e x=>λh q=>by
  have#[W,Z,h]:=lz h;apply jc e Z ?_;have#[a,B,h]:=lz h;have#[#[d,f],Y,h]:=lz h;apply#[a,d,f,_,AY B,Y,h,q]
 |.sub e i=>λh q=>by
  have#[W,Z,h]:=lz h;have#[U,Y,h]:=fc.mp h;show jc e Z (jc i Y (xS h q))
 |.bf k es=>λh q=>by
  have#[vs,Z,h]:=lz h;show nu es Z (O0 _ _ h q)
 |.and ..=>λh q=>nO h
 |.or ..=>λh q=>nO h
 |.L ..=>λh q=>nO h
 |.dct0=>λh q=>nO h
 |.call ..=>λh q=>nO h
 |.meth ..=>λh q=>nO h
 |.g ..=>λh q=>nO h
 |.h ..=>λh q=>nO h
 |.bm ..=>λh q=>nO h
 |.w ..=>λh q=>nO h
 |.slc ..=>λh q=>nO h
 |.rev ..=>λh q=>nO h
 |.K ..=>λh q=>nO h
 |.n ..=>λh q=>nO h
 |.N ..=>λh q=>nO h
 |.M ..=>λh q=>nO h
 |.dead=>λh q=>nO h
theorem nu:∀(es:Exs) {vs:List V} {Q:List V->St->Prop},fD σ ρ es=some vs->Q vs σ->wh C es ρ σ Q
 |.nil,vs,Q,h,q=>by cases (h:some _=some vs);show q
 |.cons e es,vs,Q,h,q=>by
  have#[v,W,h]:=lz h;have Z:=gm.mp h;clear h;have#[us,Y,rfl]:=Z;show jc e W (nu es Y q)
theorem uc:∀(e:Ex) {b:Bool} {Q:Bool->St->Prop},evT σ ρ e=some b->Q b σ->wpT C e ρ σ Q
 |.not a=>λh q=>by
  have#[b,Y,rfl]:=omap h;show uc a Y q
 |.and a b=>λh q=>by
  have#[t,Z,h]:=lz h;apply uc a Z ?_;cases t with
  |true=>show iB (uc b h q)
  |false=>cases h;show fC q
 |.or a b=>λh q=>by
  have#[t,Z,h]:=lz h;apply uc a Z ?_;cases t with
  |true=>cases h;show iB q
  |false=>show fC (uc b h q)
 |.c op a b=>λh q=>by
  have#[U,Z,h]:=lz h;have#[I,Y,h]:=fc.mp h;show jc a Z (jc b Y (xT h q))
 |.I c a b=>λh q=>by
  have#[t,Z,h]:=lz h;apply uc c Z ?_;cases t with
  |true=>show iB (uc a h q)
  |false=>show fC (uc b h q)
 |.l x=>λh q=>by
  have#[u,Z,h]:=lz h;apply#[u,Z,kU _ h q]
 |.int i=>λh q=>by cases (h:some _=some _);show q
 |.bool i=>λh q=>by cases (h:some _=some _);show q
 |.attr e x=>λh q=>by
  have#[U,Z,h]:=lz h;apply jc e Z ?_;have#[a,B,h]:=lz h;have#[#[d,f],Y,h]:=lz h;have#[u,W,h]:=lz h;apply#[a,d,f,u,AY B,Y,W,kU _ h q]
 |.sub e i=>λh q=>by
  have#[U,Z,h]:=lz h;have#[I,Y,h]:=fc.mp h;have#[u,W,h]:=fc.mp h;show jc e Z (jc i Y (xS W (kU _ h q)))
 |.b op a b=>λh q=>by
  have#[U,Z,h]:=lz h;have#[I,Y,h]:=fc.mp h;have#[u,W,h]:=fc.mp h;show jc a Z (jc b Y (xU W (kU _ h q)))
 |.none=>λh q=>nO h
 |.str ..=>λh q=>nO h
 |.neg ..=>λh q=>nO h
 |.T ..=>λh q=>nO h
 |.bf ..=>λh q=>nO h
 |.L ..=>λh q=>nO h
 |.dct0=>λh q=>nO h
 |.call ..=>λh q=>nO h
 |.meth ..=>λh q=>nO h
 |.g ..=>λh q=>nO h
 |.h ..=>λh q=>nO h
 |.bm ..=>λh q=>nO h
 |.w ..=>λh q=>nO h
 |.slc ..=>λh q=>nO h
 |.rev ..=>λh q=>nO h
 |.K ..=>λh q=>nO h
 |.n ..=>λh q=>nO h
 |.N ..=>λh q=>nO h
 |.M ..=>λh q=>nO h
 |.dead=>λh q=>nO h
end
variable {K:Fl->Fr->St->Prop}{ss:jw}
def n8 (v:V)(h:evV σ ρ e=some v)(k:fw C ss (upd ρ x v) σ K):fw C (.cons (.a [.v x] e) ss) ρ σ K:=jc e h k
def KZ {xs:List Nat}(vs:List V)(h:evV σ ρ e=some (.T vs))(l:xs.length=vs.length)(k:fw C ss (ry xs vs ρ) σ K):fw C (.cons (.a [.T xs] e) ss) ρ σ K:=
 jc e h #[vs,rfl,l,k]
def L0 {es:Exs}(vs:List V)(h:fD σ ρ es=some vs)(l:vs.length<=bp)(k:∀c,σ.L c=none->fw C ss (upd ρ x (.L c)) (σ.cz c vs) K):fw C (.cons (.a [.v x] (.L es)) ss) ρ σ K:=
 nu (Q:=λvs σ=>vs.length<=bp/\∀c,σ.L c=none->fw C ss (upd ρ x (.L c)) (σ.cz c vs) K) es h #[l,k]
def AQ {c:Ex}{t e:jw}(b:Bool)(h:evT σ ρ c=some b)(k:if b then fw C t ρ σ (rU (λρ σ=>fw C ss ρ σ K) K) else fw C e ρ σ (rU (λρ σ=>fw C ss ρ σ K) K)):fw C (.cons (.C c t e) ss) ρ σ K:=uc c h k
def iX {a:Addr}{xs:List V}(v:V)(Y:ρ x=some (.L a))(Z:σ.L a=some xs)(h:evV σ ρ e=some v)(l:xs.length<bp)(k:fw C ss ρ (σ.cz a (xs++[v])) K):fw C (.cons (.expr (.bm .append (.l x) %[e|0])) ss) ρ σ K:=by
 apply#[_,Y,(show(σ.L a).isSome=true by rw[Z];rfl),?_];rw[mv];apply jc e h ?_;apply#[xs,Z,l,rfl,k]
def CS (v:V)(h:evV σ ρ e=some v)(k:K (.ret v) ρ σ):fw C (.cons (.ret e) ss) ρ σ K:=jc (Q:=λv σ=>K (.ret v) ρ σ) e h k
def qb (k:K .next ρ σ):fw C .nil ρ σ K:=k
def iW {H:Fr->St->Prop}(k:H ρ σ):fw C .nil ρ σ (rU H K):=k
def qP (k:fw C ss ρ σ K):fw C (.cons .pass ss) ρ σ K:=k
def nQ {c:Ex}{t e:jw}(p:Prop)[Decidable p](h:evT σ ρ c=some (decide p))(Z:p->fw C t ρ σ (rU (λρ σ=>fw C ss ρ σ K) K))(k2:¬p->fw C e ρ σ (rU (λρ σ=>fw C ss ρ σ K) K)):fw C (.cons (.C c t e) ss) ρ σ K:=by
 apply AQ _ h ?_;by_cases q:p
 ·rw[di q,br rfl];show Z q
 ·rw[dk q,aw (by simp)];show k2 q
end
end MP
end
section
namespace MP
open PySem
variable {ρ:Fr}{σ:St}{es:List (Key×V)}{ks:List Key}
structure OZ (σ σ':St)(s:Addr)(js:List Key):Prop where
 L:σ'.L=σ.L
 D:σ'.D=σ.D
 I:σ'.I=σ.I
 S:∀a,a≠s->σ'.S a=σ.S a
 at_:σ'.S s=some js
structure P0 (σ σ':St)(d:Addr)(es:List (Key×V)):Prop where
 L:σ'.L=σ.L
 S:σ'.S=σ.S
 I:σ'.I=σ.I
 D:∀a,a≠d->σ'.D a=σ.D a
 at_:σ'.D d=some es
section
variable {C:Cal}{K:Fl->Fr->St->Prop}
def KR {c:Ex}{sx s:Nat}{js:List Key}{k:Int}{b:Bool}{again:Fr->St->Prop}(U:∀Q:Bool->St->Prop,Q b σ->wpT C c ρ σ Q)(W:ρ 4=some (.int k))(Y:ρ sx=some (.set s))(Z:σ.S s=some js)(hz:js.length<4000)(hk:Key.int k∉js)
  (h:again ρ (if b then σ.kG s (js++[.int k]) else σ)):fw C %[.C c %[.expr (.bm .add (.l sx) %[.l 4|0])|0] .nil|0] ρ σ (uq again K):=by
 apply U _ ?_;cases b with
 |false=>show fC h
 |true =>
  apply iB #[.set s,Y,(by show(σ.S s).isSome=true;rw[Z];rfl),.int k,W,js,Z,hz,rfl,?_];rw[aw hk];show h
def KS {c:Ex}{sx s:Nat}{t:Tg}{vs:List V}{G:St->Prop}{ks:List Int}{p:Int->Bool}{k:Fr->St->Prop}(Inv:Fr->Prop)(nd:ks.Nodup)(Y:vs.length=ks.length)(hz:ks.length<4000)(hI:Inv ρ)(hS:σ.S s=some [])(hG:∀σ' js,OZ σ σ' s js->σ'.Z=σ.Z\/σ'.Z=clr σ.Z s->G σ')
  (bind:∀(i:Nat) (v:V) (y:Int) (ρ:Fr) (σ':St) (js:List Key) (K:Fr->Prop),vs[i]?=some v->ks[i]?=some y->Inv ρ->OZ σ σ' s js->(∀ρ',Inv ρ'->ρ' 4=some (.int y)->ρ' sx=some (.set s)->(∀Q:Bool->St->Prop,Q (p y) σ'->wpT C c ρ' σ' Q)->K ρ')->pe t v σ' ρ K)
  (h:∀ρ' σ',Inv ρ'->OZ σ σ' s ((ks.filter p).map Key.int)->k ρ' σ') :
  uS vs G (λv ρ σ kk=>pe t v σ ρ λρ=>fw C %[.C c %[.expr (.bm .add (.l sx) %[.l 4|0])|0] .nil|0] ρ σ (uq kk K)) ρ σ k:=by
 apply sq (λi ρ' σ'=>Inv ρ'/\OZ σ σ' s (((ks.take i).filter p).map Key.int)/\(σ'.Z=σ.Z\/σ'.Z=clr σ.Z s)) ?_ ?_ #[hI,#[rfl,rfl,rfl,λ_ _=>rfl,hS],.inl rfl]
 ·intro i v ρ' σ' hv zz;have#[hi,B,hZ]:=zz;apply#[hG _ _ B hZ,λkk hk=>?_];have W:i<ks.length:=Y▸(bc.mp hv).1;have hy:ks[i]?=some ks[i]:=bq W;apply bind i v ks[i] ρ' σ' _ _ hv hy hi B λaj i2 r4 rs hc=>?_;have U:Key.int ks[i]∉((ks.take i).filter p).map Key.int:=λq=>by
   have#[y,ag,ab]:=cq.mp q;have rfl:=Key.int.inj ab;have h1:=(nF.mp ag).1;have#[j,hj,e]:=iw.mp h1;rw[j5]at e;have ai:j<i:=by rw[gc]at hj;(show fe .B .b .O .Q hj (Ar.nv _ _).1)
   have:=(List.getElem_inj nd).mp e
   (show fy .ff [[0,1,-1]] .B .C ai this)
  apply KR (b:=p ks[i]) hc r4 rs B.at_ ?_ U (hk _ _ #[i2,?_])
  ·rw[ak];have:=oq p (ks.take i);rw[gc]at this;(show eQ .cJ .y (.l .B (.n 4000)) .N .aV (.k .D .C) hz W this (Ar.nv _ _).1)
  ·rw[kr W,sf,cu];cases hp:p ks[i] with
   |false =>
    rw[lQ (by rw[hp];decide),List.filter_nil,List.map_nil,dg];apply#[B,hZ]
   |true =>
    rw[rn hp,List.filter_nil];apply#[#[B.L,B.D,B.I,λa ha=>(bz ha).trans (B.S a ha),bg _ _ _],.inr ?_];show clr σ'.Z s=clr σ.Z s;rcases hZ with e|e
    ·rw[e]
    ·rw[e];funext a;unfold clr;split<;>rfl
 ·intro ρ' σ' zz;have#[hi,B,hZ]:=zz;apply#[hG _ _ B hZ,?_];rw[Y,rk]at B;show h ρ' σ' hi B
abbrev eV (es:List (Key×V))(ks:List Key):List (Key×V):=es.filter λe=>decide (e.1∉ks)
def eC {k:Key}:(eV es ks).lookup k=if k∈ks then none else es.lookup k:=by
 unfold eV;induction es with
 |nil=>rw[List.filter_nil];split<;>rfl
 |cons e r Y =>
  have#[a,v]:=e;rw[lR];by_cases c:a∈ks
  ·rw[aw (by simpa using c),Y];by_cases d:k∈ks
   ·rw[br d,br d]
   ·have Z:k≠a:=λq=>d (q▸c);rw[aw d,aw d,nt,ph Z]
  ·rw[br (by simpa using c),nt,nt,Y];by_cases d:k=a
   ·subst d;rw[rj];show(aw c).symm
   ·rw[ph d]
def DV {k:Key}:delD (eV es ks) k=eV es (ks++[k]):=by
 unfold delD eV;rw[List.filter_filter];apply List.filter_congr λe _=>?_;by_cases c:e.1=k
 ·simp[c]
 ·by_cases d:e.1∈ks
  ·simp[c,d]
  ·simp[c,d]
def DU:eV es []=es:=List.filter_eq_self.mpr λ_ _=>rfl
def JO {G:St->Prop}{d dx:Nat}{k:Fr->St->Prop}(hd:σ.D d=some es)(rd:ρ dx=some (.dct d))(h4:dx≠4)(nd:ks.Nodup)(ag:∀k∈ks,(es.lookup k).isSome=true)(hG:∀σ' ai,P0 σ σ' d ai->σ'.Z=σ.Z\/σ'.Z=clr σ.Z d->G σ')
  (h:∀ρ' σ',(∀m,m≠4->ρ' m=ρ m)->P0 σ σ' d (eV es ks)->k ρ' σ') :
  uS (ks.map Key.v) G (λv ρ σ kk=>pe (.v 4) v σ ρ λρ=>fw C %[.delD (.l dx) (.l 4)|0] ρ σ (uq kk K)) ρ σ k:=by
 apply sq (λi ρ' σ'=>(∀m,m≠4->ρ' m=ρ m)/\P0 σ σ' d (eV es (ks.take i))/\(σ'.Z=σ.Z\/σ'.Z=clr σ.Z d)) ?_ ?_ #[λ_ _=>rfl,#[rfl,rfl,rfl,λ_ _=>rfl,hd.trans (by rw[List.take_zero,DU])],.inl rfl]
 ·intro i v ρ' σ' hv zz;have#[U,B,hZ]:=zz;apply#[hG _ _ B hZ,λkk hk=>?_];rw[cj]at hv;have#[y,hy,rfl]:=omap hv;have#[W,rfl]:=bc.mp hy;have Y:ks[i]∉ks.take i:=λq=>by
   have#[j,hj,e]:=iw.mp q;rw[j5]at e;have ab:j<i:=by rw[gc]at hj;(show fe .B .b .O .Q hj (Ar.nv _ _).1)
   have:=(List.getElem_inj nd).mp e
   (show fy .ff [[0,1,-1]] .B .C ab this)
  apply#[.dct d,(bz h4).trans ((U _ h4).trans rd),ks[i].v,bg _ _ _,_,ks[i],B.at_,xI _,?_,?_]
  ·rw[eC,aw Y];show ag _ (lr W)
  ·apply hk _ _ #[λm hm=>(bz hm).trans (U m hm),?_,.inr ?_]
   ·rw[kr W,<- DV];apply#[B.L,B.S,B.I,λa ha=>(bz ha).trans (B.D a ha),bg _ _ _]
   ·show clr σ'.Z d=clr σ.Z d;rcases hZ with e|e
    ·rw[e]
    ·rw[e];funext a;unfold clr;split<;>rfl
 ·intro ρ' σ' zz;have#[U,B,hZ]:=zz;apply#[hG _ _ B hZ,?_];rw[ak,rk]at B;show h ρ' σ' U B
end
end MP
end
section
namespace MP
namespace SM
open PySem
section
variable {P:Nat->Option Fn}{n:Nat}{Q:V->St->Prop}
variable {C:Cal}{σ:St}{ρ:Fr}{K:Fl->Fr->St->Prop}{ss:jw}{x d:Addr}{f:Nat->Option V}{i a b:Nat}{e:Ex}
def qR (v:V)(h:evV σ ρ e=some v)(Z:ρ i=some (.obj x))(Y:σ.I x=some (d,f))(k:fw C ss ρ (σ.jv x d (upd f a v)) K):fw C (.cons (.a [.attr (.l i) a] e) ss) ρ σ K:=
 jc e h #[.obj x,Z,x,d,f,rfl,Y,k]
def vO (v:V)(h:evV (σ.jv x d f) ρ e=some v)(Z:ρ i=some (.obj x))(k:fw C ss ρ (σ.jv x d (upd f a v)) K):fw C (.cons (.a [.attr (.l i) a] e) ss) ρ (σ.jv x d f) K:=
 qR v h Z mz (by rw[lU];show k)
def OW (v:V)(h:evV σ ρ e=some v)(Z:ρ i=some (.obj x))(Y:σ.I x=some (d,f))(k:fw C ss ρ (σ.jv x d (upd (upd f a v) b v)) K):fw C (.cons (.a [.attr (.l i) a,.attr (.l i) b] e) ss) ρ σ K:=
 jc e h #[.obj x,Z,x,d,f,rfl,Y,.obj x,Z,x,d,_,rfl,mz,by rw[lU];show k]
def lI (v:V)(h:evV (σ.jv x d f) ρ e=some v)(Z:ρ i=some (.obj x))(k:fw C ss ρ (σ.jv x d (upd (upd f a v) b v)) K):fw C (.cons (.a [.attr (.l i) a,.attr (.l i) b] e) ss) ρ (σ.jv x d f) K:=
 OW v h Z mz (by rw[lU];show k)
def qQ {es:Exs}{m:Nat}(vs:List V)(Z:ρ i=some (.obj x))(Y:(σ.I x).isSome=true)(h:fD σ ρ es=some vs)(k:C m (.obj x::vs) σ λv σ=>v=.none/\fw C ss ρ σ K):fw C (.cons (.expr (.meth (.l i) m es)) ss) ρ σ K:=
 #[.obj x,Z,x,rfl,Y,nu (Q:=λvs σ=>C m (.obj x::vs) σ λv σ=>v=.none/\fw C ss ρ σ K) es h k]
end
def HG (W:P 2=some fn2){x d la:Addr}{f:Nat->Option V}{σ:St}(Z:σ.I x=some (d,f))(Y:f 1=some .none)(h:Q .none (σ.jv x d (upd (upd (upd f 1 (.L la)) 4 .none) 5 .none))):fk P (n+1) 2 [.obj x,.L la] σ Q:=
 ⟨fn2,W,az 2,az 2,qP (AQ false (by
   show((σ.I x).bind λp=>p.2 1).bind _=_;rw[Z];show(f 1).bind _=_;rw[Y];rfl) (fC (qb (qR (.L la) rfl rfl Z (lI .none rfl rfl (qb h))))))⟩
def HE (W:P 1=some fn1){x:Addr}{Z Y:V}{σ:St}(U:(σ.I x).isSome=true)(h:fk P n 2 [.obj x,Z] σ λv σ=>v=.none/\(σ.I x).isSome=true/\fk P n 3 [.obj x,Y] σ λv σ=>v=.none/\Q .none σ):fk P (n+1) 1 [.obj x,Z,Y] σ Q:=
 ⟨fn1,W,az 3,az 3,qP (qQ [Z] rfl U rfl (Eq.mp (bx (fk P n 2 [.obj x,Z] σ) (funext λv=>funext λσ'=>propext ⟨λq=>#[q.1,qQ [Y] rfl q.2.1 rfl q.2.2],λq=>⟨q.1,by
  have#[_,_,e,y,e',h1,_,e2,B]:=q;cases e;cases e';cases e2;apply#[h1,B]⟩⟩)) h))⟩
def HF (W:P 3=some fn3){x d lb:Addr}{f:Nat->Option V}{σ:St}(Z:σ.I x=some (d,f))(Y:f 2=some .none)
  (h:fk P n 4 [.obj x] (σ.jv x d (upd (upd (upd (upd f 2 (.L lb)) 4 .none) 5 .none) 6 .none)) λv σ=>v=.none/\Q .none σ):fk P (n+1) 3 [.obj x,.L lb] σ Q:=
 ⟨fn3,W,az 2,az 2,qP (AQ false (by
   show((σ.I x).bind λp=>p.2 2).bind _=_;rw[Z];show(f 2).bind _=_;rw[Y];rfl) (fC (qb (qR (.L lb) rfl rfl Z (lI .none rfl rfl (vO .none rfl rfl (qQ [] rfl (by rw[mz];rfl) rfl h)))))))⟩
end SM
end MP
end
section
namespace MP
open PySem
variable {σ:St}{db:Addr}{bs:List Key}{gone:Key->Bool}{es:List (Key×V)}
def IA {α:Type}[DecidableEq α]{ks Z:List α}(nd:ks.Nodup)(hm:∀k,k∈Z↔k∈ks)(hl:Z.length=ks.length):Z.Nodup:=by
 apply iI.mpr λi j hi I U e=>?_;have hs:ks ⊆ Z.eraseIdx j:=λx hx=>by
  have#[m,W,Y]:=iw.mp ((hm x).mpr hx);apply List.mem_eraseIdx_iff_getElem.mpr ?_;by_cases c:m=j
  ·subst c;apply#[i,hi,gn U,e.trans Y]
  ·apply#[m,W,c,Y]
 have B:=nd.length_le_of_subset hs;rw[gJ I]at B
 (show pq .ff .o .C .aF (.e .Q .A) hl B (aa (ax .D .a .S I)))
structure Tb (σ:St)(db:Addr)(bs:List Key)(gone:Key->Bool)(es:List (Key×V)):Prop where
 D:σ.D db=some es
 nd:(es.map (·.1)).Nodup
 sub:∀k∈es.map (·.1),k∈bs
 len:es.length<=bs.length
 out:∀k,gone k=true->es.lookup k=none
 here:∀k,gone k=false->(es.lookup k=none/\posOf k bs=[])\/∃c,es.lookup k=some (.L c)/\σ.L c=some (hV k bs)
def Tb.tabAt (h:Tb σ db bs gone es):TabAt σ db bs gone:=#[es,h.D,h.out,h.here]
def Tb.move {σ':St}(h:Tb σ db bs gone es)(Y:σ'.D db=σ.D db)(Z:∀a xs,σ.L a=some xs->σ'.L a=some xs):Tb σ' db bs gone es:=
 #[Y.trans h.D,h.nd,h.sub,h.len,h.out,λk hk=>(h.here k hk).imp_right λq=>by have#[c,U,W]:=q;apply#[c,U,Z _ _ W]]
def uL {k:Key}:k∈es.map (·.1)↔(es.lookup k).isSome=true:=by
 rw[<- jU,List.any_eq_true];apply#[λh=>?_,λh=>?_]
 ·have#[e,Y,Z]:=cq.mp h;apply#[e,Y,by rw[Z];show rj k]
 ·have#[e,Y,Z]:=h;show cq.mpr #[e,Y,eq_of_beq Z]
def Tb.eV {σ':St}{p:Key->Bool}{ks:List Key}(h:Tb σ db bs gone es)(B:P0 σ σ' db (MP.eV es ks))(hk:∀k,k∈ks↔k∈es.map (·.1)/\p k=true):Tb σ' db bs (λk=>gone k||p k) (MP.eV es ks):=by
 apply#[B.at_,?_,λk q=>?_,gp (oq _ _) h.len,λk q=>?_,λk q=>?_]
 ·show(List.filter_sublist.map _).nodup h.nd
 ·have#[e,W,rfl]:=cq.mp q;show h.sub _ (cq.mpr #[e,(nF.mp W).1,rfl])
 ·rw[eC];split
  ·rfl
  ·rename_i n;rcases (sy ..).mp q with q|q
   ·show h.out k q
   ·cases hq:es.lookup k with
    |none=>rfl
    |some w=>show absurd ((hk k).mpr #[uL.mpr (by rw[hq];rfl),q]) n
 ·have#[Y,Z]:=Bool.or_eq_false_iff.mp q;have n:k∉ks:=λm=>by rw[((hk k).mp m).2]at Z;cases Z
  rw[eC,aw n,B.L];show h.here k Y
def B2J.tb {σ₀:St}(h:B2J σ₀ σ db bs):∃es,Tb σ db bs (λ_=>false) es:=by
 have#[es,Z,W,I,U,_]:=h.tab;have#[Y,k2]:=h.keys es Z;apply#[es,Z,Y,k2,W,λk e=>Bool.noConfusion e,λk _=>?_];cases hk:es.lookup k with
 |none=>show .inl #[rfl,I k hk]
 |some w =>
  have#[c,rfl,e,_]:=U k w hk;show .inr #[c,rfl,e]
abbrev qx (p:Int->Bool):Key->Bool
 |.int y=>p y
 |.str _=>false
def J2 {ys:List Int}(h:∀k∈es.map (·.1),k∈ys.map Key.int):∃ks:List Int,es.map (·.1)=ks.map Key.int:=by
 generalize es.map (·.1)=l at h;induction l with
 |nil=>refine#[[],rfl]
 |cons k l Z =>
  have#[ks,e]:=Z λk hk=>h k (.tail _ hk);have#[y,_,rfl]:=cq.mp (h k (.head _));apply#[y::ks,by rw[e];rfl]
def DY {ks:List Int}(h:(ks.map Key.int).Nodup):ks.Nodup:=(List.pairwise_map.mp h).imp λn e=>n (bx Key.int e)
def DW {ks:List Int}(h:ks.Nodup):(ks.map Key.int).Nodup:=List.pairwise_map.mpr (h.imp λn e=>n (Key.int.inj e))
section
variable {C:Cal}{K:Fl->Fr->St->Prop}
structure TK (σ σ':St)(db s:Addr)(bs:List Key)(gone p:Key->Bool)(es:List (Key×V)):Prop where
 L:σ'.L=σ.L
 I:σ'.I=σ.I
 S:∀a,a≠s->σ'.S a=σ.S a
 D:∀a,a≠db->σ'.D a=σ.D a
 tb:∃es',Tb σ' db bs (λk=>gone k||p k) es'
 at_:∃js,σ'.S s=some js/\∀k,k∈js↔k∈es.map (·.1)/\p k=true
def PL {c:Ex}{sx s db:Nat}{t:Tg}{it:It}{ys:List Int}{p:Int->Bool}{ρ:Fr}{σ:St}{ss:jw}(Inv:Fr->Prop)(val:Key×V->V)(bl:sx≠4)(aj:∀ρ ρ',(∀m,m≠4->ρ' m=ρ m)->Inv ρ->Inv ρ')(U:∀ρ,Inv ρ->ρ 2=some (.dct db)/\ρ sx=some (.set s))
  (hz:ys.length<4000) (T:Tb σ db (ys.map Key.int) gone es) (hS:σ.S s=some []) (ao:s≠db) (hI:Inv ρ)
  (hit:∀K:List V->(St->Prop)->St->Prop,(∀o,K (es.map val) (λτ=>τ.Z db=some o) (σ.fJ db o))->vW C it ρ σ K)
  (bind:∀(e:Key×V) (y:Int) (ρ:Fr) (σ':St) (K:Fr->Prop),e∈es->e.1=.int y->Inv ρ->σ'.L=σ.L->(∀ρ',Inv ρ'->ρ' 4=some (.int y)->(∀Q:Bool->St->Prop,Q (p y) σ'->wpT C c ρ' σ' Q)->K ρ')->pe t (val e) σ' ρ K)
  (h:∀ρ' σ',Inv ρ'->TK σ σ' db s (ys.map Key.int) gone (qx p) es->fw C ss ρ' σ' K) :
  fw C (.cons (.each t it %[.C c %[.expr (.bm .add (.l sx) %[.l 4|0])|0] .nil|0]) (.cons (.each (.v 4) (.seq (.l sx)) %[.delD (.l 2) (.l 4)|0]) ss)) ρ σ K:=by
 have#[ks,W]:=J2 T.sub;have ai:ks.Nodup:=DY (W▸T.nd);have ab:es.length=ks.length:=by have:=bx List.length W;simpa using this
 have be:ks.length<4000:=by have:=T.len;rw[ak]at this;(show pq .cJ .m (.l .B (.n 4000)) .cX .Q hz ab this)
 apply hit _ λo=>?_;apply KS (σ:=σ.fJ db o) (p:=p) (ks:=ks) (s:=s) (sx:=sx) Inv ai (by rw[ak];show ab) be hI hS (λσ' js B hZ=>?_) (λi v y ρ' σ' js K' hv hy hi B kk=>?_) λρ' σ' hi B=>?_
 ·rcases hZ with e|e
  ·rw[e];show bg _ _ _
  ·rw[e,JU (j4 ao)];show bg _ _ _
 ·rw[cj]at hv;have#[e,he,rfl]:=omap hv;have e1:e.1=.int y:=by
   have:(es.map (·.1))[i]?=some (.int y):=by rw[W,cj,hy];rfl
   rw[cj,he]at this;show ah this
  show bind e y ρ' σ' K' (cw he) e1 hi B.L λag i2 r4 hc=>kk ag i2 r4 (U _ i2).2 hc
 ·have#[r2,rs]:=U _ hi;apply#[_,rs,_,B.at_,λo2 bd hm hl=>?_];have ar:((ks.filter p).map Key.int).Nodup:=DW (ai.sublist List.filter_sublist);have aE:=IA ar hm hl;have Y:∀k,k∈bd↔k∈es.map (·.1)/\qx p k=true:=λk=>by
   rw[hm k,W];apply#[λq=>?_,λq=>?_]
   ·have#[y,h1,rfl]:=cq.mp q;have#[h2,h3]:=nF.mp h1;apply#[cq.mpr #[y,h2,rfl],h3]
   ·have#[h1,h3]:=q;have#[y,h2,rfl]:=cq.mp h1;show cq.mpr #[y,nF.mpr #[h2,h3],rfl]
  have hD:(σ'.fJ s o2).D db=some es:=(gy B.D db).trans T.D;apply JO (σ:=σ'.fJ s o2) hD r2 (by decide) aE (λk hk=>uL.mp ((Y k).mp hk).1) (λσ2 bn B2 hZ=>?_) λag σ2 hr B2=>?_
  ·rcases hZ with e|e
   ·rw[e];show bg _ _ _
   ·rw[e,JU ao];show bg _ _ _
  ·apply h ag σ2 (aj _ _ hr hi) ?_;have T2:Tb (σ'.fJ s o2) db (ys.map Key.int) gone es:=T.move (gy B.D db) λa xs e=>(gy B.L a).trans e;apply#[B2.L.trans B.L,B2.I.trans B.I,λa ha=>(gy B2.S a).trans (B.S a ha),λa ha=>(B2.D a ha).trans (gy B.D a),#[_,T2.eV B2 Y],_,(gy B2.S s).trans B.at_,λk=>(hm k).symm.trans (Y k)]
end
namespace SM
abbrev jW (C:Cal)(vj:V)(jk:Int->Bool):Prop:=(vj=.none/\∀y,jk y=false)\/∃k cs,vj=.clo k cs/\∀(y:Int) (σ:St) (Q:V->St->Prop),(∀v,(∀(σ:St) (K:Bool->Prop),K (jk y)->tc v σ K)->Q v σ)->C (1000+k) (.int y::cs) σ Q
abbrev jG (ys:List Int)(y:Int):Bool:=decide (200<=ys.length)&&decide (ys.length/100+1<(posOf (.int y) (ys.map Key.int)).length)
abbrev DS (aj:Bool)(ys:List Int)(y:Int):Bool:=aj&&jG ys y
structure vP (σ σ':St)(x d:Addr)(f:Nat->Option V)(ys:List Int)(aj:Bool)(jk:Int->Bool)(db sj:Addr)(js:List Key):Prop where
 L:∀a xs,σ.L a=some xs->σ'.L a=some xs
 I:∃f',σ'.I x=some (d,f')/\(∀m,m<7->f' m=f m)/\f' 7=some (.dct db)/\f' 8=some (.set sj)
 D:TabAt σ' db (ys.map Key.int) λk=>qx jk k||qx (DS aj ys) k
 S:σ'.S sj=some js
 J:∀y∈ys,Key.int y∈js↔jk y=true
structure Mid (σ₀:St)(x d lb db sj:Addr)(f:Nat->Option V)(ys:List Int)(jk:Int->Bool)(ρ:Fr)(σ:St)(js:List Key)(es:List (Key×V)):Prop where
 r0:ρ 0=some (.obj x)
 r1:ρ 1=some (.L lb)
 r2:ρ 2=some (.dct db)
 I:σ.I x=some (d,upd (upd f 7 (.dct db)) 8 (.set sj))
 L:∀a xs,σ₀.L a=some xs->σ.L a=some xs
 S:σ.S sj=some js
 J:∀y∈ys,Key.int y∈js↔jk y=true
 T:Tb σ db (ys.map Key.int) (qx jk) es
abbrev BL:jw:=(.cons (.a [(.attr (.l 0) 9),(.v 8)] (.bf .set .nil))
 (.cons (.a [(.v 9)] (.bf .len %[.l 1|0]))
 (.cons (.C (.and (.attr (.l 0) 3) (.c .ge (.l 9) (.int 200))) (.cons (.a [(.v 10)] (.b .add (.b .fdiv (.l 9) (.int 100)) (.int 1)))
 (.cons (.each (.T [4,11]) (.items (.l 2)) (.cons (.C (.c .gt (.bf .len %[.l 11|0]) (.l 10)) (.cons (.expr (.bm .add (.l 8) %[.l 4|0]))
 .nil) .nil)
 .nil))
 (.cons (.each (.v 4) (.seq (.l 8)) (.cons (.delD (.l 2) (.l 4))
 .nil))
 .nil))) .nil)
 .nil)))
def lookup_mem {es:List (Key×V)}(nd:(es.map (·.1)).Nodup){k:Key}{v:V}(h:(k,v)∈es):es.lookup k=some v:=by
 induction es with
 |nil=>cases h
 |cons e r Z =>
  have#[a,b]:=e;rw[ju,List.nodup_cons]at nd;rw[nt];rcases bw.mp h with e|h
  ·cases e;rw[rj]
  ·have:k≠a:=λq=>nd.1 (q▸cq.mpr #[_,h,rfl]);rw[ph this];show Z nd.2 h
def BK {C:Cal}{σ₀ σ:St}{x d lb db sj:Addr}{f:Nat->Option V}{ys:List Int}{aj:Bool}{jk:Int->Bool}{ρ:Fr}{js:List Key}{es:List (Key×V)}{Q:V->St->Prop}(M:Mid σ₀ x d lb db sj f ys jk ρ σ js es)(bl:f 3=some (.bool aj))(hL:σ₀.L lb=some (ys.map V.int))(hz:ys.length<4000)
  (h:∀σ',vP σ₀ σ' x d f ys aj jk db sj js->Q .none σ'):fw C BL ρ σ (jD Q):=by
 have r0:=M.r0;have r1:=M.r1;have r2:=M.r2;have I:=M.I;have T:=M.T;have S:=M.S;have Lb:=M.L _ _ hL;intro Y bd ai;apply#[.obj x,r0,x,d,_,rfl,I,?_];have ao:sj≠Y:=λe=>by rw[e,bd]at S;cases S
 have be:Y≠db:=λe=>by
  have:=T.D;rw[<- e,ai]at this;cases this
 generalize Z:(σ.kG Y []).jv x d (upd (upd (upd f 7 (.dct db)) 8 (.set sj)) 9 (.set Y))=σ1;have L1:σ1.L=σ.L:=by rw[<- Z];rfl
 have D1:σ1.D=σ.D:=by rw[<- Z];rfl
 have I1:σ1.I x=some (d,upd (upd (upd f 7 (.dct db)) 8 (.set sj)) 9 (.set Y)):=by rw[<- Z];show mz
 have S1:σ1.S=upd σ.S Y []:=by rw[<- Z];rfl
 have Sj:σ1.S sj=some js:=by rw[S1,bz ao];show S
 have T1:Tb σ1 db (ys.map Key.int) (qx jk) es:=T.move (gy D1 db) λa xs e=>(gy L1 a).trans e;have fin:∀σ',σ'.L=σ1.L->σ'.I=σ1.I->σ'.S sj=some js->(∃ar,Tb σ' db (ys.map Key.int) (λk=>qx jk k||qx (DS aj ys) k) ar)->Q .none σ':=λσ' ab bv bu bn=>by
  have#[ar,T']:=bn;show h σ' #[λa xs e=>by rw[ab,L1];show M.L _ _ e,#[upd (upd (upd f 7 (.dct db)) 8 (.set sj)) 9 (.set Y),by rw[bv];show I1,λm hm=>by rw[bz (gn (Nat.lt_trans hm (by decide))),bz (gn (Nat.lt_trans hm (by decide))),bz (gn hm)],rfl,rfl],T'.tabAt,bu,M.J]
 apply#[.L lb,r1,_,(gy L1 lb).trans Lb,?_];apply#[.obj x,r0,x,d,_,.bool aj,rfl,I1,bl,?_];have hp:qx (DS false ys)=λ_=>false:=by
  funext k
  cases k<;>rfl
 have eO:(λk=>qx jk k||false)=qx jk:=funext λk=>we _;cases aj with
 |false=>show fin σ1 rfl rfl Sj #[es,by rw[hp,eO];show T1]
 |true=>?_
 show wpT C (.c .ge (.l 9) (.int 200)) (upd (upd ρ 8 (.set Y)) 9 (.int (ys.map V.int).length)) σ1 _;apply#[_,rfl,?_];rw[ak];show if decide ((200:Int)<=(ys.length:Nat))=true then _ else _
 by_cases c:200<=ys.length
 ·rw[di (by(show dp (.ik (.n 200) .L) .a (.k .aL .A) c):(200:Int)<=(ys.length:Nat)),br rfl];apply#[_,rfl,(by decide:(100:Int)≠0),by decide,?_];have aE:((ys.length:Nat):Int).fdiv 100+1=((ys.length/100+1:Nat):Int):=by
   rw[gL _ (by decide)];(show QB (.ie (.a .A .U) (.t .P)) [[100,0,1,-1,0,1],[100,1,0,1,1,-1]] (.ik .O .B) (.il .B (.n 100)) (.ie (.a (.m 100 .A) .B) .P) (.l .C (.n 100)) (.e (.a (.m 100 .A) .C) .B) (Ar.imod _ 100 (by decide)).1 (Ar.imod _ 100 (by decide)).2.1 (Ar.imod _ 100 (by decide)).2.2 (Ar.zm _ 100 (by decide)).1 (Ar.zm _ 100 (by decide)).2)
  show fw C _ (upd _ 10 (.int (((ys.length:Nat):Int).fdiv 100+1))) σ1 _;rw[aE];apply PL (σ:=σ1) (s:=Y) (db:=db) (p:=jG ys) (λρ=>ρ 2=some (.dct db)/\ρ 8=some (.set Y)/\ρ 10=some (.int (ys.length/100+1:Nat))) (λe=>.T [e.1.v,e.2]) (by decide) (λρ ρ' hr hi=>#[(hr 2 (by decide)).trans hi.1,(hr 8 (by decide)).trans hi.2.1,(hr 10 (by decide)).trans hi.2.2]) (λρ hi=>#[hi.1,hi.2.1]) hz T1 (by rw[S1];show bg _ _ _) be #[r2,rfl,rfl] (λK' kk=>#[_,r2,es,T1.D,kk]) (λe y ρ' σ' K' he hy hi ab kk=>?_) λρ' σ' hi V=>?_
  ·apply#[_,rfl,rfl,?_];have#[i2,i8,ag]:=hi;rw[hy];apply kk _ #[i2,i8,ag] rfl λQ' q=>?_;have#[ca,v1]:=e;clear h;obtain rfl:ca=.int y:=hy;have cb:=T1.nd;have hl:es.lookup (.int y)=some v1:=lookup_mem T1.nd he;have hg:qx jk (.int y)=false:=by
    cases hq:qx jk (.int y) with
    |false=>rfl
    |true=>rw[T1.out _ hq]at hl;cases hl
   rcases T1.here _ hg with ⟨W,_⟩|⟨cc,W,q2⟩
   ·rw[hl]at W;cases W
   ·rw[hl]at W;have rfl:=ah W;apply#[_,rfl,_,(gy ab cc).trans q2,_,ag,?_];have e:decide (((ys.length/100+1:Nat):Int)<((hV (.int y) (ys.map Key.int)).length:Nat))=jG ys y:=by
     unfold jG;rw[di c,Bool.true_and];have:(hV (.int y) (ys.map Key.int)).length=(posOf (.int y) (ys.map Key.int)).length:=ak ..;rw[this];show jz.mpr (#[λW=>(ax .cV .a (.il (.t .P) .P) W),λW=>(ax (.il (.t .P) .P) .a .cV W)])
    show Q' (decide _) σ';rw[e];show q
  ·apply(fin σ' V.L V.I ((V.S sj ao).trans Sj) V.tb)
 ·rw[dk (by(show dp (.ij (.n 200) .L) .a (.j .aL .A) c):¬(200:Int)<=(ys.length:Nat)),aw (by decide)];have hp:qx (DS true ys)=λ_=>false:=by
   funext k
   cases k with
   |int y=>show jG ys y=false;unfold jG;rw[dk c];rfl
   |str s=>rfl
  show fin σ1 rfl rfl Sj #[es,by rw[hp,eO];show T1]
end SM
namespace SM
abbrev IV:jw:=(.cons (.a [(.v 7)] (.attr (.l 0) 0))
 (.cons (.C (.l 7) (.cons (.each (.v 4) (.keys (.l 2)) (.cons (.C (.w 7 %[.l 4|0]) (.cons (.expr (.bm .add (.l 6) %[.l 4|0]))
 .nil) .nil)
 .nil))
 (.cons (.each (.v 4) (.seq (.l 6)) (.cons (.delD (.l 2) (.l 4))
 .nil))
 .nil)) .nil)
 BL))
def S8 {C:Cal}{σ₀ σ:St}{x d lb db sj:Addr}{f:Nat->Option V}{ys:List Int}{aj:Bool}{jk:Int->Bool}{ρ:Fr}{es:List (Key×V)}{vj:V}{Q:V->St->Prop}(r0:ρ 0=some (.obj x))(r1:ρ 1=some (.L lb))(r2:ρ 2=some (.dct db))(r6:ρ 6=some (.set sj))(I:σ.I x=some (d,upd (upd f 7 (.dct db)) 8 (.set sj)))(L:∀a xs,σ₀.L a=some xs->σ.L a=some xs)(S:σ.S sj=some [])(T:Tb σ db (ys.map Key.int) (λ_=>false) es)
  (ag:sj≠db) (ai:f 0=some vj) (B:f 3=some (.bool aj)) (hL:σ₀.L lb=some (ys.map V.int)) (hz:ys.length<4000) (hJ:jW C vj jk)
  (h:∀σ' js,vP σ₀ σ' x d f ys aj jk db sj js->Q .none σ'):fw C IV ρ σ (jD Q):=by
 apply#[.obj x,r0,x,d,_,vj,rfl,I,ai,?_];have ab:∀y∈ys,Key.int y∈es.map (·.1):=λy Z=>by
  rw[uL];rcases T.here (.int y) rfl with ⟨q1,q2⟩|⟨c,q1,_⟩
  ·have#[j,hj,e]:=iw.mp Z;have:j∈posOf (.int y) (ys.map Key.int):=sE.mpr (by rw[cj,bq hj,e];rfl);rw[q2]at this;cases this
  ·rw[q1];rfl
 apply#[vj,bg _ _ _,?_];rcases hJ with ⟨rfl,U⟩|⟨k,cs,rfl,Y⟩
 ·have e:qx jk=λ_=>false:=by
   funext q
   cases q with
   |int y=>show U y
   |str s=>rfl
  show BK (js:=[]) #[r0,r1,r2,I,L,S,λy Z=>#[λq=>(nomatch q),λq=>by rw[U y]at q;cases q],by rw[e];show T] B hL hz λσ' hc=>h σ' [] hc
 ·show fw C _ (upd ρ 7 (.clo k cs)) σ _;apply PL (σ:=σ) (s:=sj) (db:=db) (p:=jk) (gone:=λ_=>false) (es:=es) (λρ=>ρ 0=some (.obj x)/\ρ 1=some (.L lb)/\ρ 2=some (.dct db)/\ρ 6=some (.set sj)/\ρ 7=some (.clo k cs)) (λe=>e.1.v) (by decide) (λρ ρ' W hi=>#[(W 0 (by decide)).trans hi.1,(W 1 (by decide)).trans hi.2.1,(W 2 (by decide)).trans hi.2.2.1,(W 6 (by decide)).trans hi.2.2.2.1,(W 7 (by decide)).trans hi.2.2.2.2]) (λρ hi=>#[hi.2.2.1,hi.2.2.2.1]) hz T S ag #[r0,r1,r2,r6,rfl] (λK' kk=>#[_,r2,es,T.D,kk]) (λe y ρ' σ' K' he Z hi ar kk=>?_) λρ' σ' hi V=>?_
  ·have#[i0,i1,i2,i6,i7]:=hi;rw[Z];apply kk _ #[i0,i1,i2,i6,i7] rfl λQ' q=>?_;apply#[_,i7,_,rfl,?_];show Y y σ' _ λv hv=>hv σ' _ q
  ·have#[i0,i1,i2,i6,i7]:=hi;have#[aE,T']:=V.tb;have#[js,ao,hm]:=V.at_;have e:(λk=>false||qx jk k)=qx jk:=funext λk=>Bool.false_or _;rw[e]at T';apply BK (js:=js) #[i0,i1,i2,by rw[V.I];show I,λa xs q=>by rw[V.L];show L a xs q,ao,λy Z=>?_,T'] B hL hz λσ' hc=>h σ' js hc;rw[hm];apply#[λq=>q.2,λq=>#[ab y Z,q]]
def JZ {P:Nat->Option Fn}(hP:P 4=some SM.rJ){n:Nat}{x d lb:Addr}{f:Nat->Option V}{ys:List Int}{σ:St}{vj:V}{aj:Bool}{jk:Int->Bool}{Q:V->St->Prop}(hI:σ.I x=some (d,f))(bu:f 0=some vj)(bn:f 2=some (.L lb))(bl:f 3=some (.bool aj))(hL:σ.L lb=some (ys.map V.int))(hz:ys.length<4000)
  (hJ:jW (fk P n) vj jk) (h:∀σ' db sj js,vP σ σ' x d f ys aj jk db sj js->Q .none σ'):fk P (n+1) 4 [.obj x] σ Q:=by
 apply#[SM.rJ,hP,by simp[SM.rJ],by simp[SM.rJ],?_];have h0:frameOf SM.rJ [.obj x] 0=some (.obj x):=rfl;generalize frameOf SM.rJ [.obj x]=ρ at h0;have Y:σ.L lb=some ((ys.map Key.int).map Key.v):=by rw[hL,qi];rfl
 apply#[.obj x,h0,x,d,f,.L lb,rfl,hI,bn,?_];apply λdb cb=>#[.obj x,h0,x,d,f,rfl,hI,?_];apply#[.L lb,rfl,lb,(ys.map Key.int).map Key.v,rfl,Y,?_];generalize ar:ys.map Key.int=bs at Y;have ag:bs.length<4000:=by rw[<- ar,ak];show hz
 apply sq (λi ρ' σ'=>ρ' 0=some (.obj x)/\ρ' 1=some (.L lb)/\ρ' 2=some (.dct db)/\B2J (σ.jv x d (upd f 7 (.dct db))) σ' db (bs.take i)) ?_ ?_ ?_
 ·intro i v ρ' σ' hv ⟨r0,r1,r2,W⟩;apply#[W.old lb _ Y,λk hk=>?_];have hi:i<bs.length:=by
   have:=(bc.mp hv).1;simpa using this
  have aE:v=.T [.int i,bs[i].v]:=by
   rw[cj,List.getElem?_zipIdx]at hv;simp[hi]at hv;show hv.symm
  subst aE;apply#[_,rfl,rfl,?_];apply#[.dct db,r2,?_,bs[i].v,rfl,?_]
  ·have#[es,U,_]:=W.tab;show(σ'.D db).isSome=true;rw[U];rfl
  apply#[ba rfl,λc hc=>?_];have#[es,U,Z,c',e1,e2,ab]:=W.step hc bs[i];have ai:(bs.take i).length=i:=by simp;(show(Ar.nv _ _).2.2.elim (λq1=>(fy .C .i .A .aQ (Ar.nv _ _).1 q1)) λq1=>(pq .C .q .aJ .A .aA hi (Ar.nv _ _).1 q1))
  have bd:bs.take i++[bs[i]]=bs.take (i+1):=(kr hi).symm;rw[ai]at Z ab;rw[bd]at ab;apply#[es,bs[i],U,xI _,by unfold bp;(show pq .aW .h (.l .B (.n 4000)) .N .I ag hi Z),?_];rw[e1];apply#[.L c',rfl,?_,.int i,rfl,?_]
  ·show(St.L _ c').isSome=true;rw[e2];rfl
  apply#[hV bs[i] (bs.take i),e2,?_,rfl,?_]
  ·unfold hV posOf;have:=oq (λj=>decide ((bs.take i)[j]?=some bs[i])) (List.range (bs.take i).length);simp only[ak,tq]at this ⊢;unfold bp;(show eQ .aW .y (.l .B (.n 4000)) .N .d2 .aV ag hi ai this)
  show hk _ _ #[r0,r1,r2,ab]
 ·intro ρ' σ' ⟨r0,r1,r2,W⟩;have Z:((bs.map Key.v).zipIdx.map λp=>V.T [.int p.2,p.1]).length=bs.length:=by simp
  rw[Z,rk]at W;apply#[W.old lb _ Y,?_];have bv:σ'.I x=some (d,upd f 7 (.dct db)):=by rw[W.I];show mz
  intro s1 ca ao;apply#[.obj x,r0,x,d,_,rfl,bv,?_];have#[es,T]:=W.tb;subst ar;have be:s1≠db:=λe=>by
   have:=T.D;rw[<- e,ao]at this;cases this
  apply S8 (σ:=(σ'.kG s1 []).jv x d (upd (upd f 7 (.dct db)) 8 (.set s1))) (ρ:=upd ρ' 6 (.set s1)) (σ₀:=σ) (es:=es) (sj:=s1) (lb:=lb) r0 r1 r2 rfl mz (λa xs e=>W.old a xs e) (bg _ _ _) (T.move rfl λa xs e=>e) be bu bl hL hz hJ λσ' js hc=>h σ' db s1 js hc
 ·apply#[h0,rfl,rfl,B2J.start]
end SM
end MP
end
section
namespace MP
namespace SM
open PySem
variable {σ:St}{la lb db sj:Addr}{as bs:List Key}{ρ:Fr}{alo ahi blo bhi n i j k:Nat}
structure MAt (σ:St)(x:Addr)(la lb db sj:Addr)(as bs:List Key)(rm:Key->Bool)(js:List Key):Prop where
 I:∃d f,σ.I x=some (d,f)/\f 1=some (.L la)/\f 2=some (.L lb)/\f 7=some (.dct db)/\f 8=some (.set sj)
 La:σ.L la=some (as.map Key.v)
 Lb:σ.L lb=some (bs.map Key.v)
 D:TabAt σ db bs rm
 S:σ.S sj=some js
def MAt.keep {σ':St}{x:Addr}{rm:Key->Bool}{js:List Key}(h:MAt σ x la lb db sj as bs rm js)(k:Kp σ σ'):MAt σ' x la lb db sj as bs rm js:=
 #[by rw[k.I];show h.I,k.L _ _ h.La,k.L _ _ h.Lb,h.D.keep k,by rw[k.S];show h.S]
abbrev Row (as bs:List Key)(rm:Key->Bool)(alo blo bhi i:Nat)(es:List (Key×V)):Prop:=∀j:Nat,j<bhi->(es.lookup (.int ((j:Int)-1))).getD (.int 0)=.int (el as bs rm alo blo i j:Nat)
structure FF (ρ:Fr)(la lb db sj:Addr)(alo ahi blo bhi:Nat):Prop where
 r1:ρ 1=some (.int alo)
 r2:ρ 2=some (.int ahi)
 r3:ρ 3=some (.int blo)
 r4:ρ 4=some (.int bhi)
 r5:ρ 5=some (.L la)
 r6:ρ 6=some (.L lb)
 r7:ρ 7=some (.dct db)
 r8:ρ 8=some (.jC sj)
def FF.up {v:V}(h:FF ρ la lb db sj alo ahi blo bhi)(Z:9<=n):FF (upd ρ n v) la lb db sj alo ahi blo bhi:=
 have k:∀m,Nat.blt m 9=true->upd ρ n v m=ρ m:=λm Y=>bz (gn (gz (ba Y) Z))
 #[(k 1 rfl).trans h.r1,(k 2 rfl).trans h.r2,(k 3 rfl).trans h.r3,(k 4 rfl).trans h.r4,(k 5 rfl).trans h.r5,(k 6 rfl).trans h.r6,(k 7 rfl).trans h.r7,(k 8 rfl).trans h.r8]
structure FB (ρ:Fr)(i j k:Nat):Prop where
 r9:ρ 9=some (.int i)
 r10:ρ 10=some (.int j)
 r11:ρ 11=some (.int k)
def FB.up {v:V}(h:FB ρ i j k)(Z:12<=n):FB (upd ρ n v) i j k:=
 have k:∀m,Nat.blt m 12=true->upd ρ n v m=ρ m:=λm Y=>bz (gn (gz (ba Y) Z))
 #[(k 9 rfl).trans h.r9,(k 10 rfl).trans h.r10,(k 11 rfl).trans h.r11]
def sP {a b:Nat}{v:V}(h:(ux a b)[i]?=some v):a+i<b/\v=.int ((a+i:Nat):Int):=by
 unfold ux at h;rw[cj]at h;by_cases hi:i<((b:Int)-a).toNat
 ·rw[List.getElem?_range hi]at h;simp at h;apply#[by show(Ar.ton _).elim (λY=>(dj .L .b .aR (.ie (.t .D) (.s .V .L)) hi Y.2)) λY=>(dj .L .c .aR .Z hi Y.2),by rw[<- h];rfl]
 ·rw[lg (by simpa using hi)]at h;cases h
def pG {a b:Nat}:(ux a b).length=b-a:=by simp[ux]
def BQ:gk n (i:Int)=i:=by unfold gk;rw[aw (iy (.ig .L .O) .j)]
def gZ {Q:V->Prop}{x d:Addr}{f:Nat->Option V}{u:V}(Z:ρ i=some (.obj x))(W:σ.I x=some (d,f))(Y:f j=some u)(q:Q u):∃v,ρ i=some v/\∃x d f u,v=V.obj x/\σ.I x=some (d,f)/\f j=some u/\Q u:=#[_,Z,x,d,f,u,rfl,W,Y,q]
def dZ {al:Addr}{ks:List Key}{i:Int}{c:Key}{Q:V->Prop}(W:σ.L al=some (ks.map Key.v))(Y:i=n)(Z:ks[n]?=some c)(q:Q c.v):rR (.L al) (.int i) σ Q:=by
 subst Y;apply#[_,_,W,by rw[BQ];(show iy (.ik .O .L) .j),by rw[BQ,jj,cj,Z];rfl,q]
def Q3 {C:Cal}{js:List Key}{K:Fl->Fr->St->Prop}{c:Ex}{ok:Key->Bool}
  (aj:σ.L la=some (as.map Key.v)) (ai:σ.L lb=some (bs.map Key.v)) (ha:∀k∈as,wc k) (hb:∀k∈bs,wc k) (ar:as.length<2^40) (ao:bs.length<2^40)
  (hc:∀(ρ:Fr) (j:Nat) (b:Key) (Q:Bool->St->Prop),FF ρ la lb db sj alo ahi blo bhi->ρ 10=some (.int ((j+1:Nat):Int))->bs[j]?=some b->Q (ok b) σ->wpT C c ρ σ Q)
  (hi:i<=as.length) (hj:j<=bs.length)
  (h:∀ρ,FF ρ la lb db sj alo ahi blo bhi->FB ρ (zp as bs ok alo blo i j k).1 (zp as bs ok alo blo i j k).2.1 (zp as bs ok alo blo i j k).2.2->K .next ρ σ) (F:FF ρ la lb db sj alo ahi blo bhi) (B:FB ρ i j k) :
  wpS C (.loop (.and (.c .gt (.l 9) (.l 1)) (.and (.c .gt (.l 10) (.l 3)) (.and c (.c .eq (.sub (.l 5) (.b .sub (.l 9) (.int 1))) (.sub (.l 6) (.b .sub (.l 10) (.int 1))))))) %[.a [.T [9,10,11]] (.T %[.b .sub (.l 9) (.int 1),.b .sub (.l 10) (.int 1),.b .add (.l 11) (.int 1)|0])|0]) ρ σ K:=by
 apply#[i+1,bO (λn ρ' σ'=>σ'=σ/\FF ρ' la lb db sj alo ahi blo bhi/\∃i' j' k',n=i'/\FB ρ' i' j' k'/\i'<=as.length/\j'<=bs.length/\zp as bs ok alo blo i' j' k'=zp as bs ok alo blo i j k) ?_ (i+1) i (iy (.l .A .P) .j) #[rfl,F,i,j,k,rfl,B,hi,hj,rfl]];rintro n ρ' σ' ⟨rfl,U,i',j',k',rfl,W,ab,I,e⟩ again ag;apply#[_,W.r9,_,U.r1,?_];show(if decide ((alo:Int)<n)=true then _ else _);by_cases c1:alo<n
 ·rw[br (by simpa using c1)];apply#[_,W.r10,_,U.r3,?_];show(if decide ((blo:Int)<j')=true then _ else _);by_cases c2:blo<j'
  ·rw[br (by simpa using c2)];have#[Y,rfl]:∃Y,n=Y+1:=#[n-1,by show ax .aB .e (.e .L .A) (aa (ax .D .a .S c1))];have#[Z,rfl]:∃Z,j'=Z+1:=#[j'-1,by show ax .aB .e (.e .L .A) (aa (ax .D .a .S c2))];have ea:as[Y]?=some as[Y]:=bq (ax .B .a .F ab);have eb:bs[Z]?=some bs[Z]:=bq (ax .B .a .F I);apply hc _ Z bs[Z] _ U W.r10 eb ?_;cases hok:ok bs[Z] with
   |false =>
    show K .next ρ' σ'
    have:zp as bs ok alo blo (Y+1) (Z+1) k'=(Y+1,Z+1,k'):=by
     rw[eI];rw[aw];rintro ⟨_,_,h3⟩;have#[c,_,h4,h5]:=ku.mp h3;rw[eb]at h4;cases h4;rw[hok]at h5;cases h5
    rw[this]at e;show h _ U (by rw[<- e];show W)
   |true =>
    rw[br rfl];apply#[_,U.r5,_,W.r9,?_];apply dZ aj (n:=Y) (iy .aU .n) ea ?_;apply#[_,U.r6,_,W.r10,?_];apply dZ ai (n:=Z) (iy .aU .n) eb ?_;apply rS (ha _ (lr _)) (hb _ (lr _)) ?_;by_cases q:as[Y]=bs[Z]
    ·rw[di q];apply iB ?_;apply#[_,W.r9,_,W.r10,_,W.r11,ba rfl,_,rfl,rfl,?_];apply ag Y _ _ (iy (.l .A .P) .j) #[rfl,?_,Y,Z,k'+1,rfl,?_,by show ax .A .a .F ab,by show ax .A .a .F I,?_]
     ·show((U.up (iF (.k (.n 9) (.n 9)) .j)).up (iF (.k (.n 9) (.n 10)) .j)).up (iF (.k (.n 9) (.n 11)) .j)
     ·apply#[?_,?_,?_]
      ·show some (V.int (((Y+1:Nat):Int)-1))=_
       congr 2;(show iy .aU .n)
      ·show some (V.int (((Z+1:Nat):Int)-1))=_
       congr 2;(show iy .aU .n)
      ·rfl
     ·rw[<- e]
      conv=>rhs;rw[eI]
      rw[br #[c1,c2,ku.mpr #[as[Y],ea,by rw[q];show eb,by rw[q];simp[hok]]]]
    ·rw[dk q];show K .next ρ' σ'
     have:zp as bs ok alo blo (Y+1) (Z+1) k'=(Y+1,Z+1,k'):=by
      rw[eI];rw[aw];rintro ⟨_,_,h3⟩;have#[c,h4,h5,_]:=ku.mp h3;rw[ea]at h4;rw[eb]at h5;clear ag;cases h4;show q (ah h5).symm
     rw[this]at e;show h _ U (by rw[<- e];show W)
  ·rw[aw (by simpa using c2)];show K .next ρ' σ'
   have:zp as bs ok alo blo n j' k'=(n,j',k'):=by
    cases n with
    |zero=>rfl
    |succ n =>
     cases j' with
     |zero=>rfl
     |succ j'=>rw[eI];rw[aw (λh=>c2 h.2.1)]
   rw[this]at e;show h _ U (by rw[<- e];show W)
 ·rw[aw (by simpa using c1)];show K .next ρ' σ'
  have:zp as bs ok alo blo n j' k'=(n,j',k'):=by
   cases n with
   |zero=>rfl
   |succ n =>
    cases j' with
    |zero=>rfl
    |succ j'=>rw[eI];rw[aw (λh=>c1 h.1)]
  rw[this]at e;show h _ U (by rw[<- e];show W)
def Q2 {C:Cal}{js:List Key}{K:Fl->Fr->St->Prop}{c:Ex}{ok:Key->Bool}{body:Stm}
  (W:body=.aug 11 .add (.int 1)\/body=.a [(.v 11)] (.b .add (.l 11) (.int 1)))
  (ao:σ.L la=some (as.map Key.v)) (aj:σ.L lb=some (bs.map Key.v)) (ha:∀k∈as,wc k) (hb:∀k∈bs,wc k) (ag:ahi<=as.length) (ab:bhi<=bs.length)
  (hc:∀(ρ:Fr) (j k:Nat) (b:Key) (Q:Bool->St->Prop),FF ρ la lb db sj alo ahi blo bhi->ρ 10=some (.int j)->ρ 11=some (.int k)->bs[j+k]?=some b->Q (ok b) σ->wpT C c ρ σ Q)
  
  (h:∀ρ,FF ρ la lb db sj alo ahi blo bhi->FB ρ i j (iC as bs ok ahi bhi (ahi-i) i j k)->K .next ρ σ) (F:FF ρ la lb db sj alo ahi blo bhi) (B:FB ρ i j k) :
  wpS C (.loop (.and (.c .lt (.b .add (.l 9) (.l 11)) (.l 2)) (.and (.c .lt (.b .add (.l 10) (.l 11)) (.l 4)) (.and c (.c .eq (.sub (.l 5) (.b .add (.l 9) (.l 11))) (.sub (.l 6) (.b .add (.l 10) (.l 11))))))) %[body|0]) ρ σ K:=by
 have more:∀n m k,ahi-(i+k)<=n->n<=m->iC as bs ok ahi bhi n i j k=iC as bs ok ahi bhi m i j k:=by
  intro n;induction n with
  |zero =>
   intro m k h1 h2;cases m with
   |zero=>rfl
   |succ m =>
    show k=_;rw[ua];rw[aw (λq1=>(mf .ff [[0,1,1,-1]] (.k .A .O) (.l .R .D) (.e .aX .D) h1 q1.1 (aa (dt .K .a .L q1.1))))]
  |succ n ih =>
   intro m k h1 h2;have#[m,rfl]:∃m',m=m'+1:=#[m-1,by show ax .aB .e (.e .L .A) (aa (ax .D .a (.k .L .A) h2))];rw[ua,ua];split
   ·show ih _ _ (by(rename_i z1;show ui .A .m .bI (.e (.a .C .a0) .G) (.e (.a .A (.a .D .Y)) .G) h1 (aa (dt .K .a .L z1.1)) (aa (dt .M .a .L z1.1)))) (ax .A .a .aC h2)
   ·rfl
 apply#[ahi+1,bO (λn ρ' σ'=>σ'=σ/\FF ρ' la lb db sj alo ahi blo bhi/\∃k',n=ahi-(i+k')/\FB ρ' i j k'/\iC as bs ok ahi bhi (ahi-i) i j k'=iC as bs ok ahi bhi (ahi-i) i j k) ?_ (ahi+1) (ahi-(i+k)) (ax .J .a .A (wu _ _)) #[rfl,F,k,rfl,B,rfl]];rintro n ρ' σ' ⟨rfl,U,k',rfl,Z,e⟩ again ai;have stop:iC as bs ok ahi bhi (ahi-i) i j k'=k'->K .next ρ' σ':=λq=>by
  rw[q]at e;show h _ U (by rw[<- e];show Z)
 apply#[_,Z.r9,_,Z.r11,_,U.r2,?_];show(if decide (((i:Int)+k')<ahi)=true then _ else _);by_cases c1:i+k'<ahi
 ·rw[br (by simp;(show dt (.il (.a .L .P) .V) .a .L c1))];apply#[_,Z.r10,_,Z.r11,_,U.r4,?_];show(if decide (((j:Int)+k')<bhi)=true then _ else _);by_cases c2:j+k'<bhi
  ·rw[br (by simp;(show dt (.il (.a .L .P) .V) .a .L c2))];have ea:as[i+k']?=some as[i+k']:=bq (dj .L .b (.k .D .C) (.l .M .D) ag c1);have eb:bs[j+k']?=some bs[j+k']:=bq (dj .L .b (.k .D .C) (.l .M .D) ab c2);apply hc _ j k' bs[j+k'] _ U Z.r10 Z.r11 eb ?_;cases hok:ok bs[j+k'] with
   |false =>
    apply stop ?_;have#[m,I]:∃m,ahi-i=m+1:=#[ahi-i-1,by show ax .aB .e (.e .L .A) (aa (dj .D .d (.l .R .D) (.e .M .D) c1 (aa (dt .A .a (.l .X .B) c1))))];rw[I];rw[ua];rw[aw];rintro ⟨_,_,h3⟩;have#[c,_,h4,h5]:=ku.mp h3;rw[eb]at h4;cases h4;rw[hok]at h5;cases h5
   |true =>
    rw[br rfl];apply#[_,U.r5,_,Z.r9,_,Z.r11,?_];apply dZ ao (n:=i+k') (fE (.ie (.a .L .P) (.t .M)) .n) ea ?_;apply#[_,U.r6,_,Z.r10,_,Z.r11,?_];apply dZ aj (n:=j+k') (fE (.ie (.a .L .P) (.t .M)) .n) eb ?_;apply rS (ha _ (lr _)) (hb _ (lr _)) ?_;by_cases q:as[i+k']=bs[j+k']
    ·rw[di q];apply iB ?_;have go:again (upd ρ' 11 (.int ((k':Int)+1))) σ':=by
      apply ai (ahi-(i+(k'+1))) _ _ (vg .B .d (.e (.a .A (.a .C .V)) .F) (.e (.a .B .S) .F) (aa (dt .M .a .L c1)) (aa (dt .K .a .L c1))) #[rfl,U.up (iF (.k (.n 9) (.n 11)) .j),k'+1,rfl,#[Z.r9,Z.r10,rfl],?_];rw[<- e];have#[m,I]:∃m,ahi-i=m+1:=#[ahi-i-1,by show ax .aB .e (.e .L .A) (aa (dj .D .d (.l .R .D) (.e .M .D) c1 (aa (dt .A .a (.l .X .B) c1))))];rw[I]
      conv=>rhs;rw[ua]
      rw[br #[c1,c2,ku.mpr #[as[i+k'],ea,by rw[q];show eb,by rw[q];simp[hok]]]];show(more _ _ _ (ui .A .m (.e .C .L) .bC (.e (.a .A (.a .D .a4)) .F) I (aa (dt .A .a (.l .X .B) c1)) (aa (dt .M .a .L c1))) (iy (.k .A .P) .j)).symm
     rcases W with rfl|rfl
     ·apply#[_,Z.r11,go]
     ·apply#[_,Z.r11,go]
    ·rw[dk q];apply stop ?_;have#[m,I]:∃m,ahi-i=m+1:=#[ahi-i-1,by show ax .aB .e (.e .L .A) (aa (dj .D .d (.l .R .D) (.e .M .D) c1 (aa (dt .A .a (.l .X .B) c1))))];rw[I];rw[ua];rw[aw];rintro ⟨_,_,h3⟩;have#[c,h4,h5,_]:=ku.mp h3;rw[ea]at h4;rw[eb]at h5;cases h4;show q (ah h5).symm
  ·rw[aw (by simp;(show dt (.ik .L (.a .P .V)) .a (.g .R .A) c2))];apply stop ?_;cases ahi-i with
   |zero=>rfl
   |succ n=>rw[ua];rw[aw (λh=>c2 h.2.1)]
 ·rw[aw (by simp;(show dt (.ik .L (.a .P .V)) .a (.g .R .A) c1))];apply stop ?_;cases ahi-i with
  |zero=>rfl
  |succ n=>rw[ua];rw[aw (λh=>c1 h.1)]
end SM
end MP
end
section
namespace MP
namespace SM
set_option genInjectivity false
set_option genSizeOf false
open PySem
variable {as bs:List Key}{rm:Key->Bool}{alo blo bhi i n:Nat}{ps:List Nat}{es:List (Key×V)}{ρ:Fr}{σ:St}{C:Cal}{K:Fl->Fr->St->Prop}
abbrev iY (as bs:List Key)(rm:Key->Bool)(alo blo bhi i:Nat)(ps:List Nat)(es:List (Key×V)):Prop:=∀j:Nat,j<bhi->(es.lookup (.int ((j:Int)-1))).getD (.int 0)=.int (if 0<j/\j-1∈ps then el as bs rm alo blo (i+1) j else 0:Nat)
def iY.row (h:iY as bs rm alo blo bhi i ps es)(Y:∀j,j<bhi->hit as bs rm i j=true->j∈ps):Row as bs rm alo blo bhi (i+1) es:=by
 intro j Z;rw[h j Z];split
 ·rfl
 ·rename_i c
  congr 2
  cases j with
  |zero=>rfl
  |succ j =>
   rw[v8];rw[aw];rintro ⟨_,_,q⟩;show c #[by show iy (.l .O .P) .j,Y j (ax .B .a .cV Z) q]
def iY.put (h:iY as bs rm alo blo bhi i ps es)(j:Nat):iY as bs rm alo blo bhi i (ps++[j]) (putD es (.int j) (.int (el as bs rm alo blo (i+1) (j+1):Nat))):=by
 intro j' Y;rw[zK];by_cases c:j'=j+1
 ·subst c;rw[br (by congr 1;(show iy .aU .n)),br #[by show iy (.l .O .P) .j,by simp]];rfl
 ·rw[aw (λq=>c (by injection q;(show ax .aB .f (.ie (.s .L .U) .P) i_eq))),h j' Y]
  congr 2
  by_cases c1:0<j'/\j'-1∈ps
  ·rw[br c1,br #[c1.1,dq _ c1.2]]
  ·rw[aw c1,aw];rintro ⟨c2,c3⟩;rcases cy.mp c3 with c3|c3
   ·show c1 #[c2,c3]
   ·simp at c3;(show(au c).elim (λZ=>(pq .ff [[0,-1,1,1]] .C .cW (.l .C .L) c3 (aa (dp .D .a .H c2)) Z)) λZ=>(pq .ff [[0,1,-1,1]] .C .cW (.l .L .C) c3 (aa (dp .D .a .H c2)) Z))
def iY.skip (h:iY as bs rm alo blo bhi i ps es)(j:Nat)(U:j<blo):iY as bs rm alo blo bhi i (ps++[j]) es:=by
 intro j' Z;rw[h j' Z]
 congr 2
 by_cases c1:0<j'/\j'-1∈ps
 ·rw[br c1,br #[c1.1,dq _ c1.2]]
 ·rw[aw c1];by_cases c2:0<j'/\j'-1∈ps++[j]
  ·rw[br c2];have#[c3,c4]:=c2;rcases cy.mp c4 with c4|c4
   ·show absurd #[c3,c4] c1
   ·have#[Y,rfl]:∃Y,j'=Y+1:=#[j'-1,by show ax .aB .e (.e .L .A) (aa (dp .D .a .H c3))];simp at c4;rw[v8];rw[aw (λW=>(pq .ff .o .B .cX .aF U c4 W.2.1))]
  ·rw[aw c2]
abbrev sQ:jw:=(.cons (.C (.c .lt (.l 17) (.l 3)) (.cons .cont
 .nil) .nil)
 (.cons (.C (.c .ge (.l 17) (.l 4)) (.cons .brk
 .nil) .nil)
 (.cons (.a [(.v 18),(.sub (.l 16) (.l 17))] (.b .add (.w 15 %[.b .sub (.l 17) (.int 1),.int 0|0]) (.int 1)))
 (.cons (.C (.c .gt (.l 18) (.l 11)) (.cons (.a [.T [9,10,11]] (.T %[.b .add (.b .sub (.l 14) (.l 18)) (.int 1),.b .add (.b .sub (.l 17) (.l 18)) (.int 1),.l 18|0]))
 .nil) .nil)
 .nil))))
abbrev rZ:Stm:=.each (.v 17) (.seq (.bm .get (.l 7) %[.sub (.l 5) (.l 14),.l 13|0])) sQ
structure Fc where
 σ₀:St
 la:Addr
 lb:Addr
 db:Addr
 sj:Addr
 nl:Addr
 as:List Key
 bs:List Key
 rm:Key->Bool
 alo:Nat
 ahi:Nat
 blo:Nat
 bhi:Nat
public abbrev Fc.F (c:Fc)(ρ:Fr):Prop:=FF ρ c.la c.lb c.db c.sj c.alo c.ahi c.blo c.bhi
public abbrev Fc.S (c:Fc)(seen:Nat->Nat->Prop)(i j k:Nat):Prop:=Scan c.as c.bs c.rm c.alo c.ahi c.blo c.bhi seen i j k
public abbrev Fc.e (c:Fc)(i j:Nat):Nat:=el c.as c.bs c.rm c.alo c.blo i j
public abbrev Fc.R (c:Fc)(i:Nat)(es:List (Key×V)):Prop:=Row c.as c.bs c.rm c.alo c.blo c.bhi i es
public abbrev Fc.h (c:Fc)(i j:Nat):Bool:=hit c.as c.bs c.rm i j
structure Fk (c:Fc):Prop where
 La:c.σ₀.L c.la=some (c.as.map Key.v)
 T:TabAt c.σ₀ c.db c.bs c.rm
 n:c.σ₀.L c.nl=some []
 s:c.bs.length<bp
 bl:c.bhi<=c.bs.length
 al:c.ahi<=c.as.length
structure Sc where
 c:Fc
 i:Nat
 cd:Addr
 nd:Addr
 es:List (Key×V)
 ps:List Nat
structure Sk (s:Sc):Prop where
 ai:s.c.alo<=s.i
 ia:s.i<s.c.ahi
 row:s.c.R s.i s.es
 ne:s.cd≠s.nd
 no:s.c.σ₀.D s.nd=none
 mem:∀j,j∈s.ps↔s.c.h s.i j=true
 lt:s.ps.Pairwise (·<·)
 pl:s.ps.length<=s.c.bs.length
abbrev Sc.seen (s:Sc)(t:Nat):Nat->Nat->Prop:=λi' j'=>(i'<s.i/\j'<s.c.bhi)\/(i'=s.i/\j'∈s.ps.take t)
inductive InI (s:Sc)(t:Nat)(ρ:Fr)(σ:St):Prop
 |mk (bi bj bk:Nat) (es:List (Key×V)) (lim:∀j,j∈s.ps.take t->j<s.c.bhi) (len:es.length<=t) (k:Kp s.c.σ₀ σ) (F:s.c.F ρ) (B:FB ρ bi bj bk) (cd:σ.D s.cd=some s.es) (nd:σ.D s.nd=some es)
  (r13:ρ 13=some (.L s.c.nl)) (r14:ρ 14=some (.int s.i)) (r15:ρ 15=some (.iE s.cd)) (r16:ρ 16=some (.dct s.nd)) (row:iY s.c.as s.c.bs s.c.rm s.c.alo s.c.blo s.c.bhi s.i (s.ps.take t) es) (sc:s.c.S (s.seen t) bi bj bk):InI s t ρ σ
inductive vL (s:Sc)(ρ:Fr)(σ:St):Prop
 |mk (bi bj bk:Nat) (es:List (Key×V)) (k:Kp s.c.σ₀ σ) (F:s.c.F ρ) (B:FB ρ bi bj bk) (r13:ρ 13=some (.L s.c.nl)) (r16:ρ 16=some (.dct s.nd)) (nd:σ.D s.nd=some es) (row:s.c.R (s.i+1) es)
  (sc:s.c.S (λi' j'=>(i'<s.i/\j'<s.c.bhi)\/(i'=s.i/\j'<s.c.bhi/\s.c.h s.i j'=true)) bi bj bk):vL s ρ σ
structure fX (ps:List Nat)(t j:Nat):Prop where
 th:ps.take (t+1)=ps.take t++[j]
 lt:∀m,m∈ps.take t->m<j
 of:∀m,m∈ps->m<j->m∈ps.take t
 mem:j∈ps
def LP (lt:ps.Pairwise (·<·)){t j:Nat}(e:ps[t]?=some j):fX ps t j:=by
 have#[Z,rfl]:=bc.mp e;apply#[kr Z,λm W=>?_,λm W I=>?_,lr _]
 ·have#[a,U,rfl]:=List.getElem_of_mem W;have hb:a<t:=by
   have:=U;rw[gc]at this
   (show fe .B .b .O .Q this (Ar.nv _ _).1)
  rw[j5];show(iI.mp lt) a t (fe .B .b .N .O Z hb) Z hb
 ·have#[a,U,rfl]:=List.getElem_of_mem W;have:a<t:=by
   apply Nat.lt_of_not_le λq=>?_;rcases Nat.eq_or_lt_of_le q with q|q
   ·subst q;show absurd I (fp _)
   ·have:=(iI.mp lt) t a Z U q
    (show fy .ff .c .B .S I this)
  show List.mem_take_iff_getElem.mpr #[a,by show(Ar.nv _ _).2.2.elim (λY=>(fe .B .b .O .Q this Y)) λY=>(mf .B .h .R .O .cL Z this Y),rfl]
def InI.fin {s:Sc}{t:Nat}(k:Sk s)(I:InI s t ρ σ)(Z:∀j,j<s.c.bhi->j∈s.ps->j∈s.ps.take t):vL s ρ σ:=by
 cases I;apply .mk bi bj bk es k_1 F B r13 r16 nd (row.row λj U hh=>Z j U ((k.mem j).mpr hh)) (sc.skip ?_ ?_)
 ·rintro i' j' (q|⟨q,Y⟩)
  ·show .inl q
  ·show .inr #[q,lim _ Y,(k.mem _).mp (List.mem_of_mem_take Y)]
 ·rintro i' j' (q|⟨q,Y,W⟩)
  ·show .inl (.inl q)
  ·show .inl (.inr #[q,Z _ Y ((k.mem _).mpr W)])
section
variable {s:Sc}{t j bi bj bk:Nat}
def lV (T:fX s.ps t j){i' j':Nat}(q:s.seen (t+1) i' j'):s.seen t i' j'\/(i'=s.i/\j'=j):=by
 rcases q with q|⟨q,Z⟩
 ·show .inl (.inl q)
 ·rw[T.th]at Z;rcases cy.mp Z with Z|Z
  ·show .inl (.inr #[q,Z])
  ·show .inr #[q,aq.mp Z]
def rY (T:fX s.ps t j){i' j':Nat}(q:s.seen t i' j'):s.seen (t+1) i' j':=q.imp_right λq=>#[q.1,by rw[T.th];show dq _ q.2]
def xF (T:fX s.ps t j)(Z:∀j,j∈s.ps.take t->j<s.c.bhi)(W:j<s.c.bhi):∀j,j∈s.ps.take (t+1)->j<s.c.bhi:=by
 rw[T.th];intro j' Y;rcases cy.mp Y with q|q
 ·show Z _ q
 ·rw[aq.mp q];show W
def MO (T:fX s.ps t j)(Y:j<s.c.blo)(sc:s.c.S (s.seen t) bi bj bk):s.c.S (s.seen (t+1)) bi bj bk:=by
 apply sc.skip (λi' j'=>rY T) λi' j' q=>?_;rcases lV T q with q|⟨rfl,rfl⟩
 ·show .inl q
 ·apply .inr (.inl ?_);rw[v8];rw[aw (λZ=>(fy .ff .c .B .aQ Y Z.2.1))]
def MQ (k:Sk s)(T:fX s.ps t j)(sc:s.c.S (s.seen t) bi bj bk)(h:s.c.e (s.i+1) (j+1)<=bk):s.c.S (s.seen (t+1)) bi bj bk:=by
 apply sc.skip (λi' j'=>rY T) λi' j' q=>?_;rcases lV T q with q|⟨rfl,rfl⟩
 ·show .inl q
 ·apply .inr ?_;have#[h1,h2,hr]:=v9 (as:=s.c.as) (bs:=s.c.bs) (rm:=s.c.rm) (alo:=s.c.alo) (blo:=s.c.blo) (i:=s.i+1) (j:=j'+1);rcases Nat.lt_or_ge (s.c.e (s.i+1) (j'+1)) bk with c4|c4
  ·show .inr (.inl c4)
  ·have Z:s.c.e (s.i+1) (j'+1)=bk:=Nat.le_antisymm h c4;by_cases h0:s.c.e (s.i+1) (j'+1)=0
   ·show .inl h0
   ·apply .inr (.inr #[Z,?_]);have h1:s.c.e (s.i+1) (j'+1)<=s.i+1:=h1;have h2:s.c.e (s.i+1) (j'+1)<=j'+1:=h2;have R':=sc.run;have e1:=R'.ia;have e2:=R'.jb;rcases sc.at_ ((au h0).elim (λY=>(ax .H .r (.l .B .O) Y)) λY=>(fy .H .b .b8 .aI Z Y)) with q|⟨q,q'⟩
    ·left;(rename_i W z1;show jd .B .m .R (.e .a6 .V) (.k .aA .Q) q.1 (aa (fe .U .d .bI .cX W Z)) (Ar.GB _ _))
    ·right
     have:=T.lt _ q'
     (rename_i W z1;show#[(Ar.sub _ _ (λY p1=>(jd .C .I .bK (.e .a6 .V) (.e .Q .aA) q (aa (fe .U .d .bI .cX W Z)) p1)) λY p1=>((au h0).elim (λq2=>(jd .C [[0,0,0,1],[1,-1,1,0]] (.e .R .V) (.k .X .U) (.l .F .O) (aa (fe .U .d .bI .cX W Z)) Y q2)) λq2=>(TA .C [[1,1,-1,1,0,1,1],[1,0,0,-1,1,0,0]] .bK (.e .F .G) (.e .aD .a4) (.k .T .U) .aG .b7 Z q (aa (fe .U .d .bI .cX W Z)) Y p1 q2))),(jd .A .m .R (.e .a6 .V) (.k .aA .Q) this (aa (fe .U .d .bI .cX z1 Z)) (Ar.GB _ _))])
def MN (k:Sk s)(T:fX s.ps t j)(Z:j<s.c.bhi)(sc:s.c.S (s.seen t) bi bj bk)(h:bk<s.c.e (s.i+1) (j+1)):s.c.S (s.seen (t+1)) (s.i+1-s.c.e (s.i+1) (j+1)) (j+1-s.c.e (s.i+1) (j+1)) (s.c.e (s.i+1) (j+1)):=
 sc.take k.ia Z h (.inr #[rfl,by rw[T.th];show ew _ (.head _)]) λi' j' q=>(lV T q).imp_right .inl
def InI.skip (T:fX s.ps t j)(Z:j<s.c.blo)(hb:s.c.blo<=s.c.bhi)(I:InI s t ρ σ):InI s (t+1) (upd ρ 17 (.int j)) σ:=by
 cases I;show .mk bi bj bk es (xF T lim (gz Z hb)) (yn len) k (F.up (by decide)) (B.up (by decide)) cd nd r13 r14 r15 r16 (by rw[T.th];show row.skip j Z) (MO T Z sc)
end
def NS {s:Sc}(ok:Fk s.c)(k:Sk s){t j:Nat}(e:s.ps[t]?=some j)(hb:s.c.blo<=s.c.bhi)(I:InI s t ρ σ){kk:Fr->St->Prop}(hk:∀ρ' σ',InI s (t+1) ρ' σ'->kk ρ' σ')(hf:∀ρ' σ',vL s ρ' σ'->K .next ρ' σ') :
  fw C sQ (upd ρ 17 (.int j)) σ (uq kk K):=by
 have T:=LP k.lt e;have ht:t<s.ps.length:=(bc.mp e).1;have I0:=I;cases I;have F1:s.c.F (upd ρ 17 (.int (j:Int))):=F.up (by decide);have B1:FB (upd ρ 17 (.int (j:Int))) bi bj bk:=B.up (by decide);apply#[.int j,rfl,.int s.c.blo,F1.r3,?_];show(if decide ((j:Int)<s.c.blo)=true then _ else _);by_cases c1:j<s.c.blo
 ·rw[br (by simpa using c1)];show hk _ _ (I0.skip T c1 hb)
 rw[aw (by simpa using c1)];apply#[.int j,rfl,.int s.c.bhi,F1.r4,?_];show(if decide ((s.c.bhi:Int)<=j)=true then _ else _);by_cases c2:s.c.bhi<=j
 ·rw[br (by simpa using c2)];show hf _ _ (InI.fin k (t:=t) (.mk bi bj bk es lim len k_1 F1 B1 cd nd r13 r14 r15 r16 row sc) λj' h1 h2=>T.of j' h2 (gz h1 c2))
 rw[aw (by simpa using c2)];have c2:=Nat.lt_of_not_le c2;apply#[.iE s.cd,r15,.int j,rfl,s.es,.int ((j:Int)-1),cd,rfl,?_];rw[k.row j c2];have pl:=k.pl;have sl:=ok.s;apply#[.dct s.nd,r16,.int j,rfl,es,.int j,nd,rfl,by show yJ .B .y .R .I .cK (.l .F .B) ht len pl sl,?_];have bd:s.c.e (s.i+1) (j+1)=s.c.e s.i j+1:=by
  rw[show s.c.e (s.i+1) (j+1)=_ from v8,br #[k.ai,ip c1,(k.mem j).mp T.mem]]
 have be:(V.int (((s.c.e s.i j:Nat):Int)+1))=.int ((s.c.e (s.i+1) (j+1):Nat):Int):=by
  rw[bd];rfl
 show fw C _ (upd (upd ρ 17 (.int (j:Int))) 18 (V.int (((s.c.e s.i j:Nat):Int)+1))) (σ.qu s.nd (putD es (.int j) (V.int (((s.c.e s.i j:Nat):Int)+1)))) _;rw[be];have ao:iY s.c.as s.c.bs s.c.rm s.c.alo s.c.blo s.c.bhi s.i (s.ps.take (t+1)) (putD es (.int j) (.int (s.c.e (s.i+1) (j+1):Nat))):=by
  rw[T.th];show row.put j
 have Z:(putD es (.int j) (.int (s.c.e (s.i+1) (j+1):Nat))).length<=t+1:=gp HT (lN len);have#[ab,W,_]:=v9 (as:=s.c.as) (bs:=s.c.bs) (rm:=s.c.rm) (alo:=s.c.alo) (blo:=s.c.blo) (i:=s.i+1) (j:=j+1);have tk:=λh=>MN k T c2 sc h;have sm:=λh=>MQ k T sc h;have ab:s.c.e (s.i+1) (j+1)<=s.i+1:=ab;have W:s.c.e (s.i+1) (j+1)<=j+1:=W;generalize s.c.e (s.i+1) (j+1)=E at ao Z tk sm ab W;have F2:s.c.F (upd (upd ρ 17 (.int (j:Int))) 18 (.int (E:Int))):=F1.up (by decide);have B2:FB (upd (upd ρ 17 (.int (j:Int))) 18 (.int (E:Int))) bi bj bk:=B1.up (by decide);have k2:Kp s.c.σ₀ (σ.qu s.nd (putD es (.int j) (.int (E:Int)))):=k_1.qu k.no;have ar:(σ.qu s.nd (putD es (.int j) (.int (E:Int)))).D s.cd=some s.es:=(bz k.ne).trans cd;have aj:(σ.qu s.nd (putD es (.int j) (.int (E:Int)))).D s.nd=some (putD es (.int j) (.int (E:Int))):=bg _ _ _;have r14:upd (upd ρ 17 (.int (j:Int))) 18 (.int (E:Int)) 14=some (.int s.i):=r14;have r16:upd (upd ρ 17 (.int (j:Int))) 18 (.int (E:Int)) 16=some (.dct s.nd):=r16;have r15:upd (upd ρ 17 (.int (j:Int))) 18 (.int (E:Int)) 15=some (.iE s.cd):=r15;have r13:upd (upd ρ 17 (.int (j:Int))) 18 (.int (E:Int)) 13=some (.L s.c.nl):=r13;have aE:upd (upd ρ 17 (.int (j:Int))) 18 (.int (E:Int)) 17=some (.int j):=rfl;have Y:upd (upd ρ 17 (.int (j:Int))) 18 (.int (E:Int)) 18=some (.int E):=rfl;generalize upd (upd ρ 17 (.int (j:Int))) 18 (.int (E:Int))=bl at F2 B2 r13 r14 r15 r16 aE Y;generalize σ.qu s.nd (putD es (.int j) (.int (E:Int)))=σ2 at k2 ar aj;apply#[.int E,Y,.int bk,B2.r11,?_];show(if decide ((bk:Int)<E)=true then _ else _);have ag:=xF T lim c2;by_cases c3:bk<E
 ·rw[br (by simpa using c3)];apply#[.int s.i,r14,.int E,Y,.int j,aE,.int E,Y,.int E,Y,ba rfl,_,rfl,rfl,?_];apply hk _ _ (.mk (s.i+1-E) (j+1-E) E _ ag Z k2 (((F2.up (by decide)).up (by decide)).up (by decide)) #[?_,?_,rfl] ar aj r13 r14 r15 r16 ao (tk c3))
  ·show some (V.int ((s.i:Int)-E+1))=_
   congr 2;(show dt (.ie (.a .R .U) .V) .e (.e .a1 .P) (aa (ax .U .a .U ab)))
  ·show some (V.int ((j:Int)-E+1))=_
   congr 2;(show dt (.ie (.a .R .U) .V) .e (.e .a1 .P) (aa (ax .U .a .U W)))
 ·rw[aw (by simpa using c3)];show hk _ _ (.mk bi bj bk _ ag Z k2 F2 B2 ar aj r13 r14 r15 r16 ao (sm (ip c3)))
def yX {c:Fc}(ok:Fk c){bi bj bk:Nat}{cd nd:Addr}(aj:c.alo<=i)(W:i<c.ahi)(hb:c.blo<=c.bhi)(k0:Kp c.σ₀ σ)(F:c.F ρ)(B:FB ρ bi bj bk)
  (ab:ρ 13=some (.L c.nl)) (U:ρ 14=some (.int i)) (ar:ρ 15=some (.iE cd)) (ao:ρ 16=some (.dct nd)) (hcd:σ.D cd=some es) (Y:c.R i es) (ai:σ.D nd=some []) (ag:cd≠nd) (aE:c.σ₀.D nd=none)
  (sc:c.S (λi' j'=>i'<i/\j'<c.bhi) bi bj bk) (h:∀ρ' σ' ps,vL #[c,i,cd,nd,es,ps] ρ' σ'->K .next ρ' σ'):wpS C rZ ρ σ K:=by
 have al:=ok.al;have ea:c.as[i]?=some c.as[i]:=bq (fe .B .b .O .Q W al);have#[tb,l,hD,hg,hc]:=ok.T.get ok.n c.as[i];generalize Z:(if c.rm c.as[i] then [] else posOf c.as[i] c.bs)=ps at hc;have sk:Sk #[c,i,cd,nd,es,ps]:=by
  apply#[aj,W,Y,ag,aE,λj=>?_,?_,?_]
  ·show j∈ps↔hit c.as c.bs c.rm i j=true;rw[ku,<- Z];cases hr:c.rm c.as[i] with
   |true =>
    rw[br rfl];apply#[(λq=>nomatch q),?_];rintro ⟨a,e1,_,e3⟩;have rfl:=ah (ea.symm.trans e1);rw[hr]at e3;cases e3
   |false =>
    rw[aw (by decide),sE];apply#[λq=>#[_,ea,q,hr],?_];rintro ⟨a,e1,e2,e3⟩;have rfl:=ah (ea.symm.trans e1);show e2
  ·show ps.Pairwise (·<·);rw[<- Z];split
   ·show .nil
   ·show HX
  ·show ps.length<=c.bs.length;rw[<- Z];split
   ·show bh _
   ·show DR
 apply#[.dct c.db,F.r7,(show(σ.D c.db).isSome=true by rw[k0.D _ _ hD];rfl),.L c.la,F.r5,.int i,U,?_];apply dZ (k0.L _ _ ok.La) rfl ea ?_;apply#[.L c.nl,ab,tb,c.as[i],k0.D _ _ hD,xI _,?_];rw[hg];apply#[_,k0.L _ _ hc,?_];apply sq (InI #[c,i,cd,nd,es,ps]) ?_ ?_ ?_
 ·intro t v ρ' σ' hv I;rw[cj]at hv;have#[j,e,rfl]:=gm.mp hv;cases I;apply#[k.L _ _ hc,λkk hk=>NS ok sk e hb (.mk bi_1 bj_1 bk_1 es_1 lim len k F_1 B_1 cd_1 nd_1 r13 r14 r15 r16 row sc_1) hk λρ' σ'=>h ρ' σ' ps]
 ·intro ρ' σ' I;rw[ak]at I;have I0:=I;cases I;apply#[k.L _ _ hc,h _ _ _ (I0.fin sk λj _ q=>by show j∈ps.take ps.length;rw[rk];show q)]
 ·apply .mk bi bj bk [] (λj hj=>nomatch hj) (az _) k0 F B hcd ai ab U ar ao ?_ (sc.skip (λi' j' q=>.inl q) λi' j' q=>?_)
  ·intro j hj;rw[aw (by simp)];rfl
  ·rcases q with q|⟨_,q⟩
   ·show .inl q
   ·show nomatch q
def uW {as bs:List Key}{ok:Key->Bool}{alo blo:Nat}:∀{i j k:Nat},(zp as bs ok alo blo i j k).1<=i/\(zp as bs ok alo blo i j k).2.1<=j
 |0,j,k=>#[az _,az _]
 |i+1,0,k=>#[az _,az _]
 |i+1,j+1,k=>by
  rw[eI];split
  ·have:=uW (as:=as) (bs:=bs) (ok:=ok) (alo:=alo) (blo:=blo) (i:=i) (j:=j) (k:=k+1)
   (show#[(ax .U .a .A this.1),(ax .U .a .A this.2)])
  ·apply#[az _,az _]
abbrev MW:jw:=(.cons (.a [(.v 15)] (.g (.l 12)))
 (.cons (.a [(.v 16)] .dct0)
 (.cons rZ
 (.cons (.a [(.v 12)] (.l 16))
 .nil))))
inductive OS (c:Fc)(t:Nat)(ρ:Fr)(σ:St):Prop
 |mk (bi bj bk:Nat) (cd:Addr) (es:List (Key×V)) (k:Kp c.σ₀ σ) (F:c.F ρ) (r13:ρ 13=some (.L c.nl)) (B:FB ρ bi bj bk) (r12:ρ 12=some (.dct cd)) (hcd:σ.D cd=some es) (row:c.R (c.alo+t) es) (sc:c.S (λi' j'=>i'<c.alo+t/\j'<c.bhi) bi bj bk):OS c t ρ σ
def I4 {c:Fc}(ok:Fk c){t:Nat}{kk:Fr->St->Prop}(ht:c.alo+t<c.ahi)(hb:c.blo<=c.bhi)(I:OS c t ρ σ)(hk:∀ρ' σ',OS c (t+1) ρ' σ'->kk ρ' σ') :
  fw C MW (upd ρ 14 (.int ((c.alo+t:Nat):Int))) σ (uq kk K):=by
 cases I;apply#[_,r12,cd,rfl,by rw[hcd];rfl,λnd Z=>?_];have Y:cd≠nd:=λq=>by rw[q,Z]at hcd;cases hcd
 apply yX ok (cd:=cd) (nd:=nd) (ll _ _) ht hb (k.qu (k.noD Z)) (((F.up (by decide)).up (by decide)).up (by decide)) (((B.up (by decide)).up (by decide)).up (by decide)) r13 rfl rfl rfl ((bz Y).trans hcd) row (bg _ _ _) Y (k.noD Z) sc λU σ2 ps E=>?_;cases E;apply#[_,r16,?_];apply hk _ _ (.mk bi_1 bj_1 bk_1 nd es_1 k_1 (F_1.up (by decide)) r13_1 (B_1.up (by decide)) rfl nd_1 row_1 (sc_1.skip (λi' j' q=>?_) λi' j' q=>?_))
 ·rcases q with q|q
  ·apply#[ym q.1,q.2]
  ·apply#[Nat.lt_succ_of_le (Nat.le_of_eq q.1),q.2.1]
 ·by_cases e:i'<c.alo+t
  ·show .inl (.inl #[e,q.2])
  ·have:i'=c.alo+t:=by have:=q.1;(show fe .b2 .i (.l .A .aF) (.g .A .R) q.1 e)
   subst this;by_cases W:c.h (c.alo+t) j'=true
   ·show .inl (.inr #[rfl,q.2,W])
   ·apply .inr (.inl ?_);rw[v8];rw[aw (λq=>W q.2.2)]
def xG (h:n<bp):n<2^40:=Nat.lt_trans h (by decide)
def QG {m:Nat}(h:n<=m)(Z:m<bp):(n:Int).natAbs<2^40:=oe h (xG Z)
def flm {P:Nat->Option Fn}(hP:P 5=some fn5){σ:St}{x la lb db sj:Addr}{as bs:List Key}{js:List Key}{Q:V->St->Prop}{alo ahi blo:Nat}{Y Z:V}
  (hM:MAt σ x la lb db sj as bs rm js) (ha:∀k∈as,wc k) (hb:∀k∈bs,wc k) (hs:bs.length<bp) (ao:as.length<bp)
  (bn:Y=.int ahi\/(Y=.none/\ahi=as.length)) (bl:Z=.int bhi\/(Z=.none/\bhi=bs.length))
  (cb:alo<=ahi) (ca:blo<=bhi) (ab:ahi<=as.length) (ai:bhi<=bs.length)
  (h:∀σ' i j k,Kp σ σ'->vQ as bs rm alo ahi blo bhi i j k->(let g:=grow as bs (λc=>decide (c∈js)) alo ahi blo bhi i j k;Q (mtV (g.1,g.2.1,g.2.2)) σ')):fk P (n+1) 5 [.obj x,.int alo,Y,.int blo,Z] σ Q:=by
 apply#[fn5,hP,ba rfl,ba rfl,?_];have#[d,f,hI,f1,f2,f7,f8]:=hM.I;have h0:frameOf fn5 [.obj x,.int alo,Y,.int blo,Z] 0=some (.obj x):=rfl;have h1:frameOf fn5 [.obj x,.int alo,Y,.int blo,Z] 1=some (.int alo):=rfl;have h2:frameOf fn5 [.obj x,.int alo,Y,.int blo,Z] 2=some Y:=rfl;have h3:frameOf fn5 [.obj x,.int alo,Y,.int blo,Z] 3=some (.int blo):=rfl;have h4:frameOf fn5 [.obj x,.int alo,Y,.int blo,Z] 4=some Z:=rfl;generalize frameOf fn5 [.obj x,.int alo,Y,.int blo,Z]=ρ at h0 h1 h2 h3 h4;apply gZ h0 hI f1 ?_;apply gZ h0 hI f2 ?_;apply gZ h0 hI f7 ?_;apply gZ h0 hI f8 ?_;apply#[sj,rfl,by rw[hM.S];rfl,ba rfl,?_];apply#[_,rfl,rfl,?_];have cx:∀(ρ:Fr) (K:Fl->Fr->St->Prop),ρ 2=some Y->ρ 5=some (.L la)->(∀ρ',(∀m,m≠2->ρ' m=ρ m)->ρ' 2=some (.int ahi)->K .next ρ' σ) ->
   wpS (fk P n) (.C (.c .is (.l 2) .none) %[.a [(.v 2)] (.bf .len %[.l 5|0])|0] .nil) ρ σ K:=by
  intro ρ K e2 e5 hk;apply#[_,e2,?_];rcases bn with rfl|⟨rfl,rfl⟩
  ·show hk ρ (λ_ _=>rfl) e2
  ·apply#[_,e5,_,hM.La,?_];apply hk _ (λm hm=>bz hm) ?_;rw[bg,ak]
 have ct:∀(ρ:Fr) (K:Fl->Fr->St->Prop),ρ 4=some Z->ρ 6=some (.L lb)->(∀ρ',(∀m,m≠4->ρ' m=ρ m)->ρ' 4=some (.int bhi)->K .next ρ' σ) ->
   wpS (fk P n) (.C (.c .is (.l 4) .none) %[.a [(.v 4)] (.bf .len %[.l 6|0])|0] .nil) ρ σ K:=by
  intro ρ K e2 e5 hk;apply#[_,e2,?_];rcases bl with rfl|⟨rfl,rfl⟩
  ·show hk ρ (λ_ _=>rfl) e2
  ·apply#[_,e5,_,hM.Lb,?_];apply hk _ (λm hm=>bz hm) ?_;rw[bg,ak]
 apply cx _ _ h2 rfl λdf s1 dc=>?_;apply ct _ _ (by rw[s1 4 (by decide)];show h4) (by rw[s1 6 (by decide)];rfl) λch s2 da=>?_;have F0:FF ch la lb db sj alo ahi blo bhi:=by
  apply#[?_,?_,?_,da,?_,?_,?_,?_]<;>rw[s2 _ (by decide)]
  ·rw[s1 _ (by decide)];show h1
  ·show dc
  ·rw[s1 _ (by decide)];show h3
  ·rw[s1 _ (by decide)];rfl
  ·rw[s1 _ (by decide)];rfl
  ·rw[s1 _ (by decide)];rfl
  ·rw[s1 _ (by decide)];rfl
 apply#[_,F0.r1,_,F0.r3,ba rfl,_,rfl,rfl,?_];apply λd0 cn=>?_;apply#[ba rfl,λnl ck=>?_];apply#[_,F0.r1,_,F0.r2,(alo:Int),(ahi:Int),rfl,rfl,QG (gp cb ab) ao,QG ab ao,?_];generalize W:((σ.qu d0 []).cz nl [])=σ₀;have k0:Kp σ σ₀:=by
  rw[<- W];show((Kp.refl σ).qu cn).cz (by show ck)
 have aj:=hM.keep k0;have cl:σ₀.L nl=some []:=by rw[<- W];show bg _ _ _
 have cc:σ₀.D d0=some []:=by rw[<- W];show bg _ _ _
 have ok:Fk #[σ₀,la,lb,db,sj,nl,as,bs,rm,alo,ahi,blo,bhi]:=#[aj.La,aj.D,cl,hs,ai,ab];apply sq (OS #[σ₀,la,lb,db,sj,nl,as,bs,rm,alo,ahi,blo,bhi]) ?_ ?_ ?_
 ·intro t v ρ' σ' hv I;have#[ht,rfl]:=sP hv;apply#[trivial,λk hk=>I4 ok ht ca I hk]
 ·intro ρ' σ' I;have#[bi,bj,bk,cd,es,kk,F,dm,B,dn,dr,bv,bu]:=I;rw[pG]at bv bu;have best:vQ as bs rm alo ahi blo bhi bi bj bk:=bu.best λi' j' h1 h2 h3 h4 h5=>#[by show dj (.l .A .R) .d (.l .A .D) .bB h2 (aa (fe .A .b .I .N h1 h2)),h4];apply#[trivial,?_];have ar:=kk.L _ _ aj.La;have ag:=kk.L _ _ aj.Lb;have hS:σ'.S sj=some js:=by rw[kk.S];show aj.S
  have aE:∀(ρ:Fr) (e:Ex) (j:Nat) (b:Key) (Q:Bool->St->Prop),ρ 8=some (.jC sj)->bs[j]?=some b->(∀Q:V->St->Prop,Q (.int j) σ'->wpE (fk P n) e ρ σ' Q)->ρ 6=some (.L lb)->Q (!decide (b∈js)) σ'->wpT (fk P n) (.not (.w 8 %[.sub (.l 6) e|0])) ρ σ' Q:=λρ e j b Q r8 eb he r6 q=>by
   apply#[_,r8,_,r6,he _ ?_];show dZ ag rfl eb #[js,b,hS,xI _,q]
  have be:∀(ρ:Fr) (e:Ex) (j:Nat) (b:Key) (Q:Bool->St->Prop),ρ 8=some (.jC sj)->bs[j]?=some b->(∀Q:V->St->Prop,Q (.int j) σ'->wpE (fk P n) e ρ σ' Q)->ρ 6=some (.L lb)->Q (decide (b∈js)) σ'->wpT (fk P n) (.w 8 %[.sub (.l 6) e|0]) ρ σ' Q:=λρ e j b Q r8 eb he r6 q=>by
   apply#[_,r8,_,r6,he _ ?_];show dZ ag rfl eb #[js,b,hS,xI _,q]
  have left:∀(ρ:Fr) (j:Nat),ρ 10=some (.int ((j+1:Nat):Int))->∀Q:V->St->Prop,Q (.int j) σ'->wpE (fk P n) (.b .sub (.l 10) (.int 1)) ρ σ' Q:=λρ j r Q q=>by
   apply#[_,r,?_];have e:((j+1:Nat):Int)-1=(j:Int):=by(show iy .aU .n)
   show Q (.int _) σ';rw[e];show q
  have right:∀(ρ:Fr) (j k:Nat),ρ 10=some (.int (j:Int))->ρ 11=some (.int (k:Int))->∀Q:V->St->Prop,Q (.int ((j+k:Nat):Int)) σ'->wpE (fk P n) (.b .add (.l 10) (.l 11)) ρ σ' Q:=λρ j k r r' Q q=>#[_,r,_,r',q];have R:=best.run;have:=R.ia;have:=R.jb;apply Q3 (σ:=σ') (js:=js) (ok:=λc=>!decide (c∈js)) ar ag ha hb (xG ao) (xG hs) (λρ j b Q F U eb q=>aE ρ _ j b Q F.r8 eb (left ρ j U) F.r6 q) (i:=bi) (j:=bj) (k:=bk) (by(rename_i z1;show dj .A .b .Q (.k .T .C) ab z1)) (dj .A .b .Q (.k .T .C) ai this) (λρ F B=>?_) F B;apply Q2 (σ:=σ') (js:=js) (ok:=λc=>!decide (c∈js)) (.inl rfl) ar ag ha hb ab ai (λρ j k b Q F U bd eb q=>aE ρ _ (j+k) b Q F.r8 eb (right ρ j k U bd) F.r6 q) (λρ F B=>?_) F B;apply Q3 (σ:=σ') (js:=js) (ok:=λc=>decide (c∈js)) ar ag ha hb (xG ao) (xG hs) (λρ j b Q F U eb q=>be ρ _ j b Q F.r8 eb (left ρ j U) F.r6 q) ?_ ?_ (λρ F B=>?_) F B
  ·have:=uW (as:=as) (bs:=bs) (ok:=λc=>!decide (c∈js)) (alo:=alo) (blo:=blo) (i:=bi) (j:=bj) (k:=bk)
   (rename_i z5 z4 z3 z2 z1;show jd .A .h .Q .c8 .aV ab z5 this.1)
  ·have:=uW (as:=as) (bs:=bs) (ok:=λc=>!decide (c∈js)) (alo:=alo) (blo:=blo) (i:=bi) (j:=bj) (k:=bk)
   (rename_i z4 z3 z2 z1;show jd .A .h .Q .c8 .aV ai z4 this.2)
  apply Q2 (σ:=σ') (js:=js) (ok:=λc=>decide (c∈js)) (.inr rfl) ar ag ha hb ab ai (λρ j k b Q F U bd eb q=>be ρ _ (j+k) b Q F.r8 eb (right ρ j k U bd) F.r6 q) (λρ F B=>?_) F B;apply#[_,B.r9,_,B.r10,_,B.r11,?_];show h σ' bi bj bk (k0.trans kk) best
 ·apply .mk alo blo 0 d0 [] (Kp.refl _) (((F0.up (iF (.k (.n 9) (.n 9)) .j)).up (iF (.k (.n 9) (.n 10)) .j)).up (iF (.k (.n 9) (.n 11)) .j) |>.up (iF (.k (.n 9) (.n 12)) .j) |>.up (iF (.k (.n 9) (.n 13)) .j)) rfl #[rfl,rfl,rfl] rfl cc ?_ ?_
  ·intro j hj;rw[Nat.add_zero,JI];rfl
  ·apply(Scan.start cb ca).skip (λ_ _ q=>q.elim) λi' j' q=>.inr (.inl ?_);rw[v8];rw[aw (λq1=>(fy .ff .c (.l .A (.a .B .O)) .aQ q.1 q1.1))]
end SM
end MP
end
section
namespace MP
open PySem
namespace SM
def VG {P:Nat->Option Fn}(W:P 0=some fn0){n:Nat}{x d:Addr}{vj Y Z:V}{aj:Bool}{as:List V}{σ:St}{Q:V->St->Prop}(has:as=[.bool aj]\/(as=[]/\aj=true))(U:σ.I x=some (d,λ_=>none))
  (h:fk P n 1 [.obj x,Y,Z] (σ.jv x d (upd (upd (upd (upd (λ_=>none) 0 vj) 1 .none) 2 .none) 3 (.bool aj))) λv σ=>v=.none/\Q .none σ):fk P (n+1) 0 (.obj x::vj::Y::Z::as) σ Q:=by
 rcases has with rfl|⟨rfl,rfl⟩
 ·apply#[fn0,W,az 5,ll 5 4,qP (qR vj rfl rfl U (lI .none rfl rfl (vO (.bool aj) rfl rfl (qQ [Y,Z] rfl (by rw[mz];rfl) rfl h))))]
 ·apply#[fn0,W,ba rfl,ba rfl,qP (qR vj rfl rfl U (lI .none rfl rfl (vO (.bool true) rfl rfl (qQ [Y,Z] rfl (by rw[mz];rfl) rfl h))))]
structure Made (σ σ':St)(x d la lb db sj:Addr)(xs ys:List Int)(aj:Bool)(jk:Int->Bool)(js:List Key):Prop where
 L:∀a zs,σ.L a=some zs->σ'.L a=some zs
 I:∃f,σ'.I x=some (d,f)/\f 4=some .none/\f 5=some .none
 M:MAt σ' x la lb db sj (xs.map Key.int) (ys.map Key.int) (λk=>qx jk k||qx (DS aj ys) k) js
 J:∀y∈ys,Key.int y∈js↔jk y=true
def V4 {P:Nat->Option Fn}(h0:P 0=some fn0)(h1:P 1=some fn1)(h2:P 2=some fn2)(h3:P 3=some fn3)(h4:P 4=some SM.rJ){n:Nat}{x d la lb:Addr}{xs ys:List Int}{σ:St}{vj:V}{aj:Bool}{as:List V}{jk:Int->Bool}{Q:V->St->Prop}(has:as=[.bool aj]\/(as=[]/\aj=true))(hI:σ.I x=some (d,λ_=>none))(W:σ.L la=some (xs.map V.int))(Z:σ.L lb=some (ys.map V.int))(hz:ys.length<4000)(hJ:jW (fk P n) vj jk)
  (h:∀σ' db sj js,Made σ σ' x d la lb db sj xs ys aj jk js->Q .none σ'):fk P (n+4) 0 (.obj x::vj::.L la::.L lb::as) σ Q:=by
 apply VG h0 has hI (HE h1 (by rw[mz];rfl) (HG h2 mz rfl #[rfl,by rw[mz];rfl,HF h3 mz rfl (JZ h4 mz (vj:=vj) (lb:=lb) (ys:=ys) rfl rfl rfl Z hz hJ λσ' db sj js hc=>#[rfl,rfl,rfl,h σ' db sj js ?_])]));have#[L,#[B,U,Y,i4,i5],D,S,J]:=hc;have e:∀zs:List Int,zs.map V.int=(zs.map Key.int).map Key.v:=λzs=>by rw[qi];rfl
 apply#[L,#[B,U,Y 4 (by decide),Y 5 (by decide)],#[#[d,B,U,Y 1 (by decide),Y 2 (by decide),i4,i5],(L _ _ W).trans (bx some (e xs)),(L _ _ Z).trans (bx some (e ys)),D,S],J]
end SM
end MP
end
section
namespace MP
abbrev Flm (as bs:List Key)(rm js:Key->Bool)(alo ahi blo bhi:Nat)(t:Nat×Nat×Nat):Prop:=
 ∃i j k,vQ as bs rm alo ahi blo bhi i j k/\t=grow as bs js alo ahi blo bhi i j k
abbrev Within (alo ahi blo bhi:Nat)(t:Nat×Nat×Nat):Prop:=alo<=t.1/\t.1+t.2.2<=ahi/\blo<=t.2.1/\t.2.1+t.2.2<=bhi
section
variable {as bs:List Key}{ok rm js:Key->Bool}{alo ahi blo bhi:Nat}
def uX:∀{i j k:Nat},Within alo ahi blo bhi (i,j,k)->Within alo ahi blo bhi (zp as bs ok alo blo i j k)
 |0,j,k,h=>h
 |i+1,0,k,h=>h
 |i+1,j+1,k,h=>by
  rw[eI];split
  ·rename_i c;apply uX ?_;have#[U,Y,W,Z]:alo<=i+1/\i+1+k<=ahi/\blo<=j+1/\j+1+k<=bhi:=h;show(show alo<=i/\i+(k+1)<=ahi/\blo<=j/\j+(k+1)<=bhi from#[by show ax .A .a .J c.1,by show dt .M .a .aD Y,by show ax .A .a .J c.2.1,by show dt .M .a .aD Z])
  ·show h
def uU:∀{n i j k:Nat},Within alo ahi blo bhi (i,j,k)->Within alo ahi blo bhi (i,j,iC as bs ok ahi bhi n i j k)
 |0,i,j,k=>λh=>h
 |n+1,i,j,k=>λh=>by
  rw[ua];split
  ·rename_i c;apply uU ?_;have#[Y,U,Z,W]:alo<=i/\i+k<=ahi/\blo<=j/\j+k<=bhi:=h;show(show alo<=i/\i+(k+1)<=ahi/\blo<=j/\j+(k+1)<=bhi from#[by show ax .A .a .A Y,by show dt .M .a .L c.1,by show ax .A .a .A Z,by show dt .M .a .L c.2.1])
  ·show h
def Flm.within {t:Nat×Nat×Nat}(h:Flm as bs rm js alo ahi blo bhi t):Within alo ahi blo bhi t:=by
 have#[i,j,k,B,rfl]:=h;have R:=B.run;show uU (uX (uU (uX (show Within alo ahi blo bhi (i,j,k) from#[R.ai,R.ia,R.bj,R.jb]))))
def Flm.uniq {t Z:Nat×Nat×Nat}(h:Flm as bs rm js alo ahi blo bhi t)(h':Flm as bs rm js alo ahi blo bhi Z):t=Z:=by
 have#[i,j,k,B,rfl]:=h;have#[i',j',k',Y,rfl]:=h';have#[rfl,rfl,rfl]:=B.uniq Y;rfl
end
inductive kq (F:Nat->Nat->Nat->Nat->Nat×Nat×Nat->Prop):Nat->Nat->Nat->Nat->List (Nat×Nat×Nat)->Prop
 |nil {alo ahi blo bhi i j:Nat}:F alo ahi blo bhi (i,j,0)->kq F alo ahi blo bhi []
 |node {alo ahi blo bhi i j k:Nat} {L R:List (Nat×Nat×Nat)}:F alo ahi blo bhi (i,j,k)->0<k->(alo<i->blo<j->kq F alo i blo j L)->(¬(alo<i/\blo<j)->L=[]) ->
   (i+k<ahi->j+k<bhi->kq F (i+k) ahi (j+k) bhi R)->(¬(i+k<ahi/\j+k<bhi)->R=[])->kq F alo ahi blo bhi (L++(i,j,k)::R)
abbrev dT (t u:Nat×Nat×Nat):Prop:=t.1+t.2.2<=u.1/\t.2.1+t.2.2<=u.2.1
def kq.ok {F:Nat->Nat->Nat->Nat->Nat×Nat×Nat->Prop}(hF:∀a b c d t,F a b c d t->Within a b c d t){alo ahi blo bhi:Nat}{L:List (Nat×Nat×Nat)}(h:kq F alo ahi blo bhi L) :
  (∀t∈L,Within alo ahi blo bhi t/\0<t.2.2)/\L.Pairwise dT:=by
 induction h with
 |nil _=>refine#[λt h=>(by cases h),.nil]
 | @node alo ahi blo bhi i j k L R hf hk hL ag hR ab U Y =>
  have W:=hF _ _ _ _ _ hf;unfold Within at W;simp only at W;have hl:(∀t∈L,Within alo i blo j t/\0<t.2.2)/\L.Pairwise dT:=by
   by_cases c:alo<i/\blo<j
   ·show U c.1 c.2
   ·rw[ag c];apply#[λt h=>(by cases h),.nil]
  have Z:(∀t∈R,Within (i+k) ahi (j+k) bhi t/\0<t.2.2)/\R.Pairwise dT:=by
   by_cases c:i+k<ahi/\j+k<bhi
   ·show Y c.1 c.2
   ·rw[ab c];apply#[λt h=>(by cases h),.nil]
  apply#[λt ht=>?_,?_]
  ·rcases cy.mp ht with q|q
   ·have:=hl.1 t q;unfold Within at *
    (show#[#[(ax .A .a .A this.1.1),#[(vg .K .b .c8 (.k .M .D) W.2.1 this.1.2.1),#[(ax .A .a .A this.1.2.2.1),(vg .K .b .c8 (.k .M .D) W.2.2.2 this.1.2.2.2)]]],(dp .H .a .H this.2)])
   ·rcases bw.mp q with q|q
    ·subst q;unfold Within;simp only
     (show#[#[(ax .A .a .A W.1),#[(dt .K .a .K W.2.1),#[(ax .A .a .A W.2.2.1),(dt .K .a .K W.2.2.2)]]],(dp .H .a .H hk)])
    ·have:=Z.1 t q;unfold Within at *
     (show#[#[(dj .A .b .I .cT W.1 this.1.1),#[(dt .K .a .K this.1.2.1),#[(dj .A .b .I .cT W.2.2.1 this.1.2.2.1),(dt .K .a .K this.1.2.2.2)]]],(dp .H .a .H this.2)])
  ·rw[rA];apply#[hl.2,.cons (λu B=>?_) Z.2,λt ht u B=>?_]
   ·have:=Z.1 u B;unfold Within at this;unfold dT;simp only
    (show#[(dt .K .a .K this.1.1),(dt .K .a .K this.1.2.2.1)])
   ·have:=hl.1 t ht;unfold Within at this;unfold dT;rcases bw.mp B with q|q
    ·subst q;simp only
     (show#[(dt .K .a .K this.1.2.1),(dt .K .a .K this.1.2.2.2)])
    ·have:=Z.1 u q;unfold Within at this
     (rename_i z1;show#[(vg .K .b (.k .M .D) .c8 z1.1.2.1 this.1.1),(vg .K .b (.k .M .D) .c8 z1.1.2.2.2 this.1.2.2.1)])
def kq.uniq {F:Nat->Nat->Nat->Nat->Nat×Nat×Nat->Prop}(hF:∀a b c d t t',F a b c d t->F a b c d t'->t=t'){alo ahi blo bhi:Nat}{L L':List (Nat×Nat×Nat)}(h:kq F alo ahi blo bhi L)(h':kq F alo ahi blo bhi L'):L=L':=by
 induction h generalizing L' with
 |nil U =>
  cases h' with
  |nil _=>rfl
  |node Z hk _ _ _ _=>have:=hF _ _ _ _ _ _ U Z;cases this;show absurd hk (fp _)
 | @node alo ahi blo bhi i j k L R U hk hL ai hR ab B I =>
  cases h' with
  |nil Z=>have:=hF _ _ _ _ _ _ U Z;cases this;show absurd hk (fp _)
  |node Z ao aj W ag Y =>
   have:=hF _ _ _ _ _ _ U Z;clear Z;cases this
   congr 1
   ·by_cases c:alo<i/\blo<j
    ·show B c.1 c.2 (aj c.1 c.2)
    ·rw[ai c,W c]
   ·congr 1
    by_cases c:i+k<ahi/\j+k<bhi
    ·show I c.1 c.2 (ag c.1 c.2)
    ·rw[ab c,Y c]
abbrev mrg:Nat->Nat->Nat->List (Nat×Nat×Nat)->List (Nat×Nat×Nat)
 |i,j,k,[]=>if k=0 then [] else [(i,j,k)]
 |i,j,k,(i',j',k')::r=>if i+k=i'/\j+k=j' then mrg i j (k+k') r else if k=0 then mrg i' j' k' r else (i,j,k)::mrg i' j' k' r
namespace SM
open PySem
variable {σ2:St}{x nl:Addr}
def T3:=Nat×Nat×Nat
def T4:=Nat×Nat×Nat×Nat
abbrev zT (t:T3):Int×Int×Int:=(t.1,t.2.1,t.2.2)
abbrev mV (t:T3):V:=mtV (zT t)
abbrev tV (t:T3):V:=.T [.int t.1,.int t.2.1,.int t.2.2]
abbrev qV (r:T4):V:=.T [.int r.1,.int r.2.1,.int r.2.2.1,.int r.2.2.2]
def U6 {L mb:List T3}(Y:L.Perm mb)(Z:L.Pairwise dT)(hk:∀t∈L,0<t.2.2):((mb.map zT).mergeSort leT).map mtV=L.map mV:=by
 have e:(mb.map zT).mergeSort leT=L.map zT:=by
  apply List.Perm.eq_of_pairwise (le:=LeT) ?_ (iO _) ?_ ((List.mergeSort_perm _ _).trans (Y.symm.map zT))
  ·show λa b _ _ I U=>LeT.WI I U
  ·rw[List.pairwise_map];apply List.Pairwise.imp_of_mem (λ{a b} W hb h=>?_) Z;have:=hk a W;unfold dT at h;unfold LeT zT;simp only
   (show .inl (fe (.il .L .P) .b (.k .X .B) .b7 h.1 this))
 rw[e,qi];rfl
abbrev qw (q:List T4):Nat:=(q.map λr=>2*(r.2.1-r.1)+1).sum
def nV {q:List T4}{r:T4}:qw (q++[r])=qw q+(2*(r.2.1-r.1)+1):=by simp[qw]
def HQ {q:List T4}:q.length<=qw q:=by
 induction q with
 |nil=>show az _
 |cons r q Z =>
  unfold qw at *;simp only[km,ju,List.sum_cons]
  (show dt (.k .P (.a .aQ .C)) .a .I Z)
inductive vM (F:Nat->Nat->Nat->Nat->T3->Prop):List T4->List (List T3)->Prop
 |nil:vM F [] []
 |snoc {q:List T4} {Ls:List (List T3)} {r:T4} {L:List T3}:vM F q Ls->kq F r.1 r.2.1 r.2.2.1 r.2.2.2 L->vM F (q++[r]) (Ls++[L])
def vM.inv {F:Nat->Nat->Nat->Nat->T3->Prop}{q:List T4}{r:T4}{Z:List (List T3)}(h:vM F (q++[r]) Z):∃Ls L,Z=Ls++[L]/\vM F q Ls/\kq F r.1 r.2.1 r.2.2.1 r.2.2.2 L:=by
 generalize e:q++[r]=q' at h;cases h with
 |nil=>show absurd (bx List.length e) (by simp)
 | @snoc B Ls I L W Y =>
  have:=List.append_inj' e rfl;have#[rfl,U]:=this;cases U;apply#[Ls,L,rfl,W,Y]
def U2 {r:T4}{σ:St}:LI (qV r) σ=some [.int r.1,.int r.2.1,.int r.2.2.1,.int r.2.2.2]:=rfl
def G1 {t:T3}{σ:St}:LI (mV t) σ=some [.int t.1,.int t.2.1,.int t.2.2]:=rfl
abbrev rz (p:Prop)[Decidable p](q:List T4)(r:T4):List T4:=if p then q++[r] else q
def zw {σ:St}{a:Addr}{xs:List V}(h:σ.L a=some xs):σ.cz a xs=σ:=by
 have:upd σ.L a xs=σ.L:=by
  funext z
  by_cases e:z=a
  ·rw[e,bg,h]
  ·show bz e
 unfold St.cz;rw[this]
section
variable {σ:St}{ρ:Fr}{a b c e:Ex}{m n k l:Nat}
def fT (Z:evV σ ρ a=some (.int m))(hb:evV σ ρ b=some (.int n)):evT σ ρ (.c .lt a b)=some (decide (m<n)):=by
 rw[C9,Z,hb];show bx some (jz.mpr Int.ofNat_lt)
def JG (Z:evV σ ρ a=some (.int m))(hb:evV σ ρ b=some (.int n)):evT σ ρ (.c .eq a b)=some (decide (m=n)):=by
 rw[C9,Z,hb];show bx some (jz.mpr Int.ofNat_inj)
def ze (Z:evV σ ρ a=some (.int m))(hb:evV σ ρ b=some (.int n)):evV σ ρ (.b .add a b)=some (.int (m+n:Nat)):=by
 rw[C8,Z,hb];rfl
def kW {p q:Prop}[Decidable p][Decidable q](Z:evT σ ρ a=some (decide p))(hb:evT σ ρ b=some (decide q)):evT σ ρ (.and a b)=some (decide (p/\q)):=by
 rw[NZ,Z];by_cases h:p
 ·rw[di h];show hb.trans (bx some (jz.mpr #[λx=>#[h,x],λx=>x.2]))
 ·rw[dk h];show bx some (dk λx=>h x.1).symm
def mF {x:Nat}(h:ρ x=some (.int k)):evT σ ρ (.l x)=some (decide (k≠0)):=by
 rw[NY,h];cases k<;>rfl
def ev3 (Y:evV σ ρ a=some (.int m))(hb:evV σ ρ b=some (.int n))(Z:evV σ ρ c=some (.int k)):evV σ ρ (.T %[a,b,c|0])=some (tV (m,n,k)):=by
 rw[nY,du,Y,du,hb,du,Z];rfl
def ev4 (W:evV σ ρ a=some (.int m))(hb:evV σ ρ b=some (.int n))(Y:evV σ ρ c=some (.int k))(Z:evV σ ρ e=some (.int l)):evV σ ρ (.T %[a,b,c,e|0])=some (qV (m,n,k,l)):=by
 rw[nY,du,W,du,hb,du,Y,du,Z];rfl
variable {C:Cal}{K:Fl->Fr->St->Prop}{ss:jw}
def push {ql:Addr}{q:List T4}{p:Prop}[Decidable p](r:T4)(U:ρ 3=some (.L ql))(Z:σ.L ql=some (q.map qV))(Y:q.length<bp)(hT:evT σ ρ c=some (decide p))(W:evV σ ρ e=some (qV r))(h:fw C ss ρ (σ.cz ql ((rz p q r).map qV)) K) :
  fw C (.cons (.C c %[.expr (.bm .append (.l 3) %[e|0])|0] .nil) ss) ρ σ K:=by
 unfold rz at h;apply nQ p hT (λy=>?_) λy=>?_
 ·rw[br y,cu]at h;show iX (qV r) U Z W (by rw[ak];show Y) (qb h)
 ·rw[aw y,zw Z]at h;show qb h
end
abbrev In4 (as bs:List Key)(r:T4):Prop:=r.1<=r.2.1/\r.2.2.1<=r.2.2.2/\r.2.1<=as.length/\r.2.2.2<=bs.length
section
variable {as bs:List Key}{F:Nat->Nat->Nat->Nat->T3->Prop}{q:List T4}{r:T4}{mb:List T3}{p:Prop}[Decidable p]
def C2 (h:∀u∈q,In4 as bs u)(h':p->In4 as bs r):∀u∈rz p q r,In4 as bs u:=by
 unfold rz;split
 ·rename_i c;intro u Z;rcases cy.mp Z with Z|Z
  ·show h u Z
  ·rw[aq.mp Z];show h' c
 ·show h
def u0:qw (rz p q r)<=qw q+(2*(r.2.1-r.1)+1):=by
 unfold rz;split
 ·rw[nV];show az _
 ·show ll _ _
def sG {W:List (List T3)}(o:vM F (rz p q r) W):∃Z R,vM F q Z/\W.flatten=Z.flatten++R/\(p->kq F r.1 r.2.1 r.2.2.1 r.2.2.2 R)/\(¬p->R=[]):=by
 unfold rz at o;split at o
 ·rename_i c;have#[Y,R,rfl,U,bR]:=o.inv;apply#[Y,R,U,by rw[List.flatten_append,j6,lP,dg],λ_=>bR,λq=>absurd c q]
 ·rename_i c;apply#[W,[],o,(dg _).symm,λc1=>absurd c1 c,λ_=>rfl]
abbrev nP (F:Nat->Nat->Nat->Nat->T3->Prop)(na nb:Nat)(q:List T4)(mb:List T3):Prop:=∀Ls,vM F q Ls->∃L,kq F 0 na 0 nb L/\L.Perm (mb++Ls.flatten)
variable {na nb alo ahi blo bhi i j k:Nat}
def nP.drop (h:nP F na nb (q++[(alo,ahi,blo,bhi)]) mb)(Z:F alo ahi blo bhi (i,j,0)):nP F na nb q mb:=λY o=>by
 have#[L,b,p]:=h _ (.snoc o (.nil Z));apply#[L,b,by rwa [List.flatten_append,j6,lP,dg,dg]at p]
def nP.part (h:nP F na nb (q++[(alo,ahi,blo,bhi)]) mb)(hf:F alo ahi blo bhi (i,j,k))(hk:0<k) :
  nP F na nb (rz (i+k<ahi/\j+k<bhi) (rz (alo<i/\blo<j) q (alo,i,blo,j)) (i+k,ahi,j+k,bhi)) (mb++[(i,j,k)]):=λLs o=>by
 have#[ab,R,I,e5,bR,Y]:=sG o;have#[Z,L,B,e4,bL,W]:=sG I;have#[M,bM,U]:=h _ (.snoc B (.node hf hk (λa b=>bL #[a,b]) W (λa b=>bR #[a,b]) Y));apply#[M,bM,U.trans ?_];rw[e5,e4,List.flatten_append,j6,lP,dg,ji];apply List.Perm.append_left _ ?_;rw[<- ji,ji Z.flatten,<- ji Z.flatten];show List.perm_middle
def nP.start:nP F na nb [(0,na,0,nb)] []:=λW o=>by
 have Y:=o.inv (q:=[]);clear o;have#[Z,L,rfl,o',b]:=Y;have e:Z=[]:=by
  generalize e:([]:List T4)=q at o';cases o' with
  |nil=>rfl
  |snoc _ _=>show absurd (bx List.length e) (by simp)
 subst e;apply#[L,b,by simp]
end
structure QN (σ:St)(ql ml:Addr):Prop where
 ne:ql≠ml
 q:σ.L ql=none
 m:σ.L ml=none
structure QS (σ σ':St)(ql ml:Addr)(q:List T4)(mb:List T3):Prop where
 kp:Kp σ σ'
 q:σ'.L ql=some (q.map qV)
 m:σ'.L ml=some (mb.map mV)
section
variable {σ σ':St}{ql ml:Addr}{q:List T4}{mb:List T3}
def QS.U7 (N:QN σ ql ml)(S:QS σ σ' ql ml q mb)(Z:List T4):QS σ (σ'.cz ql (Z.map qV)) ql ml Z mb:=#[S.kp.cz N.q,bg _ _ _,(bz (j4 N.ne)).trans S.m]
def QS.setM (N:QN σ ql ml)(S:QS σ σ' ql ml q mb)(Z:List T3):QS σ (σ'.cz ml (Z.map mV)) ql ml q Z:=#[S.kp.cz N.m,(bz N.ne).trans S.q,bg _ _ _]
def QS.kept (S:QS σ σ' ql ml q mb)(k:Kp σ' σ2):QS σ σ2 ql ml q mb:=#[S.kp.trans k,k.L _ _ S.q,k.L _ _ S.m]
end
structure R6 (ρ:Fr)(x:Addr)(ql ml:Addr)(na nb:Nat):Prop where
 r0:ρ 0=some (.obj x)
 r1:ρ 1=some (.int na)
 r2:ρ 2=some (.int nb)
 r3:ρ 3=some (.L ql)
 r4:ρ 4=some (.L ml)
inductive OR (σ:St)(x ql ml:Addr)(as bs:List Key)(F:Nat->Nat->Nat->Nat->T3->Prop)(w:Nat)(ρ:Fr)(σ':St):Prop
 |mk (q:List T4) (mb:List T3):R6 ρ x ql ml as.length bs.length->w=qw q->QS σ σ' ql ml q mb->qw q+mb.length<=2*as.length+1->(∀r∈q,In4 as bs r)->nP F as.length bs.length q mb->OR σ x ql ml as bs F w ρ σ'
def MS {Z Y W i alo ahi k:Nat}(h2:Y<=W+(2*(i-alo)+1))(h3:Z<=Y+(2*(ahi-(i+k))+1))(a:alo<=i)(b:i+k<=ahi)(hk:0<k):Z<W+(2*(ahi-alo)+1):=by(show XZ (.l .A (.a .B .aR)) [[1,1,1,2,2,2,-2]] (.k .D (.a .B (.a (.m 2 .F) .U))) (.k .A (.a .D (.a (.m 2 .G) .U))) (.l .O .H) (.e (.a .F .I) .J) (.e (.a .G (.a .J .H)) .K) (.e (.a .C .I) .K) h2 h3 hk (aa (ax .A .a .A a)) (aa (dt .K .a .K b)) (aa (dj .A .b .I .cT a b)))
def J7 {C:Cal}{σ σ':St}{ql ml:Addr}{as bs:List Key}{F:Nat->Nat->Nat->Nat->T3->Prop}{q:List T4}{mb:List T3}{ρ:Fr}{K:Fl->Fr->St->Prop}{alo ahi blo bhi i j k:Nat}(ab:as.length<400000)(N:QN σ ql ml)(H:R6 ρ x ql ml as.length bs.length)(S:QS σ σ' ql ml q mb)
  (r5:ρ 5=some (.int alo)) (r6:ρ 6=some (.int ahi)) (r7:ρ 7=some (.int blo)) (r8:ρ 8=some (.int bhi)) (r9:ρ 9=some (.int i)) (Y:ρ 10=some (.int j)) (Z:ρ 11=some (.int k)) (ai:ρ 12=some (mV (i,j,k)))
  (W:Within alo ahi blo bhi (i,j,k)) (hr:In4 as bs (alo,ahi,blo,bhi)) (aj:∀r∈q,In4 as bs r) (hw:qw (q++[(alo,ahi,blo,bhi)])+mb.length<=2*as.length+1) (hk:0<k) (hf:F alo ahi blo bhi (i,j,k)) (ag:nP F as.length bs.length (q++[(alo,ahi,blo,bhi)]) mb)
  (h:∀w σ2,w<qw (q++[(alo,ahi,blo,bhi)])->OR σ x ql ml as bs F w ρ σ2->K .next ρ σ2) :
  fw C (.cons (.expr (.bm .append (.l 4) %[.l 12|0]))
   (.cons (.C (.and (.c .lt (.l 5) (.l 9)) (.c .lt (.l 7) (.l 10))) %[.expr (.bm .append (.l 3) %[.T %[.l 5,.l 9,.l 7,.l 10|0]|0])|0] .nil)
   %[.C (.and (.c .lt (.b .add (.l 9) (.l 11)) (.l 6)) (.c .lt (.b .add (.l 10) (.l 11)) (.l 8))) %[.expr (.bm .append (.l 3) %[.T %[.b .add (.l 9) (.l 11),.l 6,.b .add (.l 10) (.l 11),.l 8|0]|0])|0] .nil|0])) ρ σ' K:=by
 have W:alo<=i/\i+k<=ahi/\blo<=j/\j+k<=bhi:=W;have hr:alo<=ahi/\blo<=bhi/\ahi<=as.length/\bhi<=bs.length:=hr;rw[nV]at hw h;have hw:qw q+(2*(ahi-alo)+1)+mb.length<=2*as.length+1:=hw;have h1:=HQ (q:=q);have lt:=MS (u0 (p:=alo<i/\blo<j) (q:=q) (r:=(alo,i,blo,j))) (u0 (p:=i+k<ahi/\j+k<bhi) (q:=rz (alo<i/\blo<j) q (alo,i,blo,j)) (r:=(i+k,ahi,j+k,bhi))) W.1 W.2.1 hk;have h2:qw (rz (alo<i/\blo<j) q (alo,i,blo,j))<=qw q+(2*(i-alo)+1):=u0;have h4:=HQ (q:=rz (alo<i/\blo<j) q (alo,i,blo,j));apply iX (mV (i,j,k)) H.r4 S.m ai (by rw[ak];unfold bp;(rename_i z1;show dj .aW .G (.l .B .aP) (.k (.a (.a .C (.a (.m 2 .D) .U)) .A) .aQ) ab z1)) ?_;have S1:=S.setM N (mb++[(i,j,k)]);rw[cu]at S1;apply push (p:=alo<i/\blo<j) (alo,i,blo,j) H.r3 S1.q (by unfold bp;(rename_i z1;show jd .aW [[1,2,1,1]] (.l .B .aP) (.k (.a (.a .C (.a (.m 2 .D) .U)) .F) .aQ) .I ab z1 h1)) (kW (fT r5 r9) (fT r7 Y)) (ev4 r5 r9 r7 Y) ?_;have S2:=S1.U7 N (rz (alo<i/\blo<j) q (alo,i,blo,j));apply push (p:=i+k<ahi/\j+k<bhi) (i+k,ahi,j+k,bhi) H.r3 S2.q (by unfold bp;(rename_i z1;show XW .aW [[1,2,1,2,1,1,-2,2]] (.l .B .aP) (.k (.a (.a .C (.a (.m 2 .D) .U)) .F) .aQ) (.k .aW .I) (.k .J (.a .C (.a (.m 2 .K) .U))) (.k .A .J) (.e (.a .D (.v 10)) .I) (.e (.a .K (.v 10)) .G) ab z1 W.2.1 h2 h4 (aa (dj .A .b .I .cT W.1 W.2.1)) (aa (ax .A .a .A W.1)))) (kW (fT (ze r9 Z) r6) (fT (ze Y Z) r8)) (ev4 (ze r9 Z) r6 (ze Y Z) r8) ?_;have S3:=S2.U7 N (rz (i+k<ahi/\j+k<bhi) (rz (alo<i/\blo<j) q (alo,i,blo,j)) (i+k,ahi,j+k,bhi));apply h _ _ lt #[_,mb++[(i,j,k)],H,rfl,S3,?_,?_,ag.part hf hk]
 ·rw[List.length_append,ee];(rename_i z1;show vg (.k .a7 .aR) .b (.k (.a (.a .D (.a (.m 2 .F) .U)) .B) .aR) (.l .A (.a .D (.a (.m 2 .F) .U))) z1 lt)
 ·show C2 (C2 aj λc=>#[mh c.1,mh c.2,by show i<=as.length;(show dj .A .b (.k .X .D) .cL W.2.1 hr.2.2.1),by show j<=bs.length;(show dj .A .b (.k .X .D) .cL W.2.2.2 hr.2.2.2)]) λc=>#[mh c.1,mh c.2,hr.2.2.1,hr.2.2.2]
def J6 {P:Nat->Option Fn}(ao:P 5=some fn5){n:Nat}{σ σ':St}{la lb db sj ql ml:Addr}{as bs:List Key}{rm:Key->Bool}{js:List Key}{q:List T4}{r:T4}{mb:List T3}{ρ:Fr}{again:Fr->St->Prop}{K:Fl->Fr->St->Prop}
  (hM:MAt σ x la lb db sj as bs rm js) (ha:∀k∈as,wc k) (hb:∀k∈bs,wc k) (hs:bs.length<400000) (W:as.length<400000) (N:QN σ ql ml) (H:R6 ρ x ql ml as.length bs.length) (S:QS σ σ' ql ml (q++[r]) mb) (hw:qw (q++[r])+mb.length<=2*as.length+1) (ab:∀u∈q++[r],In4 as bs u)
  (Z:nP (Flm as bs rm λc=>decide (c∈js)) as.length bs.length (q++[r]) mb) (ag:∀w ρ' σ2,w<qw (q++[r])->OR σ x ql ml as bs (Flm as bs rm λc=>decide (c∈js)) w ρ' σ2->again ρ' σ2) :
  fw (fk P (n+1)) (.cons (.a [(.T [5,6,7,8])] (.bm .pop (.l 3) .nil))
   (.cons (.a [(.T [9,10,11]),(.v 12)] (.meth (.l 0) 5 %[.l 5,.l 6,.l 7,.l 8|0]))
   (.cons (.C (.l 11) (.cons (.expr (.bm .append (.l 4) %[.l 12|0]))
    (.cons (.C (.and (.c .lt (.l 5) (.l 9)) (.c .lt (.l 7) (.l 10))) %[.expr (.bm .append (.l 3) %[.T %[.l 5,.l 9,.l 7,.l 10|0]|0])|0] .nil)
    %[.C (.and (.c .lt (.b .add (.l 9) (.l 11)) (.l 6)) (.c .lt (.b .add (.l 10) (.l 11)) (.l 8))) %[.expr (.bm .append (.l 3) %[.T %[.b .add (.l 9) (.l 11),.l 6,.b .add (.l 10) (.l 11),.l 8|0]|0])|0] .nil|0])) .nil) .nil))) ρ σ' (uq again K):=by
 have#[alo,ahi,blo,bhi]:=r;have hq:=S.q;rw[cu]at hq;apply#[_,H.r3,(by show(σ'.L ql).isSome=true;rw[hq];rfl),q.map qV,qV (alo,ahi,blo,bhi),hq,_,U2,rfl,?_];have hr:alo<=ahi/\blo<=bhi/\ahi<=as.length/\bhi<=bs.length:=ab (alo,ahi,blo,bhi) (ew _ (.head _));have Y:∀u∈q,In4 as bs u:=λu hu=>ab u (dq _ hu);have S0:QS σ (σ'.cz ql (q.map qV)) ql ml q mb:=#[S.kp.cz N.q,bg _ _ _,(bz (j4 N.ne)).trans S.m];have#[d,f,hI,_]:=hM.I;apply#[_,H.r0,x,rfl,(by show(σ'.I x).isSome=true;rw[S.kp.I,hI];rfl),_,rfl,_,rfl,_,rfl,_,rfl,?_];apply flm ao (hM.keep S0.kp) ha hb (by unfold bp;(show dp .aW .a (.l .A .aP) hs)) (by unfold bp;(show dp .aW .a (.l .A .aP) W)) (.inl rfl) (.inl rfl) hr.1 hr.2.1 hr.2.2.1 hr.2.2.2 λσ2 i0 j0 k0 k2 best=>?_;have hf:Flm as bs rm (λc=>decide (c∈js)) alo ahi blo bhi (grow as bs (λc=>decide (c∈js)) alo ahi blo bhi i0 j0 k0):=#[_,_,_,best,rfl];have S2:=S0.kept k2;generalize grow as bs (λc=>decide (c∈js)) alo ahi blo bhi i0 j0 k0=t at hf;have#[i,j,k]:=t;apply#[_,G1 (t:=(i,j,k)),rfl,?_];apply nQ (k≠0) (mF rfl) (λc=>?_) λc=>?_
 ·show J7 W N #[H.r0,H.r1,H.r2,H.r3,H.r4] S2 rfl rfl rfl rfl rfl rfl rfl rfl hf.within hr Y hw (gF c) hf Z λw ai lt Q=>ag w _ ai lt Q
 ·have rfl:=yq.mp c;have aj:qw q+(2*(ahi-alo)+1)+mb.length<=2*as.length+1:=by rw[nV]at hw;show hw
  apply qb (ag (qw q) _ _ (by rw[nV];(show fE (.l .A (.a .A .aQ)) .j)) #[q,mb,#[H.r0,H.r1,H.r2,H.r3,H.r4],rfl,S2,by show pz (.k .M .aR) .a (.k (.a (.a .A (.a (.m 2 .D) .U)) .B) .aR) aj,Y,Z.drop hf])
structure R7 (ρ:Fr)(x nl:Addr)(na nb:Nat):Prop where
 r0:ρ 0=some (.obj x)
 r1:ρ 1=some (.int na)
 r2:ρ 2=some (.int nb)
 r16:ρ 16=some (.L nl)
inductive OT (σ1:St)(x nl:Addr)(na nb:Nat)(L:List T3)(t:Nat)(ρ:Fr)(σ2:St):Prop
 |mk (i j k:Nat) (acc:List T3):R7 ρ x nl na nb->Kp σ1 σ2->ρ 13=some (.int i)->ρ 14=some (.int j)->ρ 15=some (.int k)->σ2.L nl=some (acc.map tV)->acc.length<=t->acc++mrg i j k (L.drop t)=mrg 0 0 0 L->OT σ1 x nl na nb L t ρ σ2
def BU {C:Cal}{ρ:Fr}{K:Fl->Fr->St->Prop}{ss:jw}{acc:List T3}{i j k:Nat}(W:ρ 16=some (.L nl))(I:ρ 13=some (.int i))(U:ρ 14=some (.int j))(Y:ρ 15=some (.int k))(Z:σ2.L nl=some (acc.map tV))(B:acc.length<bp)
  (h:fw C ss ρ (σ2.cz nl ((acc++if k=0 then [] else [(i,j,k)]).map tV)) K) :
  fw C (.cons (.C (.l 15) %[.expr (.bm .append (.l 16) %[.T %[.l 13,.l 14,.l 15|0]|0])|0] .nil) ss) ρ σ2 K:=by
 apply nQ (k≠0) (mF Y) (λc=>?_) λc=>?_
 ·rw[aw c,cu]at h;show iX (tV (i,j,k)) W Z (ev3 I U Y) (by rw[ak];show B) (qb h)
 ·rw[br (yq.mp c),dg,zw Z]at h;show qb h
def IE {C:Cal}{U:St}{na nb t:Nat}{L:List T3}{ρ:Fr}{K:Fl->Fr->St->Prop}{again:Fr->St->Prop}(hn:U.L nl=none)(hL:L.length<64)(ht:t<L.length)(I:OT U x nl na nb L t ρ σ2)(ag:∀ρ' σ',OT U x nl na nb L (t+1) ρ' σ'->again ρ' σ') :
  fw C (.cons (.C (.and (.c .eq (.b .add (.l 13) (.l 15)) (.l 17)) (.c .eq (.b .add (.l 14) (.l 15)) (.l 18))) %[.aug 15 .add (.l 19)|0]
   (.cons (.C (.l 15) %[.expr (.bm .append (.l 16) %[.T %[.l 13,.l 14,.l 15|0]|0])|0] .nil)
   %[.a [.T [13,14,15]] (.T %[.l 17,.l 18,.l 19|0])|0])) .nil) (ry [17,18,19] [.int L[t].1,.int L[t].2.1,.int L[t].2.2] ρ) σ2 (uq again K):=by
 have#[i,j,k,acc,H,kp,ab,B,Z,W,Y,hm]:=I;rw[ky ht]at hm;generalize L[t]=u at *;have#[i2,j2,k2]:=u;have hm:acc++(if i+k=i2/\j+k=j2 then mrg i j (k+k2) (L.drop (t+1)) else if k=0 then mrg i2 j2 k2 (L.drop (t+1)) else (i,j,k)::mrg i2 j2 k2 (L.drop (t+1)))=mrg 0 0 0 L:=hm;apply nQ (i+k=i2/\j+k=j2) (kW (JG (ze ab Z) rfl) (JG (ze B Z) rfl)) (λc=>?_) λc=>?_
 ·rw[br c]at hm;apply#[_,Z,_,rfl,ag _ _ #[i,j,k+k2,acc,#[H.r0,H.r1,H.r2,H.r16],kp,ab,B,rfl,W,yn Y,hm]]
 ·rw[aw c]at hm;apply BU H.r16 ab B Z W (by unfold bp;(show pq .aW .h .aH .N .I hL ht Y)) ?_;apply KZ [.int i2,.int j2,.int k2] rfl rfl (iW (qb (ag _ _ #[i2,j2,k2,acc++(if k=0 then [] else [(i,j,k)]),#[H.r0,H.r1,H.r2,H.r16],kp.cz hn,rfl,rfl,rfl,bg _ _ _,?_,?_])))
  ·rw[List.length_append];by_cases c0:k=0
   ·rw[br c0];show acc.length+0<=_;(show ax (.k .a8 .L) .a .A Y)
   ·rw[aw c0];show acc.length+1<=_;(show ax .aC .a .A Y)
  ·rw[<- hm];by_cases c0:k=0
   ·rw[br c0,br c0,dg]
   ·rw[aw c0,aw c0,ji];rfl
def NT {C:Cal}{σ Z:St}{d:Addr}{f:Nat->Option V}{na nb:Nat}{acc:List T3}{ρ:Fr}{Q:V->St->Prop}(hI:σ.I x=some (d,f))(kp:Kp σ Z)(H:R7 ρ x nl na nb)(hn:σ.L nl=none)(hl:acc.length<bp)(W:Z.L nl=some (acc.map tV))
  (h:∀c σ',Kp σ σ'->σ.L c=none->σ'.L c=some ((acc++[(na,nb,0)]).map mV)->Q (.L c) (σ'.jv x d (upd f 4 (.L c)))) :
  fw C (.cons (.expr (.bm .append (.l 16) %[.T %[.l 1,.l 2,.int 0|0]|0]))
   %[.a [(.attr (.l 0) 4)] (.M (.l 16)),.ret (.attr (.l 0) 4)|0]) ρ Z (jD Q):=by
 apply iX (tV (na,nb,0)) H.r16 W (ev3 H.r1 H.r2 rfl) (by rw[ak];show hl) ?_;rw[show acc.map tV++[tV (na,nb,0)]=(acc++[(na,nb,0)]).map tV from by rw[cu];rfl];apply#[_,H.r16,nl,(acc++[(na,nb,0)]).map λt:T3=>[V.int t.1,V.int t.2.1,V.int t.2.2],rfl,(by rw[qi];show bg _ _ _),(by intro t ht;have#[u,_,rfl]:=cq.mp ht;rfl),λc B=>?_];have U:c≠nl:=λq=>by
  rw[q]at B;have:upd Z.L nl _ nl=none:=B;rw[bg]at this;cases this
 have Y:σ.L c=none:=by
  have:upd Z.L nl _ c=none:=B;rw[bz U]at this;show kp.noL this
 rw[qi];have k4:Kp σ ((Z.cz nl ((acc++[(na,nb,0)]).map tV)).cz c ((acc++[(na,nb,0)]).map mV)):=(kp.cz hn).cz Y;have ab:((Z.cz nl ((acc++[(na,nb,0)]).map tV)).cz c ((acc++[(na,nb,0)]).map mV)).I x=some (d,f):=(gy k4.I x).trans hI;apply#[_,H.r0,x,d,f,rfl,ab,_,H.r0,x,d,upd f 4 (.L c),_,rfl,bg _ _ _,bg _ _ _,h c _ k4 Y (bg _ _ _)]
def gmb {P:Nat->Option Fn}(hP:P 6=some fn6)(cc:P 5=some fn5){n:Nat}{σ:St}{la lb db sj d:Addr}{f:Nat->Option V}{as bs:List Key}{rm:Key->Bool}{js:List Key}{Q:V->St->Prop}
  (hM:MAt σ x la lb db sj as bs rm js) (hI:σ.I x=some (d,f)) (f4:f 4=some .none) (ha:∀k∈as,wc k) (hb:∀k∈bs,wc k) (hs:bs.length<400000) (bn:as.length<400000)
  (bl:∀L,kq (Flm as bs rm λc=>decide (c∈js)) 0 as.length 0 bs.length L->L.length<64)
  (h:∀σ' c L,Kp σ σ'->kq (Flm as bs rm λc=>decide (c∈js)) 0 as.length 0 bs.length L->σ.L c=none->σ'.L c=some ((mrg 0 0 0 L++[(as.length,bs.length,0)]).map mV)->Q (.L c) (σ'.jv x d (upd f 4 (.L c)))):fk P (n+2) 6 [.obj x] σ Q:=by
 apply#[fn6,hP,az 1,az 1,?_];have#[d',f',bd,f1,f2,f7,f8]:=hM.I;have#[rfl,rfl]:d=d'/\f=f':=by rw[hI]at bd;cases bd;apply#[rfl,rfl]
 have h0:frameOf fn6 [.obj x] 0=some (.obj x):=rfl;generalize frameOf fn6 [.obj x]=ρ at h0;apply#[.obj x,h0,x,d,f,.none,rfl,hI,f4,?_];apply gZ h0 hI f1 ?_;apply#[_,hM.La,?_];apply gZ h0 hI f2 ?_;apply#[_,hM.Lb,ba rfl,?_];apply#[_,rfl,rfl,?_];rw[ak,ak];apply#[_,rfl,_,rfl,ba rfl,ba rfl,λql aj=>?_];apply#[ba rfl,λml ai=>?_];have ag:ql≠ml:=λq=>by
  rw[<- q]at ai;have:upd σ.L ql _ ql=none:=ai;rw[bg]at this;cases this
 have N:QN σ ql ml:=#[ag,aj,(bz (j4 ag)).symm.trans ai];apply#[2*as.length+2,bO (OR σ x ql ml as bs (Flm as bs rm λc=>decide (c∈js))) ?_ (2*as.length+2) (2*as.length+1) (iq _) ?_]
 ·rintro w ρ' σ' ⟨q,mb,H,rfl,S,hw,ca,B⟩ again cb;apply#[_,H.r3,_,S.q,?_];rcases List.eq_nil_or_concat q with rfl|⟨q,r,rfl⟩
  ·apply fC ?_;have#[L,bL,pL]:=B [] .nil;rw[lP,dg]at pL;have ao:=bL.ok λ_ _ _ _ _ h=>h.within;have Y:=bl L bL;apply#[_,H.r4,(by show(σ'.L ml).isSome=true;rw[S.m];rfl),mb.map zT,(by rw[S.m,qi];rfl),(by rw[ak,<- pL.length_eq];show Y),rfl,?_];rw[U6 pL ao.2 λt ht=>(ao.1 t ht).2];have S1:=S.setM N L;generalize (σ'.cz ml (L.map mV))=σ1 at S1;apply#[ba rfl,λnl W=>?_];have bu:ml≠nl:=λq=>by rw[<- q,S1.m]at W;cases W
   apply#[_,H.r4,L.map mV,(bz bu).trans S1.m,?_];apply sq (OT σ1 x nl as.length bs.length L) ?_ ?_ #[0,0,0,[],#[H.r0,H.r1,H.r2,rfl],(Kp.refl _).cz W,rfl,rfl,rfl,bg _ _ _,az _,rfl]
   ·intro t v ab σ2 hv I;have ht:t<L.length:=(ak (f:=mV) (as:=L))▸(bc.mp hv).1;rw[cj,bq ht]at hv;have rfl:=ah hv;have I':=I;have#[_,_,_,_,_,kp,_]:=I';apply#[kp.L _ _ S1.m,λkk bv=>#[_,G1,rfl,IE W Y ht I bv]]
   ·intro ab σ2 zz;have#[i,j,k,acc,H2,kp,r13,r14,r15,aE,U,hm]:=zz;rw[ak]at hm U;rw[List.drop_length]at hm;apply#[kp.L _ _ S1.m,?_];have ar:=S1.kp.noL W;apply BU H2.r16 r13 r14 r15 aE (by unfold bp;(show fy .aW .b .aH .A Y U)) ?_;have hm:acc++(if k=0 then [] else [(i,j,k)])=mrg 0 0 0 L:=hm;have hl:(mrg 0 0 0 L).length<bp:=by
     rw[<- hm,List.length_append];by_cases c0:k=0
     ·rw[br c0];show acc.length+0<_;unfold bp;(show fy (.l .a8 .Z) .b .aH .A Y U)
     ·rw[aw c0];show acc.length+1<_;unfold bp;(show fy (.l .P .Z) .b .aH .A Y U)
    rw[hm];show NT hI ((S1.kp.trans kp).cz ar) H2 ar hl (bg _ _ _) λc be k4 hc e=>h be c L k4 bL hc e
  ·rw[List.concat_eq_append]at *;have:((q++[r]).map qV).isEmpty=false:=by rw[cu];cases q<;>rfl
   rw[this];apply iB ?_;show J6 cc hM ha hb hs bn N H S hw ca B λw ab σ2 lt I=>cb w ab σ2 lt I
 ·apply#[[(0,as.length,0,bs.length)],[],#[h0,rfl,rfl,rfl,rfl],?_,#[((Kp.refl σ).cz aj).cz N.m,(bz ag).trans (bg _ _ _),bg _ _ _],?_,?_,nP.start]
  ·simp[qw]
  ·simp[qw]
  ·intro r hr;rw[aq.mp hr];apply#[bh _,bh _,az _,az _]
end SM
end MP
end
section
namespace MP
open PySem
variable {σ σ₁:St}
structure Ext (σ σ':St):Prop where
 L:∀a xs,σ.L a=some xs->σ'.L a=some xs
 D:∀a es,σ.D a=some es->σ'.D a=some es
 S:∀a es,σ.S a=some es->σ'.S a=some es
 I:∀a es,σ.I a=some es->σ'.I a=some es
def Ext.refl (σ:St):Ext σ σ:=#[λ_ _ e=>e,λ_ _ e=>e,λ_ _ e=>e,λ_ _ e=>e]
def Ext.trans {σ₂:St}(h:Ext σ σ₁)(h':Ext σ₁ σ₂):Ext σ σ₂:=#[λ_ _ e=>h'.L _ _ (h.L _ _ e),λ_ _ e=>h'.D _ _ (h.D _ _ e),λ_ _ e=>h'.S _ _ (h.S _ _ e),λ_ _ e=>h'.I _ _ (h.I _ _ e)]
def Kp.ext {σ':St}(h:Kp σ σ'):Ext σ σ':=#[h.L,h.D,λ_ _ e=>by rw[h.S];show e,λ_ _ e=>by rw[h.I];show e]
def Ext.noL (h:Ext σ σ₁){c:Addr}(Z:σ₁.L c=none):σ.L c=none:=by
 cases q:σ.L c with
 |none=>rfl
 |some xs=>rw[h.L _ _ q]at Z;cases Z
def FZ {α:Type}{f g:Nat->Option α}(h:∀a x,f a=some x->g a=some x){c:Nat}{x:α}(Z:f c=none):∀a y,f a=some y->upd g c x a=some y:=λa y e=>by
 have:a≠c:=λq=>by rw[q,Z]at e;cases e
 rw[bz this];show h a y e
def Ext.cz (h:Ext σ σ₁){c:Addr}{xs:List V}(Z:σ.L c=none):Ext σ (σ₁.cz c xs):=#[FZ h.L Z,h.D,h.S,h.I]
def TabAt.ext {σ':St}{db:Addr}{bs:List Key}{rm:Key->Bool}(h:TabAt σ db bs rm)(k:Ext σ σ'):TabAt σ' db bs rm:=by
 have#[es,I,U,W]:=h;apply#[es,k.D _ _ I,U,λq Y=>(W q Y).imp_right λZ=>by have#[c,e1,B]:=Z;apply#[c,e1,k.L _ _ B]]
namespace SM
end SM
structure qW (x:Addr)(σ σ':St):Prop where
 L:∀a xs,σ.L a=some xs->σ'.L a=some xs
 D:∀a es,σ.D a=some es->σ'.D a=some es
 S:∀a es,σ.S a=some es->σ'.S a=some es
 I:∀a es,a≠x->σ.I a=some es->σ'.I a=some es
def Ext.x {σ σ':St}{x:Addr}(h:Ext σ σ'):qW x σ σ':=#[h.L,h.D,h.S,λa es _ e=>h.I a es e]
def qW.trans {x:Addr}{σ σ₁ σ₂:St}(h:qW x σ σ₁)(h':qW x σ₁ σ₂):qW x σ σ₂:=#[λ_ _ e=>h'.L _ _ (h.L _ _ e),λ_ _ e=>h'.D _ _ (h.D _ _ e),λ_ _ e=>h'.S _ _ (h.S _ _ e),λ_ _ n e=>h'.I _ _ n (h.I _ _ n e)]
def qW.jv {x d:Addr}{f:Nat->Option V}{σ σ₁:St}(h:qW x σ σ₁):qW x σ (σ₁.jv x d f):=#[h.L,h.D,h.S,λa es n e=>(bz n).trans (h.I a es n e)]
namespace SM
open PySem
def O5:=Str×Nat×Nat×Nat×Nat
abbrev oV (t:O5):V:=.T [.str t.1,.int t.2.1,.int t.2.2.1,.int t.2.2.2.1,.int t.2.2.2.2]
abbrev chg (i a j b:Nat):List O5:=if i<a/\j<b then [("replace",i,a,j,b)] else if i<a then [("delete",i,a,j,b)] else if j<b then [("insert",i,a,j,b)] else []
abbrev eql (a b s:Nat):List O5:=if s=0 then [] else [("equal",a,a+s,b,b+s)]
abbrev codes:Nat->Nat->List T3->List O5
 |_,_,[]=>[]
 |i,j,t::r=>chg i t.1 j t.2.1++(eql t.1 t.2.1 t.2.2++codes (t.1+t.2.2) (t.2.1+t.2.2) r)
def OJ (i a j b:Nat):(chg i a j b).length<=1:=by
 unfold chg;split
 ·show az _
 ·split
  ·show az _
  ·split
   ·show az _
   ·show bh _
def O1 (a b s:Nat):(eql a b s).length<=1:=by
 unfold eql;split
 ·show bh _
 ·show az _
section
variable {C:Cal}{σ:St}{ρ:Fr}{K:Fl->Fr->St->Prop}{ss:jw}{al:Addr}{acc:List O5}{i j a b s:Nat}
def ev5 {I U W Y Z:Ex}{t:Str}(h1:evV σ ρ I=some (.str t))(h2:evV σ ρ U=some (.int i))(h3:evV σ ρ W=some (.int a))(h4:evV σ ρ Y=some (.int j))(B:evV σ ρ Z=some (.int b)) :
  evV σ ρ (.T %[I,U,W,Y,Z|0])=some (oV (t,i,a,j,b)):=by
 rw[nY,du,h1,du,h2,du,h3,du,h4,du,B];rfl
structure R8o (ρ:Fr)(x al:Addr)(i j a b s:Nat):Prop where
 r0:ρ 0=some (.obj x)
 r1:ρ 1=some (.int i)
 r2:ρ 2=some (.int j)
 r3:ρ 3=some (.L al)
 r4:ρ 4=some (.int a)
 r5:ρ 5=some (.int b)
 r6:ρ 6=some (.int s)
def tT {x:Addr}{t:Str}(H:R8o ρ x al i j a b s)(Z:ρ 7=some (.str t))(Y:Nat.ble t.cps.size bp=true)(W:(t.cps.size != 0)=true)(I:σ.L al=some (acc.map oV))(U:acc.length<bp)
  (h:fw C ss ρ (σ.cz al ((acc++[(t,i,a,j,b)]).map oV)) K) :
  fw C (.cons (.C (.l 7) %[.expr (.bm .append (.l 3) %[.T %[.l 7,.l 1,.l 4,.l 2,.l 5|0]|0])|0] .nil) ss) ρ σ K:=by
 apply#[_,Z,ba Y,?_];rw[W];apply iB (iX (oV (t,i,a,j,b)) H.r3 I (ev5 Z H.r1 H.r4 H.r2 H.r5) (by rw[ak];show U) (qb ?_));rw[cu]at h;show h
def GA {t:Ex}{e:jw}(Z:ρ 7=some (.str ""))(h:fw C ss ρ σ K):fw C (.cons (.C (.l 7) e .nil) ss) ρ σ K:=by
 apply#[_,Z,bh _,?_];show fC (qb h)
def OK {x:Addr}(H:R8o ρ x al i j a b s)(W:ρ 7=some (.str ""))(Z:σ.L al=some (acc.map oV))(Y:acc.length<bp)
  (h:∀ρ',R8o ρ' x al i j a b s->fw C ss ρ' (σ.cz al ((acc++chg i a j b).map oV)) K) :
  fw C (.cons (.C (.and (.c .lt (.l 1) (.l 4)) (.c .lt (.l 2) (.l 5))) (.cons (.a [(.v 7)] (.str "replace"))
 .nil) (.cons (.C (.c .lt (.l 1) (.l 4)) (.cons (.a [(.v 7)] (.str "delete"))
 .nil) (.cons (.C (.c .lt (.l 2) (.l 5)) (.cons (.a [(.v 7)] (.str "insert"))
 .nil) .nil)
 .nil))
 .nil))
 (.cons (.C (.l 7) (.cons (.expr (.bm .append (.l 3) %[.T %[.l 7,.l 1,.l 4,.l 2,.l 5|0]|0]))
 .nil) .nil) ss)) ρ σ K:=by
 have up:∀v,R8o (upd ρ 7 v) x al i j a b s:=λv=>#[H.r0,H.r1,H.r2,H.r3,H.r4,H.r5,H.r6];unfold chg at h;apply nQ (i<a/\j<b) (kW (fT H.r1 H.r4) (fT H.r2 H.r5)) (λc=>?_) λc=>?_
 ·rw[br c]at h;show n8 (.str "replace") rfl (qb (tT (up _) rfl (by decide +kernel) (by decide +kernel) Z Y (h _ (up _))))
 ·rw[aw c]at h;apply nQ (i<a) (fT H.r1 H.r4) (λc=>?_) λc=>?_
  ·rw[br c]at h;show n8 (.str "delete") rfl (iW (qb (tT (up _) rfl (by decide +kernel) (by decide +kernel) Z Y (h _ (up _)))))
  ·rw[aw c]at h;apply nQ (j<b) (fT H.r2 H.r5) (λc=>?_) λc=>?_
   ·rw[br c]at h;show n8 (.str "insert") rfl (iW (iW (qb (tT (up _) rfl (by decide +kernel) (by decide +kernel) Z Y (h _ (up _))))))
   ·rw[aw c,dg,zw Z]at h;show iW (iW (qb (GA (t:=.none) W (h _ H))))
def O2 {x:Addr}(H:R8o ρ x al i j a b s)(Z:σ.L al=some (acc.map oV))(Y:acc.length<bp)
  (h:∀ρ',ρ' 0=some (.obj x)->ρ' 1=some (.int (a+s:Nat))->ρ' 2=some (.int (b+s:Nat))->ρ' 3=some (.L al)->fw C ss ρ' (σ.cz al ((acc++eql a b s).map oV)) K) :
  fw C (.cons (.a [.T [1,2]] (.T %[.b .add (.l 4) (.l 6),.b .add (.l 5) (.l 6)|0]))
 (.cons (.C (.l 6) (.cons (.expr (.bm .append (.l 3) %[.T %[.str "equal",.l 4,.l 1,.l 5,.l 2|0]|0]))
 .nil) .nil) ss)) ρ σ K:=by
 apply KZ [.int (a+s:Nat),.int (b+s:Nat)] ?_ rfl ?_
 ·rw[nY,du,ze (a:=.l 4) (b:=.l 6) H.r4 H.r6,du,ze (a:=.l 5) (b:=.l 6) H.r5 H.r6];rfl
 unfold eql at h;apply nQ (s≠0) (mF (x:=6) (k:=s) H.r6) (λc=>?_) λc=>?_
 ·rw[aw c,cu]at h;show iX (oV ("equal",a,a+s,b,b+s)) H.r3 Z (ev5 rfl H.r4 rfl H.r5 rfl) (by rw[ak];show Y) (qb (h _ H.r0 rfl rfl H.r3))
 ·rw[br (yq.mp c),dg,zw Z]at h;show qb (h _ H.r0 rfl rfl H.r3)
end
def gS {σ:St}{a:Addr}{xs ys:List V}:(σ.cz a xs).cz a ys=σ.cz a ys:=by
 unfold St.cz
 congr 1
 funext j
 simp only[upd];split<;>rfl
inductive WM (x:Addr)(σ:St)(al:Addr)(Ls:List T3)(t:Nat)(ρ:Fr)(σ':St):Prop
 |mk (i j:Nat) (acc:List O5):ρ 0=some (.obj x)->ρ 1=some (.int i)->ρ 2=some (.int j)->ρ 3=some (.L al)->(∃ys,σ'=σ.cz al ys)->σ'.L al=some (acc.map oV)->acc.length<=2*t->acc++codes i j (Ls.drop t)=codes 0 0 Ls->WM x σ al Ls t ρ σ'
def MX {P:Nat->Option Fn}(hP:P 7=some fn7)(cn:P 6=some fn6)(ct:P 5=some fn5){n:Nat}{σ:St}{x la lb db sj d:Addr}{f:Nat->Option V}{as bs:List Key}{rm:Key->Bool}{js:List Key}{Q:V->St->Prop}
  (hM:MAt σ x la lb db sj as bs rm js) (hI:σ.I x=some (d,f)) (f4:f 4=some .none) (f5:f 5=some .none) (ha:∀k∈as,wc k) (hb:∀k∈bs,wc k) (hs:bs.length<400000) (ck:as.length<400000)
  (bl:∀L,kq (Flm as bs rm λc=>decide (c∈js)) 0 as.length 0 bs.length L->L.length<64)
  (h:∀σ' c L g,qW x σ σ'->kq (Flm as bs rm λc=>decide (c∈js)) 0 as.length 0 bs.length L->σ.L c=none->σ'.I x=some (d,g)->(∀m,m≠4->m≠5->g m=f m)->(mrg 0 0 0 L).length<=L.length ->
   σ'.L c=some ((codes 0 0 (mrg 0 0 0 L++[(as.length,bs.length,0)])).map oV)->Q (.L c) σ'):fk P (n+3) 7 [.obj x] σ Q:=by
 apply#[fn7,hP,az 1,az 1,?_];have#[d',f',cc,f1,f2,f7,f8]:=hM.I;have#[rfl,rfl]:d=d'/\f=f':=by rw[hI]at cc;cases cc;apply#[rfl,rfl]
 have h0:frameOf fn7 [.obj x] 0=some (.obj x):=rfl;generalize frameOf fn7 [.obj x]=ρ at h0;apply#[.obj x,h0,x,d,f,.none,rfl,hI,f5,?_];apply#[ba rfl,λal ao=>?_];apply#[.obj x,h0,x,d,f,rfl,hI,?_];have be:((σ.cz al []).jv x d (upd f 5 (.L al))).I x=some (d,upd f 5 (.L al)):=mz;have E2:qW x σ ((σ.cz al []).jv x d (upd f 5 (.L al))):=(((Ext.refl σ).cz ao).x).jv;have M2:MAt ((σ.cz al []).jv x d (upd f 5 (.L al))) x la lb db sj as bs rm js:=by
  apply#[#[d,_,mz,f1,f2,f7,f8],E2.L _ _ hM.La,E2.L _ _ hM.Lb,?_,E2.S _ _ hM.S];have D2:=hM.D.ext ((Ext.refl σ).cz (xs:=[]) ao);show D2
 have ai:((σ.cz al []).jv x d (upd f 5 (.L al))).L al=some []:=bg _ _ _;generalize ((σ.cz al []).jv x d (upd f 5 (.L al)))=σ2 at be E2 M2 ai;apply#[.obj x,h0,x,rfl,by rw[be];rfl,?_];apply gmb cn ct M2 be f4 ha hb hs ck bl λag c L k3 b bu hc=>?_;have bv:=k3.L _ _ ai;have bn:c≠al:=λq=>by rw[q,ai]at bu;cases bu
 have E3:qW x σ (ag.jv x d (upd (upd f 5 (.L al)) 4 (.L c))):=(E2.trans k3.ext.x).jv;have ar:(mrg 0 0 0 L).length<=L.length:=by
  have:∀(L:List T3) (i j k:Nat),(mrg i j k L).length<=L.length+(if k=0 then 0 else 1):=by
   intro L;induction L with
   |nil =>
    intro i j k;dsimp only[mrg];by_cases c0:k=0
    ·rw[br c0];show bh _
    ·rw[aw c0,aw c0];show az _
   |cons t r ih =>
    intro i j k;have#[i',j',k']:=t;dsimp only[mrg];rw[km];split
    ·have:=ih i j (k+k');by_cases c0:k=0
     ·subst c0;rw[br rfl];by_cases c1:0+k'=0
      ·rw[br c1]at this;(show ax .dB .a .dC this)
      ·rw[aw c1]at this;(show ax .dB .a .U this)
     ·rw[aw c0];rw[aw ((au c0).elim (λq1=>(ax (.u .M .O) .r .bY q1)) λq1=>(ax (.u .M .O) .a .H q1))]at this
      (show ax (.k .A (.a .L .U)) .a .U this)
    ·by_cases c0:k=0
     ·rw[br c0,br c0];have:=ih i' j' k';by_cases c1:k'=0
      ·rw[br c1]at this;(show ax .dB .a .dC this)
      ·rw[aw c1]at this;(show ax .dB .a .U this)
     ·rw[aw c0,aw c0,km];have:=ih i' j' k';by_cases c1:k'=0
      ·rw[br c1]at this;(show ax .dD .a .dC this)
      ·rw[aw c1]at this;(show ax .dD .a .U this)
  have:=this L 0 0 0
  rwa [br rfl]at this
 have cb:=bl L b;have ab:(ag.jv x d (upd (upd f 5 (.L al)) 4 (.L c))).L c=some ((mrg 0 0 0 L++[(as.length,bs.length,0)]).map mV):=hc;have Y:(ag.jv x d (upd (upd f 5 (.L al)) 4 (.L c))).L al=some []:=bv;have bd:(ag.jv x d (upd (upd f 5 (.L al)) 4 (.L c))).I x=some (d,upd (upd f 5 (.L al)) 4 (.L c)):=mz;have hg:∀m,m≠4->m≠5->(upd (upd f 5 (.L al)) 4 (.L c)) m=f m:=λm h4 h5=>(bz h4).trans (bz h5);generalize (upd (upd f 5 (.L al)) 4 (.L c))=g at hg bd ab Y E3;generalize ag.jv x d g=cd at bd ab Y E3;generalize ca:mrg 0 0 0 L++[(as.length,bs.length,0)]=Ls at ab;have aE:Ls.length<=64:=by rw[<- ca,List.length_append,ee];(show fy (.k .P (.n 64)) .b .A .aH ar cb)
 apply#[_,ab,?_];apply sq (WM x cd al Ls) ?_ ?_ #[0,0,[],h0,rfl,rfl,rfl,#[[],(zw Y).symm],Y,bh _,rfl]
 ·intro t v ρ' σ' hv zz;have#[i,j,acc,r0,r1,r2,r3,#[ys,rfl],aj,W,e]:=zz;apply#[(bz bn).trans ab,λkk cl=>?_];rw[cj]at hv;have#[u,hu,rfl]:=omap hv;have#[ht,ch]:=bc.mp hu;rw[ky ht,ch]at e;have#[a,b',s]:=u;apply#[_,G1 (t:=(a,b',s)),rfl,?_];apply n8 (.str "") rfl ?_;apply OK (x:=x) (al:=al) (i:=i) (j:=j) (a:=a) (b:=b') (s:=s) (acc:=acc) #[r0,r1,r2,r3,rfl,rfl,rfl] rfl aj (by unfold bp;(show pq .aW [[1,2,1,2]] (.k .B (.n 64)) .bU .N aE W ht)) λda H2=>?_;have h1:=OJ i a j b';apply O2 H2 (acc:=acc++chg i a j b') (bg _ _ _) (by rw[List.length_append];unfold bp;(show eQ (.l .M .Z) [[1,2,1,2,1]] (.k .C (.n 64)) (.k .A (.m 2 .D)) .X .cI aE W ht h1)) λcx q0 q1 q2 q3=>?_;have h2:=O1 a b' s;rw[gS,gS];apply qb (cl _ _ #[a+s,b'+s,acc++chg i a j b'++eql a b' s,q0,q1,q2,q3,#[_,rfl],bg _ _ _,?_,?_])
  ·rw[List.length_append,List.length_append];(show mf (.k .a3 (.m 2 .V)) .h (.k .A (.m 2 .D)) .cI (.k .C .U) W h1 h2)
  ·rw[<- e,ji,ji];rfl
 ·intro ρ' σ' zz;have#[i,j,acc,r0,r1,r2,r3,#[ys,rfl],aj,W,e]:=zz;apply#[(bz bn).trans ab,?_];rw[ak,List.drop_length]at e;have e:acc++[]=codes 0 0 Ls:=e;rw[dg]at e;apply CS (.L al) r3 ?_;apply h _ al L g #[λa xs e1=>?_,E3.D,E3.S,E3.I] b ao bd hg ar ?_
  ·have:a≠al:=λq=>by rw[q,ao]at e1;cases e1
   show(bz this).trans (E3.L a xs e1)
  ·rw[ca,<- e];show aj
end SM
end MP
end
section
namespace MP
section
variable {H:Nat->Nat->Prop}{alo ahi blo bhi:Nat}
end
section
variable {as bs:List Key}{alo ahi blo bhi:Nat}
end
end MP
end
section
namespace MP
open PySem
def mapM_some {α Z:Type}{f:α->Option Z}{g:α->Z}{xs:List α}(h:∀x∈xs,f x=some (g x)):xs.mapM f=some (xs.map g):=by
 induction xs with
 |nil=>rfl
 |cons x r Y=>rw[List.mapM_cons,h x (.head _),Y λy W=>h y (.tail _ W)];rfl
namespace SM
end SM
def Q1 (xs:List Int):∀k∈xs.map Key.int,wc k:=by
 intro k hk;have#[x,_,rfl]:=cq.mp hk;trivial
namespace SM
public abbrev rmA (aj:Bool)(jk:Int->Bool)(ys:List Int)(k:Key):Bool:=qx jk k||qx (DS aj ys) k
abbrev JIs (jk:Int->Bool)(ys:List Int)(js:List Key):Prop:=∀y∈ys,Key.int y∈js↔jk y=true
public abbrev FL (xs ys:List Int)(aj:Bool)(jk:Int->Bool)(js:List Key)(L:List T3):Prop:=kq (Flm (xs.map Key.int) (ys.map Key.int) (rmA aj jk ys) λc=>decide (c∈js)) 0 (xs.map Key.int).length 0 (ys.map Key.int).length L
abbrev Few (xs ys:List Int)(aj:Bool)(jk:Int->Bool):Prop:=∀js L,JIs jk ys js->FL xs ys aj jk js L->L.length<64
structure WJ (σ σ':St)(xs ys:List Int)(aj:Bool)(jk:Int->Bool)(c:Addr)(js:List Key)(L:List T3):Prop where
 kp:∀a zs,σ.L a=some zs->σ'.L a=some zs
 J:JIs jk ys js
 B:FL xs ys aj jk js L
 nw:σ.L c=none
 at_:σ'.L c=some ((codes 0 0 (mrg 0 0 0 L++[(xs.length,ys.length,0)])).map oV)
def X9 {P:Nat->Option Fn}(h5:P 5=some fn5)(h6:P 6=some fn6)(h7:P 7=some fn7){n:Nat}{σ σ1:St}{x d la lb db sj:Addr}{xs ys:List Int}{aj:Bool}{jk:Int->Bool}{js:List Key}{Q:V->St->Prop}(Z:Made σ σ1 x d la lb db sj xs ys aj jk js)(U:xs.length<400000)(W:ys.length<400000)(hf:Few xs ys aj jk)
  (h:∀σ' c L,WJ σ σ' xs ys aj jk c js L->Q (.L c) σ'):fk P (n+3) 7 [.obj x] σ1 Q:=by
 have#[f,hx,f4,f5]:=Z.I;apply MX h7 h6 h5 Z.M hx f4 f5 (Q1 _) (Q1 _) (by rw[ak];show W) (by rw[ak];show U) (λL b=>hf js L Z.J b) λσ2 c L g E2 b B hg _ _ Y=>?_;rw[ak,ak]at Y;apply h σ2 c L #[λa zs e=>E2.L _ _ (Z.L _ _ e),Z.J,b,?_,Y];cases q:σ.L c with
 |none=>rfl
 |some zs=>rw[Z.L _ _ q]at B;cases B
def tR {P:Nat->Option Fn}(h0:P 0=some fn0)(h1:P 1=some fn1)(h2:P 2=some fn2)(h3:P 3=some fn3)(h4:P 4=some rJ)(h5:P 5=some fn5)(h6:P 6=some fn6)(h7:P 7=some fn7){n:Nat}{σ:St}{la lb:Addr}{xs ys:List Int}{vj:V}{aj:Bool}{as:List V}{jk:Int->Bool}{Q:V->St->Prop}
  (has:as=[.bool aj]\/(as=[]/\aj=true)) (U:σ.L la=some (xs.map V.int)) (W:σ.L lb=some (ys.map V.int)) (hz:ys.length<4000) (Y:xs.length<400000) (hJ:jW (fk P n) vj jk) (hf:Few xs ys aj jk)
  (h:∀σ' c js L,WJ σ σ' xs ys aj jk c js L->Q (.L c) σ') (x d:Addr) (hx:σ.I x=none):fk P (n+4) 0 (.obj x::vj::.L la::.L lb::as) (σ.jv x d λ_=>none) λv Z=>v=.none/\∃a,V.obj x=.obj a/\(Z.I a).isSome=true/\fk P (n+4) 7 [.obj x] Z Q:=by
 apply V4 h0 h1 h2 h3 h4 has (d:=d) (bg _ _ _) U W hz hJ λZ db sj js Md=>#[rfl,x,rfl,?_,?_]
 ·have#[f,hx,_]:=Md.I;rw[hx];rfl
 ·show X9 (n:=n+1) h5 h6 h7 Md Y (dp (.l .A .aP) .a .cJ hz) hf λσ' c L T=>h σ' c js L #[T.kp,T.J,T.B,T.nw,T.at_]
end SM
end MP
end
section
namespace MP
open PySem SM
abbrev Gv (C:Cal)(ρ:Fr)(σb:St)(e:Ex)(xs:List V):Prop:=∀(σ:St) (Q:V->St->Prop),Ext σb σ->(∀c σ',Ext σ σ'->σ'.L c=some xs->Q (.L c) σ')->wpE C e ρ σ Q
abbrev Fv (C:Cal)(ρ:Fr)(σb:St)(e:Ex)(xs:List V):Prop:=∀(σ:St) (Q:V->St->Prop),Ext σb σ->(∀c σ',Ext σ σ'->σ.L c=none->σ'.L c=some xs->Q (.L c) σ')->wpE C e ρ σ Q
section
variable {C:Cal}{ρ:Fr}{σb:St}{e f:Ex}{xs ys:List V}
def Gv.l {x:Nat}{l:Addr}(Z:ρ x=some (.L l))(Y:σb.L l=some xs):Gv C ρ σb (.l x) xs:=λσ Q E k=>#[_,Z,k l σ (Ext.refl σ) (E.L _ _ Y)]
def dI {α:Type}{us:List α}{G:St->Prop}{T:V->Fr->List V->St->(Fr->List V->St->Prop)->Prop}{K:Fr->List V->St->Prop}(f:α->V)(g:α->List V)(hg:∀v∈us,(g v).length<=1)(Inv:Fr->Prop){σ:St}(hG:G σ)
  (hT:∀v∈us,∀ρ acc K',Inv ρ->acc.length<us.length->(∀ρ',Inv ρ'->K' ρ' (acc++g v) σ)->T (f v) ρ acc σ K') {ρ:Fr} (Y:Inv ρ) (hK:∀ρ,K ρ (us.flatMap g) σ):nN (us.map f) G T ρ [] σ K:=by
 have go:∀(ws vs:List α) (ρ:Fr) (acc:List V),vs++ws=us->acc=vs.flatMap g->acc.length<=vs.length->Inv ρ->nN (ws.map f) G T ρ acc σ K:=by
  intro ws;induction ws with
  |nil =>
   intro vs ρ acc e W _ _;rw[dg]at e;subst e;subst W;apply#[hG,hK ρ]
  |cons w ws ih =>
   intro vs ρ acc e W hl Y;have U:w∈us:=by rw[<- e];show ew _ (.head _)
   have hn:us.length=vs.length+(ws.length+1):=by rw[<- e,List.length_append,km]
   have:=hg w U;apply#[hG,hT w U ρ acc _ Y (dj .B .d .I (.e .B (.a .C .V)) hl hn) λρ' Z=>ih (vs++[w]) ρ' _ (by rw[ji];show e) (by rw[W,List.flatMap_append,j7,List.flatMap_nil,dg]) (by rw[List.length_append,List.length_append,ee];(show fe (.k .M .Q) .b .I .cI hl this)) Z]
 show go us [] ρ [] rfl rfl (az _) Y
abbrev Gives (C:Cal)(σ:St)(ρ:Fr)(cs:Exs)(el:Ex)(r:List V):Prop:=∃ok:Bool,(∀Q:Bool->St->Prop,Q ok σ->dX C cs ρ σ Q)/\if ok then ∃w,evV σ ρ el=some w/\r=[w] else r=[]
def Gives.test {σ:St}{c el:Ex}{r:List V}{b:Bool}(Z:evT σ ρ c=some b)(h:if b then ∃w,evV σ ρ el=some w/\r=[w] else r=[]):Gives C σ ρ %[c|0] el r:=⟨b,λQ q=>uc c Z (by cases b with
 |true=>show iB q
 |false=>show fC q),h⟩
def Fv.K {α:Type}{us:List α}{fv:List (Nat×Nat)}{t:Tg}{cs:Exs}{el:Ex}{u:α->V}(g:α->List V)(Inv:Fr->Prop)(U:Gv C ρ σb e (us.map u))(hi:Inv (jR fv ρ))(I:us.length<=bp)
  (hb:∀σ,Ext σb σ->∀v∈us,∀ρ',Inv ρ'->∀K:Fr->Prop,(∀Z,Inv Z->Gives C σ Z cs el (g v)->K Z)->pe t (u v) σ ρ' K):Fv C ρ σb (.K fv (.seq e) t cs (.elt el)) (us.flatMap g):=λσ Q E k=>by
 rw[FW,FT];apply U σ _ E λa W E1 ha=>#[_,ha,?_];have hg:∀v∈us,(g v).length<=1:=λv hv=>by
  have:=hb W (E.trans E1) v hv _ hi (λ_=>(g v).length<=1) λZ _ G=>by
   have#[ok,_,h]:=G;cases ok with
   |true=>have#[w,_,e]:=h;rw[e];show az _
   |false=>rw[show g v=[] from h];show bh _
  cases t with
  |v x=>show this
  |T ys=>have#[_,_,_,this]:=this;show this
 apply dI u g hg Inv ha (λv hv ρ' acc K' ag ab hK=>?_) hi λρ' c hc=>k c _ (E1.cz (E1.noL hc)) (E1.noL hc) (bg _ _ _);apply hb W (E.trans E1) v hv ρ' ag _ λZ Y G=>?_;have#[ok,h1,h2]:=G;apply h1 _ ?_;cases ok with
 |true =>
  have#[w,hw,e]:=h2;apply iB (jc el hw #[by show fe .B .b .Q .O I ab,?_]);rw[<- e];show hK _ Y
 |false =>
  apply fC ?_;have:=hK _ Y;rw[show g v=[] from h2,dg]at this;show this
end
def qD (n:Nat):fq n 0=0:=by unfold fq gk;rw[aw (iF (.ig .O .O) .j)];show Nat.min_zero n
def mK {n i:Nat}(h:i<=n):fq n (i:Int)=i:=by unfold fq gk;rw[aw (iy (.ig .L .O) .j),jj];show Nat.min_eq_right h
end MP
end
section
set_option tactic.hygienic true
namespace MP
abbrev Alike (as bs:List Key)(ok:Key->Bool)(i j:Nat):Prop:=∃c,as[i]?=some c/\bs[j]?=some c/\ok c=true
def hO {as bs:List Key}{ok:Key->Bool}{i j:Nat}:hit as bs (λc=>!ok c) i j=true↔Alike as bs ok i j:=by
 rw[ku];apply#[λh=>?_,λh=>?_]
 ·have#[c,W,Y,Z]:=h;apply#[c,W,Y,(Bool.not_eq_false' _).mp Z]
 ·have#[c,W,Y,Z]:=h;apply#[c,W,Y,by rw[Z];rfl]
structure tM (P:Nat->Prop)(l1 l2 p:Nat):Prop where
 le1:p<=l1
 le2:p<=l2
 all:∀t,t<p->P t
 stop:p<l1->p<l2->¬P p
def uY {as bs:List Key}{ok:Key->Bool}{alo blo:Nat}:∀{i j k:Nat},alo<=i->blo<=j->∃p,zp as bs ok alo blo i j k=(i-p,j-p,k+p)/\tM (λt=>Alike as bs ok (i-1-t) (j-1-t)) (i-alo) (j-blo) p
 |0,j,k,h1,h2=>#[0,rfl,bh _,bh _,λt h=>absurd h (fu _),λh h'=>by show λq1=>(fy .ff .c .H (.e .M .O) h (aa (dp (.k .A .O) .a (.k .A .O) h1)))]
 |i+1,0,k,h1,h2=>#[0,rfl,bh _,bh _,λt h=>absurd h (fu _),λh h'=>by show λq1=>(fy .ff .c .H (.e .M .O) h' (aa (dp (.k .A .O) .a (.k .A .O) h2)))]
 |i+1,j+1,k,h1,h2=>by
  rw[eI];by_cases c:alo<i+1/\blo<j+1/\hit as bs (λc=>!ok c) i j=true
  ·rw[br c];have#[c1,c2,c3]:=c;have#[p,e,P]:=uY (as:=as) (bs:=bs) (ok:=ok) (alo:=alo) (blo:=blo) (i:=i) (j:=j) (k:=k+1) (ax .A .a .J c1) (ax .A .a .J c2);have hp:=P.le1;have W:=P.le2;apply#[p+1,?_,?_,?_,λt ht=>?_,λh h'=>?_]
   ·rw[e];have e1:i+1-(p+1)=i-p:=by(show dj .C .l (.e .a9 .V) .bJ (aa (dj .aC .b .I .b6 hp (aa (ax .A .a .J c1)))) (aa (dt .A .a (.e (.a .C .P) .L) (aa (dj .aC .b .I .b6 hp (aa (ax .A .a .J c1)))))))
    have e2:j+1-(p+1)=j-p:=by(show dj .C .l (.e .a9 .V) .bJ (aa (dj .aC .b .I .b6 W (aa (ax .A .a .J c2)))) (aa (dt .A .a (.e (.a .C .P) .L) (aa (dj .aC .b .I .b6 W (aa (ax .A .a .J c2)))))))
    have e3:k+(p+1)=k+1+p:=by(show fE .c7 .n)
    rw[e1,e2,e3]
   ·(show jd .F .k .I .bC (.e .aD .Y) hp (aa (ax .A .a .J c1)) (aa (dt .U .a .a0 (aa (ax .A .a .J c1)))))
   ·(show jd .F .k .I .bC (.e .aD .Y) W (aa (ax .A .a .J c2)) (aa (dt .U .a .a0 (aa (ax .A .a .J c2)))))
   ·cases t with
    |zero=>show hO.mp c3
    |succ t =>
     have e1:i+1-1-(t+1)=i-1-t:=by(show Ar.sub _ _ (λq1 p1=>(Ar.sub _ _ (λq2 p2=>(Ar.sub _ _ (λq3 p3=>(Ar.sub _ _ (λq4 p4=>(wk .C [[1,-1,-1,1,1],[1,1,1,-1,-1]] .bV .d9 .cM (.e .a4 .D) p1 p2 p3 p4)) λq4 p4=>(lE .C [[1,0,0,1,0,1],[1,1,1,0,1,0]] .bV .d9 .cM (.k .D .U) .bW p1 p2 p3 q4 p4))) λq3 p3=>(Ar.sub _ _ (λq4 p4=>(lE .C [[1,0,0,0,1,0],[1,1,1,1,0,-1]] .bV .d9 (.k .G .F) .a1 (.e .a4 .D) p1 p2 q3 p3 p4)) λq4 p4=>(yJ .C [[1,0,0,1,0],[1,1,1,0,1]] .bV .d9 .a1 (.k .D .U) p1 p2 p3 q4)))) λq2 p2=>(Ar.sub _ _ (λq3 p3=>(Ar.sub _ _ (λq4 p4=>(lE .C [[1,-1,1,0,1,1],[1,0,0,1,0,0]] .bV (.k .C .Y) .G .cM (.e .a4 .D) p1 q2 p2 p3 p4)) λq4 p4=>(mf .C [[1,0,1,1],[1,1,0,0]] .G .bJ .Z p2 p3 p4))) λq3 p3=>(fy .C .i .G .a1 p2 p3)))) λq1 p1=>(FG .C [[0,1,1,1,1],[0,1,1,1,1]] .Y (.l .Y .Q) (.e (.a .D .G) .H) (.k (.a .H .U) .U) hp ht (aa (ax .A .a .J c1)) q1))
     have e2:j+1-1-(t+1)=j-1-t:=by(show wk .C .D .bV .cN (.e (.a .A .a4) .C) .dA (aa (iy .aS .j)) (aa (jd .D .h .aF (.l .V .L) (.e .aB .A) W ht (aa (ax .A .a .J c2)))) (aa (wk .F [[1,1,1,1,-1]] .Y (.l .P .Q) .d4 (.e .L .a4) W ht (aa (ax .A .a .J c2)) (aa (iy .aS .j)))) (aa (jd .A .m .bV .bX (.e (.a .F .P) .C) (aa (iy .aS .j)) (aa (jd .D .h .aF (.l .V .L) (.e .aB .A) W ht (aa (ax .A .a .J c2)))) (aa (wk .F [[1,1,1,1,-1]] .Y (.l .P .Q) .d4 (.e .L .a4) W ht (aa (ax .A .a .J c2)) (aa (iy .aS .j)))))))
     show Alike as bs ok (i+1-1-(t+1)) (j+1-1-(t+1));rw[e1,e2];show P.all t (ax .B .a (.l .P .L) ht)
   ·have e1:i+1-1-(p+1)=i-1-p:=by(show wk .C .D .bV .cN (.e (.a .A .a4) .C) .dA (aa (iy .aS .j)) (aa (dj .D .b (.l .L .C) (.e .S .P) h (aa (dt .U .a .a0 (aa (ax .A .a .J c1)))))) (aa (jd .F .k .cU (.e .S .Y) (.e .L .Y) h (aa (dt .U .a .a0 (aa (ax .A .a .J c1)))) (aa (iy .aS .j)))) (aa (jd .A .m .bV .bX (.e (.a .F .P) .C) (aa (iy .aS .j)) (aa (dj .D .b (.l .L .C) (.e .S .P) h (aa (dt .U .a .a0 (aa (ax .A .a .J c1)))))) (aa (jd .F .k .cU (.e .S .Y) (.e .L .Y) h (aa (dt .U .a .a0 (aa (ax .A .a .J c1)))) (aa (iy .aS .j)))))))
    have e2:j+1-1-(p+1)=j-1-p:=by(show wk .C .D .bV .cN (.e (.a .A .a4) .C) .dA (aa (iy .aS .j)) (aa (dj .D .b (.l .L .C) (.e .S .P) h' (aa (dt .U .a .a0 (aa (ax .A .a .J c2)))))) (aa (jd .F .k .cU (.e .S .Y) (.e .L .Y) h' (aa (dt .U .a .a0 (aa (ax .A .a .J c2)))) (aa (iy .aS .j)))) (aa (jd .A .m .bV .bX (.e (.a .F .P) .C) (aa (iy .aS .j)) (aa (dj .D .b (.l .L .C) (.e .S .P) h' (aa (dt .U .a .a0 (aa (ax .A .a .J c2)))))) (aa (jd .F .k .cU (.e .S .Y) (.e .L .Y) h' (aa (dt .U .a .a0 (aa (ax .A .a .J c2)))) (aa (iy .aS .j)))))))
    show ¬Alike as bs ok (i+1-1-(p+1)) (j+1-1-(p+1));rw[e1,e2];show P.stop (jd .B .m .cU .d5 (.e .S .Y) h (aa (ax .A .a .J c1)) (aa (dt .U .a .a0 (aa (ax .A .a .J c1))))) (jd .B .m .cU .d5 (.e .S .Y) h' (aa (ax .A .a .J c2)) (aa (dt .U .a .a0 (aa (ax .A .a .J c2)))))
  ·rw[aw c];apply#[0,rfl,bh _,bh _,λt h=>absurd h (fu _),λh h' q=>c #[by show fe .J .b .b7 (.e (.a .C .A) .L) h (aa (ax .U .a .U h1)),by show fe .J .b .b7 (.e (.a .C .A) .L) h' (aa (ax .U .a .U h2)),hO.mpr q]]
def uV {as bs:List Key}{ok:Key->Bool}{ahi bhi:Nat}:∀{n i j k:Nat},ahi<=i+k+n->∃p,iC as bs ok ahi bhi n i j k=k+p/\tM (λt=>Alike as bs ok (i+k+t) (j+k+t)) (ahi-(i+k)) (bhi-(j+k)) p
 |0,i,j,k=>λh=>#[0,rfl,bh _,bh _,λt h=>absurd h (fu _),λh h'=>by(rename_i z1;show λU=>(jT .ff .c .H .G h (zg (dt .b1 .a (.k .A (.a .R .O)) z1))))]
 |n+1,i,j,k=>λh=>by
  rw[ua];by_cases c:i+k<ahi/\j+k<bhi/\hit as bs (λc=>!ok c) (i+k) (j+k)=true
  ·rw[br c];have#[c1,c2,c3]:=c;have#[p,e,P]:=uV (as:=as) (bs:=bs) (ok:=ok) (ahi:=ahi) (bhi:=bhi) (n:=n) (i:=i) (j:=j) (k:=k+1) (pz (.k .A (.a .aF .D)) .a (.k .A (.a .R .V)) h);have hp:=P.le1;have ab:=P.le2;apply#[p+1,by rw[e];(show fE (.e (.a .P .B) .a7) .n),by show ui .F .k .I (.e (.a .C (.a .D .Y)) .G) (.e (.a .B .a0) .G) hp (aa (dt .M .a .L c1)) (aa (dt .K .a .L c1)),by show ui .F .k .I (.e (.a .C (.a .D .Y)) .G) (.e (.a .B .a0) .G) ab (aa (dt .M .a .L c2)) (aa (dt .K .a .L c2)),λt ht=>?_,λh h'=>?_]
   ·cases t with
    |zero=>show hO.mp c3
    |succ t =>
     have e1:i+k+(t+1)=i+(k+1)+t:=by(show OP .bR .n)
     have e2:j+k+(t+1)=j+(k+1)+t:=by(show OP .bR .n)
     show Alike as bs ok (i+k+(t+1)) (j+k+(t+1));rw[e1,e2];show P.all t (ax .B .a (.l .P .L) ht)
   ·have e1:i+k+(p+1)=i+(k+1)+p:=by(show OP .bR .n)
    have e2:j+k+(p+1)=j+(k+1)+p:=by(show OP .bR .n)
    show ¬Alike as bs ok (i+k+(p+1)) (j+k+(p+1));rw[e1,e2];show P.stop (ui .B .m .cU (.e (.a .B (.a .D .Y)) .G) (.e (.a .C .a0) .G) h (aa (dt .M .a .L c1)) (aa (dt .K .a .L c1))) (ui .B .m .cU (.e (.a .B (.a .D .Y)) .G) (.e (.a .C .a0) .G) h' (aa (dt .M .a .L c2)) (aa (dt .K .a .L c2)))
  ·rw[aw c];apply#[0,rfl,bh _,bh _,λt h=>absurd h (fu _),λh h' q=>c #[by show Ar.sub _ _ (λU W=>(dj .L .b .cC (.e (.a .D .M) .C) h W)) λU W=>(dj .L .c .cC .Z h W),by show Ar.sub _ _ (λU W=>(Ar.sub _ _ (λq2 p2=>(dj .L .b .cC (.e (.a .D .M) .C) h' p2)) λq2 p2=>(dj .L .c .cC .Z h' p2))) λU W=>(dj .L .c .cC .Z h W),hO.mpr q]]
abbrev xq (xs:List Int)(i j:Nat):List Int:=(xs.take j).drop i
def JQ {xs:List Int}{i j:Nat}(h:j<=xs.length):(xq xs i j).length=j-i:=by
 unfold xq;rw[ir,gc,Nat.min_eq_left h]
def nZ {xs:List Int}{i j t:Nat}(h:i+t<j):(xq xs i j)[t]?=xs[i+t]?:=by
 unfold xq;rw[List.getElem?_drop,List.getElem?_take,br h]
section
variable {xs ys:List Int}{js:Key->Bool}{J:Int->Int}{alo ahi blo bhi i j k:Nat}
end
end MP
end
section
namespace MP
namespace R2
open SM
end R2
end MP
end
section
namespace MP
open PySem
namespace SM
variable {σ:St}
def xC {n:Nat}:∀L:List Int,(L.map V.int).mapM (fU σ (n+1))=some (L.map PyData.int)
 | []=>rfl
 |y::L=>by
  rw[ju,List.mapM_cons,xC L];cases n<;>rfl
def t4 {n:Nat}{a:Addr}{L:List Int}(h:σ.L a=some (L.map V.int)):fU σ (n+2) (.L a)=some (.list (L.map PyData.int)):=by
 show((σ.L a).bind λxs=>(xs.mapM (fU σ (n+1))).map PyData.list)=_;rw[h];show((L.map V.int).mapM (fU σ (n+1))).map PyData.list=_;rw[xC];rfl
def xV:∀L M:List Int,PyData.eqvAll (L.map PyData.int) (M.map PyData.int)=decide (L=M)
 | [],[]=>by simp[PyData.eqvAll]
 | [],_::_=>by simp[PyData.eqvAll]
 |_::_,[]=>by simp[PyData.eqvAll]
 |a::L,b::M=>by
  have Z:=xV L M;have e:PyData.eqvAll ((a::L).map PyData.int) ((b::M).map PyData.int)=(PyData.eqv (.int a) (.int b)&&PyData.eqvAll (L.map PyData.int) (M.map PyData.int)):=by simp[PyData.eqvAll]
  rw[e,Z];have Y:PyData.eqv (.int a) (.int b)=(a==b):=by simp[PyData.eqv]
  rw[Y,deq];by_cases c:a=b<;>by_cases d:L=M<;>simp[c,d]
def CV {a b:Addr}{L M:List Int}{K:Bool->Prop}(Z:σ.L a=some (L.map V.int))(hb:σ.L b=some (M.map V.int))(h:K (decide (L=M))):iJ .eq (.L a) (.L b) σ K:=by
 apply#[_,_,t4 Z,t4 hb,?_];have e:PyData.eqv (.list (L.map PyData.int)) (.list (M.map PyData.int))=PyData.eqvAll (L.map PyData.int) (M.map PyData.int):=by simp[PyData.eqv]
 rw[e,xV];show h
def sR {G:St->Prop}{T:V->Fr->List V->St->(Fr->List V->St->Prop)->Prop}{K:Fr->List V->St->Prop}(g:Int->V)(Inv:Fr->Prop)(U:G σ):∀(us:List Int) (acc:List V) (ρ:Fr),Inv ρ->acc.length+us.length<=bp->(∀y∈us,∀ρ acc (k:Fr->List V->St->Prop),Inv ρ->acc.length<bp->(∀ρ',Inv ρ'->k ρ' (acc++[g y]) σ)->T (.int y) ρ acc σ k) ->
  (∀ρ',Inv ρ'->K ρ' (acc++us.map g) σ)->nN (us.map V.int) G T ρ acc σ K
 | []=>λacc ρ W hz step fin=>#[U,by have:=fin ρ W;rwa [List.map_nil,dg]at this]
 |y::us=>λacc ρ W hz step fin=>by
  apply#[U,step y (.head _) ρ acc _ W (by rw[km]at hz;(show dt .B .a (.k .a9 .B) hz)) λρ' Y=>?_];apply sR g Inv U us _ ρ' Y (by rw[List.length_append,ee];rw[km]at hz;(show dt .aD .a .M hz)) (λz hz=>step z (.tail _ hz)) λZ I=>?_;have:=fin Z I
  rwa [ju,List.append_cons]at this
abbrev OY (C:Cal)(vf:V)(J:Int->Int):Prop:=∃k cs,vf=.clo k cs/\∀(y:Int) (σ:St) (Q:V->St->Prop),Q (.int (J y)) σ->C (1000+k) (.int y::cs) σ Q
def SU {ρ:Fr}{x:Nat}{l:Addr}{xs:List V}(Z:ρ x=some (.L l))(Y:σ.L l=some xs):evV σ ρ (.bf .len %[.l x|0])=some (.int (xs.length:Nat)):=by
 have e:evV σ ρ (.l x)=some (.L l):=Z;have W:fD σ ρ %[.l x|0]=some [.L l]:=by rw[du,e];rfl
 show(fD σ ρ %[.l x|0]).bind (λvs=>JH σ .len vs)=_;rw[W];show(σ.L l).map (λxs=>V.int (xs.length:Nat))=_;rw[Y];rfl
end SM
namespace SM
section
variable {σ:St}{ρ:Fr}{a b:Ex}{x y:Int}
def gX {op:Bop}{v:V}(Z:evV σ ρ a=some (.int x))(hb:evV σ ρ b=some (.int y))(h:iQ op (.int x) (.int y)=some v):evV σ ρ (.b op a b)=some v:=by
 rw[C8,Z,hb];show h
def ye (Z:evV σ ρ a=some (.int x))(hb:evV σ ρ b=some (.int y)):evV σ ρ (.b .add a b)=some (.int (x+y)):=gX Z hb rfl
def SQ (Z:evV σ ρ a=some (.int x))(hb:evV σ ρ b=some (.int y)):evV σ ρ (.b .sub a b)=some (.int (x-y)):=gX Z hb rfl
def jN (Z:evV σ ρ a=some (.int x))(hb:evV σ ρ b=some (.int y))(h:0<y):evV σ ρ (.b .mod a b)=some (.int (x%y)):=gX Z hb (by
 show pb (0<y) (V.int (x%y))=_;unfold pb;rw[br h])
def nX (Z:evV σ ρ a=some (.int x))(hb:evV σ ρ b=some (.int y))(h:0<y)(Y:y.natAbs<2^60):evV σ ρ (.b .fdiv a b)=some (.int (x/y)):=gX Z hb (by
 show pb (0<y/\y.natAbs<2^60) (V.int (x/y))=_;unfold pb;rw[br #[h,Y]])
def SS (Z:evV σ ρ a=some (.int x))(hb:evV σ ρ b=some (.int y))(h:x.natAbs<2^60):evV σ ρ (.b .mul a b)=some (.int (x*y)):=gX Z hb (by
 show pb (x.natAbs<2^60\/y.natAbs<2^60) (V.int (x*y))=_;unfold pb;rw[br (.inl h)])
def ub {n:Nat}{l:Addr}{zs:List Int}(Z:ρ n=some (.L l))(Y:σ.L l=some (zs.map V.int)):evV σ ρ (.bf .len %[.l n|0])=some (.int (zs.length:Nat)):=by
 rw[SU Z Y,ak]
end
def t7 {C:Cal}{σ:St}{a b:Addr}{xs ys:List Int}{Q:V->St->Prop}(Y:σ.L a=some (xs.map V.int))(hb:σ.L b=some (ys.map V.int))(hz:xs.length+ys.length<=bp)(k:∀c σ',Ext σ σ'->σ.L c=none->σ'.L c=some ((xs++ys).map V.int)->Q (.L c) σ'):eU .add (.L a) (.L b) σ Q:=by
 apply#[xs.map V.int,ys.map V.int,Y,hb,by rw[ak,ak];show hz,λc Z=>k c _ ((Ext.refl σ).cz Z) Z ?_];rw[cu];show bg _ _ _
def HD {C:Cal}{ρ:Fr}{σ:St}{x:Nat}{lo I:Ex}{l:Addr}{zs:List Int}{i j:Nat}{vl vh:V}{Q:V->St->Prop}(hx:ρ x=some (.L l))(hl:σ.L l=some (zs.map V.int))(e1:evV σ ρ lo=some vl)(e2:evV σ ρ I=some vh)(h1:kQ 0 vl=some (i:Int))(h2:kQ zs.length vh=some (j:Int))(U:i<=zs.length)(hj:j<=zs.length)(hz:zs.length<bp)(k:∀c σ',Ext σ σ'->σ.L c=none->σ'.L c=some ((xq zs i j).map V.int)->Q (.L c) σ'):wpE C (.slc (.l x) lo I) ρ σ Q:=by
 apply#[_,hx,?_];apply jc (Q:=λva σ=>wpE C I ρ σ λB σ=>AS (.L l) va B σ Q) lo e1 ?_;apply jc (Q:=λB σ=>AS (.L l) vl B σ Q) I e2 ?_;apply#[zs.map V.int,i,j,hl,h1,by rw[ak];show h2,by unfold bp at hz;(show(Ar.nab _).elim (λY=>(pq .W .h .aF (.l .C .Z) (.ie .L .P) U hz Y.2)) λY=>(ax .W .a (.ie .L (.g .P)) Y.2)),by unfold bp at hz;(show(Ar.nab _).elim (λY=>(pq .W .h .aF (.l .C .Z) (.ie .L .P) hj hz Y.2)) λY=>(ax .W .a (.ie .L (.g .P)) Y.2)),λc hc=>k c _ ((Ext.refl σ).cz hc) hc ?_];rw[mK (by rw[ak];show U),mK (by rw[ak];show hj)];unfold xq;rw[List.map_drop,List.map_take];show bg _ _ _
end SM
end MP
end
section
namespace MP
variable {x y s r:Nat}
abbrev eS (as:List Key)(js:Key->Bool)(b:Bool)(i:Nat):Prop:=∃c,as[i]?=some c/\js c=b
structure eR (as bs:List Key)(rm js:Key->Bool)(O:Nat->Nat->Prop):Prop where
 eq:∀i j,O i j->∃c,as[i]?=some c/\bs[j]?=some c
 mono:∀i j i' j',O i j->O i' j'->(i<i'↔j<j')
 hitA:∀i j,hit as bs rm i j=true->∃j',O i j'
 hitB:∀i j,hit as bs rm i j=true->∃i',O i' j
 nextA:∀i j j',O i j->O (i+1) j'->j'=j+1
 nextB:∀i j i',O i j->O i' (j+1)->i'=i+1
 up:∀i j c,O i j->as[i+1]?=some c->bs[j+1]?=some c->O (i+1) (j+1)
 dn:∀i j c,O (i+1) (j+1)->as[i]?=some c->bs[j]?=some c->O i j
 pl:∀(j:Nat) (c:Key),bs[j]?=some c->rm c=false->js c=false
abbrev pf (O:Nat->Nat->Prop)(i j n:Nat):Prop:=∀t,t<n->O (i+t) (j+t)
abbrev Al (O:Nat->Nat->Prop)(a b:Nat):Prop:=∀i j,O i j->(a<=i↔b<=j)
abbrev Tch (as bs:List Key)(O:Nat->Nat->Prop)(a b:Nat):Prop:=∀c,as[a]?=some c->bs[b]?=some c->O a b
abbrev JN (as:List Key)(js:Key->Bool)(x m d:Nat):Prop:=m<=d/\(∀t,t<m->eS as js true (x+t))/\∀t,m<=t->t<d->eS as js false (x+t)
section
variable {as bs:List Key}{rm js:Key->Bool}{O:Nat->Nat->Prop}{alo ahi blo bhi i j k n p q:Nat}
def eS.ne (h:eS as js true i)(h':eS as js false i):False:=by
 have#[c,e,h]:=h;have#[Y,Z,h']:=h';rw[e]at Z;have rfl:=ah Z;rw[h]at h';cases h'
def pf.right (W:eR as bs rm js O)(h:pf O i j n)(h0:n=0->Tch as bs O i j):∀{q:Nat},(∀t,t<q->∃c,as[i+n+t]?=some c/\bs[j+n+t]?=some c)->pf O i j (n+q)
 |0=>λ_=>h
 |q+1=>λI=>λt Y=>by
  have B:=pf.right W h h0 (q:=q) λt Y=>I t (ym Y);by_cases c:t<n+q
  ·show B t c
  ·have e:t=n+q:=by(show fe .b2 .i (.l .A .aF) (.g .A .R) Y c)
   subst e;have#[v,a,b]:=I q (iq q);rcases gH (n+q) with z|z
   ·have zn:n=0:=by(show ax .G .t (.e .M .O) z)
    have zq:q=0:=by(show ax .G .t (.e .aJ .O) z)
    clear I;subst zn zq;show h0 rfl v a b
   ·have hp:=B (n+q-1) (dt (.l .A .R) .a (.e .P .R) (aa (ax .bM .a (.l .O .M) z)));have Z:i+(n+q)=i+(n+q-1)+1:=by(show pz (.e .aX (.a .T .U)) .e (.e .V .R) (aa (ax .bM .a (.l .O .M) z)))
    have e2:j+(n+q)=j+(n+q-1)+1:=by(show vK (.e .aX (.a .T .U)) .f (.e (.a .F .R) (.a .aH .U)) Z)
    have e3:i+n+q=i+(n+q-1)+1:=by(show pz (.e .a3 (.a .T .U)) .f (.e .aX (.a .T .U)) Z)
    have e4:j+n+q=j+(n+q-1)+1:=by(show vK (.e .a3 (.a .T .U)) .f (.e (.a .F .R) (.a .aH .U)) Z)
    rw[e3]at a;rw[e4]at b;rw[Z,e2];show W.up _ _ v hp a b
def pf.left (W:eR as bs rm js O)(h:pf O i j n)(h0:0<n):∀{p:Nat},p<=i->p<=j->(∀t,t<p->∃c,as[i-1-t]?=some c/\bs[j-1-t]?=some c)->pf O (i-p) (j-p) (n+p)
 |0=>λ_ _ _=>h
 |p+1=>λh1 Y hp=>λt ht=>by
  have ih:=pf.left W h h0 (p:=p) (ax .A .a .F h1) (ax .A .a .F Y) λt ht=>hp t (ym ht);cases t with
  |zero =>
   have#[c,a,b]:=hp p (iq p);have o:=ih 0 (ax (.l .O .M) .a .H h0);have e1:i-p+0=i-1-p+1:=by(show Ar.sub _ _ (λq1 p1=>(Ar.sub _ _ (λq2 Z=>(jd .cR .I .a5 .bN .cN (aa (ax .A .a .F h1)) p1 Z)) λq2 Z=>(yI .cR [[1,1,-1,1,0,1],[1,0,1,0,1,0]] (.k .Q .D) .a5 .bN (.k .D .U) .aG h1 (aa (ax .A .a .F h1)) p1 q2 Z))) λq1 p1=>(Ar.sub _ _ (λq2 Z=>(yI .cR [[1,1,-1,0,1,0],[1,0,1,1,0,-1]] (.k .Q .D) .a5 (.k .F .C) .a1 .cN h1 (aa (ax .A .a .F h1)) q1 p1 Z)) λq2 Z=>(eQ .cR [[1,1,-1,1,0],[1,0,1,0,1]] (.k .Q .D) .a5 .a1 (.k .D .U) h1 (aa (ax .A .a .F h1)) p1 q2)))
   have e2:j-p+0=j-1-p+1:=by(show Ar.sub _ _ (λq1 p1=>(Ar.sub _ _ (λq2 Z=>(jd .cR .I .a5 .bN .cN (aa (ax .A .a .F Y)) p1 Z)) λq2 Z=>(yI .cR [[1,1,-1,1,0,1],[1,0,1,0,1,0]] (.k .Q .D) .a5 .bN (.k .D .U) .aG Y (aa (ax .A .a .F Y)) p1 q2 Z))) λq1 p1=>(Ar.sub _ _ (λq2 Z=>(yI .cR [[1,1,-1,0,1,0],[1,0,1,1,0,-1]] (.k .Q .D) .a5 (.k .F .C) .a1 .cN Y (aa (ax .A .a .F Y)) q1 p1 Z)) λq2 Z=>(eQ .cR [[1,1,-1,1,0],[1,0,1,0,1]] (.k .Q .D) .a5 .a1 (.k .D .U) Y (aa (ax .A .a .F Y)) p1 q2)))
   rw[e1,e2]at o;have:=W.dn _ _ c o a b;have e3:i-(p+1)+0=i-1-p:=by(show jd (.e .a8 .B) .v (.e (.a .C .O) .L) .bC .aL e1 (aa (ax .A .a .F h1)) (aa (ax .F .a .F h1)))
   have e4:j-(p+1)+0=j-1-p:=by(show jd (.e .a8 .B) .v (.e (.a .C .O) .L) .bC .aL e2 (aa (ax .A .a .F Y)) (aa (ax .F .a .F Y)))
   rw[e3,e4];show this
  |succ t =>
   have o:=ih t (dt (.l .A .R) .a (.l .P .aF) ht);have e3:i-(p+1)+(t+1)=i-p+t:=by(show vg (.e .a7 .a1) .l .aL .bC (aa (ax .F .a .F h1)) (aa (ax .A .a .F h1)))
   have e4:j-(p+1)+(t+1)=j-p+t:=by(show vg (.e .a7 .a1) .l .aL .bC (aa (ax .F .a .F Y)) (aa (ax .A .a .F Y)))
   rw[e3,e4];show o
def Alike.get {ok:Key->Bool}(h:Alike as bs ok i j):∃c,as[i]?=some c/\bs[j]?=some c:=by
 have#[c,a,b,_]:=h;apply#[c,a,b]
def wW (W:eR as bs rm js O){Z:Nat}(o:O i Z)(h:∀t,t<k->hit as bs rm (i+t) (j+t)=true):∀t,t<k->O (i+t) (Z+t)
 |0=>λ_=>o
 |t+1=>λY=>by
  have U:=wW W o h t (Nat.lt_of_succ_lt Y);have#[j',o']:=W.hitA _ _ (h (t+1) Y);have:=W.nextA _ _ _ U o';subst this;show o'
def wV (W:eR as bs rm js O){Z:Nat}(o:O Z j)(h:∀t,t<k->hit as bs rm (i+t) (j+t)=true):∀t,t<k->O (Z+t) (j+t)
 |0=>λ_=>o
 |t+1=>λY=>by
  have U:=wV W o h t (Nat.lt_of_succ_lt Y);have#[i',o']:=W.hitB _ _ (h (t+1) Y);have:=W.nextB _ _ _ U o';subst this;show o'
def C3 (W:eR as bs rm js O){Y Z:Nat}(o:O x y)(h:hit as bs rm Y Z=true)(e:x=Y\/y=Z):hit as bs rm x y=true:=by
 have#[c,a,b]:=W.eq _ _ o;have#[U,a',b',r]:=ku.mp h;apply ku.mpr #[c,a,b,?_];rcases e with rfl|rfl
 ·rw[a]at a';rw[ah a'];show r
 ·rw[b]at b';rw[ah b'];show r
def I3 (W:eR as bs rm js O)(hA:Al O alo blo)(hB:Al O ahi bhi)(B:vQ as bs rm alo ahi blo bhi i j k)(hk:0<k):pf O i j k:=by
 have R:=B.run;have h0:=R.eq 0 hk;have#[j0,oa]:=W.hitA _ _ h0;have#[i0,ob]:=W.hitB _ _ h0;have ra:=wW W oa R.eq;have rb:=wV W ob R.eq;have la:=ra (k-1) (ax .B .a .bP (aa (dp .D .a .H hk)));have lb:=rb (k-1) (ax .B .a .bP (aa (dp .D .a .H hk)));have a1:=hA _ _ oa;have a2:=hB _ _ la;have b1:=hA _ _ ob;have b2:=hB _ _ lb;have r1:=R.ai;have r2:=R.ia;have r3:=R.bj;have r4:=R.jb;have k1:∀{x y:Nat},¬y<=x+(k-1)->x+k<=y:=λ{x y} h=>by(show dj .K .d (.j .C .T) (.e .V .B) h (aa (dp .D .a .H hk)))
 have k2:∀{x y:Nat},x+k<=y->¬y<=x+(k-1):=λ{x y} h=>by(show dj (.j .A .R) .b (.k .aD .A) (.e .Q .D) h (aa (dp .D .a .H hk)))
 have m1:=B.max i j0 k hk #[r1,r2,a1.mp r1,k1 λq=>k2 r2 (a2.mpr q),λt I=>C3 W (ra t I) (R.eq t I) (.inl rfl)];have m2:=B.max i0 j k hk #[b1.mpr r3,k1 λq=>k2 r4 (b2.mp q),r3,r4,λt I=>C3 W (rb t I) (R.eq t I) (.inr rfl)];have mm:=W.mono _ _ _ _ oa ob;have e:i0=i:=by
  have c1:¬j0<j:=by(show m1.elim (λZ=>(dt .bL .r (.l .C .C) Z)) λZ=>(m2.elim (λU=>(dt .bL .r (.l .C .C) U)) λU=>(Z.2.elim (λY=>(dt .bL .r (.l .C .C) Y)) λY=>(ax .bL .a .aQ Y.2))))
  have c2:¬i<i0:=λq=>c1 (mm.mp q)
  (show m1.elim (λZ=>(dt .C .p (.l .C .C) Z)) λZ=>(m2.elim (λU=>(dt .C .p (.l .C .C) U)) λU=>(Z.2.elim (λY=>(ax .C .p (.l .B .B) Y)) λY=>(U.2.elim (λq4=>(fy .C .i .b9 .S c2 q4)) λq4=>(ax .C .e .b8 q4.1)))))
 subst e;show rb
structure CK (as bs:List Key)(rm js:Key->Bool)(O:Nat->Nat->Prop)(alo ahi blo bhi i j k m d:Nat):Prop where
 lt:d<k
 pl:hit as bs rm (i+d) (j+d)=true
 jn:JN as js i m d
 left:alo<i->blo<j->O (i-1) (j-1)->0<m/\eS as js false (i-1)
structure CJ (as bs:List Key)(rm:Key->Bool)(O:Nat->Nat->Prop)(alo ahi blo bhi i j k:Nat):Prop where
 ei:i=alo
 ej:j=blo
 no:∀x y,O x y->alo<=x->x<ahi->hit as bs rm x y=false
 z:k=0->alo<ahi->blo<bhi->¬O alo blo
structure yM (as bs:List Key)(js:Key->Bool)(alo ahi blo bhi i j k p q r s:Nat):Prop where
 P:tM (λt=>Alike as bs (λc=>!js c) (i-1-t) (j-1-t)) (i-alo) (j-blo) p
 Q:tM (λt=>Alike as bs (λc=>!js c) (i-p+(k+p)+t) (j-p+(k+p)+t)) (ahi-(i-p+(k+p))) (bhi-(j-p+(k+p))) q
 R:tM (λt=>Alike as bs js (i-p-1-t) (j-p-1-t)) (i-p-alo) (j-p-blo) r
 S:tM (λt=>Alike as bs js (i-p-r+(k+p+q+r)+t) (j-p-r+(k+p+q+r)+t)) (ahi-(i-p-r+(k+p+q+r))) (bhi-(j-p-r+(k+p+q+r))) s
def uN (W:alo<=i)(Z:blo<=j):∃p q r s,grow as bs js alo ahi blo bhi i j k=(i-p-r,j-p-r,k+p+q+r+s)/\yM as bs js alo ahi blo bhi i j k p q r s:=by
 have#[p,ep,P]:=uY (as:=as) (bs:=bs) (ok:=λc=>!js c) (k:=k) W Z;have p1:=P.le1;have U:=P.le2;have#[q,eq,Q]:=uV (as:=as) (bs:=bs) (ok:=λc=>!js c) (ahi:=ahi) (bhi:=bhi) (n:=ahi-(i-p)) (i:=i-p) (j:=j-p) (k:=k+p) (vK (.k .A (.a (.a .B .S) .F)) .a (.k .A .aY) (Ar.GB _ _));have#[r,er,R']:=uY (as:=as) (bs:=bs) (ok:=js) (alo:=alo) (blo:=blo) (i:=i-p) (j:=j-p) (k:=k+p+q) (jd .A .k .Y .d6 .bN p1 (aa (ax .A .a .A W)) (aa (dj .A .b .I .b6 p1 (aa (ax .A .a .A W))))) (jd .A .k .Y .d6 .bN U (aa (ax .A .a .A Z)) (aa (dj .A .b .I .b6 U (aa (ax .A .a .A Z)))));have#[s,es,S]:=uV (as:=as) (bs:=bs) (ok:=js) (ahi:=ahi) (bhi:=bhi) (n:=ahi-(i-p-r)) (i:=i-p-r) (j:=j-p-r) (k:=k+p+q+r) (Y2 (.k .A (.a (.a .B (.a (.a .S .F) .G)) .H)) .a (.k .A (.a .H .B)) (Ar.GB _ _));apply#[p,q,r,s,?_,P,Q,R',S];unfold grow;simp only[ep,eq,er,es]
def tF {c:Key}(h:as[x]?=some c)(e:x=y):as[y]?=some c:=e▸h
def QT (W:eR as bs rm js O)(hA:Al O alo blo)(hB:Al O ahi bhi)(hT:Tch as bs O alo blo)(B:vQ as bs rm alo ahi blo bhi alo blo 0)(G:yM as bs js alo ahi blo bhi alo blo 0 0 q 0 s):pf O alo blo (0+q+s)/\CJ as bs rm O alo ahi blo bhi alo blo (q+s):=by
 have o1:=pf.right (i:=alo) (j:=blo) (n:=0) W (λt h=>absurd h (fu _)) (λ_=>hT) (q:=q) λt Y=>(G.Q.all t Y).get;have o2:=pf.right (i:=alo) (j:=blo) (n:=0+q) W o1 (λ_=>hT) (q:=s) λt Y=>(G.S.all t Y).get;apply#[o2,rfl,rfl,λx y o hx Z=>?_,λhz I hb o=>?_]
 ·cases hh:hit as bs rm x y with
  |false=>rfl
  |true =>
   have a1:=hA _ _ o;have a2:=hB _ _ o;have:=B.max x y 1 Nat.one_pos ⟨hx,Z,a1.mp hx,Nat.lt_of_not_le λq=>gG.mpr Z (a2.mpr q),λt Y=>by
    obtain rfl:t=0:=Nat.lt_one_iff.mp Y;show hh⟩
   (show False.elim (this.elim (λq1=>(WG .ff .r (.l .U .O) q1)) λq1=>(WG .ff .r (.e .U .O) q1.1)))
 ·obtain rfl:q=0:=by(show ax .G .t (.e .M .O) hz)
  obtain rfl:s=0:=by(show dp .G .t (.e .aV .O) hz)
  have#[c,a,b]:=W.eq _ _ o;cases hj:js c with
  |true=>show G.S.stop (show 0<ahi-(alo+0) by show fe .H .d .aJ .c3 I (aa (ax (.k .a8 .B) .a .B I))) (show 0<bhi-(blo+0) by show fe .H .d .aJ .c3 hb (aa (ax (.k .a8 .B) .a .B hb))) #[c,a,b,hj]
  |false=>show G.Q.stop (show 0<ahi-(alo+0) by show fe .H .d .aJ .c3 I (aa (ax (.k .a8 .B) .a .B I))) (show 0<bhi-(blo+0) by show fe .H .d .aJ .c3 hb (aa (ax (.k .a8 .B) .a .B hb))) #[c,a,b,by show(!js c)=true;rw[hj];rfl]
def uQ {z:Nat}(h:x<y-z):z<y-x:=by(show Ar.sub _ _ (λI Y=>(Ar.sub _ _ (λW U=>(jd .B .k .R .d6 .bN h Y U)) λW U=>(jd .B .o .R .d6 (.k .F .C) h Y W))) λI Y=>(dj .B .c .R .Z h Y))
def IF {t:Nat}(h:t<r)(Z:r<=x):x-1-(r-1-t)=x-r+t:=by(show OO .b2 [[1,1,-1,1,1,-1],[1,-1,1,-1,-1,1]] .d5 (.e .a4 .F) (.e (.a .H .U) .D) (.e (.a .I .C) .H) (.e (.a .A .I) .G) (aa (ax .A .a .A Z)) (aa (fe .D .b .aJ .aA h Z)) (aa (ax .D .a .S h)) (aa (fe .A .d .O .cS h (aa (ax .D .a .S h)))) (aa (wk .A [[1,1,-1,1,1]] .Y .bX (.e .Y .C) (.e .aN .F) Z (aa (fe .D .b .aJ .aA h Z)) (aa (ax .D .a .S h)) (aa (fe .A .d .O .cS h (aa (ax .D .a .S h)))))))
def D5 {z:Nat}(h:z<=x-y):z<=x:=gp h (wu _ _)
def uJ {p:Nat}(h:p<=x-y)(h':r<=x-p-y):p+r<=x:=by(show Ar.sub _ _ (λq1 U=>(Ar.sub _ _ (λq2 Y=>(Ar.sub _ _ (λI W=>(ui .K .h (.k .B .D) .d4 .aX h' Y W)) λI W=>(yH .K .F .aV (.k .B .F) (.e (.a .D .G) .C) (.e .aG .H) .d0 h h' U Y W))) λq2 Y=>(wk .K .y .aV (.k .B .F) (.e (.a .D .G) .C) .aG h h' U Y))) λq1 U=>(Ar.sub _ _ (λq2 Y=>(Ar.sub _ _ (λI W=>(ui .K .h (.k .B .D) .d4 .aX h' Y W)) λI W=>(yH .K .F .aV (.k .B .F) .Z (.e .aG .H) .d0 h h' U Y W))) λq2 Y=>(yJ .K .y .aV (.k .B .F) .Z .aG h h' U Y)))
def CI {p:Nat}(h:p+r<=x):x-p-r+(p+r)=x+0:=by rw[Nat.sub_sub];show aa h
def EA (W:eR as bs rm js O)(G:yM as bs js alo ahi blo bhi i j k p q r s)(U:alo<i-p-r)(Y:blo<j-p-r)(o:O (i-p-r-1) (j-p-r-1)):0<r/\eS as js false (i-p-r-1):=by
 have#[c,a,b]:=W.eq _ _ o;have Z:js c=false:=by
  cases Z:js c with
  |false=>rfl
  |true=>show absurd #[c,tF a (gE (i-p) r 1),tF b (gE (j-p) r 1),Z] (G.R.stop (uQ U) (uQ Y))
 apply#[gF λz=>?_,c,a,Z];subst z;show G.P.stop (uQ U) (uQ Y) #[c,tF a (gE i p 1),tF b (gE j p 1),by show(!js c)=true;rw[Z];rfl]
def zL (G:yM as bs js alo ahi blo bhi i j k p q r s):JN as js (i-p-r) r (p+r):=by
 have W:=G.P.le1;have U:=G.R.le1;apply#[Nat.le_add_left _ _,λt Y=>?_,λt Y ab=>?_]
 ·have#[c,a,_,hc]:=G.R.all (r-1-t) (Ar.sub _ _ (λq1 W=>(Ar.sub _ _ (λq2 p2=>(Ar.sub _ _ (λq3 p3=>(Ar.sub _ _ (λq4 p4=>(Ar.sub _ _ (λq5 p5=>(dj .B .b .a5 (.e .V .B) p2 p5)) λq5 p5=>(mf .B .h .N .a5 .Z Y p2 p5))) λq4 p4=>(OO .B [[0,1,1,1,1,1]] .aF (.l .D .B) (.e .aB .G) (.e .aW .I) (.k .I .F) U Y W p3 q4))) λq3 p3=>(wk .B [[0,1,1,1,1]] .aF (.l .D .B) (.e .aB .G) .bW U Y W p3))) λq2 p2=>(fe .B .b .N .G Y p2))) λq1 W=>(mf .B .o .aF (.l .D .B) .aK U Y W));apply#[c,tF a (IF Y (D5 U)),hc]
 ·have#[c,a,_,hc]:=G.P.all (p+r-1-t) (by omega);apply#[c,tF a ((IF ab (uJ W U)).trans (bx (·+t) (Nat.sub_sub i p r).symm)),(fh _).mp hc]
def GC (W:eR as bs rm js O)(o0:pf O i j k)(hk:0<k)(h1:alo<=i)(h2:blo<=j)(G:yM as bs js alo ahi blo bhi i j k p q r s):pf O (i-p-r) (j-p-r) (k+p+q+r+s):=by
 have B:=G.P.le1;have U:=G.P.le2;have r1:=G.R.le1;have r2:=G.R.le2;have o1:=pf.left W o0 hk (p:=p) (dj .A .b .I .b6 B (aa (ax .A .a .A h1))) (dj .A .b .I .b6 U (aa (ax .A .a .A h2))) λt Z=>(G.P.all t Z).get;have o2:=pf.right W o1 (λh=>by show False.elim (fy .ff .c .H (.e .M .O) hk h)) (q:=q) λt Z=>(G.Q.all t Z).get;have o3:=pf.left W o2 (dt (.l .O .a3) .a .H hk) (p:=r) (dj .A .b .I .b6 r1 (aa (jd .A .k .Y .d6 .bN B (aa (ax .A .a .A h1)) (aa (dj .A .b .I .b6 B (aa (ax .A .a .A h1))))))) (dj .A .b .I .b6 r2 (aa (jd .A .k .Y .d6 .bN U (aa (ax .A .a .A h2)) (aa (dj .A .b .I .b6 U (aa (ax .A .a .A h2))))))) λt Z=>(G.R.all t Z).get;show pf.right W o3 (λh=>by show False.elim (dj .ff .c .H (.e (.a .a3 .D) .O) hk h)) (q:=s) λt Z=>(G.S.all t Z).get
def xQ (W:eR as bs rm js O)(hA:Al O alo blo)(hB:Al O ahi bhi)(hT:Tch as bs O alo blo)(h:Flm as bs rm js alo ahi blo bhi (i,j,k)):pf O i j k/\((∃m d,CK as bs rm js O alo ahi blo bhi i j k m d)\/CJ as bs rm O alo ahi blo bhi i j k):=by
 have#[i0,j0,k0,B,e]:=h;have r1:=B.run.ai;have r3:=B.run.bj;have#[p,q,r,s,eg,G]:=uN (as:=as) (bs:=bs) (js:=js) (ahi:=ahi) (bhi:=bhi) (k:=k0) r1 r3;rw[eg]at e;injection e with e1 e2
 injection e2 with e2 e3
 clear eg;subst e1 e2 e3;have U:=G.P.le1;have p2:=G.P.le2;have Y:=G.R.le1;have I:=G.R.le2;rcases gH k0 with z|hk
 ·have#[rfl,rfl]:=B.zero z;obtain rfl:p=0:=by(show fe .G .u .A (.e .R .C) U (aa (iy (.k .A .A) .j)))
  obtain rfl:r=0:=by(show Ar.sub _ _ (λq1 U=>(Ar.sub _ _ (λq2 p2=>(Ar.sub _ _ (λq3 p3=>(mf .G .B .A .bJ (.e (.a .D .O) .C) Y U p3)) λq3 p3=>(mf .G .B .A .bJ .Z Y U p3))) λq2 p2=>(fy .G .u .A .a1 I p2))) λq1 U=>(fy .G .u .A .a1 Y U))
  subst z;have#[o,b]:=QT W hA hB hT B G;have e:0+0+q+0+s=0+q+s:=by(show fE (.e (.a (.a (.a (.a .O .O) .A) .O) .B) (.a .aV .B)) .n)
  have e':0+0+q+0+s=q+s:=by(show fE (.e (.a (.a (.a (.a .O .O) .A) .O) .B) .M) .n)
  apply#[?_,.inr ?_]
  ·rw[e];show o
  ·rw[e'];show b
 ·apply#[GC W (I3 W hA hB B hk) hk r1 r3 G,.inl #[r,p+r,?_,?_,zL G,λha hb o=>EA W G ha hb o]]
  ·(show vK (.l .M (.a (.a (.a (.a .C .A) .D) .B) .F)) .a .b7 hk)
  ·have:=B.run.eq 0 hk;have e1:i0-p-r+(p+r)=i0+0:=CI (uJ U Y);have e2:j0-p-r+(p+r)=j0+0:=CI (uJ p2 I);rw[e1,e2];show this
end
inductive Mt (as bs:List Key)(rm js:Key->Bool)(O:Nat->Nat->Prop)(alo ahi blo x y:Nat):Prop
 |start (d:Nat):x=alo+d->y=blo+d->pf O alo blo (d+1)->Mt as bs rm js O alo ahi blo x y
 |behind (s s' d:Nat):alo<=s->x=s+d->y=s'+d->hit as bs rm s s'=true->pf O s s' (d+1)->Mt as bs rm js O alo ahi blo x y
 |ahead (m d:Nat):x+d<ahi->hit as bs rm (x+d) (y+d)=true->pf O x y (d+1)->JN as js x m d->Mt as bs rm js O alo ahi blo x y
abbrev Cov (L:List (Nat×Nat×Nat))(x y:Nat):Prop:=∃t∈L,∃o,o<t.2.2/\x=t.1+o/\y=t.2.1+o
abbrev qY (as bs:List Key)(rm js:Key->Bool)(O:Nat->Nat->Prop)(alo ahi blo:Nat)(L:List (Nat×Nat×Nat)):Prop:=∀x y,Cov L x y↔O x y/\alo<=x/\x<ahi/\Mt as bs rm js O alo ahi blo x y
section
variable {as bs:List Key}{rm js:Key->Bool}{O:Nat->Nat->Prop}{alo ahi blo bhi i j k m d x y:Nat}{L R:List (Nat×Nat×Nat)}
def Cov.append:Cov (L++(i,j,k)::R) x y↔Cov L x y\/(∃o,o<k/\x=i+o/\y=j+o)\/Cov R x y:=by
 unfold Cov;constructor
 ·rintro ⟨t,Z,h⟩;rcases cy.mp Z with q|q
  ·show .inl #[t,q,h]
  ·rcases bw.mp q with q|q
   ·subst q;show .inr (.inl h)
   ·show .inr (.inr #[t,q,h])
 ·rintro (⟨t,Z,h⟩|h|⟨t,Z,h⟩)
  ·apply#[t,dq _ Z,h]
  ·apply#[(i,j,k),ew _ (.head _),h]
  ·apply#[t,ew _ (.tail _ Z),h]
def eR.func (W:eR as bs rm js O){Z:Nat}(o:O x y)(o':O x Z):y=Z:=by
 show Nat.le_antisymm (sd.mp λq=>fp _ ((W.mono _ _ _ _ o' o).mpr q)) (sd.mp λq=>fp _ ((W.mono _ _ _ _ o o').mpr q))
def pf.sub (h:pf O i j k){n l:Nat}(Y:n+l<=k):pf O (i+n) (j+n) l:=λt Z=>by
 rw[gq,gq];show h _ (dj .L .b (.k .T .C) .aR Y Z)
def pf.join (h:pf O i j k){l:Nat}(h':pf O (i+k) (j+k) l):pf O i j (k+l):=λt Y=>by
 by_cases c:t<k
 ·show h t c
 ·have:=h' (t-k) (dj .B .b (.l .C .a5) .b5 Y (aa (ax .A .a .b9 c)));have Z:i+k+(t-k)=i+t:=by(show pz .bS .f .bB (aa (ax .A .a .b9 c)))
  have W:j+k+(t-k)=j+t:=by(show vK .bS .f (.e (.a .aY .C) .aH) Z)
  rw[Z,W]at this;show this
def w9 (W:eR as bs rm js O)(own:pf O i j k)(hk:0<k){s s':Nat}(h:pf O s s' (d+1))(hs:s<i+k)(hx:i+k<=s+d):∃d',s+d=i+k+d'/\s'+d=j+k+d'/\pf O (i+k) (j+k) (d'+1):=by
 have o1:=own (k-1) (ax .B .a .bP (aa (dp .D .a .H hk)));have o2:=h (i+k-1-s) (Ar.sub _ _ (λq1 p1=>(Ar.sub _ _ (λq2 Y=>(ui .J .h (.k .S .aY) (.e .aA .G) (.e .a4 .S) hx p1 Y)) λq2 Y=>(dj .J .b .a5 .Z p1 Y))) λq1 p1=>(ax .J .a .G p1));have e0:s+(i+k-1-s)=i+(k-1):=by(show Ar.sub _ _ (λq1 p1=>(Ar.sub _ _ (λq2 Y=>(ui (.e .M .S) [[1,1,-1,-1],[1,-1,1,1]] (.e .V .F) (.e .aJ .G) (.e .a4 .aB) (aa (dp .D .a .H hk)) p1 Y)) λq2 Y=>(wk (.e .M .S) [[1,1,0,1,0],[1,0,1,0,1]] (.e .V .F) (.e .aJ .G) (.k .aB .U) .bW (aa (dp .D .a .H hk)) p1 q2 Y))) λq1 p1=>(Ar.sub _ _ (λq2 Y=>(lE (.e .M .S) [[1,0,1,1,0,-1],[1,1,-1,0,1,0]] (.l .A .aB) (.e .V .F) (.k .G .A) .a1 (.e .a4 .aB) hs (aa (dp .D .a .H hk)) q1 p1 Y)) λq2 Y=>(yJ (.e .M .S) [[1,0,1,0,1],[1,1,-1,1,0]] (.l .A .aB) (.e .V .F) .a1 (.k .aB .U) hs (aa (dp .D .a .H hk)) p1 q2)))
 rw[e0]at o2;have e:=W.func o1 o2;apply#[s+d-(i+k),by show vK (.e .M (.a .S .F)) .e (.e (.a .F .S) .M) (aa (pz .bZ .a .bZ hx)),by show TC (.e .M (.a .S .F)) [[1,1,1,1],[1,-1,-1,-1]] (.e .aW (.a .I .J)) (.e (.a .C .J) (.a .A .H)) (.e (.a .F (.a .I .D)) (.a .G .B)) e0 e (aa (pz .bZ .a .bZ hx)),λt ht=>?_];have:=h (i+k-s+t) (WD (.l .M .Q) .h (.l .B .V) (.e (.a .D .aG) (.a .H .C)) (.e (.a .A .H) .aG) ht (aa (pz .bZ .a .bZ hx)) (aa (dt .b1 .a (.l .A .R) hs)));have e1:s+(i+k-s+t)=i+k+t:=by(show vK (.e .aX (.a .a0 .C)) .f (.e .aJ .a0) (aa (dt .b1 .a (.l .A .R) hs)))
 have e2:s'+(i+k-s+t)=j+k+t:=by(show TC (.e .aX (.a .a0 .C)) [[1,1,1,-1],[1,-1,-1,1]] (.e .aW (.a .I .J)) (.e (.a .D .J) (.a .A .H)) (.e (.a .G .R) (.a (.a .I .F) .C)) e0 e e1)
 rw[e1,e2]at this;show this
def J5 (W:eR as bs rm js O)(h:hit as bs rm x y=true):eS as js false x:=by
 have#[c,a,b,r]:=ku.mp h;apply#[c,a,W.pl y c b r]
def IB (W:eR as bs rm js O)(own:pf O i j k)(hk:0<k){m' d':Nat}(S:CK as bs rm js O alo ahi blo bhi i j k m' d')(ha:alo<=x)(ab:blo<=y)(hx:x<i)(hd:i<=x+d)(hh:hit as bs rm (x+d) (y+d)=true)(h:pf O x y (d+1))(hj:JN as js x m d):False:=by
 have o0:=own 0 hk;have oi:=h (i-x) (dj .J .b (.k .C .a5) .b5 hd (aa (ax .A .a .B hx)));have e0:x+(i-x)=i+0:=by(show dt (.e .M (.a .C .O)) .f .a2 (aa (ax .A .a .B hx)))
 rw[e0]at oi;have ej:=W.func o0 oi;have op:=h (i-1-x) (Ar.sub _ _ (λq1 p1=>(Ar.sub _ _ (λq2 p2=>(jd .J .h (.k .C .a5) .c1 (.e .Y .C) hd p1 p2)) λq2 p2=>(dj .J .b .a5 .Z p1 p2))) λq1 p1=>(ax .J .a .G p1));have e1:x+(i-1-x)=i-1:=by(show dt .V .f .a2 (aa (fe .A .d .O .cS hx (aa (ax .D .a .S hx)))))
 have e2:y+(i-1-x)=j-1:=by(show OO .V [[1,1,1,-1,-1,1],[1,-1,-1,1,1,-1]] (.e .a0 (.a .G .O)) (.e (.a .H .O) .aA) (.e .a5 .I) (.e (.a .I .U) .G) (.e .Q .H) e0 ej e1 (aa (ax .D .a .S hx)) (aa (jd .D [[1,1,-1,-1]] .aJ (.e .aD (.a .C .O)) (.e .a8 .aH) hx e0 ej)))
 rw[e1,e2]at op;have#[hm,kf]:=S.left (fe .B .b .I .N ha hx) (wk .B [[1,1,1,-1,-1]] .I .cB (.e (.a .D .G) (.a .F .O)) (.e (.a .B .O) .aU) ab hx e0 ej) op;have kt:=S.jn.2.1 0 hm;have#[j1,j2,j3]:=hj;by_cases c:i-1-x<m
 ·have:=j2 _ c;rw[e1]at this;show this.ne kf
 ·by_cases c2:i-x<d
  ·have:=j3 (i-x) (wk .A [[1,-1,1,1,1]] (.e .a1 (.a .D .O)) (.e .aB .G) (.g .F .A) (.e .a4 .D) e0 e1 c (aa (ax .D .a .S hx))) c2;rw[e0]at this;show kt.ne this
  ·have e3:x+d=i+0:=by(show mf (.e .M (.a .C .O)) [[1,1,0,0],[1,0,1,1]] (.k .C .M) (.e .T (.a .C .O)) (.g .D .B) hd e0 c2)
   rw[e3]at hh;show kt.ne (J5 W hh)
def N1 (W:eR as bs rm js O)(own:pf O i j k)(hk:0<k)(S:(∃m d,CK as bs rm js O alo ahi blo bhi i j k m d)\/CJ as bs rm O alo ahi blo bhi i j k)(h1:alo<=i)(h2:i+k<=ahi)(h3:blo<=j)(hA:Al O alo blo)
  (cL:qY as bs rm js O alo i blo L) (cR:qY as bs rm js O (i+k) ahi (j+k) R):O x y/\alo<=x/\x<ahi/\Mt as bs rm js O alo ahi blo x y->Cov (L++(i,j,k)::R) x y:=by
 rintro ⟨o,I,ab,M⟩;rw[Cov.append];by_cases c1:x<i
 ·apply .inl ((cL x y).mpr #[o,I,c1,?_]);cases M with
  |start d Z U h=>show .start d Z U h
  |behind s s' d e0 Z U Y h=>show .behind s s' d e0 Z U Y h
  |ahead m d Z Y h hj =>
   by_cases c2:x+d<i
   ·show .ahead m d c2 Y h hj
   ·rcases S with ⟨m',d',S⟩|S
    ·show(IB W own hk S I ((hA _ _ o).mp I) c1 (ip c2) Y h hj).elim
    ·show absurd I (gG.mpr (S.ei▸c1))
 ·by_cases c2:x<i+k
  ·apply .inr (.inl #[x-i,by show dj .B .b (.l .C .a5) .b5 c2 (aa (ax .A .a .b9 c1)),by show dt .b2 .e (.e .a1 .A) (aa (ax .A .a .b9 c1)),?_]);have:=own (x-i) (dj .B .b (.l .C .a5) .b5 c2 (aa (ax .A .a .b9 c1)));have e:i+(x-i)=x:=by(show dt .V .f .a2 (aa (ax .A .a .b9 c1)))
   rw[e]at this;show W.func o this
  ·apply .inr (.inr ((cR x y).mpr #[o,by show dt .K .a (.g .C .M) c2,ab,?_]));cases M with
   |start d Z U h =>
    subst Z U;have#[d',a,b,c]:=w9 W own hk h (fe (.l .A .R) .b .b7 .A hk h1) (pz .bZ .a (.g .S .M) c2);show .start d' a b c
   |behind s s' d e0 Z U Y h =>
    by_cases c3:s<i+k
    ·subst Z U;have#[d',a,b,c]:=w9 W own hk h c3 (pz .bZ .a (.g .S .M) c2);show .start d' a b c
    ·show .behind s s' d (ip c3) Z U Y h
   |ahead m d Z Y h hj=>show .ahead m d Z Y h hj
def N0 (W:eR as bs rm js O)(own:pf O i j k)(hk:0<k)(S:(∃m d,CK as bs rm js O alo ahi blo bhi i j k m d)\/CJ as bs rm O alo ahi blo bhi i j k)(h1:alo<=i)(h2:i+k<=ahi)
  (cL:qY as bs rm js O alo i blo L) (cR:qY as bs rm js O (i+k) ahi (j+k) R) (h:Cov (L++(i,j,k)::R) x y):O x y/\alo<=x/\x<ahi/\Mt as bs rm js O alo ahi blo x y:=by
 rw[Cov.append]at h;rcases h with h|⟨o,ho,rfl,rfl⟩|h
 ·have#[ow,hx,ab,M]:=(cL x y).mp h;apply#[ow,hx,by show dj .B .b .cT .O h2 ab,?_];cases M with
  |start d e1 e2 h=>show .start d e1 e2 h
  |behind s s' d e0 e1 e2 hh h=>show .behind s s' d e0 e1 e2 hh h
  |ahead m d e1 hh h hj=>show .ahead m d (vg .L .b .c8 (.l .M .D) h2 e1) hh h hj
 ·apply#[own o ho,by show dt .b1 .a .A h1,by show dj .L .b (.k .T .C) .aR h2 ho,?_];rcases S with ⟨m,d,S⟩|S
  ·have hd:=S.lt;by_cases c:d<=o
   ·show .behind (i+d) (j+d) (o-d) (dt .b1 .a .A h1) (pz .aY .e .c9 (aa (ax .A .a .A c))) (pz .aY .e .c9 (aa (ax .A .a .A c))) S.pl (own.sub (dj .M .b .X (.e .aJ .D) ho (aa (ax .A .a .A c))))
   ·have#[j1,j2,j3]:=S.jn;have e1:i+o+(d-o)=i+d:=by(show pz .bS .f .bB (aa (ax .A .a .d1 c)))
    have e2:j+o+(d-o)=j+d:=by(show vK .bS .f (.e (.a .aY .C) .aH) e1)
    apply .ahead (m-o) (d-o) (ui (.l .a3 .D) .h (.k .aA .D) (.l .G .F) (.e .a3 .aN) h2 hd e1) (by rw[e1,e2];show S.pl) (own.sub (vg .M .b .X (.e (.a (.a .F .A) .B) .aH) hd e1)) #[by show Ar.sub _ _ (λq1 p1=>(ui .A .m .Y (.e (.a .aG .B) .aH) (.e .aN .C) j1 e1 p1)) λq1 p1=>(ax .A .a .G p1),λt ht=>?_,λt ht ag=>?_]
    ·rw[gq];show j2 _ (Ar.sub _ _ (λq1 p1=>(dj .L .b .aR (.e .aC .C) ht p1)) λq1 p1=>(dj .L .c .aR .Z ht p1))
    ·rw[gq];show j3 _ (dj .b1 .b (.k .D .C) (.k .A .a5) ht (Ar.GB _ _)) (vg .L .b (.e (.a .aC .F) .a2) (.l .B .F) e1 ag)
  ·have e1:=S.ei;have e2:=S.ej;clear cL;subst e1 e2;show .start o rfl rfl (λt ht=>own t (fe .B .b .N (.l .A .Q) ho ht))
 ·have#[ow,hx,ab,M]:=(cR x y).mp h;apply#[ow,by show dj .A .b .I .cT h1 hx,ab,?_];cases M with
  |start d e1 e2 h =>
   have oo:=own.join h;rcases S with ⟨m,d',S⟩|S
   ·have hd:=S.lt;show .behind (i+d') (j+d') (k+d-d') (dt .b1 .a .A h1) (FH .dF .l (.e .A (.a .a6 .G)) (.e .a2 .aG) e1 (aa (dt .b1 .a .B hd))) (FH .dF .l (.e .A (.a .a6 .G)) (.e .a2 .aG) e2 (aa (dt .b1 .a .B hd))) S.pl (oo.sub (pz (.k .a7 (.a .C .V)) .a (.e .aJ .S) (aa (dt .b1 .a .B hd))))
   ·have aj:=S.ei;have ai:=S.ej;clear S;subst aj ai;show .start (k+d) (pz (.e .A (.a .B .S)) .f .dF e1) (pz (.e .A (.a .B .S)) .f .dF e2) (λt ht=>oo t (dt (.l .A .aF) .a (.l .A (.a .R .U)) ht))
  |behind s s' d e0 e1 e2 hh h=>show .behind s s' d (dj .A .b .I .cT h1 e0) e1 e2 hh h
  |ahead m d e1 hh h hj=>show .ahead m d e1 hh h hj
def JR (W:eR as bs rm js O)(h:kq (Flm as bs rm js) alo ahi blo bhi L):Al O alo blo->Al O ahi bhi->Tch as bs O alo blo->qY as bs rm js O alo ahi blo L:=by
 induction h with
 | @nil alo ahi blo bhi i j hf =>
  intro hA hB hT x y;apply#[λh=>(by have#[t,ht,_]:=h;cases ht),λh=>?_];have#[o,I,Z,M]:=h;obtain⟨_,⟨m,d,S⟩|S⟩:=xQ W hA hB hT hf
  ·show absurd S.lt (fu _)
  ·have no:=S.no;cases M with
   |start d Y e2 h =>
    have h0:=h 0 (Nat.succ_pos _);have lt:alo<ahi:=oe (ll alo d) (Y▸Z);show absurd h0 (S.z rfl lt (gG.mp λq=>gG.mpr lt ((hB _ _ h0).mpr q)))
   |behind s s' d e0 Y e2 hh h =>
    have:=no s s' (h 0 (Nat.succ_pos _)) e0 (dj .B .d .N (.e .C .T) Z Y);rw[this]at hh;cases hh
   |ahead m d Y hh h hj =>
    have:=no (x+d) (y+d) (h d (iq _)) (dt .b1 .a .A I) Y;rw[this]at hh;cases hh
 | @node alo ahi blo bhi i j k L R hf hk hL aj hR ai ag ab =>
  intro hA hB hT;have Wi:=hf.within;unfold Within at Wi;have#[w1,w2,w3,w4]:=Wi;dsimp only at w1 w2 w3 w4;have#[own,S]:=xQ W hA hB hT hf;have o0:=own 0 hk;have o1:=own (k-1) (ax .B .a .bP (aa (dp .D .a .H hk)));have aI:Al O i j:=λx y o=>(sd.symm.trans (not_congr (W.mono _ _ _ _ o o0))).trans sd;have Y:i+k=i+(k-1)+1:=by(show dt .cF .e (.e .Q .B) (aa (dp .D .a .H hk)))
  have e2:j+k=j+(k-1)+1:=by(show pz .cF .f (.e .a5 (.a .a2 .U)) Y)
  have aE:Al O (i+k) (j+k):=λx y o=>by
   rw[Y,e2];show W.mono _ _ _ _ o1 o
  have tE:Tch as bs O (i+k) (j+k):=λc a b=>by
   rw[Y]at a ⊢;rw[e2]at b ⊢;show W.up _ _ c o1 a b
  have cL:qY as bs rm js O alo i blo L:=by
   by_cases c:alo<i/\blo<j
   ·show ag c.1 c.2 hA aI hT
   ·rw[aj c];apply λx y=>#[λh=>(by have#[t,ht,_]:=h;cases ht),λh=>?_];have#[o,I,Z,_]:=h;show absurd #[oe I Z,oe ((hA _ _ o).mp I) (gG.mp λq=>gG.mpr Z ((aI _ _ o).mpr q))] c
  have cR:qY as bs rm js O (i+k) ahi (j+k) R:=by
   by_cases c:i+k<ahi/\j+k<bhi
   ·show ab c.1 c.2 aE hB tE
   ·rw[ai c];apply λx y=>#[λh=>(by have#[t,ht,_]:=h;cases ht),λh=>?_];have#[o,I,Z,_]:=h;show absurd #[oe I Z,oe ((aE _ _ o).mp I) (gG.mp λq=>gG.mpr Z ((hB _ _ o).mpr q))] c
  show λx y=>#[N0 W own hk S w1 w2 cL cR,N1 W own hk S w1 w2 w3 hA cL cR]
end
def Bk:=Nat×Nat×Nat
structure zf (L:List Bk):Prop where
 pos:∀t∈L,0<t.2.2
 ord:L.Pairwise dT
abbrev qL (L:List Bk):Prop:=∀t∈L,¬Cov L (t.1+t.2.2) (t.2.1+t.2.2)
section
variable {L M:List Bk}{i j k x y:Nat}{t:Bk}
def zf.tail (h:zf (t::L)):zf L:=#[λu Z=>h.pos u (.tail _ Z),(ib.mp h.ord).2]
def Cov.cons:Cov (t::L) x y↔(∃o,o<t.2.2/\x=t.1+o/\y=t.2.1+o)\/Cov L x y:=by
 constructor
 ·rintro ⟨u,Z,h⟩;rcases bw.mp Z with q|q
  ·subst q;show .inl h
  ·show .inr #[u,q,h]
 ·rintro (h|⟨u,Z,h⟩)
  ·apply#[t,.head _,h]
  ·apply#[u,.tail _ Z,h]
def Cov.nil:¬Cov [] x y:=λh=>by have#[u,Z,_]:=h;cases Z
def qL.tail (h:qL (t::L)):qL L:=λu Z q=>h u (.tail _ Z) (Cov.cons.mpr (.inr q))
def Cov.ge (h:zf (t::L))(c:Cov L x y):t.1+t.2.2<=x/\t.2.1+t.2.2<=y:=by
 have#[u,Z,o,Y,rfl,rfl]:=c;have:=(ib.mp h.ord).1 u Z;unfold dT at this
 (show#[(pz .bZ .a .K this.1),(pz .bZ .a .K this.2)])
def C4 (h:zf ((i,j,k)::M))(hn:¬Cov M (i+k) (j+k))(h':zf L)(hs:qL L)(e:∀x y,Cov ((i,j,k)::M) x y↔Cov L x y):∃r,L=(i,j,k)::r/\∀x y,Cov M x y↔Cov r x y:=by
 have hk:0<k:=h.pos (i,j,k) (.head _);have c0:Cov L i j:=(e i j).mp (Cov.cons.mpr (.inl #[0,hk,rfl,rfl]));cases L with
 |nil=>show absurd c0 Cov.nil
 |cons u r =>
  have#[a,b,l]:=u;have hl:0<l:=h'.pos (a,b,l) (.head _);have c1:=(e a b).mpr (Cov.cons.mpr (.inl #[0,hl,rfl,rfl]));have st:=hs (a,b,l) (.head _);dsimp only at st;rw[Cov.cons]at c0 c1;have f1:a=i/\b=j:=by
   rcases c1 with ⟨o,W,Y,I⟩|c1
   ·rcases c0 with ⟨o',ab,Z,U⟩|c0
    ·dsimp only at Y I Z U
     (show#[(dj .C [[1,-1,0],[1,0,-1]] .b2 (.e .B .T) Y Z),(ui .C [[1,0,-1,0],[1,-1,1,-1]] (.e .C .a0) (.e .A .a6) (.e .D .aU) Y I Z)])
    ·have:=Cov.ge h' c0;dsimp only at this Y
     (show#[(dj .C [[1,-1,0],[1,0,1]] .b2 (.k .T .B) Y this.1),(ui .C [[1,0,-1,0],[1,-1,1,1]] (.e .C .a0) (.e .A .a6) (.k .aU .D) Y I this.1)])
   ·have g:=Cov.ge h c1;dsimp only at g;rcases c0 with ⟨o',ab,Z,U⟩|c0
    ·dsimp only at Z
     (show#[(dj .C [[1,1,0],[1,0,-1]] (.k .R .A) (.e .B .T) g.1 Z),(ui .C [[1,1,-1,1],[1,0,0,-1]] (.k .S .F) (.e .C .aG) (.e .B .aN) g.1 Z U)])
    ·have:=Cov.ge h' c0;dsimp only at this
     (show#[(dj .C .s (.k .R .A) (.k .T .B) g.1 this.1),(dj .C .s (.k .R .A) (.k .T .B) g.2 this.2)])
  clear c1 c0;have#[rfl,rfl]:=f1;have f2:l=k:=by
   rcases Nat.lt_trichotomy l k with c|c|c
   ·show absurd ((e _ _).mp (Cov.cons.mpr (.inl #[l,c,rfl,rfl]))) st
   ·show c
   ·have:=(e (a+k) (b+k)).mpr (Cov.cons.mpr (.inl #[k,c,rfl,rfl]));rcases Cov.cons.mp this with ⟨o,W,Y,I⟩|q
    ·dsimp only at W Y
     (show dj .C .g .N (.e .a5 .a2) W Y)
    ·show absurd q hn
  subst f2;apply#[r,rfl,λx y=>#[λq=>?_,λq=>?_]]
  ·have g:=Cov.ge h q;rcases Cov.cons.mp ((e x y).mp (Cov.cons.mpr (.inr q))) with ⟨o,W,Y,I⟩|q'
   ·dsimp only at W Y g
    (show False.elim (mf .ff .o .K (.l .D .B) (.e .C .T) g.1 W Y))
   ·show q'
  ·have g:=Cov.ge h' q;rcases Cov.cons.mp ((e x y).mpr (Cov.cons.mpr (.inr q))) with ⟨o,W,Y,I⟩|q'
   ·dsimp only at W Y g
    (show False.elim (mf .ff .o .K (.l .D .B) (.e .C .T) g.1 W Y))
   ·show q'
def xX (h':zf L)(e:∀x y,¬Cov L x y):L=[]:=by
 cases L with
 |nil=>rfl
 |cons u r=>show absurd (Cov.cons.mpr (.inl #[0,h'.pos u (.head _),rfl,rfl])) (e u.1 u.2.1)
def Cov.zero:Cov ((i,j,0)::L) x y↔Cov L x y:=by
 rw[Cov.cons];apply#[λh=>h.resolve_left λh=>?_,.inr];have#[o,Z,_]:=h;show fu _ Z
def Cov.joined {k':Nat}:Cov ((i,j,k)::(i+k,j+k,k')::L) x y↔Cov ((i,j,k+k')::L) x y:=by
 rw[Cov.cons,Cov.cons,Cov.cons];constructor
 ·rintro (⟨o,Z,rfl,rfl⟩|⟨o,Z,rfl,rfl⟩|h)
  ·show .inl #[o,gz Z (ll _ _),rfl,rfl]
  ·show .inl #[k+o,Nat.add_lt_add_left Z k,gq ..,gq ..]
  ·show .inr h
 ·rintro (⟨o,Z,rfl,rfl⟩|h)
  ·dsimp only at Z;by_cases c:o<k
   ·show .inl #[o,c,rfl,rfl]
   ·show .inr (.inl #[o-k,by dsimp only;(show dj .B .b (.l .C .a5) .b5 Z (aa (ax .A .a .b9 c))),by dsimp only;(show pz .aY .e .c9 (aa (ax .A .a .b9 c))),by dsimp only;(show pz .aY .e .c9 (aa (ax .A .a .b9 c)))])
  ·show .inr (.inr h)
def uG:∀{B L:List Bk} {i j k:Nat},zf B->(∀t∈B,i+k<=t.1/\j+k<=t.2.1)->zf L->qL L->(∀x y,Cov ((i,j,k)::B) x y↔Cov L x y)->mrg i j k B=L
 | [],L,i,j,k=>λY I W U e=>by
  dsimp only[mrg];by_cases c:k=0
  ·subst c;rw[br rfl];show(xX W λx y q=>Cov.nil (Cov.zero.mp ((e x y).mpr q))).symm
  ·rw[aw c];have#[r,rfl,er]:=C4 (M:=[]) ⟨λt Z=>by
    rw[aq.mp Z];show gF c,xg ..⟩ Cov.nil W U e
   rw[xX W.tail λx y q=>Cov.nil ((er x y).mpr q)]
 |(i',j',k')::r,L,i,j,k=>λY I W U e=>by
  have hb:=I (i',j',k') (.head _);dsimp only at hb;have hr:=ib.mp Y.ord;dsimp only[mrg];by_cases c:i+k=i'/\j+k=j'
  ·have#[rfl,rfl]:=c;rw[br #[rfl,rfl]];apply uG Y.tail (λt Z=>?_) W U λx y=>Cov.joined.symm.trans (e x y);have:=hr.1 t Z;unfold dT at this;dsimp only at this
   (show#[(pz (.k .aX .D) .a (.k .a3 .D) this.1),(pz (.k .aX .D) .a (.k .a3 .D) this.2)])
  ·rw[aw c];by_cases z:k=0
   ·subst z;rw[br rfl];show uG Y.tail (λt Z=>hr.1 t Z) W U λx y=>Cov.zero.symm.trans (e x y)
   ·rw[aw z];have hR:zf ((i,j,k)::(i',j',k')::r):=⟨λt Z=>by
     rcases bw.mp Z with q|q
     ·rw[q];show gF z
     ·show Y.pos t q,ib.mpr #[λt Z=>I t Z,Y.ord]⟩
    have hn:¬Cov ((i',j',k')::r) (i+k) (j+k):=λq=>by
     rcases Cov.cons.mp q with ⟨o,ho,e1,e2⟩|q
     ·dsimp only at e1 e2;show c (#[(dj .V [[1,0,-1],[1,1,0]] .K (.e .M .S) hb.1 e1),(ui .V [[1,0,0,-1],[1,1,-1,1]] (.k .a5 .F) (.e .a5 .aG) (.e .M .aU) hb.1 e1 e2)])
     ·have:=Cov.ge Y q;have ab:0<k':=Y.pos (i',j',k') (.head _);dsimp only at this
      (show mf .ff .o .K (.k .S .M) .cC hb.1 this.1 ab)
    clear I;have zz:=C4 hR hn W U e;clear e;have#[s,rfl,er]:=zz;rw[uG Y.tail (λt Z=>hr.1 t Z) W.tail U.tail er]
def N3 {Z L:List Bk}(U:zf Z)(W:zf L)(Y:qL L)(e:∀x y,Cov Z x y↔Cov L x y):mrg 0 0 0 Z=L:=
 uG U (λt I=>#[by show iy (.k (.a .O .O) .A) .j,by show iy (.k (.a .O .O) .A) .j]) W Y λx y=>Cov.zero.trans (e x y)
end
variable {xs:List Int}{n z:Nat}
def Pc:=Nat×Nat×List Int
abbrev InP (ps:List Pc)(i j:Nat):Prop:=∃P∈ps,∃o,o<P.2.2.length/\i=P.1+o/\j=P.2.1+o
structure Lay (a b:List Int)(fr:List Pc)(l:Pc):Prop where
 item:∀P∈fr++[l],∀o v,P.2.2[o]?=some v->a[P.1+o]?=some v/\b[P.2.1+o]?=some v/\0<=v
 la:l.1+l.2.2.length=a.length
 lb:l.2.1+l.2.2.length=b.length
 ends:∀P∈fr,P.1+P.2.2.length<l.1/\P.2.1+P.2.2.length<l.2.1
 ord:fr.Pairwise λP Q=>P.1+P.2.2.length<Q.1/\P.2.1+P.2.2.length<Q.2.1
 zero:∀P∈fr++[l],P.1=0↔P.2.1=0
 a0:∀i v,a[i]?=some v->v=-1\/∃j,InP (fr++[l]) i j
 b0:∀j v,b[j]?=some v->v=-2\/∃i,InP (fr++[l]) i j
section
variable {a b:List Int}{fr:List Pc}{l:Pc}{i j i' j':Nat}{v:Int}
def InP.append {ps qs:List Pc}:InP (ps++qs) i j↔InP ps i j\/InP qs i j:=by
 constructor
 ·rintro ⟨P,Z,h⟩;rcases cy.mp Z with q|q
  ·show .inl #[P,q,h]
  ·show .inr #[P,q,h]
 ·rintro (⟨P,Z,h⟩|⟨P,Z,h⟩)
  ·apply#[P,dq _ Z,h]
  ·apply#[P,ew _ Z,h]
def Lay.start:Lay [] [] [] (0,0,[]) where
 item:=λP Z o v h=>by
  have rfl:=aq.mp Z;cases h
 la:=rfl
 lb:=rfl
 ends:=λP Z=>(by cases Z)
 ord:=.nil
 zero:=λP Z=>by
  have rfl:=aq.mp Z;show Iff.rfl
 a0:=λi v h=>by cases h
 b0:=λi v h=>by cases h
def pI {u v:Int}(h:(xs++[u])[n]?=some v):xs[n]?=some v\/(n=xs.length/\v=u):=by
 by_cases c:n<xs.length
 ·rw[ke c]at h;show .inl h
 ·rw[ug (ip c)]at h;have:=(bc.mp h).1;have e:n-xs.length=0:=by simpa using this
  rw[e]at h;show .inr #[by show fe .C [[1,0,1],[1,1,-1]] .aK (.e .a1 .A) e (aa (ax .A .a .b9 c)),(ah h).symm]
def zc {ys:List Int}{v:Int}(h:xs[n]?=some v):(xs++ys)[n]?=some v:=by
 rw[ke (bc.mp h).1];show h
def Lay.put (H:Lay a b fr (i,j,l'))(B:0<=v):Lay (a++[v]) (b++[v]) fr (i,j,l'++[v]):=by
 have la:=H.la;have lb:=H.lb;dsimp only at la lb;have up:∀{x y},InP (fr++[(i,j,l')]) x y->InP (fr++[(i,j,l'++[v])]) x y:=λ{x y} h=>by
  rw[InP.append]at h ⊢;rcases h with h|⟨P,Z,o,I,e1,e2⟩
  ·show .inl h
  ·have rfl:=aq.mp Z;apply .inr #[_,.head _,o,?_,e1,e2];dsimp only at I ⊢;rw[List.length_append];show gz I (ll _ _)
 have new:InP (fr++[(i,j,l'++[v])]) a.length b.length:=InP.append.mpr (.inr #[_,.head _,l'.length,by dsimp only;rw[List.length_append];show iq _,la.symm,lb.symm]);apply#[λP Z o u h=>?_,?_,?_,H.ends,H.ord,λP Z=>?_,λx u h=>?_,λy u h=>?_]
 ·rcases cy.mp Z with q|q
  ·have#[U,W,Y]:=H.item P (dq _ q) o u h;apply#[zc U,zc W,Y]
  ·have rfl:=aq.mp q;rcases pI h with h|⟨rfl,rfl⟩
   ·have#[U,W,Y]:=H.item (i,j,l') (ew _ (.head _)) o u h;apply#[zc U,zc W,Y]
   ·dsimp only;rw[la,lb];apply#[List.getElem?_concat_length,List.getElem?_concat_length,B]
 ·rw[List.length_append,List.length_append,<- la];show(gq ..).symm
 ·rw[List.length_append,List.length_append,<- lb];show(gq ..).symm
 ·rcases cy.mp Z with q|q
  ·show H.zero P (dq _ q)
  ·clear Z;have rfl:=aq.mp q;show H.zero (i,j,l') (ew _ (.head _))
 ·rcases pI h with h|⟨rfl,rfl⟩
  ·show(H.a0 x u h).imp_right λ⟨y,h⟩=>#[y,up h]
  ·show .inr #[_,new]
 ·rcases pI h with h|⟨rfl,rfl⟩
  ·show(H.b0 y u h).imp_right λ⟨x,h⟩=>#[x,up h]
  ·show .inr #[_,new]
def nW {g:Nat}{u v:Int}(h:(xs++List.replicate g u)[n]?=some v):xs[n]?=some v\/v=u:=by
 by_cases c:n<xs.length
 ·rw[ke c]at h;show .inl h
 ·rw[ug (ip c)]at h;show .inr (List.eq_of_mem_replicate (cw h))
def Lay.gap (H:Lay a b fr l){g h:Nat}(I:0<g)(U:0<h):Lay (a++List.replicate g (-1)) (b++List.replicate h (-2)) (fr++[l]) ((a++List.replicate g (-1)).length,(b++List.replicate h (-2)).length,[]):=by
 have la:=H.la;have lb:=H.lb;have up:∀{x y},InP (fr++[l]) x y->InP ((fr++[l])++[((a++List.replicate g (-1)).length,(b++List.replicate h (-2)).length,[])]) x y:=λ{x y} h=>InP.append.mpr (.inl h);have Z:a.length<(a++List.replicate g (-1)).length/\b.length<(b++List.replicate h (-2)).length:=by
  rw[List.length_append,List.length_append,jf,jf]
  (show#[(ax (.l .A .M) .a .aI I),(ax (.l .A .M) .a .aI U)])
 apply#[λP Y o u h=>?_,rfl,rfl,λP Y=>?_,?_,λP Y=>?_,λx u h=>?_,λy u h=>?_]
 ·rcases cy.mp Y with q|q
  ·have#[h1,h2,h3]:=H.item P q o u h;apply#[zc h1,zc h2,h3]
  ·have rfl:=aq.mp q;cases h
 ·show P.1+P.2.2.length<(a++List.replicate g (-1)).length/\P.2.1+P.2.2.length<(b++List.replicate h (-2)).length;rcases cy.mp Y with q|q
  ·have:=H.ends P q
   (show#[(ui .L .h .d4 (.l .G .C) (.l .M .D) la Z.1 this.1),(ui .L .h .d4 (.l .G .C) (.l .M .D) lb Z.2 this.2)])
  ·have rfl:=aq.mp q
   (show#[(dj .L .b .X (.e .M .D) Z.1 la),(dj .L .b .X (.e .M .D) Z.2 lb)])
 ·apply rA.mpr #[H.ord,xg ..,λP Y Q B=>?_];have rfl:=aq.mp B;show H.ends P Y
 ·rcases cy.mp Y with q|q
  ·show H.zero P q
  ·clear Y;have rfl:=aq.mp q;dsimp only
   (show#[λW=>(fe .G .g .aJ .aK Z.1 W),λW=>(fe .G .g .aJ .aK Z.2 W)])
 ·rcases nW h with h|h
  ·show(H.a0 x u h).imp_right λ⟨y,h⟩=>#[y,up h]
  ·show .inl h
 ·rcases nW h with h|h
  ·show(H.b0 y u h).imp_right λ⟨x,h⟩=>#[x,up h]
  ·show .inl h
abbrev Bef (P Q:Pc):Prop:=P.1+P.2.2.length<Q.1/\P.2.1+P.2.2.length<Q.2.1
def tri {R:Pc->Pc->Prop}:∀{ps:List Pc},ps.Pairwise R->∀{P Q:Pc},P∈ps->Q∈ps->P=Q\/R P Q\/R Q P
 | []=>λ_ {P} {Q} Y _=>nomatch Y
 |X::ps=>λh {P} {Q} Y I=>by
  have#[B,h2]:=ib.mp h;rcases bw.mp Y with e|U
  ·rcases bw.mp I with W|Z
   ·show .inl (e.trans W.symm)
   ·show .inr (.inl (e▸B Q Z))
  ·rcases bw.mp I with W|Z
   ·show .inr (.inr (W▸B P U))
   ·show tri h2 U Z
def Lay.bef (H:Lay a b fr l):(fr++[l]).Pairwise Bef:=rA.mpr ⟨H.ord,xg ..,λP Y Q Z=>by
 have rfl:=aq.mp Z;show H.ends P Y⟩
def Lay.two (H:Lay a b fr l)(h:InP (fr++[l]) i j)(h':InP (fr++[l]) i' j'):(∃P∈fr++[l],∃o o',o<P.2.2.length/\o'<P.2.2.length/\i=P.1+o/\j=P.2.1+o/\i'=P.1+o'/\j'=P.2.1+o')\/(i+1<i'/\j+1<j')\/(i'+1<i/\j'+1<j):=by
 have#[P,W,o,Y,rfl,rfl]:=h;have#[Q,U,o',Z,rfl,rfl]:=h';rcases tri H.bef W U with rfl|q|q
 ·show .inl #[P,W,o,o',Y,Z,rfl,rfl,rfl,rfl]
 ·unfold Bef at q;show .inr (.inl #[by show vg (.l .aI .S) .b (.l .B .F) (.l .aA .C) Y q.1,by show vg (.l .aI .S) .b (.l .B .F) (.l .aA .C) Y q.2])
 ·unfold Bef at q;show .inr (.inr #[by show vg (.l .aI .S) .b (.l .B .F) (.l .aA .C) Z q.1,by show vg (.l .aI .S) .b (.l .B .F) (.l .aA .C) Z q.2])
def Lay.val (H:Lay a b fr l)(h:InP (fr++[l]) i j):∃v,a[i]?=some v/\b[j]?=some v/\0<=v:=by
 have#[P,Y,o,Z,rfl,rfl]:=h;apply#[_,H.item P Y o _ (bq Z)]
def kR {c:Key}(h:(xs.map Key.int)[n]?=some c):∃v,xs[n]?=some v/\c=.int v:=by
 rw[cj]at h;cases q:xs[n]? with
 |none=>rw[q]at h;cases h
 |some v=>rw[q]at h;apply#[v,rfl,(ah h).symm]
def gV {v:Int}(h:xs[n]?=some v):(xs.map Key.int)[n]?=some (.int v):=by
 rw[cj,h];rfl
def Lay.inA (H:Lay a b fr l){c:Key}(Y:(a.map Key.int)[i]?=some c)(Z:((b++List.replicate z 0).map Key.int)[j]?=some c):∃j',InP (fr++[l]) i j':=by
 have#[v,U,rfl]:=kR Y;have#[u,W,q]:=kR Z;have rfl:=Key.int.inj q;rcases H.a0 i v U with rfl|h
 ·rcases nW W with e|e
  ·rcases H.b0 j _ e with q|⟨i',h⟩
   ·show absurd q (by decide)
   ·have#[w,_,f,g]:=H.val h;rw[e]at f;have rfl:=ah f;show absurd g (by decide)
  ·show absurd e (by decide)
 ·show h
def Lay.own (H:Lay a b fr l){rm js:Key->Bool}(hz:rm (.int 0)=true)(hp:∀(j:Nat) (c:Key),((b++List.replicate z 0).map Key.int)[j]?=some c->rm c=false->js c=false):eR (a.map Key.int) ((b++List.replicate z 0).map Key.int) rm js (InP (fr++[l])) where
 eq:=λi j h=>by
  have#[v,I,W,_]:=H.val h;apply#[_,gV I,gV (zc W)]
 mono:=λi j i' j' h h'=>by
  rcases H.two h h' with ⟨P,hP,o,o',ho,Y,rfl,rfl,rfl,rfl⟩|q|q
  ·(show#[λZ=>(pz (.l .M .X) .a (.l .a5 .a2) Z),λZ=>(pz (.l .M .X) .a (.l .a5 .a2) Z)])
  ·(show#[λZ=>(ax .B .a .cV q.2),λZ=>(ax .B .a .cV q.1)])
  ·(show#[λZ=>(dj .B .c (.l .Q .D) .X q.1 Z),λZ=>(dj .B .c (.l .Q .D) .X q.2 Z)])
 hitA:=λi j h=>by
  have#[c,I,W,_]:=ku.mp h;show H.inA I W
 hitB:=λi j h=>by
  have#[c,I,W,r]:=ku.mp h;have#[v,e1,rfl]:=kR I;have#[u,e2,q]:=kR W;have rfl:=Key.int.inj q;rcases nW e2 with e|rfl
  ·rcases H.b0 j v e with rfl|h
   ·rcases H.a0 i _ e1 with q|⟨j',h⟩
    ·show absurd q (by decide)
    ·have#[w,f,_,g]:=H.val h;rw[e1]at f;have rfl:=ah f;show absurd g (by decide)
   ·show h
  ·rw[hz]at r;cases r
 nextA:=λi j j' h h'=>by
  rcases H.two h h' with ⟨P,hP,o,o',ho,Y,rfl,rfl,e,rfl⟩|q|q
  ·(show pz .cF .e (.e (.a .a2 .U) .a5) e)
  ·(show dt .aB .p (.l .Q .Q) q.1)
  ·(show dt .aB .p (.l (.a .Q .U) .C) q.1)
 nextB:=λi j i' h h'=>by
  rcases H.two h h' with ⟨P,hP,o,o',ho,Y,rfl,rfl,rfl,e⟩|q|q
  ·(show pz .cF .e (.e (.a .a2 .U) .a5) e)
  ·(show dt .aB .p (.l .Q .Q) q.2)
  ·(show dt .aB .p (.l (.a .Q .U) .C) q.2)
 up:=λi j c h I W=>by
  have#[j',h']:=H.inA I W;rcases H.two h h' with ⟨P,hP,o,o',ho,Y,rfl,rfl,e,rfl⟩|q|q
  ·have e:P.2.1+o'=P.2.1+o+1:=by(show pz .cF .e (.e (.a .a2 .U) .a5) e)
   rw[e]at h';show h'
  ·(show False.elim (dp .ff .r (.l .P .P) q.1))
  ·(show False.elim (dp .ff .r (.l (.a .P .U) .A) q.1))
 dn:=λi j c h I W=>by
  have#[j',h']:=H.inA I W;rcases H.two h' h with ⟨P,hP,o,o',ho,Y,rfl,rfl,e,e'⟩|q|q
  ·have e:P.2.1+o=j:=by(show vg .V .l (.e (.a .a5 .U) .a0) (.e .Q .aA) e e')
   rw[e]at h';show h'
  ·(show False.elim (dp .ff .r (.l .P .P) q.1))
  ·(show False.elim (dp .ff .r (.l (.a .P .U) .A) q.1))
 pl:=hp
def Lay.bound (H:Lay a b fr l)(h:InP (fr++[l]) i j):i<a.length/\j<b.length:=by
 have#[v,Y,Z,_]:=H.val h;apply#[(bc.mp Y).1,(bc.mp Z).1]
def Lay.tch (H:Lay a b fr l):Tch (a.map Key.int) ((b++List.replicate z 0).map Key.int) (InP (fr++[l])) 0 0:=λc I U=>by
 have#[j',P,Y,o,W,Z,rfl]:=H.inA I U;have:=(H.zero P Y).mp (ax .G [[1,0],[1,-1]] (.e .O .M) Z);apply#[P,Y,o,W,Z,by show fe (.e .O .M) [[1,-1,1],[1,0,0]] (.e .O .a1) .G Z this]
end
abbrev Down (J:Int->Int)(U:List Int):Prop:=(U.map J).Pairwise λx y=>y<=x
structure nc (pl:Int->Bool)(J:Int->Int)(pc:List Int)(f:Nat):Prop where
 none:(∀(t:Nat) (v:Int),pc[t]?=some v->pl v=false)->f=pc.length
 some:∀(s:Nat) (v:Int),pc[s]?=some v->pl v=true->(∀(t:Nat) (u:Int),t<s->pc[t]?=some u->pl u=false)->∃g,g<=s/\f=s-g/\Down J (xq pc (s-g) s)/\∀g',g'<=s->Down J (xq pc (s-g') s)->g'<=g
section
variable {pl:Int->Bool}{J:Int->Int}{pc:List Int}{a b:List Int}{fr:List Pc}{l P:Pc}{i j o n s:Nat}
def fS:∀(pc:List Int),(∀(t:Nat) (v:Int),pc[t]?=some v->pl v=false)\/∃(s:Nat) (v:Int),pc[s]?=some v/\pl v=true/\∀(t:Nat) (u:Int),t<s->pc[t]?=some u->pl u=false
 | []=>.inl λt v h=>by cases h
 |x::pc=>by
  cases q:pl x with
  |true=>show .inr #[0,x,rfl,q,λt u h=>absurd h (fu _)]
  |false =>
   rcases fS pc with h|⟨s,v,U,W,Y⟩
   ·apply .inl λt v e=>?_;cases t with
    |zero=>rw[<- ah e];show q
    |succ t=>show h t v e
   ·apply .inr #[s+1,v,U,W,λt u Z e=>?_];cases t with
    |zero=>rw[<- ah e];show q
    |succ t=>show Y t u (mP Z) e
def JL {U:List Int}:Down J U↔∀(t Z:Nat) (u Y:Int),t<Z->U[t]?=some u->U[Z]?=some Y->J Y<=J u:=by
 unfold Down;rw[List.pairwise_map,iI];constructor
 ·intro h t Z u Y B e e';have#[I,rfl]:=bc.mp e;have#[W,rfl]:=bc.mp e';show h t Z I W B
 ·intro h t Z I W B;show h t Z _ _ B (bq I) (bq W)
def kX {x:Nat}:Down J (xq pc x s)↔∀(t Y:Nat) (u W:Int),x<=t->t<Y->Y<s->pc[t]?=some u->pc[Y]?=some W->J W<=J u:=by
 rw[JL];constructor
 ·intro h t Y u W U h2 h3 e e';apply h (t-x) (Y-x) u W (jd .B .k .R (.e .aA .C) (.e .a6 .D) h2 (aa (ax .A .a .A U)) (aa (fe .A .b .I .N U h2))) ?_ ?_
  ·rw[nZ (jd .L .h .cB (.l .F .C) (.e .aJ .D) h2 h3 (aa (ax .A .a .A U))),show x+(t-x)=t by(show dt .V .f .a2 (aa (ax .A .a .A U)))];show e
  ·rw[nZ (dj .L .b .X (.e .aJ .D) h3 (aa (fe .A .b .I .N U h2))),show x+(Y-x)=Y by(show dt .V .f .a2 (aa (fe .A .b .I .N U h2)))];show e'
 ·intro h t Y u W ht e e';have l2:x+Y<s:=by
   have:=(bc.mp e').1;unfold xq at this;rw[ir,gc]at this
   (show Ar.sub _ _ (λq1 p1=>(jd .L .h .aR (.k .F .C) .d6 this (Ar.nv _ _).1 p1)) λq1 p1=>(dj .L .c .aR .Z this p1))
  rw[nZ (dj .L .b .aR (.l .T .C) ht l2)]at e;rw[nZ l2]at e';show h (x+t) (x+Y) u W (fE (.k .A .M) .j) (dt (.l .M .X) .a .aJ ht) l2 e e'
def B3 {K:Nat->Bool}:∀(d:Nat),(∀t W,t<W->W<d->K W=true->K t=true)->∃m,m<=d/\(∀t,t<m->K t=true)/\∀t,m<=t->t<d->K t=false
 |0=>λ_=>#[0,az _,λt h=>absurd h (fu _),λt h h'=>absurd h' (fu _)]
 |d+1=>λh=>by
  have#[m,U,h1,I]:=B3 d λt W Y Z=>h t W Y (ym Z);cases q:K d with
  |true =>
   have e:m=d:=Nat.le_antisymm U (ip λc=>by
    have:=h m d c (iq _) q;rw[I m (az _) c]at this;cases this)
   clear h;subst e;apply#[m+1,az _,λt Y=>?_,λt Y Z=>by show False.elim (fy .ff .c .F (.l .B .P) Y Z)];rcases iz (qg Y) with c|rfl
   ·show h1 t c
   ·show q
  |false =>
   apply#[m,yn U,h1,λt Y Z=>?_];rcases iz (qg Z) with c|rfl
   ·show I t Y c
   ·show q
def Lay.XJ (H:Lay a b fr l)(I:P∈fr++[l])(h:InP (fr++[l]) (P.1+n) j)(W:n<=P.2.2.length):n<P.2.2.length/\j=P.2.1+n:=by
 have#[Q,U,o',Z,Y,rfl]:=h;rcases tri H.bef I U with rfl|q|q
 ·apply#[by show dj .B .b .N (.e .aC .a2) Z Y,by show pz (.e .M .X) .e (.e .a2 .a5) Y]
 ·unfold Bef at q;(show#[(jd .B [[0,1,-1,1]] .A (.e (.a .C .A) .a0) (.l .a1 .D) W Y q.1),(FG (.e .M .S) [[1,1,0,0,1],[0,1,-1,1,0]] .cK (.e (.a .G .D) (.a .H .B)) (.l (.a .G .F) .H) (.l .aB .A) W Y q.1 q.2)])
 ·unfold Bef at q;(show#[(ui .B .o .R (.e (.a .F .A) (.a .G .C)) (.l (.a .G .D) .F) Z Y q.1),(FG (.e .M .S) [[0,1,1,1,0],[1,1,0,0,1]] (.l .B .F) (.e (.a .G .D) (.a .H .B)) (.l (.a .H .F) .G) (.l .aA .C) Z Y q.1 q.2)])
def Lay.SG (H:Lay a b fr l)(W:P∈fr++[l])(h:InP (fr++[l]) i j)(e:i+1=P.1):False:=by
 have#[Q,Y,o',Z,rfl,rfl]:=h;rcases tri H.bef W Y with rfl|q|q
 ·(show ax .ff .r (.e .aI .A) e)
 ·unfold Bef at q;(show dj .ff .c (.e .aI .C) (.l .S .A) e q.1)
 ·unfold Bef at q;(show mf .ff [[0,1,-1,1]] .B (.e (.a (.a .C .A) .U) .D) (.l .a1 .D) Z e q.1)
def Lay.K0 (H:Lay a b fr l)(W:P∈fr++[l])(Y:o<P.2.2.length)(h:pf (InP (fr++[l])) (P.1+o) j n):∀t,t<n->o+t<P.2.2.length
 |0=>λ_=>Y
 |t+1=>λZ=>by
  have U:=H.K0 W Y h t (Nat.lt_of_succ_lt Z);have:=h (t+1) Z;rw[gq]at this;show(H.XJ W this (dt .M .a .L U)).1
def Lay.K1 (H:Lay a b fr l){d s':Nat}(B:P∈fr++[l])(h:pf (InP (fr++[l])) s s' (d+1))(e:s+d=P.1+o)(ho:o<P.2.2.length):d<=o:=by
 apply ip λc=>?_;have:=h (d-o-1) (Ar.sub _ _ (λW Y=>(Ar.sub _ _ (λI Z=>(dj .J .b .cW .b6 Y Z)) λI Z=>(fe .J .c (.k .U .C) .aK W Z))) λW Y=>(ax .J .a .G Y));show H.SG B this (Ar.sub _ _ (λW Y=>(Ar.sub _ _ (λI Z=>(ui (.e .aI .C) .J (.e .T .aB) (.e (.a .G .F) .D) (.e .L .G) e Y Z)) λI Z=>(lE (.e .aI .C) [[1,-1,0,-1,1,0],[1,1,1,0,0,1]] (.e .T .aB) (.l .F .D) (.e (.a .G .F) .D) (.k .G .U) .a1 e c Y I Z))) λW Y=>(jd (.e .aI .C) [[1,-1,0,1],[0,0,1,1]] (.e .T .aB) (.l .F .D) .cK e c W))
def Lay.ownIn (H:Lay a b fr l)(Y:P∈fr++[l])(h:o+n<=P.2.2.length):pf (InP (fr++[l])) (P.1+o) (P.2.1+o) n:=λt Z=>#[P,Y,o+t,by show dj .L .b (.k .T .C) .aR h Z,gq ..,gq ..]
structure Kinds (rm js:Key->Bool)(pl:Int->Bool)(J:Int->Int)(pc:List Int):Prop where
 pl:∀(t:Nat) (v:Int),pc[t]?=some v->(pl v=true↔rm (.int v)=false)
 j01:∀v,J v=0\/J v=1
 js:∀(t:Nat) (v:Int),pc[t]?=some v->(js (.int v)=true↔J v=1)
section
variable {rm js:Key->Bool}{z m d f:Nat}{v:Int}{bb:Bool}
def Lay.tx (H:Lay a b fr l)(Z:P∈fr++[l])(e:P.2.2[o]?=some v):eS (a.map Key.int) js bb (P.1+o)↔js (.int v)=bb:=by
 have h:=gV (H.item P Z o v e).1;constructor
 ·rintro ⟨c,h',q⟩;rw[h]at h';have rfl:=ah h';show q
 ·show λq=>#[_,h,q]
def Lay.zX (H:Lay a b fr l)(Y:P∈fr++[l])(e:P.2.2[o]?=some v):hit (a.map Key.int) ((b++List.replicate z 0).map Key.int) rm (P.1+o) (P.2.1+o)=true↔rm (.int v)=false:=by
 have#[Z,W,_]:=H.item P Y o v e;rw[ku];constructor
 ·rintro ⟨c,h',_,q⟩;rw[gV Z]at h';have rfl:=ah h';show q
 ·show λq=>#[_,gV Z,gV (zc W),q]
def Lay.OA (H:Lay a b fr l)(hP:P∈fr++[l])(K:Kinds rm js pl J P.2.2)(h:JN (a.map Key.int) js (P.1+o) m d){d':Nat}(hd:d'<=d):Down J (xq P.2.2 o (o+d')):=by
 have#[h0,h1,h2]:=h;apply kX.mpr λt U u W Y Z ab e e'=>?_;by_cases c:t-o<m
 ·have:=h1 (t-o) c;rw[gq,show o+(t-o)=t by show dt .V .f .a2 (aa (ax .A .a .A Y)),H.tx hP e,K.js t u e]at this;rcases K.j01 W with q|q<;>rw[this,q]<;>decide
 ·have:=h2 (U-o) (wk .A [[1,1,1,1,-1]] .R (.g .F .A) (.e .aG .C) (.e (.a .B .G) .D) Z c (aa (ax .A .a .A Y)) (aa (fe .A .b .I .N Y Z))) (jd .B .h .Q (.l .D (.a .F .C)) (.e .aA .D) hd ab (aa (fe .A .b .I .N Y Z)));rw[gq,show o+(U-o)=U by show dt .V .f .a2 (aa (fe .A .b .I .N Y Z)),H.tx hP e']at this;have hu:J W=0:=(K.j01 W).resolve_right λq=>by
   rw[(K.js U W e').mpr q]at this;cases this
  rcases K.j01 u with q|q<;>rw[hu,q]<;>decide
def Lay.VD (H:Lay a b fr l)(hP:P∈fr++[l])(K:Kinds rm js pl J P.2.2)(hd:o+d<=P.2.2.length)(h:Down J (xq P.2.2 o (o+d))):∃m,JN (a.map Key.int) js (P.1+o) m d:=by
 have W:∀t,t<d->∃v,P.2.2[o+t]?=some v:=λt Y=>#[_,bq (show o+t<P.2.2.length by show dj .L .b (.k .T .C) .aR hd Y)];have hk:∀t v,P.2.2[o+t]?=some v->((P.2.2[o+t]?).any λv=>js (.int v))=js (.int v):=λt v e=>by rw[e];rfl
 have#[m,h0,h1,h2]:=B3 (K:=λt=>(P.2.2[o+t]?).any λv=>js (.int v)) d λt I Y Z q=>by
  have#[u,e]:=W t (fe .B .b .O .N Y Z);have#[U,e']:=W I Z;rw[hk I U e',K.js _ U e']at q;rw[hk t u e,K.js _ u e];have:=kX.mp h (o+t) (o+I) u U (fE (.k .A .M) .j) (dt (.l .M .X) .a .aJ Y) (dt (.l .M .X) .a .aJ Z) e e';rcases K.j01 u with r|r
  ·rw[r,q]at this;show absurd this (by decide)
  ·show r
 apply#[m,h0,λt Y=>?_,λt Y Z=>?_]
 ·have#[u,e]:=W t (fe .B .b .Q .O h0 Y);have:=h1 t Y;rw[hk t u e]at this;rw[gq];show(H.tx hP e).mpr this
 ·have#[u,e]:=W t Z;have:=h2 t Y Z;rw[hk t u e]at this;rw[gq];show(H.tx hP e).mpr this
def Lay.V1 (H:Lay a b fr l)(U:P∈fr++[l])(K:Kinds rm js pl J P.2.2)(F:nc pl J P.2.2 f)(I:o<P.2.2.length)(h:Mt (a.map Key.int) ((b++List.replicate z 0).map Key.int) rm js (InP (fr++[l])) 0 a.length 0 (P.1+o) (P.2.1+o)):P.1=0\/f<=o:=by
 cases h with
 |start d W e2 h =>
  have:=H.K1 U h W.symm I;show .inl (fe .G .u (.e .M (.a .O .C)) .Q W this)
 |behind s s' d e0 W e2 hh h =>
  have hd:=H.K1 U h W.symm I;obtain rfl:s=P.1+(o-d):=by(show vg .b2 [[1,1,1],[1,-1,-1]] (.e .aD .aA) (.e .aB .D) W (aa (ax .A .a .A hd)))
  obtain rfl:s'=P.2.1+(o-d):=by(show FH .b2 [[1,1,-1],[1,-1,1]] (.e .aD .aA) (.e (.a .G .D) (.a (.a .G .C) .F)) e2 W)
  have e:P.2.2[o-d]?=some P.2.2[o-d]:=bq (vg .B .d .N (.e .a2 (.a .aC .F)) I W);have Z:=(K.pl _ _ e).mpr ((H.zX U e).mp hh);rcases fS (pl:=pl) P.2.2 with no|⟨s0,v0,a1,a2,a3⟩
  ·rw[no _ _ e]at Z;cases Z
  ·have#[g,g1,rfl,_,_]:=F.some s0 v0 a1 a2 a3;have:s0<=o-d:=ip λc=>by rw[a3 _ _ c e]at Z;cases Z
   show .inr (WD .A [[1,-1,1,1]] (.e .a1 (.a .S .F)) (.k .G .D) (.e (.a .A .H) .G) W this (aa (ax .A .a .A g1)))
 |ahead m d W hh h hj =>
  have hd:=H.K0 U I h d (iq _);rw[gq,gq]at hh;have e:P.2.2[o+d]?=some P.2.2[o+d]:=bq hd;have Z:=(K.pl _ _ e).mpr ((H.zX U e).mp hh);rcases fS (pl:=pl) P.2.2 with no|⟨s0,v0,a1,a2,a3⟩
  ·rw[no _ _ e]at Z;cases Z
  ·have#[g,g1,rfl,g3,g4]:=F.some s0 v0 a1 a2 a3;have hs:s0<=o+d:=ip λc=>by rw[a3 _ _ c e]at Z;cases Z
   apply .inr ?_;by_cases c:s0<=o
   ·(show dj .A .b .Q .b5 c (aa (ax .A .a .A g1)))
   ·have dn:=H.OA U K hj (d':=s0-o) (dj .A .b (.k .C .a5) .b5 hs (aa (ax .A .a .d1 c)));have:=g4 (s0-o) (dt .A .a (.e .X .B) (aa (ax .A .a .d1 c))) (by
     rw[show s0-(s0-o)=o by(show Ar.sub _ _ (λq1 p1=>(Ar.sub _ _ (λq2 p2=>(dj .C [[1,1,-1],[1,-1,1]] .bB .a5 p1 p2)) λq2 p2=>(mf .C [[1,1,1,0],[1,0,0,1]] .bB (.k .D .C) .G p1 q2 p2))) λq1 p1=>(fe .C .g (.j .C .B) .Q c q1))];rw[show o+(s0-o)=s0 by(show dt .V .f .a2 (aa (ax .A .a .d1 c)))]at dn;show dn)
    (show jd .A .m .Y (.e .a1 .F) .c1 this (aa (ax .A .a .d1 c)) (aa (ax .A .a .A g1)))
def Lay.UY (H:Lay a b fr l)(Z:P∈fr++[l])(K:Kinds rm js pl J P.2.2)(F:nc pl J P.2.2 f)(W:o<P.2.2.length)(h:P.1=0\/f<=o):Mt (a.map Key.int) ((b++List.replicate z 0).map Key.int) rm js (InP (fr++[l])) 0 a.length 0 (P.1+o) (P.2.1+o):=by
 rcases h with h|h
 ·have U:=(H.zero P Z).mp h;apply .start o (ax (.e .M .aS) .t .G h) (ax (.e .M .aS) .t .G U) ?_;have:=H.ownIn (o:=0) (n:=o+1) Z (ax (.k (.a .O .P) .B) .a .B W);rw[h,U]at this;show this
 ·rcases fS (pl:=pl) P.2.2 with no|⟨s0,v0,a1,a2,a3⟩
  ·have:=F.none no
   (show False.elim (pq .ff [[0,1,1,-1]] .B .aA (.e .C .B) W h this))
  ·have#[g,g1,rfl,g3,g4]:=F.some s0 v0 a1 a2 a3;have hl:=(bc.mp a1).1;have hh:=(H.zX (z:=z) Z a1).mpr ((K.pl _ _ a1).mp a2);by_cases c:s0<=o
   ·apply .behind (P.1+s0) (P.2.1+s0) (o-s0) (bh _) (pz .aY .e .c9 (aa (ax .A .a .A c))) (pz .aY .e .c9 (aa (ax .A .a .A c))) hh (H.ownIn Z (dj .M .b .X (.e .aJ .D) W (aa (ax .A .a .A c))))
   ·have dn:Down J (xq P.2.2 o (o+(s0-o))):=by
     rw[show o+(s0-o)=s0 by(show dt .V .f .a2 (aa (ax .A .a .d1 c)))];show kX.mpr λt t' u u' q1 q2 q3 q4 q5=>kX.mp g3 t t' u u' (fe .A .b .I .Q h q1) q2 q3 q4 q5
    have#[m,hj]:=H.VD Z K (d:=s0-o) (dj .K .b .X (.e .aJ .D) hl (aa (ax .A .a .d1 c))) dn;have Y:P.1+o+(s0-o)=P.1+s0:=by(show pz .bS .f .bB (aa (ax .A .a .d1 c)))
    have e2:P.2.1+o+(s0-o)=P.2.1+s0:=by(show vK .bS .f (.e (.a .aY .C) .aH) Y)
    apply .ahead m (s0-o) ?_ ?_ (H.ownIn Z (vg .M .b .X (.e (.a (.a .F .A) .B) .aH) hl Y)) hj
    ·rw[Y];show(bc.mp (H.item P Z s0 v0 a1).1).1
    ·rw[Y,e2];show hh
end
end
end MP
end
section
set_option tactic.hygienic true
namespace MP
end MP
end
section
namespace MP
open PySem
namespace SM
def KL {xs:List Int}{n:Nat}{f:Int->V}(h:n<xs.length):0<=gk (xs.map f).length (n:Int)/\(xs.map f)[(gk (xs.map f).length (n:Int)).toNat]?=some (f xs[n]):=by
 have e:gk (xs.map f).length (n:Int)=n:=by unfold gk;rw[aw (iy (.ig .L .O) .j)]
 rw[e,jj,cj,bq h];apply#[xd n,rfl]
end SM
end MP
end
section
set_option genInjectivity false
set_option genSizeOf false
namespace MP
open PySem
namespace SM
variable {i p j q n s t:Nat}{σ:St}{ρ:Fr}{a b:Ex}{pc:List Int}{J:Int->Int}
abbrev JY (i p j q:Nat):Str:=if i=p then "insert" else if j=q then "delete" else "replace"
abbrev dM (i p j q:Nat):List O5:=if i=p/\j=q then [] else [(JY i p j q,i,p,j,q)]
def qE (U:i<=p)(I:j<=q):dM i p j q=chg i p j q:=by
 unfold dM JY chg;by_cases a:i=p
 ·subst a;by_cases b:j=q
  ·subst b;rw[br #[rfl,rfl],aw (λq=>fp _ q.1),aw (fp _),aw (fp _)]
  ·rw[aw (λq=>b q.2),br rfl,aw (λq=>fp _ q.1),aw (fp _),br ((au b).elim (λZ=>(ax .B .a .B Z)) λZ=>(fy .B .c .A .S I Z))]
 ·by_cases b:j=q
  ·subst b;rw[aw (λq=>a q.1),aw a,br rfl,aw (λq=>fp _ q.2),br ((au a).elim (λZ=>(ax .B .a .B Z)) λZ=>(fy .B .c .A .S U Z))]
  ·rw[aw (λq=>a q.1),aw a,aw b,br #[by show(au a).elim (λZ=>(ax .B .a .B Z)) λZ=>(fy .B .c .A .S U Z),by show(au a).elim (λZ=>((au b).elim (λW=>(ax .B .a .B W)) λW=>(fy .B .c .A .S I W))) λZ=>(dj .B .c .Y .X U Z)]]
def mE {x y:Nat}(W:evV σ ρ a=some (.int x))(hb:evV σ ρ b=some (.int y)):evT σ ρ (.c .eq a b)=some (decide (x=y)):=by
 show(evV σ ρ a).bind (λY=>(evV σ ρ b).bind λZ=>ur σ .eq Y Z)=_;rw[W,hb];show some (decide ((x:Int)=(y:Int)))=_;rw[jz.mpr Int.ofNat_inj]
def JE {x y:Nat}(W:evV σ ρ a=some (.int x))(hb:evV σ ρ b=some (.int y)):evT σ ρ (.c .lt a b)=some (decide (x<y)):=by
 show(evV σ ρ a).bind (λY=>(evV σ ρ b).bind λZ=>ur σ .lt Y Z)=_;rw[W,hb];show some (decide ((x:Int)<(y:Int)))=_;rw[jz.mpr Int.ofNat_lt]
def v7 {c:Ex}{p:Prop}[Decidable p]{v w:V}(Z:evT σ ρ c=some (decide p))(Y:evV σ ρ a=some v)(hb:evV σ ρ b=some w):evV σ ρ (.I c a b)=some (if p then v else w):=by
 show(evT σ ρ c).bind (λt=>if t then evV σ ρ a else evV σ ρ b)=_;rw[Z];by_cases q:p
 ·rw[di q,br q];show Y
 ·rw[dk q,aw q];show hb
def NX {p q:Prop}[Decidable p][Decidable q](Z:evT σ ρ a=some (decide p))(hb:evT σ ρ b=some (decide q)):evT σ ρ (.and a b)=some (decide (p/\q)):=by
 show(evT σ ρ a).bind (λt=>if t then evT σ ρ b else some false)=_;rw[Z];by_cases h:p
 ·rw[di h];apply hb.trans (bx some (jz.mpr #[λr=>#[h,r],And.right]))
 ·rw[dk h,dk λr=>h r.1];rfl
def QP {c d e:Ex}{s:Str}(W:evV σ ρ a=some (.str s))(hb:evV σ ρ b=some (.int i))(Y:evV σ ρ c=some (.int p))(hd:evV σ ρ d=some (.int j))(Z:evV σ ρ e=some (.int q)):evV σ ρ (.T %[a,b,c,d,e|0])=some (oV (s,i,p,j,q)):=by
 have h:fD σ ρ %[a,b,c,d,e|0]=some [.str s,.int i,.int p,.int j,.int q]:=by
  rw[du,W,du,hb,du,Y,du,hd,du,Z];rfl
 show(fD σ ρ _).bind _=_;rw[h];rfl
def jM {P:Nat->Option Fn}(hP:P 11=some R10.uT){Q:V->St->Prop}(h:∀c,σ.L c=none->Q (.L c) (σ.cz c ((dM i p j q).map oV))):fk P (n+1) 11 [.int i,.int p,.int j,.int q] σ Q:=by
 apply#[R10.uT,hP,az 4,az 4,?_];have a0:frameOf R10.uT [.int i,.int p,.int j,.int q] 0=some (.int i):=rfl;have a1:frameOf R10.uT [.int i,.int p,.int j,.int q] 1=some (.int p):=rfl;have a2:frameOf R10.uT [.int i,.int p,.int j,.int q] 2=some (.int j):=rfl;have a3:frameOf R10.uT [.int i,.int p,.int j,.int q] 3=some (.int q):=rfl;generalize frameOf R10.uT [.int i,.int p,.int j,.int q]=ρ at a0 a1 a2 a3;have B:evV σ ρ (.l 0)=some (.int i):=a0;have I:evV σ ρ (.l 1)=some (.int p):=a1;have U:evV σ ρ (.l 2)=some (.int j):=a2;have W:evV σ ρ (.l 3)=some (.int q):=a3;unfold dM at h;apply nQ (i=p/\j=q) (NX (mE B I) (mE U W)) (λc=>?_) λc=>?_
 ·rw[br c]at h;apply#[bh _,h]
 ·rw[aw c]at h;apply qb ?_;apply nu (Q:=λvs σ=>vs.length<=bp/\∀c,σ.L c=none->Q (.L c) (σ.cz c vs)) _ (vs:=[oV (JY i p j q,i,p,j,q)]) ?_ #[ba rfl,h];have e:evV σ ρ (.I (.c .eq (.l 0) (.l 1)) (.str "insert") (.I (.c .eq (.l 2) (.l 3)) (.str "delete") (.str "replace")))=some (.str (JY i p j q)):=by
   apply(v7 (v:=.str "insert") (w:=if j=q then .str "delete" else .str "replace") (mE B I) rfl (v7 (mE U W) rfl rfl)).trans (bx some ?_);unfold JY;by_cases Y:i=p
   ·rw[br Y,br Y]
   ·rw[aw Y,aw Y];by_cases Z:j=q
    ·rw[br Z,br Z]
    ·rw[aw Z,aw Z]
  rw[du,QP e B I U W];rfl
def down_eq {L M:List Int}(W:M.Perm L)(Y:M.Pairwise (·<=·)):L=M.reverse↔L.Pairwise λx y=>y<=x:=by
 have Z:M.reverse.Pairwise λx y=>y<=x:=List.pairwise_reverse.mpr Y;apply#[λe=>by rw[e];show Z,λh=>?_];show(W.symm.trans (List.reverse_perm M).symm).eq_of_pairwise (λa b _ _ I U=>Int.le_antisymm U I) h Z
abbrev iR (pc:List Int)(J:Int->Int)(s t:Nat):Bool:=decide (((xq pc (s-t) s).map J).Pairwise λx y=>y<=x)
def sZ:iR pc J s t=true↔Down J (xq pc (s-t) s):=by
 unfold iR Down;show decide_eq_true_iff
abbrev eJ (pc:List Int)(J:Int->Int)(s t:Nat):List Int:=((List.range t).filter (iR pc J s)).map λx:Nat=>(x:Int)
def A6:eJ pc J s (t+1)=eJ pc J s t++if iR pc J s t then [(t:Int)] else []:=by
 unfold eJ;rw[List.range_succ,sf,cu];cases h:iR pc J s t with
 |false=>rw[lQ (by rw[h];decide)];rfl
 |true=>rw[rn h];rfl
def EW:(eJ pc J s t).length<=t:=by
 unfold eJ;rw[ak];show gp (oq _ _) (Nat.le_of_eq tq)
abbrev sS:jw:=(.cons (.a [(.v 6)] (.K [(2,1)] (.seq (.slc (.l 0) (.b .sub (.l 3) (.l 5)) (.l 3))) (.v 1) .nil (.elt (.w 2 %[.l 1|0]))))
 (.cons (.C (.c .eq (.l 6) (.rev (.bf .sorted %[.l 6|0]))) (.cons (.expr (.bm .append (.l 4) %[.l 5|0]))
 .nil) .nil)
 .nil))
structure FC where
 pl:Addr
 zl:Addr
 pc:List Int
 s:Nat
 vf:V
structure FK (c:FC)(σ₀:St)(ρ:Fr):Prop where
 r0:ρ 0=some (.L c.pl)
 r1:ρ 1=some c.vf
 r3:ρ 3=some (.int c.s)
 r4:ρ 4=some (.L c.zl)
def FK.up {c:FC}{σ₀:St}(h:FK c σ₀ ρ){v:V}(Z:4<n):FK c σ₀ (upd ρ n v):=
 #[(bz (dp (.u .O .A) .x (.l .aT .A) Z)).trans h.r0,(bz (dp (.u .U .A) .x (.l .aT .A) Z)).trans h.r1,(bz (dp (.u .aZ .A) .x (.l .aT .A) Z)).trans h.r3,(bz (dp (.u .aT .A) .x (.l .aT .A) Z)).trans h.r4]
def zZ {C:Cal}{c:FC}{σ₀ σ:St}{ρ:Fr}{zs:List Int}{again:Fr->St->Prop}{K:Fl->Fr->St->Prop}(hf:OY C c.vf J)(hp:σ₀.L c.pl=some (c.pc.map V.int))(hz:σ₀.L c.zl=none)(E:Ext σ₀ σ)(hL:σ.L c.zl=some (zs.map V.int))(R:FK c σ₀ ρ)(ht:t<=c.s)(hs:c.s<=c.pc.length)(B:c.pc.length<63)(ab:zs.length<64)
  (h:∀ρ' σ',FK c σ₀ ρ'->Ext σ₀ σ'->σ'.L c.zl=some ((zs++if iR c.pc J c.s t then [(t:Int)] else []).map V.int)->again ρ' σ'):fw C sS (upd ρ 5 (.int t)) σ (uq again K):=by
 have#[pl,zl,pc,s,vf]:=c;have#[kf,cs,e,hf]:=hf;dsimp only at *;subst e;have R5:=R.up (n:=5) (v:=.int t) (by decide);have#[r0,r1,r3,r4]:=id R5;have es:evV σ (upd ρ 5 (.int t)) (.b .sub (.l 3) (.l 5))=some (.int ((s-t:Nat):Int)):=(SQ (σ:=σ) (ρ:=upd ρ 5 (.int t)) (a:=.l 3) (b:=.l 5) (x:=s) (y:=t) r3 rfl).trans (bx (λz=>some (V.int z)) (show(s:Int)-(t:Int)=((s-t:Nat):Int) by show dt (.ie .R .V) .e (.e .a1 .A) (aa (ax .A .a .A ht))));apply HD (x:=0) (zs:=pc) (i:=s-t) (j:=s) (vl:=.int ((s-t:Nat):Int)) (vh:=.int (s:Int)) r0 (E.L _ _ hp) es r3 rfl rfl (by show s-t<=pc.length;(show dj .A .b .Q .b5 hs (aa (ax .A .a .A ht)))) hs (by show pc.length<bp;unfold bp;(show dp .aW .a (.l .A (.n 63)) B)) λc1 σ1 E1 aE I=>?_;have Y:(xq pc (s-t) s).length<=62:=by rw[JQ (i:=s-t) hs];(show pq (.k .A (.n 62)) .h .aF (.l .C (.n 63)) .A hs B (wu _ _))
 apply#[_,I,?_];apply sR (λy=>V.int (J y)) (λρ=>ρ 2=some (.clo kf cs)) I (xq pc (s-t) s) [] _ (by show r1) (by rw[List.length_nil,nk];unfold bp;(show dp .bH .a (.k .A (.n 62)) Y)) (λy _ ρ' acc kk i2 ha hk=>?_) λρ' i2=>?_
 ·show j8 C (.elt (.w 2 %[.l 1|0])) (upd ρ' 1 (.int y)) acc σ1 kk;apply#[_,i2,_,bg _ _ _,?_];show hf y σ1 _ #[ha,hk _ i2]
 ·rw[sv];intro c2 ar;generalize Z:σ1.cz c2 ((xq pc (s-t) s).map λy=>V.int (J y))=σ2;have E2:Ext σ1 σ2:=by rw[<- Z];show(Ext.refl σ1).cz ar
  have U:σ2.L c2=some (((xq pc (s-t) s).map J).map V.int):=by
   rw[<- Z,qi];show bg _ _ _
  have EE:=(E.trans E1).trans E2;have ag:σ2.L zl=some (zs.map V.int):=E2.L _ _ (E1.L _ _ hL);have R6:=R5.up (n:=6) (v:=.L c2) (by decide);show wpT C (.c .eq (.l 6) (.rev (.bf .sorted %[.l 6|0]))) (upd (upd ρ 5 (.int t)) 6 (.L c2)) σ2 _;apply#[_,bg _ _ _,_,bg _ _ _,?_];apply#[(xq pc (s-t) s).map J,U,by rw[ak];(show dp .aM .a (.k .A (.n 62)) Y),λns ai ho c3 ao=>?_];apply#[_,bg _ _ _,λc4 aj=>?_];have E3:Ext σ2 ((σ2.cz c3 (ns.map V.int)).cz c4 (ns.map V.int).reverse):=((Ext.refl σ2).cz ao).cz (by
   have:upd σ2.L c3 (ns.map V.int) c4=none:=aj;by_cases q:c4=c3
   ·subst q;rw[bg]at this;cases this
   ·rwa [bz q]at this)
  apply CV (M:=ns.reverse) (E3.L _ _ U) (by rw[List.map_reverse];show bg _ _ _) ?_;have E4:=EE.trans E3;have W:=E3.L _ _ ag;have hb:iR pc J s t=decide ((xq pc (s-t) s).map J=ns.reverse):=jz.mpr (down_eq ai ho).symm;by_cases d:(xq pc (s-t) s).map J=ns.reverse
  ·rw[di d]at hb ⊢;rw[hb]at h;apply iB (iX (.int t) R6.r4 W rfl (by rw[ak];unfold bp;(show dp .aW .a .aM ab)) (iW (qb (h _ _ R6 (E4.cz hz) ?_))));rw[br rfl,cu];show bg _ _ _
  ·rw[dk d]at hb ⊢;rw[hb]at h;apply fC (iW (qb (h _ _ R6 E4 ?_)));rw[aw (by decide),dg];show W
abbrev ES:jw:=(.cons (.C (.c .eq (.l 3) (.bf .len %[.l 0|0])) (.cons (.ret (.l 3))
 .nil) .nil)
 (.cons (.a [(.v 4)] (.L .nil))
 (.cons (.each (.v 5) (.rng1 (.b .add (.l 3) (.int 1))) sS)
 (.cons (.ret (.b .sub (.l 3) (.bf .maxL %[.l 4|0])))
 .nil))))
def VW:iR pc J s 0=true:=by
 unfold iR;rw[di];have:xq pc (s-0) s=[]:=by
  unfold xq;rw[List.drop_eq_nil_iff,gc,Nat.sub_zero];show Nat.min_le_left _ _
 rw[this];show .nil
def pP {C:Cal}{pl:Int->Bool}{J:Int->Int}{pc:List Int}{vf:V}{pa:Addr}{s:Nat}{Q:V->St->Prop}(hf:OY C vf J)(hp:σ.L pa=some (pc.map V.int))(r0:ρ 0=some (.L pa))(r1:ρ 1=some vf)(r3:ρ 3=some (.int s))(hs:s<=pc.length)(I:pc.length<63)(ai:∀(t:Nat) (u:Int),t<s->pc[t]?=some u->pl u=false)(ag:∀v,pc[s]?=some v->pl v=true)
  (h:∀σ' f,Ext σ σ'->nc pl J pc f->Q (.int (f:Nat)) σ'):fw C ES ρ σ (jD Q):=by
 have el:evV σ ρ (.bf .len %[.l 0|0])=some (.int (pc.length:Nat)):=ub r0 hp;apply nQ (s=pc.length) (mE r3 el) (λc=>?_) λc=>?_
 ·apply CS (.int (s:Nat)) r3 (h σ s (Ext.refl σ) #[λ_=>c,λs' v e U hn=>?_]);have:=(bc.mp e).1;rw[ai s' v (fe .B .z .cZ .O c this) e]at U;cases U
 ·apply qb ?_;apply L0 [] rfl (bh _) λzl ab=>?_;have E0:Ext σ (σ.cz zl []):=(Ext.refl σ).cz ab;have Z:s<pc.length:=by(show(au c).elim (λq1=>(ax .B .a .B q1)) λq1=>(fy .B .c .A .S hs q1))
  apply jc _ (v:=.int ((s+1:Nat):Int)) ((ye (a:=.l 3) (b:=.int 1) (x:=s) (y:=1) r3 rfl)) ?_;apply#[((s+1:Nat):Int),rfl,by show(au c).elim (λq1=>((Ar.nab _).elim (λq2=>(pq .a8 .h (.l .B (.n 63)) .N (.ie .L (.t .Q)) I Z q2.2)) λq2=>(ax .a8 .a (.ie .L (.g (.t .L))) q2.2))) λq1=>(fe .a8 .c .aF .N hs q1),?_];apply sq (λt ρ' σ'=>FK #[pa,zl,pc,s,vf] σ ρ'/\Ext σ σ'/\σ'.L zl=some ((eJ pc J s t).map V.int)) ?_ ?_ #[#[r0,r1,r3,bg _ _ _],E0,bg _ _ _]
  ·intro t v ρ' σ' U zz;have#[R,E,hL]:=zz;have#[Y,rfl]:=sP (a:=0) U;apply#[trivial,λkk hk=>?_];have hd:=EW (pc:=pc) (J:=J) (s:=s) (t:=t);rw[nk]at Y ⊢;apply zZ (c:=#[pa,zl,pc,s,vf]) hf hp ab E hL R (by show t<=s;(show ax .A .a .J Y)) hs I (eQ .aM .y (.l .B (.n 63)) .N (.l .D .Q) .aV I Z Y hd) λbe σ2 R2 E2 bd=>hk _ _ #[R2,E2,?_];rw[A6];show bd
  ·intro ρ' σ' zz;have#[R,E,hL]:=zz;have hl:(ux 0 ((s+1:Nat):Int)).length=s+1:=(pG (a:=0) (b:=s+1)).trans (Nat.sub_zero _);rw[hl]at hL;apply#[trivial,?_];have ao:∀t,t<=s->iR pc J s t=true->((t:Nat):Int)∈eJ pc J s (s+1):=λt ht hb=>cq.mpr #[t,nF.mpr #[gI.mpr (ax .J .a .A ht),hb],rfl];apply#[_,R.r3,_,R.r4,?_];apply#[_,hL,λq=>?_,λm hm aj=>?_]
   ·have h0:=ao 0 (bh _) VW;rw[q]at h0;cases h0
   ·have#[g,hg,rfl]:=cq.mp hm;have#[W,ar]:=nF.mp hg;have W:=gI.mp W;show Q (.int ((s:Int)-(g:Int))) σ';have e:((s:Int)-(g:Int))=((s-g:Nat):Int):=by(show dt (.ie .R .V) .e (.e .a1 .A) (aa (ax .A .a .J W)))
    rw[e];apply h σ' (s-g) E #[λhn=>?_,λs' v e' U hn=>?_]
    ·have:=hn s pc[s] (bq Z);rw[ag _ (bq Z)]at this;cases this
    ·have es:s'=s:=by
      rcases Nat.lt_trichotomy s' s with q|q|q
      ·rw[ai s' v q e']at U;cases U
      ·show q
      ·have:=hn s pc[s] q (bq Z);rw[ag _ (bq Z)]at this;cases this
     subst es;apply#[g,by show ax .A .a .J W,rfl,sZ.mp ar,λg' aE hd=>?_];have:=aj _ (ao g' aE (sZ.mpr hd))
     (show ax .A .a (.ik .L .P) this)
def ED {P:Nat->Option Fn}(hP:P 10=some R10.xP){ps:List Int}{Z:V}{W Y:Addr}{Q:V->St->Prop}(hf:OY (fk P n) Z J)(hp:σ.L W=some (pc.map V.int))(hs:σ.L Y=some (ps.map V.int))(ab:pc.length<63)
  (h:∀σ' f,Ext σ σ'->nc (λv=>ps.contains v) J pc f->Q (.int (f:Nat)) σ'):fk P (n+1) 10 [.L W,Z,.L Y] σ Q:=by
 apply#[R10.xP,hP,az 3,az 3,?_];have a0:frameOf R10.xP [.L W,Z,.L Y] 0=some (.L W):=rfl;have a1:frameOf R10.xP [.L W,Z,.L Y] 1=some Z:=rfl;have a2:frameOf R10.xP [.L W,Z,.L Y] 2=some (.L Y):=rfl;generalize frameOf R10.xP [.L W,Z,.L Y]=ρ at a0 a1 a2;apply n8 (.int 0) rfl ?_;apply#[pc.length+1,bO (λn ρ' σ'=>σ'=σ/\ρ' 0=some (.L W)/\ρ' 1=some Z/\ρ' 2=some (.L Y)/\∃s:Nat,n=pc.length-s/\s<=pc.length/\ρ' 3=some (.int s)/\∀(t:Nat) (u:Int),t<s->pc[t]?=some u->ps.contains u=false) ?_ (pc.length+1) pc.length (iq _) #[rfl,a0,a1,a2,0,rfl,bh _,rfl,λt u ht=>absurd ht (fu _)]];rintro n ρ' σ' ⟨rfl,r0,r1,r2,s,rfl,U,r3,I⟩ again ag;have el:evV σ' ρ' (.bf .len %[.l 0|0])=some (.int (pc.length:Nat)):=ub r0 hp;apply uc (Q:=λt σ=>if t then wpT _ (.c .notIn (.sub (.l 0) (.l 3)) (.l 2)) ρ' σ _ else _) _ (JE r3 el) ?_;by_cases c:s<pc.length
 ·rw[di c];apply iB ?_;have e:pc[s]?=some pc[s]:=bq c;have#[m1,m2]:=KL (f:=V.int) c;apply#[_,r0,_,r3,#[_,_,hp,m1,m2,?_]];apply#[_,r2,#[ps,hs,?_]];cases q:ps.contains pc[s] with
  |false =>
   apply iB ?_;apply#[_,r3,?_];apply ag (pc.length-(s+1)) _ _ (dj .B .d .cQ .bJ (aa (ax .F .a .B c)) (aa (ax .A .a .A U))) #[rfl,r0,r1,r2,s+1,rfl,c,rfl,λt u ht eu=>?_];rcases iz (qg ht) with ht|rfl
   ·show I t u ht eu
   ·rw[e]at eu;rw[<- ah eu];show q
  |true =>
   apply fC ?_;apply pP (pl:=λv=>ps.contains v) hf hp r0 r1 r3 U ab I (λv ev=>?_) h;rw[e]at ev;rw[<- ah ev];show q
 ·rw[dk c];apply fC (fC ?_);apply pP (pl:=λv=>ps.contains v) hf hp r0 r1 r3 U ab I (λv ev=>?_) h;show absurd (bc.mp ev).1 c
end SM
end MP
end
section
namespace MP
open PySem
namespace SM
abbrev pV (p:Pc×Addr):V:=.T [.int p.1.1,.int p.1.2.1,.L p.2]
structure LS (σ:St)(la lb lp:Addr)(os:List (Addr×List Int))(a b:List Int)(ps:List (Pc×Addr)):Prop where
 La:σ.L la=some (a.map V.int)
 Lb:σ.L lb=some (b.map V.int)
 Lp:σ.L lp=some (ps.map pV)
 Ls:∀o∈os,σ.L o.1=some (o.2.map V.int)
 Lc:∀p∈ps,σ.L p.2=some (p.1.2.2.map V.int)
 ab:la≠lb/\la≠lp/\lb≠lp
 on:∀o∈os,o.1≠la/\o.1≠lb/\o.1≠lp
 cn:∀p∈ps,p.2≠la/\p.2≠lb/\p.2≠lp/\∀o∈os,o.1≠p.2
 nd:(ps.map (·.2)).Nodup
section
variable {σ σ':St}{la lb lp c:Addr}{os:List (Addr×List Int)}{a b a' b' l:List Int}{ps qs:List (Pc×Addr)}{i j:Nat}
def LS.ext (H:LS σ la lb lp os a b ps)(k:∀x xs,σ.L x=some xs->σ'.L x=some xs):LS σ' la lb lp os a b ps:=
 #[k _ _ H.La,k _ _ H.Lb,k _ _ H.Lp,λo Y=>k _ _ (H.Ls o Y),λp Z=>k _ _ (H.Lc p Z),H.ab,H.on,H.cn,H.nd]
def LS.U8 (H:LS σ la lb lp os a b ps):LS (σ.cz la (a'.map V.int)) la lb lp os a' b ps:=
 #[bg _ _ _,(bz H.ab.1.symm).trans H.Lb,(bz H.ab.2.1.symm).trans H.Lp,λo Y=>(bz (H.on o Y).1).trans (H.Ls o Y),λp Z=>(bz (H.cn p Z).1).trans (H.Lc p Z),H.ab,H.on,H.cn,H.nd]
def LS.setB (H:LS σ la lb lp os a b ps):LS (σ.cz lb (b'.map V.int)) la lb lp os a b' ps:=
 #[(bz H.ab.1).trans H.La,bg _ _ _,(bz H.ab.2.2.symm).trans H.Lp,λo Y=>(bz (H.on o Y).2.1).trans (H.Ls o Y),λp Z=>(bz (H.cn p Z).2.1).trans (H.Lc p Z),H.ab,H.on,H.cn,H.nd]
def LS.new {z:Addr}(H:LS σ la lb lp os a b ps)(hz:σ.L z=none):z≠la/\z≠lb/\z≠lp/\(∀o∈os,o.1≠z)/\z∉ps.map (·.2):=by
 apply#[λq=>?_,λq=>?_,λq=>?_,λo Y q=>?_,λq=>?_]
 ·rw[q,H.La]at hz;cases hz
 ·rw[q,H.Lb]at hz;cases hz
 ·rw[q,H.Lp]at hz;cases hz
 ·rw[<- q,H.Ls o Y]at hz;cases hz
 ·have#[p,Z,rfl]:=cq.mp q;rw[H.Lc p Z]at hz;cases hz
def LS.push (H:LS σ la lb lp os a b ps)(U:σ.L c=none):LS ((σ.cz c []).cz lp (ps.map pV++[pV ((i,j,[]),c)])) la lb lp os a b (ps++[((i,j,[]),c)]):=by
 have#[c1,c2,c3,c4,c5]:=H.new U;have k:∀x xs,x≠lp->σ.L x=some xs->((σ.cz c []).cz lp (ps.map pV++[pV ((i,j,[]),c)])).L x=some xs:=λx xs Z e=>by
  have:x≠c:=λq=>by rw[q,U]at e;cases e
  show(bz Z).trans ((bz this).trans e)
 apply#[k _ _ H.ab.2.1 H.La,k _ _ H.ab.2.2 H.Lb,?_,λo W=>k _ _ (H.on o W).2.2 (H.Ls o W),λp Y=>?_,H.ab,H.on,λp Y=>?_,?_]
 ·rw[cu];show bg _ _ _
 ·rcases cy.mp Y with q|q
  ·show k _ _ (H.cn p q).2.2.1 (H.Lc p q)
  ·clear k;have rfl:=aq.mp q;show(bz c3).trans (bg _ _ _)
 ·rcases cy.mp Y with q|q
  ·show H.cn p q
  ·have rfl:=aq.mp q;apply#[c1,c2,c3,c4]
 ·rw[cu];apply List.nodup_append.mpr #[H.nd,List.nodup_cons.mpr #[(λq=>nomatch q),.nil],λx Z y I e=>?_];have rfl:=aq.mp I;show c5 (e▸Z)
def LS.last {v:Int}(H:LS σ la lb lp os a b (qs++[((i,j,l),c)])):LS (σ.cz c ((l++[v]).map V.int)) la lb lp os a b (qs++[((i,j,l++[v]),c)]):=by
 have Z:=H.cn ((i,j,l),c) (ew _ (.head _));have nd:=H.nd;rw[cu]at nd;have U:=(List.nodup_append.mp nd).2.2;apply#[(bz Z.1.symm).trans H.La,(bz Z.2.1.symm).trans H.Lb,(bz Z.2.2.1.symm).trans (H.Lp.trans ?_),λo W=>(bz (Z.2.2.2 o W)).trans (H.Ls o W),λp Y=>?_,H.ab,H.on,λp Y=>?_,?_]
 ·rw[cu,cu];rfl
 ·rcases cy.mp Y with q|q
  ·apply(bz λe=>?_).trans (H.Lc p (dq _ q));show U p.2 (cq.mpr #[p,q,rfl]) c (.head _) e
  ·have rfl:=aq.mp q;show bg _ _ _
 ·rcases cy.mp Y with q|q
  ·show H.cn p (dq _ q)
  ·have rfl:=aq.mp q;show Z
 ·rw[cu];show nd
end
structure LF (ρ:Fr)(la lb lp sl:Addr)(m bits:Int):Prop where
 r0:ρ 0=some (.L sl)
 r2:ρ 2=some (.int m)
 r3:ρ 3=some (.L la)
 r4:ρ 4=some (.L lb)
 r5:ρ 5=some (.L lp)
 r20:ρ 20=some (.int bits)
def LF.up {ρ:Fr}{la lb lp sl:Addr}{m bits:Int}(h:LF ρ la lb lp sl m bits){n:Nat}{v:V}(Z:5<n/\n≠20):LF (upd ρ n v) la lb lp sl m bits:=
 #[(bz (dp (.u .O .A) .x (.l (.n 5) .A) Z.1)).trans h.r0,(bz (dp (.u .W .A) .x (.l (.n 5) .A) Z.1)).trans h.r2,(bz (dp (.u .aZ .A) .x (.l (.n 5) .A) Z.1)).trans h.r3,(bz (dp (.u .aT .A) .x (.l (.n 5) .A) Z.1)).trans h.r4,(bz (dp (.u (.n 5) .A) .x (.l (.n 5) .A) Z.1)).trans h.r5,(bz Z.2.symm).trans h.r20]
def RA {C:Cal}{ρ:Fr}{σ:St}{e:Ex}{es:Exs}{u:Int}{n:Nat}{Q:V->St->Prop}(ab:fD σ ρ es=some [.int u])(h:∀σ',evV σ' ρ e=some (.int n))(I:n<1000)(k:∀c σ',Ext σ σ'->σ.L c=none->σ'.L c=some ((List.replicate n u).map V.int)->Q (.L c) σ'):wpE C (.b .mul (.L es) e) ρ σ Q:=by
 rw[AX,xh];apply nu (Q:=λvs σ=>vs.length<=bp/\∀c,σ.L c=none->wpE C e ρ (σ.cz c vs) λvb σ=>eU .mul (.L c) vb σ Q) _ ab #[ba rfl,λc hc=>?_];have E:Ext σ (σ.cz c [.int u]):=(Ext.refl σ).cz hc;apply jc _ (h _) ?_;apply#[[.int u],bg _ _ _,by show 1*(n:Int).toNat<=bp;unfold bp;(show(Ar.ton _).elim (λY=>(fy (.k (.m 1 .A) .Z) .b (.l .B (.n 1000)) (.ie .L .P) I Y.2)) λY=>(dp (.k (.m 1 .A) .Z) .a .G Y.2)),by show(Ar.nab _).elim (λY=>(fy .W .b (.l .B (.n 1000)) (.ie .L .P) I Y.2)) λY=>(ax .W .a (.ie .L (.g .P)) Y.2),λc2 U=>?_];apply k c2 _ (E.cz (E.noL U)) (E.noL U) ?_;apply(bg _ _ _).trans (bx some ?_);rw[List.map_replicate,jj];clear h k;induction n with
 |zero=>rfl
 |succ n ih=>rw[List.replicate_succ,j6,ih (dp .T .a (.l .P (.n 1000)) I),List.replicate_succ];rfl
def qI {σ:St}{la c:Addr}{xs ys:List Int}{Q:V->St->Prop}(W:σ.L la=some (xs.map V.int))(Y:σ.L c=some (ys.map V.int))(Z:la≠c)(hz:xs.length+ys.length<=bp)(k:Q (.L la) (σ.cz la ((xs++ys).map V.int))):FY .add (.L la) (.L c) σ Q:=by
 apply#[xs.map V.int,ys.map V.int,Z,W,Y,by rw[ak,ak];show hz,?_];rw[cu]at k;show k
abbrev IM:jw:=(.cons (.aug 3 .add (.b .mul (.L %[.neg (.int 1)|0]) (.b .add (.int 1) (.b .mod (.l 7) (.int 2)))))
 (.cons (.aug 4 .add (.b .mul (.L %[.neg (.int 2)|0]) (.b .add (.int 1) (.b .mod (.b .fdiv (.l 7) (.int 2)) (.int 2)))))
 (.cons (.expr (.bm .append (.l 5) %[.T %[.bf .len %[.l 3|0],.bf .len %[.l 4|0],.L .nil|0]|0]))
 .nil)))
abbrev IL:jw:=(.cons (.expr (.bm .append (.l 3) %[.b .mod (.l 7) (.l 2)|0]))
 (.cons (.expr (.bm .append (.l 4) %[.b .mod (.l 7) (.l 2)|0]))
 (.cons (.expr (.bm .append (.sub (.sub (.l 5) (.neg (.int 1))) (.int 2)) %[.b .mod (.l 7) (.l 2)|0]))
 .nil)))
abbrev NH:jw:=(.cons (.a [(.v 7)] (.b .fdiv (.l 6) (.int 6)))
 (.cons (.C (.c .eq (.b .mod (.l 6) (.int 6)) (.int 0)) IM IL)
 .nil))
def oA (z:Int):∃g:Nat,0<g/\g<=2/\(1:Int)+z%2=(g:Nat):=by
 have Y:=wg z (show(2:Int)≠0 by decide);have U:=xf z (show(0:Int)<2 by decide);apply#[(1+z%2).toNat,by show(Ar.ton _).elim (λZ=>(uu .H .d .a4 (.ie .L .T) Y Z.2)) λZ=>(uu .H .c .a4 (.ik .T .O) Y Z.1),by show(Ar.ton _).elim (λZ=>(uu (.k .A .W) .b (.il .A .W) (.ie .L .T) U Z.2)) λZ=>(dp (.k .A .W) .a .G Z.2),by show(Ar.ton _).elim (λZ=>(tH (.ie .T .L) .e (.ie .L .T) Z.2)) λZ=>(KO (.ie .T .L) .q .a4 (.ik .T .O) .G Y Z.1 Z.2)]
section
variable {C:Cal}{ρ:Fr}{σ:St}{la lb lp sl:Addr}{os:List (Addr×List Int)}{a b:List Int}{ps:List (Pc×Addr)}{m bits z:Int}{K:Fl->Fr->St->Prop}
def NG (F:LF ρ la lb lp sl m bits)(H:LS σ la lb lp os a b ps)(r7:ρ 7=some (.int z))(ha:a.length<1000)(hb:b.length<1000)(aE:ps.length<1000)
  (h:∀ρ' σ' g g' c,LF ρ' la lb lp sl m bits->0<g->g<=2->0<g'->g'<=2->LS σ' la lb lp os (a++List.replicate g (-1)) (b++List.replicate g' (-2)) (ps++[(((a++List.replicate g (-1)).length,(b++List.replicate g' (-2)).length,[]),c)])->K .next ρ' σ'):fw C IM ρ σ K:=by
 have#[g,g0,g2,eg]:=oA z;have#[g',bu,Y,bv]:=oA (z/2);apply#[_,F.r3,?_];apply RA (u:=-1) (n:=g) rfl (λσ'=>?_) (dp .T .a (.k .A .W) g2) λc1 ao E1 be bn=>?_
 ·rw[<- eg];show ye (a:=.int 1) rfl (jN (a:=.l 7) (b:=.int 2) r7 rfl (by decide))
 have H1:=H.ext E1.L;apply qI H1.La bn (H.new be).1.symm (by rw[jf];unfold bp;(show fy (.k .M .Z) .b .T (.k .B .W) ha g2)) ?_;have H2:=H1.U8 (a':=a++List.replicate g (-1));generalize ao.cz la ((a++List.replicate g (-1)).map V.int)=σ2 at H2;have I:LF (upd ρ 3 (.L la)) la lb lp sl m bits:=#[F.r0,F.r2,rfl,F.r4,F.r5,F.r20];have ag:upd ρ 3 (.L la) 7=some (.int z):=r7;generalize upd ρ 3 (.L la)=ab at I ag;apply#[_,I.r4,?_];apply RA (u:=-2) (n:=g') rfl (λσ'=>?_) (dp .T .a (.k .A .W) Y) λc2 aj E3 bd bl=>?_
 ·rw[<- bv];show ye (a:=.int 1) rfl (jN (a:=.b .fdiv (.l 7) (.int 2)) (b:=.int 2) (nX (a:=.l 7) (b:=.int 2) ag rfl (by decide) (by decide)) rfl (by decide))
 have H3:=H2.ext E3.L;apply qI H3.Lb bl (H2.new bd).2.1.symm (by rw[jf];unfold bp;(show fy (.k .M .Z) .b .T (.k .B .W) hb Y)) ?_;have U:=H3.setB (b':=b++List.replicate g' (-2));generalize aj.cz lb ((b++List.replicate g' (-2)).map V.int)=ai at U;have F4:LF (upd ab 4 (.L lb)) la lb lp sl m bits:=#[I.r0,I.r2,I.r3,rfl,I.r5,I.r20];generalize upd ab 4 (.L lb)=ar at F4;apply#[_,F4.r5,(show(ai.L lp).isSome=true by rw[U.Lp];rfl),?_];rw[mv,nS,mv];apply jc _ (ub F4.r3 U.La) ?_;rw[mv];apply jc _ (ub F4.r4 U.Lb) ?_;rw[mv,xh];apply#[bh _,λc hc=>?_];apply#[ba rfl,?_];apply#[_,(bz (U.new hc).2.2.1.symm).trans U.Lp,by rw[ak];unfold bp;(show dp .aW .a .T aE),?_];apply#[rfl,h ar _ g g' c F4 g0 g2 bu Y (U.push hc)]
def XG {α Z:Type}{f:α->Z}{qs:List α}{x:α}:0<=gk ((qs++[x]).map f).length (-1)/\((qs++[x]).map f)[(gk ((qs++[x]).map f).length (-1)).toNat]?=some (f x):=by
 have e:gk ((qs++[x]).map f).length (-1)=(qs.length:Nat):=by
  unfold gk;rw[br (by decide),ak,List.length_append,ee];(show iy (.ie (.a (.ng 1) (.t .P)) .L) .n)
 rw[e,jj,cu,ug (by rw[ak];show az _),ak,Nat.sub_self];apply#[xd _,rfl]
def NF {qs:List (Pc×Addr)}{i j:Nat}{l:List Int}{c:Addr}(F:LF ρ la lb lp sl m bits)(H:LS σ la lb lp os a b (qs++[((i,j,l),c)]))(B:ρ 7=some (.int z))(hm:0<m)(ha:a.length<1000)(hb:b.length<1000)(hl:l.length<1000)
  (h:∀ρ' σ',LF ρ' la lb lp sl m bits->LS σ' la lb lp os (a++[z%m]) (b++[z%m]) (qs++[((i,j,l++[z%m]),c)])->K .next ρ' σ'):fw C IL ρ σ K:=by
 have Y:∀σ',evV σ' ρ (.b .mod (.l 7) (.l 2))=some (.int (z%m)):=λσ'=>jN (a:=.l 7) (b:=.l 2) B F.r2 hm;have W:∀xs:List Int,xs.map V.int++[V.int (z%m)]=(xs++[z%m]).map V.int:=λxs=>by rw[cu];rfl
 apply iX _ F.r3 H.La (Y _) (by rw[ak];unfold bp;(show dp .aW .a .T ha)) ?_;rw[W];have H1:=H.U8 (a':=a++[z%m]);apply iX _ F.r4 H1.Lb (Y _) (by rw[ak];unfold bp;(show dp .aW .a .T hb)) ?_;rw[W];have Z:=H1.setB (b':=b++[z%m]);generalize (σ.cz la ((a++[z%m]).map V.int)).cz lb ((b++[z%m]).map V.int)=σ2 at Z;have U:=XG (f:=pV) (qs:=qs) (x:=((i,j,l),c));have I:=Z.Lc ((i,j,l),c) (ew _ (.head _));apply#[_,F.r5,1,rfl,?_];apply#[_,_,Z.Lp,U.1,U.2,?_];apply#[.L c,(by decide:(2:Int).natAbs<2^60),(by decide:(0:Int)<=2),rfl,?_];apply#[(show(σ2.L c).isSome=true by rw[I];rfl),?_];rw[mv];apply jc _ (Y _) ?_;apply#[_,I,by rw[ak];unfold bp;show l.length<1000000;(show dp .aW .a .T hl),?_];apply#[rfl,?_];show K .next ρ (σ2.cz c (l.map V.int++[V.int (z%m)]))
 rw[W];show h ρ _ F Z.last
structure Laid (t:Nat)(a b:List Int)(ps:List (Pc×Addr)):Prop where
 lay:∃fr l,ps.map (·.1)=fr++[l]/\Lay a b fr l
 a2:a.length<=2*t
 b2:b.length<=2*t
 n:ps.length<=t+1
 l:∀p∈ps,p.1.2.2.length<=t
 p:(a.filter λv=>decide (0<=v)).length<=t
end
section
variable {t:Nat}{a b:List Int}{ps qs:List (Pc×Addr)}{c:Addr}{g g':Nat}{v:Int}{i j:Nat}{l:List Int}
def Laid.split (H:Laid t a b ps):∃qs i j l c,ps=qs++[((i,j,l),c)]:=by
 have#[fr,l,e,_]:=H.lay;rcases List.eq_nil_or_concat ps with rfl|⟨qs,q,rfl⟩
 ·have:=bx List.length e;rw[List.length_append]at this;cases this
 ·have#[#[i,j,l],c]:=q;apply#[qs,i,j,l,c,List.concat_eq_append ..]
def Laid.gap (H:Laid t a b ps)(h1:0<g)(h2:g<=2)(I:0<g')(Y:g'<=2):Laid (t+1) (a++List.replicate g (-1)) (b++List.replicate g' (-2)) (ps++[(((a++List.replicate g (-1)).length,(b++List.replicate g' (-2)).length,[]),c)]):=by
 have#[fr,l,e,L]:=H.lay;apply#[#[fr++[l],_,?_,L.gap h1 I],?_,?_,?_,λp Z=>?_,?_]
 ·rw[cu,e];rfl
 ·have:=H.a2;rw[List.length_append,jf];(show fe (.k .M (.m 2 .Q)) .b (.k .B .W) .bU h2 this)
 ·have:=H.b2;rw[List.length_append,jf];(show fe (.k .M (.m 2 .Q)) .b (.k .B .W) .bU Y this)
 ·have:=H.n;rw[List.length_append,ee];(show ax .dD .a .U this)
 ·rcases cy.mp Z with q|q
  ·show yn (H.l p q)
  ·have rfl:=aq.mp q;show bh _
 ·have:=H.p;rw[sf,List.length_append,List.filter_replicate,aw (by decide)];show _+0<=_
  (show ax (.k .a8 .L) .a .A this)
def Laid.put (H:Laid t a b (qs++[((i,j,l),c)]))(Z:0<=v):Laid (t+1) (a++[v]) (b++[v]) (qs++[((i,j,l++[v]),c)]):=by
 have#[fr,I,e,L]:=H.lay;rw[cu]at e;have#[rfl,W]:=List.append_inj' e rfl;cases W;apply#[#[_,_,cu ..,L.put Z],?_,?_,?_,λp Y=>?_,?_]
 ·have:=H.a2;rw[List.length_append,ee];(show ax (.k .P (.m 2 .L)) .a .aP this)
 ·have:=H.b2;rw[List.length_append,ee];(show ax (.k .P (.m 2 .L)) .a .aP this)
 ·have:=H.n;rw[List.length_append,ee]at this ⊢;(show ax .dD .a .aC this)
 ·rcases cy.mp Y with q|q
  ·show yn (H.l p (dq _ q))
  ·have rfl:=aq.mp q;have:=H.l ((i,j,l),c) (ew _ (.head _));show(l++[v]).length<=t+1;rw[List.length_append,ee];show lN this
 ·have:=H.p;have U:[v].filter (λv=>decide (0<=v))=[v]:=rn (p:=λv=>decide (0<=v)) (di Z);rw[sf,List.length_append,U,ee]
  (show ax .aC .a .A this)
def Laid.start:Laid 0 [] [] [((0,0,[]),c)]:=
 ⟨#[[],_,rfl,Lay.start],az _,az _,az _,λp Z=>by
  have rfl:=aq.mp Z;show az _,az _⟩
end
def IK {C:Cal}{ρ:Fr}{σ:St}{la lb lp sl:Addr}{os:List (Addr×List Int)}{a b:List Int}{ps:List (Pc×Addr)}{m bits x:Int}{t:Nat}{again:Fr->St->Prop}{K:Fl->Fr->St->Prop}(F:LF ρ la lb lp sl m bits)(hm:0<m)(H:LS σ la lb lp os a b ps)(L:Laid t a b ps)(Z:t<100)
  (h:∀ρ' σ' a' b' Y,LF ρ' la lb lp sl m bits->LS σ' la lb lp os a' b' Y->Laid (t+1) a' b' Y->again ρ' σ'):fw C NH (upd ρ 6 (.int x)) σ (uq again K):=by
 have l1:=L.a2;have l2:=L.b2;have l3:=L.n;have F6:=F.up (n:=6) (v:=.int x) (by decide);have F7:=F6.up (n:=7) (v:=.int (x/6)) (by decide);apply n8 (.int (x/6)) (nX (a:=.l 6) (b:=.int 6) rfl rfl (by decide) (by decide)) ?_;have ec:evT σ (upd (upd ρ 6 (.int x)) 7 (.int (x/6))) (.c .eq (.b .mod (.l 6) (.int 6)) (.int 0))=some (decide (x%6=0)):=by
  show(evV σ _ (.b .mod (.l 6) (.int 6))).bind (λva=>(evV σ _ (.int 0)).bind λvb=>ur σ .eq va vb)=_;rw[jN (a:=.l 6) (b:=.int 6) (x:=x) rfl rfl (by decide)];rfl
 apply nQ (x%6=0) ec (λ_=>?_) λ_=>?_
 ·apply NG F7 H rfl (fy .T .G .c6 .aP Z l1) (fy .T .G .c6 .aP Z l2) (fy .T .b .c6 .U Z l3) λρ' σ' g g' c I h1 h2 h3 h4 W=>?_;show h ρ' σ' _ _ _ I W (L.gap h1 h2 h3 h4)
 ·have#[qs,i,j,l,c,rfl]:=L.split;have B:=L.l ((i,j,l),c) (ew _ (.head _));dsimp only at B;apply NF F7 H rfl hm (fy .T .G .c6 .aP Z l1) (fy .T .G .c6 .aP Z l2) (fy .T .b .c6 .A Z B) λρ' σ' I W=>?_;show h ρ' σ' _ _ _ I W (L.put (wg _ (mq (.iu .A .O) .a .bQ hm)))
end SM
end MP
end
section
namespace MP
namespace R10
end R10
section
variable {bs r:List Key}{rm js:Key->Bool}{L:List Bk}
def MV (Z:∀c,rm c=false){t:Nat}(h:t<bs.length):hit (bs++r) bs rm t t=true:=
 ku.mpr #[bs[t],by rw[ke h];show bq h,bq h,Z _]
def AG (hr:∀c,rm c=false)(h:kq (Flm (bs++r) bs rm js) 0 (bs++r).length 0 bs.length L):L=if 0<bs.length then [(0,0,bs.length)] else []:=by
 have run:Run (bs++r) bs rm 0 (bs++r).length 0 bs.length 0 0 bs.length:=⟨az _,by rw[List.length_append];(show fE (.k .aV .M) .j),az _,by show iy (.k .aV .A) .j,λt ht=>by
  rw[nk];show MV hr ht⟩
 cases h with
 | @nil _ _ _ _ i j hf =>
  have#[i0,j0,k0,B,e]:=hf;have#[p,q,rr,s,eg,G]:=uN (as:=bs++r) (bs:=bs) (js:=js) (ahi:=(bs++r).length) (bhi:=bs.length) (k:=k0) B.run.ai B.run.bj;rw[eg]at e;injection e with _ e
  injection e with _ e
  by_cases c:0<bs.length
  ·have:=B.max 0 0 bs.length c run
   (show False.elim (this.elim (λY=>(FH .ff .H (.e .O (.a (.a .a3 .D) .F)) (.l .G .A) e Y)) λY=>(ui .ff [[0,-1,1,1]] (.e .O (.a (.a .a3 .D) .F)) (.l .O .G) (.e .G .A) e c Y.1)))
  ·rw[aw c]
 | @node _ _ _ _ i j k L R hf hk hL ag hR ab =>
  have W:=hf.within;have#[i0,j0,k0,B,e]:=hf;have#[p,q,rr,s,eg,G]:=uN (as:=bs++r) (bs:=bs) (js:=js) (ahi:=(bs++r).length) (bhi:=bs.length) (k:=k0) B.run.ai B.run.bj;rw[eg]at e;injection e with e1 e
  injection e with e2 e3
  unfold Within at W;have#[w1,w2,w3,w4]:=W;dsimp only at w1 w2 w3 w4;have c:0<bs.length:=by(show fe .H .b .aI (.k .a1 .A) hk w4)
  have m:=B.max 0 0 bs.length c run;have jb:=B.run.jb;have f:i=0/\j=0/\k=bs.length:=by(show#[(Ar.sub _ _ (λY U=>(Ar.sub _ _ (λq2 p2=>((Ar.imp hL).elim (λq3=>(dp .G .t (.g .O .A) q3)) λq3=>(m.elim (λq4=>(dj .G .g (.k .R .D) .X jb q4)) λq4=>((Ar.imp ag).elim (λq5=>(Y0 .G [[1,0,0,0,0],[0,-1,1,1,1]] (.e .B .aK) (.k (.a .I .B) .J) (.e .J .C) (.l .O .I) e3 w4 q4.1 (yq.mp q5).2)) λq5=>((Ar.imp ab).elim (λq6=>(TC .G [[1,0,0,0],[0,-1,1,1]] (.e .B .aK) (.e .I .C) (.l (.a .J .B) .I) e3 q4.1 (yq.mp q6).2)) λq6=>(q4.2.elim (λq7=>(ax .G .p (.l .B .O) q7)) λq7=>(wk .G [[1,0,0,0,0],[1,1,1,1,1]] .C .bJ .d4 .bW e1 U p2 q7.1))))))) λq2 p2=>(mf .G .B .C .bJ .Z e1 U p2))) λY U=>(fy .G .u .C .a1 e1 U)),#[(Ar.sub _ _ (λY U=>(Ar.sub _ _ (λq2 p2=>(m.elim (λq3=>(dj .G .g (.k .R .D) .X jb q3)) λq3=>(OO .G [[1,0,0,0,0,0],[1,1,1,1,1,1]] .C (.k .S .F) (.e (.a .B .G) .H) (.e (.a .H .I) .C) (.e .F .D) e2 jb U p2 q3.1))) λq2 p2=>(mf .G .B .C .bJ .Z e2 U p2))) λY U=>(fy .G .u .C .a1 e2 U)),(m.elim (λY=>(WC .C [[1,-1,0,1],[1,0,1,0]] (.e .A .aK) (.k (.a .I .A) .B) .aJ e3 w4 Y)) λY=>(WC .C [[1,-1,0,1],[1,0,1,0]] (.e .A .aK) (.k (.a .I .A) .B) .cZ e3 w4 Y.1))]])
  clear hR;have#[rfl,rfl,rfl]:=f;rw[ag (λq=>absurd q.1 (fp _)),ab (λq=>by show dp .ff .r (.l .aV .A) q.2),br c];rfl
end
abbrev wA:List Int:=[1,2,3,9,4,5]
abbrev wB:List Int:=[1,2,3,9,4,0,4,5]
abbrev sh (n w:Int):Key:=.int (if w=0 then -1 else n+w)
abbrev fA (n:Int):List Key:=wA.map (sh n)
abbrev fB (n:Int):List Key:=wB.map (sh n)
section
variable {n:Int}{rm js:Key->Bool}{L:List Bk}{i j:Nat}
def R8 (W:0<=n){u w:Int}(I:0<=u)(U:0<=w)(h:sh n u=sh n w):u=w:=by
 unfold sh at h;injection h with h
 split at h<;>split at h<;>(first|(rename_i Y Z;show dN .a7 .l (.ie .A .O) (.ie .B .O) Y Z)|(rename_i Y Z;show QC .a7 [[1,1,0,-1,-1],[1,0,1,1,0]] (.ik .O .C) (.ik .O .B) (.ie .A .O) (.ie (.ng 1) (.a .C .B)) W U Y h)|(rename_i Z;show QC .a7 [[1,0,1,1,0],[1,1,0,-1,1]] (.ik .O .C) .a4 (.ie .B .O) (.ie (.a .C .A) (.ng 1)) W I Z h)|show WE .a7 .f (.ie (.a .C .A) (.a .C .B)) h Ar.y|omega)
def J9 {ws:List Int}{c:Key}(h:(ws.map (sh n))[i]?=some c):∃w,ws[i]?=some w/\c=sh n w:=by
 rw[cj]at h;cases q:ws[i]? with
 |none=>rw[q]at h;cases h
 |some v=>rw[q]at h;apply#[v,rfl,(ah h).symm]
def PJ:(∀(i:Nat) (w:Int),wA[i]?=some w->0<=w)/\∀(i:Nat) (w:Int),wB[i]?=some w->0<=w:=
 #[λi w h=>(by decide:∀w∈wA,0<=w) w (cw h),λi w h=>(by decide:∀w∈wB,0<=w) w (cw h)]
abbrev wT:List (Nat×Nat):=[(0,0),(1,1),(2,2),(3,3),(4,4),(4,6),(5,7)]
def w_all:((List.range 6).all λi=>(List.range 8).all λj=>!decide (wA[i]?=wB[j]?)||wT.contains (i,j))=true:=by decide +kernel
def QI (i:Nat)(Y:i<6)(j:Nat)(Z:j<8)(h:wA[i]?=wB[j]?):(i,j)∈wT:=by
 have:=ja.mp (ja.mp w_all i (gI.mpr Y)) j (gI.mpr Z);rw[di h]at this;show List.contains_iff_mem.mp this
def SN (W:0<=n)(h:∃c,(fA n)[i]?=some c/\(fB n)[j]?=some c):(i,j)∈wT:=by
 have#[c,I,U]:=h;have#[u,Y,rfl]:=J9 I;have#[w,Z,q]:=J9 U;have rfl:=R8 W (PJ.1 _ _ Y) (PJ.2 _ _ Z) q;show QI i (bc.mp Y).1 j (bc.mp Z).1 (Y.trans Z.symm)
structure Fix (n:Int)(rm js:Key->Bool):Prop where
 n0:0<=n
 rm:∀c,rm c=decide (c=Key.int (n+9))
 j9:js (.int (n+9))=true
 jo:∀w∈[1,2,3,4,5],js (.int (n+w))=false
public abbrev hT:List (Nat×Nat):=[(0,0),(1,1),(2,2),(4,4),(4,6),(5,7)]
def Fix.hits (F:Fix n rm js)(h:hit (fA n) (fB n) rm i j=true):(i,j)∈hT:=by
 have#[c,Y,W,Z]:=ku.mp h;have:=SN F.n0 #[c,Y,W];rw[F.rm,rh]at Z;unfold wT at this;unfold hT;simp only[bw,lq,or_false,nr]at this ⊢;rcases this with q|q|q|q|q
 ·show .inl q
 ·show .inr (.inl q)
 ·show .inr (.inr (.inl q))
 ·have#[rfl,rfl]:=q;show absurd (ah Y).symm Z
 ·show .inr (.inr (.inr q))
def Fix.hit (F:Fix n rm js)(i j:Nat)(w:Int)(hw:w∈[1,2,3,4,5])(h1:(fA n)[i]?=some (.int (n+w)))(h2:(fB n)[j]?=some (.int (n+w))):hit (fA n) (fB n) rm i j=true:=
 ku.mpr ⟨_,h1,h2,by
  rw[F.rm,rh];intro q;injection q with q
  simp only[bw,lq,or_false]at hw
  (show hw.elim (λq1=>(dN .ff .H .aT (.ie .B .U) q q1)) λq1=>(q1.elim (λI=>(dN .ff .H .aT (.ie .B .W) q I)) λI=>(I.elim (λY=>(dN .ff .H .aT (.ie .B (.n 3)) q Y)) λY=>(Y.elim (λZ=>(dN .ff .H .aT (.ie .B (.n 4)) q Z)) λZ=>(dN .ff .H .aT (.ie .B (.n 5)) q Z)))))⟩
def no4 {i j:Nat}(h:(i,j)∈hT)(W:(i+1,j+1)∈hT)(Y:(i+2,j+2)∈hT)(Z:(i+3,j+3)∈hT):False:=
 (by decide:∀t∈hT,¬((t.1+1,t.2+1)∈hT/\(t.1+2,t.2+2)∈hT/\(t.1+3,t.2+3)∈hT)) (i,j) h #[W,Y,Z]
def Fix.first (F:Fix n rm js):Flm (fA n) (fB n) rm js 0 6 0 8 (0,0,4):=by
 apply#[0,0,3,#[#[by decide,by decide,by decide,by decide,λt ht=>?_],λh=>absurd h (by decide),λi' j' k' hk R=>?_],?_]
 ·rcases (by(show pg λI=>((au (yi.mp I).1).elim (λY=>(dp .ff .r .bY Y)) λY=>((au (yi.mp (yi.mp I).2).1).elim (λZ=>(jT .ff .c .H (.l .A .U) Y Z)) λZ=>((au (yi.mp (yi.mp I).2).2).elim (λq4=>(jT .ff .c .cP (.l .A .W) Z q4)) λq4=>(jT .ff .c (.l .A .aZ) (.l .W .A) ht q4))))):t=0\/t=1\/t=2) with rfl|rfl|rfl
  ·show F.hit 0 0 1 (by decide) rfl rfl
  ·show F.hit 1 1 2 (by decide) rfl rfl
  ·show F.hit 2 2 3 (by decide) rfl rfl
 ·apply iz (ip λc=>?_) |>.imp_right λe=>#[e,?_]
  ·show no4 (F.hits (R.eq 0 hk)) (F.hits (R.eq 1 (dp .cP .a (.l .aZ .A) c))) (F.hits (R.eq 2 (dp (.l .W .A) .a (.l .aZ .A) c))) (F.hits (R.eq 3 (dp (.l .aZ .A) .a (.l .aZ .A) c)))
  ·(show pg λI=>((gf.mp (yi.mp I).2).elim (λY=>((au Y).elim (λZ=>(jT .ff .c (.g .O .A) .H (yi.mp I).1 Z)) λZ=>(dp .ff .r .bY Z))) λY=>(dp .ff .r (.j .O .A) Y)))
 ·have n3:MP.hit (fA n) (fB n) (λc=>!(λc=>!js c) c) 3 3=false:=by
   cases q:MP.hit (fA n) (fB n) (λc=>!(λc=>!js c) c) 3 3 with
   |false=>rfl
   |true =>
    have#[c,h1,_,B]:=ku.mp q;have rfl:=ah h1;have:=F.j9;simp only[Bool.not_not]at B;show absurd (this.symm.trans B) (by decide)
  have y3:MP.hit (fA n) (fB n) (λc=>!js c) 3 3=true:=ku.mpr #[.int (n+9),rfl,rfl,by rw[F.j9];rfl];have n4:MP.hit (fA n) (fB n) (λc=>!js c) 4 4=false:=by
   cases q:MP.hit (fA n) (fB n) (λc=>!js c) 4 4 with
   |false=>rfl
   |true =>
    have#[c,h1,_,B]:=ku.mp q;have rfl:=ah h1;have:=F.jo 4 (by decide);rw[show sh n 4=Key.int (n+4) from rfl,this]at B;cases B
  have e1:zp (fA n) (fB n) (λc=>!js c) 0 0 0 0 3=(0,0,3):=rfl;have e2:iC (fA n) (fB n) (λc=>!js c) 6 8 6 0 0 3=3:=by
   rw[ua,aw];rintro ⟨_,_,q⟩;rw[show 0+3=3 from rfl,n3]at q;cases q
  have e3:zp (fA n) (fB n) js 0 0 0 0 3=(0,0,3):=rfl;have e4:iC (fA n) (fB n) js 6 8 6 0 0 3=4:=by
   rw[ua,br #[by decide,by decide,y3],ua,aw];rintro ⟨_,_,q⟩;rw[show 0+(3+1)=4 from rfl,n4]at q;cases q
  unfold grow;simp only[e1,e2,e3,e4,Nat.sub_zero]
def Fix.second (F:Fix n rm js):Flm (fA n) (fB n) rm js 4 6 4 8 (4,6,2):=by
 apply#[4,6,2,#[#[by decide,by decide,by decide,by decide,λt ht=>?_],λh=>absurd h (by decide),λi' j' k' hk R=>?_],?_]
 ·rcases (by(show pg λZ=>((au (yi.mp Z).1).elim (λI=>(dp .ff .r .bY I)) λI=>((au (yi.mp Z).2).elim (λY=>(jT .ff .c .H (.l .A .U) I Y)) λY=>(jT .ff .c (.l .A .W) .cP ht Y)))):t=0\/t=1) with rfl|rfl
  ·show F.hit 4 6 4 (by decide) rfl rfl
  ·show F.hit 5 7 5 (by decide) rfl rfl
 ·have r1:=R.ai;have r2:=R.ia;have r3:=R.bj;by_cases c:k'=1
  ·show .inl (dp (.l .A .W) .a (.e .A .U) c)
  ·have h1:=F.hits (R.eq 1 ((au c).elim (λZ=>(jT .cP .c .H (.l .A .U) hk Z)) λZ=>(dp .cP .a .cP Z)));simp only[bw,lq,or_false,nr]at h1
   (show .inr #[((au c).elim (λZ=>(jT (.e .A .W) [[0,1,1],[1,0,1]] .H (.l .A .U) hk Z)) λZ=>(TF (.e .A .W) [[1,0,0,1],[1,1,1,0]] (.k .aT .B) (.k .aJ (.n 6)) .cP r1 r2 Z)),(.inr #[((au c).elim (λZ=>(fy (.e .aT .A) .g .aI (.l .B .U) hk Z)) λZ=>(TF (.e .aT .A) [[1,0,1,1],[1,1,0,0]] (.k .aT .A) (.k .M (.n 6)) (.l .U .B) r1 r2 Z)),((au c).elim (λZ=>(fy .c5 .c .aI (.l .B .U) hk Z)) λZ=>(h1.elim (λI=>(ax .c5 .r (.e .L .O) I.1)) λI=>(I.elim (λY=>(fy .c5 .c (.k .aT .B) (.e .L .U) r1 Y.1)) λY=>(Y.elim (λq4=>(fy .c5 .c (.k .aT .B) (.e .L .W) r1 q4.1)) λq4=>(q4.elim (λq5=>(fy .c5 .c (.k .aT .B) (.e .L .aT) r1 q5.1)) λq5=>(q5.elim (λq6=>(fy .c5 .c (.k .aT .B) (.e .L .aT) r1 q6.1)) λq6=>(dp .c5 .E (.e .P (.n 7)) q6.2)))))))])])
 ·unfold grow;have e1:∀ok:Key->Bool,zp (fA n) (fB n) ok 4 4 4 6 2=(4,6,2):=λok=>by
   rw[eI,aw];rintro ⟨q,_⟩;show absurd q (by decide)
  have e2:∀ok:Key->Bool,iC (fA n) (fB n) ok 6 8 2 4 6 2=2:=λok=>by
   rw[ua,aw];rintro ⟨q,_⟩;show absurd q (by decide)
  simp only[e1,e2]
def AH (F:Fix n rm js)(h:kq (Flm (fA n) (fB n) rm js) 0 (fA n).length 0 (fB n).length L):L=[(0,0,4),(4,6,2)]:=by
 apply kq.uniq (λ_ _ _ _ _ _ h h'=>h.uniq h') h ?_;apply .node (L:=[]) (R:=[(4,6,2)]) F.first (by decide) (λq=>absurd q (by decide)) (λ_=>rfl) (λ_ _=>?_) λq=>absurd (show 0+4<6/\0+4<8 by decide) q
 show .node (L:=[]) (R:=[]) F.second (by decide) (λq=>absurd q (by decide)) (λ_=>rfl) (λq=>absurd (show 4+2<6 from q) (by decide)) λ_=>rfl
end
end MP
end
section
namespace MP
open PySem
namespace SM
def L6 {C:Cal}{ρ:Fr}{σ:St}{e i:Ex}{Q:V->St->Prop}:wpE C (.sub e i) ρ σ Q=wpE C e ρ σ λv σ=>wpE C i ρ σ λj σ=>rR v j σ λr=>Q r σ:=rfl
end SM
end MP
end
section
namespace MP
open PySem SM
public abbrev ks (xs:List Int):List Key:=xs.map Key.int
section
variable {H:Nat->Nat->Prop}{na nb:Nat}{S S':Nat->Nat->Prop}{i j k a b r:Nat}
end
variable {σ:St}{a:Addr}{L:List O5}
abbrev dO (t:O5):PyData:=.tuple [.str t.1,.int t.2.1,.int t.2.2.1,.int t.2.2.2.1,.int t.2.2.2.2]
def SY (t:O5):PyData.eqv (dO t) (dO t)=true:=by simp[dO,PyData.eqv,PyData.eqvAll]
def sW:∀L:List O5,PyData.eqvAll (L.map dO) (L.map dO)=true
 | []=>by simp[PyData.eqvAll]
 |t::L=>by simp[PyData.eqvAll,SY,sW L]
def OF {n:Nat}{t:O5}(h:PyData.strOk t.1=true):fU σ (n+1) (oV t)=some (dO t):=by
 have e:fU σ n (.str t.1)=some (.str t.1):=by
  cases n<;>show br h
 show(([V.str t.1,.int t.2.1,.int t.2.2.1,.int t.2.2.2.1,.int t.2.2.2.2].mapM (fU σ n)).map PyData.tuple)=_;rw[mapM_some (g:=λv=>match v with|.str s=>PyData.str s|.int i=>.int i|_=>.none)]
 ·rfl
 ·intro v Z;rcases bw.mp Z with rfl|Z
  ·show e
  ·have:∃i,v=.int i:=by
    rcases bw.mp Z with rfl|Z
    ·apply#[_,rfl]
    rcases bw.mp Z with rfl|Z
    ·apply#[_,rfl]
    rcases bw.mp Z with rfl|Z
    ·apply#[_,rfl]
    ·apply#[_,aq.mp Z]
   clear Z;have#[i,rfl]:=this;cases n<;>rfl
def CF {n:Nat}(h:σ.L a=some (L.map oV))(W:∀t∈L,PyData.strOk t.1=true):fU σ (n+2) (.L a)=some (.list (L.map dO)):=by
 show((σ.L a).bind λxs=>(xs.mapM (fU σ (n+1))).map PyData.list)=_;rw[h];show((L.map oV).mapM (fU σ (n+1))).map PyData.list=_;rw[mapM_some (g:=λv=>match v with|.T [.str s,.int a,.int b,.int c,.int d]=>PyData.tuple [.str s,.int a,.int b,.int c,.int d]|_=>.none)]
 ·rw[qi];rfl
 ·intro v Z;have#[t,Y,rfl]:=cq.mp Z;show OF (W t Y)
def LZ:PyData.strOk "replace"=true:=by decide +kernel
def LV:PyData.strOk "delete"=true:=by decide +kernel
def LR:PyData.strOk "insert"=true:=by decide +kernel
def LQ:PyData.strOk "equal"=true:=by decide +kernel
def T7 {i a j b:Nat}:∀t∈chg i a j b,PyData.strOk t.1=true:=by
 unfold chg;intro t Z;split at Z
 ·rw[aq.mp Z];show LZ
 ·split at Z
  ·rw[aq.mp Z];show LV
  ·split at Z
   ·rw[aq.mp Z];show LR
   ·cases Z
def l0:∀{L:List T3} {i j:Nat},∀t∈codes i j L,PyData.strOk t.1=true
 | [],_,_,_,h=>by cases h
 |(a,b,s)::L,i,j,t,h=>by
  rcases cy.mp h with h|h
  ·show T7 t h
  ·rcases cy.mp h with h|h
   ·unfold eql at h;split at h
    ·cases h
    ·rw[aq.mp h];show LQ
   ·show l0 t h
def FV {b:Addr}{K:Bool->Prop}(Y:σ.L a=some (L.map oV))(hb:σ.L b=some (L.map oV))(Z:∀t∈L,PyData.strOk t.1=true)(h:K true):vX (.L a) (.L b) σ K:=by
 apply#[_,_,CF Y Z,CF hb Z,?_];have:PyData.eqv (.list (L.map dO)) (.list (L.map dO))=true:=by
  simp[PyData.eqv,sW]
 rw[this];show h
def FP {b:Addr}{K:Bool->Prop}(Y:σ.L a=some (L.map oV))(hb:σ.L b=some (L.map oV))(Z:∀t∈L,PyData.strOk t.1=true)(h:K false):iJ .ne (.L a) (.L b) σ K:=FV (K:=λr=>K (!r)) Y hb Z h
namespace SM
end SM
end MP
end
section
namespace MP
open PySem
namespace SM
variable {n:Nat}
abbrev shI (n w:Int):Int:=if w=0 then -1 else n+w
abbrev xA (n:Int):List Int:=wA.map (shI n)
abbrev xB (n:Int):List Int:=wB.map (shI n)
abbrev ER:List O5:=[("equal",0,4,0,4),("insert",4,4,4,6),("equal",4,6,6,8)]
structure PX (P:Nat->Option Fn):Prop where
 h0:P 0=some fn0
 h1:P 1=some fn1
 h2:P 2=some fn2
 h3:P 3=some fn3
 h4:P 4=some rJ
 h5:P 5=some fn5
 h6:P 6=some fn6
 h7:P 7=some fn7
 h10:P 10=some R10.xP
 h11:P 11=some R10.uT
 hL:P 1000=some fnL
 hN:P 1001=some R10.fnN
structure qM (ρ:Fr)(σ:St)(la lb lp sl:Addr)(m bits:Int)(ns a b:List Int)(ps:List (Pc×Addr)):Prop where
 F:LF ρ la lb lp sl m bits
 H:LS σ la lb lp [(sl,ns)] a b ps
 L:Laid 61 a b ps
 n:ns.length<=63
structure yN (ρ:Fr)(σ:St)(la lb lp sl:Addr)(m bits:Int)(ns a b:List Int)(ps:List (Pc×Addr))(n:Nat)(oa ob da:Addr):Prop where
 X:qM ρ σ la lb lp sl m bits ns a b ps
 r21:ρ 21=some (.int n)
 r9:ρ 9=some (.L oa)
 r10:ρ 10=some (.L ob)
 r8:ρ 8=some (.L da)
 La:σ.L oa=some ((xA n).map V.int)
 Lb:σ.L ob=some ((xB n).map V.int)
 Ld:σ.L da=some (ER.map oV)
section
variable {C:Cal}{ρ:Fr}{σ:St}{la lb lp sl:Addr}{m bits:Int}{ns a b:List Int}{ps:List (Pc×Addr)}{K:Fl->Fr->St->Prop}
def qM.up (X:qM ρ σ la lb lp sl m bits ns a b ps){v:V}(Z:5<n/\n≠20):qM (upd ρ n v) σ la lb lp sl m bits ns a b ps:=#[X.F.up Z,X.H,X.L,X.n]
def qM.ext {σ':St}(X:qM ρ σ la lb lp sl m bits ns a b ps)(k:∀x xs,σ.L x=some xs->σ'.L x=some xs):qM ρ σ' la lb lp sl m bits ns a b ps:=#[X.F,X.H.ext k,X.L,X.n]
def UD (X:qM ρ σ la lb lp sl m bits ns a b ps)(h:∀ρ' σ' n Z ob W,yN ρ' σ' la lb lp sl m bits ns a b ps n Z ob W->K .next ρ' σ'):fw C R10.UM ρ σ K:=by
 have hs:=X.H.Ls (sl,ns) (.head _);apply n8 (.int ((10*ns.length:Nat):Int)) ((SS (a:=.int 10) (x:=10) (y:=ns.length) rfl (ub X.F.r0 hs) (by decide)).trans (bx (λz=>some (V.int z)) (show(10:Int)*(ns.length:Nat)=((10*ns.length:Nat):Int) by show iy (.ie (.m 10 .L) (.t (.m 10 .A))) .n))) ?_;have X1:=X.up (n:=21) (v:=.int ((10*ns.length:Nat):Int)) (by decide);generalize 10*ns.length=n at X1 ⊢;rw[R10.UL,ti,nS,mv,xh];apply nu _ (vs:=(xA n).map V.int) rfl #[ba rfl,λZ U=>?_];have E1:Ext σ (σ.cz Z ((xA n).map V.int)):=(Ext.refl σ).cz U;rw[mv,xh];apply nu _ (vs:=(xB n).map V.int) rfl #[ba rfl,λob Y=>?_];have ab:=E1.noL Y;have E2:Ext (σ.cz Z ((xA n).map V.int)) ((σ.cz Z ((xA n).map V.int)).cz ob ((xB n).map V.int)):=(Ext.refl _).cz Y;have hA:((σ.cz Z ((xA n).map V.int)).cz ob ((xB n).map V.int)).L Z=some ((xA n).map V.int):=E2.L _ _ (bg _ _ _);have hB:((σ.cz Z ((xA n).map V.int)).cz ob ((xB n).map V.int)).L ob=some ((xB n).map V.int):=bg _ _ _;have X2:=X1.ext (E1.trans E2).L;generalize (σ.cz Z ((xA n).map V.int)).cz ob ((xB n).map V.int)=σ2 at hA hB X2;apply#[ba rfl,?_];apply#[_,rfl,rfl,?_];have X3:=(X2.up (n:=9) (v:=.L Z) (by decide)).up (n:=10) (v:=.L ob) (by decide);apply L0 (ER.map oV) rfl (ba rfl) λW I=>?_;have B:Ext σ2 (σ2.cz W (ER.map oV)):=(Ext.refl _).cz I;show h _ _ n Z ob W #[(X3.ext B.L).up (by decide),rfl,rfl,rfl,rfl,B.L _ _ hA,B.L _ _ hB,bg _ _ _]
abbrev eq1 (n:Nat):List O5:=if 0<n then [("equal",0,n,0,n)] else []
def sH {L:List Bk}(e:L=if 0<n then [(0,0,n)] else []):codes 0 0 (mrg 0 0 0 L++[(n+1,n,0)])=eq1 n++dM n (n+1) n n:=by
 subst e;unfold eq1;by_cases c:0<n
 ·rw[br c,br c];have Y:mrg 0 0 0 [(0,0,n)]=[(0,0,n)]:=by
   unfold mrg;rw[br #[rfl,rfl]];unfold mrg;rw[aw (dp (.u .aV .O) .a .H c),nk]
  rw[Y];show chg 0 0 0 0++(eql 0 0 n++(chg (0+n) (n+1) (0+n) n++(eql (n+1) n 0++[])))=_;rw[nk,qE (iy (.k .A .P) .j) (az _)];have Z:eql 0 0 n=([("equal",0,n,0,n)]:List O5):=by
   unfold eql;rw[aw (dp (.u .A .O) .a .H c),nk]
  rw[Z,dg];show []++_=_;rw[sv]
 ·obtain rfl:n=0:=by(show dp .G .t (.g .O .A) c)
  rfl
def T5:∀t∈eq1 n++dM n (n+1) n n,PyData.strOk t.1=true:=by
 rw[<- sH rfl];show l0
def UA {a:List Int}(c:Key):rmA false (λ_=>false) a c=false:=by
 cases c<;>rfl
def I5 {a:List Int}{js:List Key}{L:List Bk}(h:FL (a++[-1]) a false (λ_=>false) js L):L=if 0<a.length then [(0,0,a.length)] else []:=by
 have e:(a++[-1]).map Key.int=a.map Key.int++[Key.int (-1)]:=cu ..;unfold FL at h;rw[e]at h;have:=AG (λc=>UA c) h
 rwa [ak]at this
def UE {P:Nat->Option Fn}(Y:PX P){dl:Addr}(X:qM ρ σ la lb lp sl m bits ns a b ps)(r8:ρ 8=some (.L dl))(hd:σ.L dl=some ((eq1 a.length++dM a.length (a.length+1) a.length a.length).map oV))(h:∀ρ' σ' n oa ob da,yN ρ' σ' la lb lp sl m bits ns a b ps n oa ob da->K .next ρ' σ'):fw (fk P 6) R10.UN ρ σ K:=by
 show wpE (fk P 6) (.meth (.n %[.none,.b .add (.l 3) (.L %[.neg (.int 1)|0]),.l 3,.bool false|0]) 7 .nil) ρ σ _;rw[vZ,vY];have W:=X.L.a2;apply#[_,X.F.r3,?_];apply#[1,rfl,ba rfl,λc hc=>?_];have E1:Ext σ (σ.cz c [.int (-1)]):=(Ext.refl σ).cz hc;apply t7 (C:=fk P 6) (xs:=a) (ys:=[-1]) (E1.L _ _ X.H.La) (bg _ _ _) (by rw[ee];unfold bp;(show dp (.k .P .Z) .a .a6 W)) λc2 σ2 E2 ab U=>?_;have I:=E1.trans E2;apply#[_,X.F.r3,?_];apply λx d hx=>tR (n:=2) Y.h0 Y.h1 Y.h2 Y.h3 Y.h4 Y.h5 Y.h6 Y.h7 (xs:=a++[-1]) (ys:=a) (aj:=false) (jk:=λ_=>false) (.inl rfl) U (I.L _ _ X.H.La) (dp .cJ .a .a6 W) (by rw[List.length_append,ee];(show dp (.l .P .aP) .a .a6 W)) (.inl #[rfl,λ_=>rfl]) (λjs L hj hb=>?_) (λσ' c3 js L T=>?_) x d hx
 ·rw[I5 hb];by_cases q:0<a.length
  ·rw[br q];show 1<64;decide
  ·rw[aw q];show 0<64;decide
 ·have e:=T.at_;rw[List.length_append,ee,sH (I5 T.B)]at e;apply#[_,r8,?_];have k:∀x xs,σ.L x=some xs->σ'.L x=some xs:=λx xs q=>T.kp _ _ (I.L _ _ q);apply FP e (k _ _ hd) T5 ?_;show fC (qb (UD (X.ext k) h))
end
end SM
namespace SM
section
variable {Q:V->St->Prop}{n:Nat}{P:Nat->Option Fn}
variable {C:Cal}{ρ:Fr}{σ:St}{la lb lp sl:Addr}{m bits:Int}{ns a b:List Int}{ps:List (Pc×Addr)}{K:Fl->Fr->St->Prop}
def AW {c e f:Ex}:wpE C (.I c e f) ρ σ Q=wpT C c ρ σ λt σ=>if t then wpE C e ρ σ Q else wpE C f ρ σ Q:=rfl
def gO {f:Nat}{es:Exs}:wpE C (.call f es) ρ σ Q=wh C es ρ σ λvs σ=>C f vs σ Q:=rfl
def IC {es:Exs}{vs:List V}{Q:V->St->Prop}(h:fD σ ρ es=some vs)(hz:vs.length<=bp)(k:∀c,σ.L c=none->Q (.L c) (σ.cz c vs)):wpE C (.L es) ρ σ Q:=by
 rw[xh];show nu (Q:=λvs σ=>vs.length<=bp/\∀c,σ.L c=none->Q (.L c) (σ.cz c vs)) _ h #[hz,k]
def W2 {c1 c2:Addr}{xs ys:List V}(Z:σ.L c1=some xs)(hb:σ.L c2=some ys)(hz:xs.length+ys.length<=bp)(k:∀c,σ.L c=none->Q (.L c) (σ.cz c (xs++ys))):eU .add (.L c1) (.L c2) σ Q:=#[xs,ys,Z,hb,hz,k]
def O4:(eq1 n).length<=1:=by
 unfold eq1;by_cases c:0<n
 ·rw[br c];show az 1
 ·rw[aw c];show bh 1
def lA {i p j q:Nat}:(dM i p j q).length<=1:=by
 unfold dM;by_cases c:i=p/\j=q
 ·rw[br c];show bh 1
 ·rw[aw c];show az 1
def SW {x:Nat}(h:ρ x=some (.int (n:Nat))):evT σ ρ (.c .gt (.l x) (.int 0))=some (decide (0<n)):=by
 have W:evV σ ρ (.l x)=some (.int (n:Nat)):=h;show(evV σ ρ (.l x)).bind (λY=>(evV σ ρ (.int 0)).bind λZ=>ur σ .gt Y Z)=_;rw[W];show some (decide ((0:Int)<(n:Nat)))=_;rw[jz.mpr (show(0:Int)<(n:Nat)↔0<n from Int.ofNat_lt)]
def O3 {x:Nat}(h:ρ x=some (.int (n:Nat)))(k:∀c,σ.L c=none->Q (.L c) (σ.cz c ((eq1 n).map oV))):wpE C (.I (.c .gt (.l x) (.int 0)) (.L %[.T %[.str "equal",.int 0,.l x,.int 0,.l x|0]|0]) (.L .nil)) ρ σ Q:=by
 rw[AW];apply uc _ (SW h) ?_;unfold eq1 at k;by_cases c:0<n
 ·rw[br c]at k;rw[di c];have e:evV σ ρ (.l x)=some (.int (n:Nat)):=h;apply iB (IC (vs:=[oV ("equal",0,n,0,n)]) ?_ (ba rfl) k);rw[du,QP (s:="equal") (i:=0) (p:=n) (j:=0) (q:=n) rfl rfl e rfl e];rfl
 ·rw[aw c]at k;rw[dk c];show fC (IC (vs:=[]) rfl (bh _) k)
def UG (X':PX P)(X:qM ρ σ la lb lp sl m bits ns a b ps)(W:ρ 21=some (.int (a.length:Nat)))(h:∀ρ' σ' n oa ob da,yN ρ' σ' la lb lp sl m bits ns a b ps n oa ob da->K .next ρ' σ'):fw (fk P 6) R10.RF ρ σ K:=by
 rw[R10.RF,ti,AX];apply O3 W λc1 ab=>?_;have E1:Ext σ (σ.cz c1 ((eq1 a.length).map oV)):=(Ext.refl σ).cz ab;have h1:(σ.cz c1 ((eq1 a.length).map oV)).L c1=some ((eq1 a.length).map oV):=bg _ _ _;generalize σ.cz c1 ((eq1 a.length).map oV)=Y at E1 h1;rw[gO];have e:evV Y ρ (.l 21)=some (.int (a.length:Nat)):=W;apply nu _ (vs:=[.int (a.length:Nat),.int ((a.length+1:Nat):Int),.int (a.length:Nat),.int (a.length:Nat)]) ?_ ?_
 ·rw[du,e,du,ye (b:=.int 1) (y:=1) e rfl,du,e,du,e];rfl
 ·apply jM (n:=5) X'.h11 λc2 B=>?_;have E2:Ext Y (Y.cz c2 ((dM a.length (a.length+1) a.length a.length).map oV)):=(Ext.refl Y).cz B;apply W2 (E2.L _ _ h1) (bg _ _ _) ?_ λc3 I=>?_
  ·have:=O4 (n:=a.length);have:=lA (i:=a.length) (p:=a.length+1) (j:=a.length) (q:=a.length);rw[ak,ak];unfold bp;(rename_i z1;show fy (.k .M .Z) .b (.k .A .U) .cI z1 this)
  ·have E3:=(E1.trans E2).trans ((Ext.refl _).cz (xs:=(eq1 a.length).map oV++(dM a.length (a.length+1) a.length a.length).map oV) I);apply UE X' ((X.ext E3.L).up (n:=8) (v:=.L c3) (by decide)) (bg _ _ _) ?_ h;rw[cu];show bg _ _ _
def UH (W:PX P)(X:qM ρ σ la lb lp sl m bits ns a b ps)(h:∀ρ' σ' n Z ob Y,yN ρ' σ' la lb lp sl m bits ns a b ps n Z ob Y->K .next ρ' σ'):fw (fk P 6) R10.UO ρ σ K:=
 n8 (.int (a.length:Nat)) (ub X.F.r3 X.H.La) (UG W (X.up (n:=21) (v:=.int (a.length:Nat)) (by decide)) (bg _ _ _) h)
def LS.less {os Z:List (Addr×List Int)}(H:LS σ la lb lp os a b ps)(h:∀o∈Z,o∈os):LS σ la lb lp Z a b ps:=
 #[H.La,H.Lb,H.Lp,λo Y=>H.Ls o (h o Y),H.Lc,H.ab,λo Y=>H.on o (h o Y),λp W=>#[(H.cn p W).1,(H.cn p W).2.1,(H.cn p W).2.2.1,λo Y=>(H.cn p W).2.2.2 o (h o Y)],H.nd]
def LS.more {os:List (Addr×List Int)}{c:Addr}{us:List Int}(H:LS σ la lb lp os a b ps)(U:σ.L c=none):LS (σ.cz c (us.map V.int)) la lb lp ((c,us)::os) a b ps:=by
 have#[c1,c2,c3,c4,c5]:=H.new U;have k:∀x xs,σ.L x=some xs->(σ.cz c (us.map V.int)).L x=some xs:=((Ext.refl σ).cz U).L;have Y:=H.ext k;apply#[Y.La,Y.Lb,Y.Lp,λo Z=>?_,Y.Lc,Y.ab,λo Z=>?_,λp W=>#[(H.cn p W).1,(H.cn p W).2.1,(H.cn p W).2.2.1,λo Z=>?_],Y.nd]
 ·rcases bw.mp Z with rfl|Z
  ·show bg _ _ _
  ·show Y.Ls o Z
 ·rcases bw.mp Z with rfl|Z
  ·apply#[c1,c2,c3]
  ·show Y.on o Z
 ·rcases bw.mp Z with rfl|Z
  ·show λq=>c5 (cq.mpr #[p,W,q.symm])
  ·show(H.cn p W).2.2.2 o Z
def Laid.le {t Z:Nat}(L:Laid t a b ps)(h:t<=Z):Laid Z a b ps:=by
 have h1:=L.a2;have h2:=L.b2;have B:=L.n;have W:=L.p;apply#[L.lay,by show fe .aP .G .Q .bU h h1,by show fe .aP .G .Q .bU h h2,by show fe .U .b .Q (.k .A .Q) h B,λp Y=>gp (L.l p Y) h,by show fe .A .b .Q .I h W]
def UI (X':PX P)(F:LF ρ la lb lp sl m bits)(hm:0<m)(hn:ns.length<=63)(H:LS σ la lb lp [(sl,ns)] [] [] ps)(L:Laid 0 [] [] ps)(h:∀ρ' σ' a b ps n oa ob da,yN ρ' σ' la lb lp sl m bits ns a b ps n oa ob da->K .next ρ' σ'):fw (fk P 6) R10.UP ρ σ K:=by
 have hs:=H.Ls (sl,ns) (.head _);apply#[_,F.r0,?_];apply#[_,2,((ns.map V.int).length:Int),hs,rfl,rfl,by decide,by rw[ak];(show(Ar.nab _).elim (λU=>(fy .W .b (.k .B (.n 63)) (.ie .L .P) hn U.2)) λU=>(ax .W .a (.ie .L (.g .P)) U.2)),λql ag=>?_];have#[us,eu,lu]:∃us:List Int,((ns.map V.int).take (fq (ns.map V.int).length ((ns.map V.int).length:Int))).drop (fq (ns.map V.int).length 2)=us.map V.int/\us.length<=61:=by
  apply#[(ns.take (fq (ns.map V.int).length ((ns.map V.int).length:Int))).drop (fq (ns.map V.int).length 2),by rw[List.map_drop,List.map_take],?_];rw[ir,gc,ak];have:fq ns.length 2=min ns.length 2:=by unfold fq gk;rw[aw (by decide)];rfl
  rw[this];(show Ar.sub _ _ (λU p1=>((Ar.nv _ _).2.2.elim (λq2=>(mf (.k .A (.n 61)) .h .aF (.e .T .B) .Y (Ar.nv _ _).2.1 p1 q2)) λq2=>(eQ (.k .A (.n 61)) .y (.k .B (.n 63)) .Q .b5 (.k .W .D) hn (Ar.nv _ _).2.1 p1 q2))) λU p1=>(dp (.k .A (.n 61)) .a .G p1))
 rw[eu];have H1:=H.more (us:=us) ag;have hq:=H1.Ls (ql,us) (.head _);generalize σ.cz ql (us.map V.int)=ai at H1 hq;apply#[_,hq,?_];apply sq (λt ρ' σ'=>LF ρ' la lb lp sl m bits/\∃a b ps,LS σ' la lb lp [(ql,us),(sl,ns)] a b ps/\Laid t a b ps) ?_ ?_ #[F,_,_,_,H1,L]
 ·intro t v ρ' σ' hv zz;have#[F',a,b,ps,I,L']:=zz;apply#[I.Ls (ql,us) (.head _),λkk hk=>?_];rw[cj]at hv;have#[x,ex,rfl]:=gm.mp hv;have:=(bc.mp ex).1;show IK F' hm I L' (fy (.l .A (.n 100)) .b (.k .B (.n 61)) .B lu this) λZ σ2 a2 b2 ab F2 H2 L2=>hk _ _ #[F2,a2,b2,ab,H2,L2]
 ·intro ρ' σ' zz;have#[F',a,b,ps,I,L']:=zz;apply#[I.Ls (ql,us) (.head _),?_];rw[ak]at L';show UH X' #[F',I.less λo ho=>.tail _ ho,L'.le lu,hn] λZ σ2 n oa ob da E=>h Z σ2 a b ps n oa ob da E
def UJ (X':PX P)(hm:0<m)(hn:ns.length<=63)(W:σ.L sl=some (ns.map V.int))(r0:ρ 0=some (.L sl))(r2:ρ 2=some (.int m))(U:ρ 20=some (.int bits))(h:∀ρ' σ' la lb lp a b ps n I ob da,yN ρ' σ' la lb lp sl m bits ns a b ps n I ob da->K .next ρ' σ'):fw (fk P 6) R10.RG ρ σ K:=by
 rw[R10.RG,ti,nS,mv,xh];apply#[bh _,λla h1=>?_];rw[mv,xh];apply#[bh _,λlb h2=>?_];rw[mv,xh,mv,nS];apply#[bh _,λc h3=>?_];apply#[ba rfl,?_];apply#[ba rfl,λlp h4=>?_];apply#[ba rfl,?_];apply#[_,rfl,rfl,?_];have s1:sl≠la:=λq=>by rw[q,h1]at W;cases W
 have k2:∀{x y:Addr} {f:Addr->Option (List V)} {vs:List V},upd f x vs y=none->y≠x/\f y=none:=λ{x y f vs} q=>by
  by_cases e:y=x
  ·subst e;rw[bg]at q;cases q
  ·rw[bz e]at q;apply#[e,q]
 have#[b1,b2]:=k2 h2;have#[c1,c2]:=k2 h3;have#[c3,c4]:=k2 c2;have#[p1,p2]:=k2 h4;have#[p3,p4]:=k2 p2;have#[p5,p6]:=k2 p4;have Z:∀{y:Addr},σ.L y=none->sl≠y:=λ{y} q e=>by rw[<- e,W]at q;cases q
 apply UI X' (la:=la) (lb:=lb) (lp:=lp) (ps:=[((0,0,[]),c)]) #[r0,r2,rfl,rfl,rfl,U] hm hn #[?_,?_,bg _ _ _,λo Y=>?_,λp B=>?_,#[b1.symm,p5.symm,p3.symm],λo Y=>?_,λp B=>?_,List.nodup_cons.mpr #[(λq=>nomatch q),.nil]] Laid.start (λρ' σ' a b ps n I ob da E=>h ρ' σ' la lb lp a b ps n I ob da E)
 ·show(bz p5.symm).trans ((bz c3.symm).trans ((bz b1.symm).trans (bg _ _ _)))
 ·show(bz p3.symm).trans ((bz c1.symm).trans (bg _ _ _))
 ·have rfl:=aq.mp Y;show(bz (Z p6)).trans ((bz (Z c4)).trans ((bz (Z b2)).trans ((bz s1).trans W)))
 ·have rfl:=aq.mp B;show(bz p1.symm).trans (bg _ _ _)
 ·have rfl:=aq.mp Y;apply#[s1,Z b2,Z p6]
 ·have rfl:=aq.mp B;apply#[c3,c1,p1.symm,λo Y=>?_];have rfl:=aq.mp Y;show Z c4
def NW {z:Int}{xs:List Int}(h:xs.length=4):∃m∈xs,0<=gk (xs.map V.int).length (z.fmod 4)/\(xs.map V.int)[(gk (xs.map V.int).length (z.fmod 4)).toNat]?=some (V.int m):=by
 rw[gK _ (by decide)];have U:=wg z (show(4:Int)≠0 by decide);have W:=xf z (show(0:Int)<4 by decide);have e:z%4=((z%4).toNat:Nat):=by(show(Ar.ton _).elim (λZ=>(tH (.ie .A .L) .e .aZ Z.2)) λZ=>(KO (.ie .A .L) .q .a4 .bD .G U Z.1 Z.2))
 rw[e];have Y:(z%4).toNat<xs.length:=by(show QD .B [[1,-1,1,-1]] (.e .B .aT) (.il .A (.n 4)) (.ie .A .L) h W e)
 have#[a,b]:=KL (f:=V.int) Y;apply#[_,lr _,a,b]
def UC (X':PX P)(r0:ρ 0=some (.ro ns))(hn:ns.length<=63)(h:∀ρ' σ' la lb lp sl m bits a b ps n oa ob da,yN ρ' σ' la lb lp sl m bits ns a b ps n oa ob da->K .next ρ' σ'):fw (fk P 6) R10.US ρ σ K:=by
 have aE:fq ns.length 63=ns.length:=by
  unfold fq gk;rw[aw (by decide)]
  (show(Ar.nv _ _).2.2.elim (λI=>(fy .C .i .A .aQ (Ar.nv _ _).1 I)) λI=>((Ar.ton _).elim (λq2=>(Y1 .C [[1,1,0,1,-1],[1,0,1,0,0]] (.k .B (.n 63)) .A .aA (.ie .V (.n 63)) hn (Ar.nv _ _).1 I q2.2)) λq2=>(ax .C .p (.ik (.n 63) .O) q2.1)))
 apply#[_,r0,?_];apply#[0,63,by unfold bp;(show dp .bH .a (.k .A (.n 63)) hn),rfl,rfl,by decide,by decide,λsl be=>?_];have hS:(σ.cz sl (((ns.take (fq ns.length 63)).drop (fq ns.length 0)).map V.int)).L sl=some (ns.map V.int):=by
  rw[aE,qD,rk,yp];show bg _ _ _
 generalize σ.cz sl (((ns.take (fq ns.length 63)).drop (fq ns.length 0)).map V.int)=U at hS;show fw (fk P 6) R10.UR (upd ρ 0 (.L sl)) U K;apply#[_,rfl,?_];apply#[ba rfl,λzl hz=>?_];have E1:Ext U (U.cz zl [.int 0,.int 0]):=(Ext.refl U).cz hz;apply t7 (C:=fk P 6) (xs:=ns) (ys:=[0,0]) (E1.L _ _ hS) (bg _ _ _) (by show ns.length+2<=bp;unfold bp;(show dp (.k .aM .Z) .a (.k .A (.n 63)) hn)) λcl σ2 E2 bl ar=>?_;have ao:=E2.L _ _ (E1.L _ _ hS);apply#[_,0,2,ar,rfl,rfl,by decide,by decide,λdl aj=>?_];have E3:Ext σ2 (σ2.cz dl ((((ns++[0,0]).map V.int).take (fq ((ns++[0,0]).map V.int).length 2)).drop (fq ((ns++[0,0]).map V.int).length 0))):=(Ext.refl σ2).cz aj;have e2:fq ((ns++[0,0]).map V.int).length 2=2:=mK (i:=2) (by rw[ak,List.length_append];show Nat.le_add_left _ _);have#[b,z,ez]:=MP.oA (l:=(ns++[0,0]).take 2) (by rw[gc,List.length_append];show min 2 (ns.length+2)=2;(show(Ar.nv _ _).2.2.elim (λI=>(jT (.e .A .W) .i (.k .A .W) (.k .W .A) (Ar.nv _ _).1 I)) λI=>(fy (.e .A .W) .i (.k .A .W) (.k (.a .B .W) .A) (Ar.nv _ _).1 I)));apply#[[.int b,.int z],?_,rfl,?_]
 ·apply(bg _ _ _).trans (bx some ?_);rw[e2,qD,yp,<- List.map_take,ez];rfl
 have ag:=E3.L _ _ ao;generalize σ2.cz dl ((((ns++[0,0]).map V.int).take (fq ((ns++[0,0]).map V.int).length 2)).drop (fq ((ns++[0,0]).map V.int).length 0))=Y at ag;show fw (fk P 6) R10.RH (upd (upd (upd ρ 0 (.L sl)) 20 (.int b)) 1 (.int z)) Y K;rw[R10.RH,ti,L6,xh];apply nu (Q:=_) _ (vs:=[.int 64,.int 16,.int 5,.int 2]) rfl #[ba rfl,λml ai=>?_];have E4:Ext Y (Y.cz ml [.int 64,.int 16,.int 5,.int 2]):=(Ext.refl Y).cz ai;have hM:(Y.cz ml [.int 64,.int 16,.int 5,.int 2]).L ml=some (([64,16,5,2]:List Int).map V.int):=bg _ _ _;have ab:=E4.L _ _ ag;generalize Y.cz ml [.int 64,.int 16,.int 5,.int 2]=bd at hM ab;apply#[_,rfl,(by decide:(4:Int)≠0),?_];have#[m,mi,m1,m2]:=NW (z:=z) (xs:=[64,16,5,2]) rfl;apply#[_,_,hM,m1,m2,?_];show UJ X' (ρ:=upd (upd (upd (upd ρ 0 (.L sl)) 20 (.int b)) 1 (.int z)) 2 (.int m)) (m:=m) (bits:=b) (sl:=sl) ((by decide:∀w∈([64,16,5,2]:List Int),0<w) m mi) hn ab rfl rfl rfl λρ' σ' la lb lp a b' ps n oa ob da E=>h ρ' σ' la lb lp sl m b a b' ps n oa ob da E
end
end SM
namespace SM
variable {b y:Int}{P:Nat->Option Fn}{n:Nat}
abbrev Jb (b y:Int):Int:=b/2^(y%8).toNat%2
def TP (b y:Int):Jb b y=0\/Jb b y=1:=by
 have h1:=wg (b/2^(y%8).toNat) (show(2:Int)≠0 by decide);have B:=xf (b/2^(y%8).toNat) (show(0:Int)<2 by decide);unfold Jb
 (show pg λI=>((oh (yi.mp I).1).elim (λY=>(KP .ff .c .a4 (.il .A .O) h1 Y)) λY=>((oh (yi.mp I).2).elim (λZ=>(KP .ff .c .bQ (.il .A .U) Y Z)) λZ=>(KP .ff .c (.il .A .W) (.il .U .A) B Z))))
def VV {z:Int}{k:Nat}(h:k<8)(hz:z%256=0):z/2^k%2=0:=by
 have e:=(by decide:∀k,k<8->(256:Int)=2^k*(2*2^(7-k))/\(2:Int)^k≠0) k h;have Z:=Int.mul_ediv_add_emod z 256;rw[hz,Int.add_zero]at Z;rw[<- Z,e.1,Int.mul_assoc,Int.mul_ediv_cancel_left _ e.2,Int.mul_assoc,Int.mul_emod_right]
def RW (y:Int):(y%8).toNat<8/\((y%8).toNat:Int)=y%8:=by
 have W:=wg y (show(8:Int)≠0 by decide);have Y:=xf y (show(0:Int)<8 by decide)
 (show#[((Ar.ton _).elim (λZ=>(uu (.l .A (.n 8)) .b (.il .A (.n 8)) .aZ Y Z.2)) λZ=>(dp (.l .A (.n 8)) .a .G Z.2)),((Ar.ton _).elim (λZ=>(tH .aZ .f .aZ Z.2)) λZ=>(KO .aZ [[1,0,1,0],[1,1,0,1]] .a4 .bD .G W Z.1 Z.2))])
def OX (h:b%256=0):Jb b y=0:=VV (RW y).1 h
def DP {k:Nat}(h:k<8):(0:Int)<2^k/\((2:Int)^k).natAbs<2^60:=(by decide:∀k,k<8->(0:Int)<2^k/\((2:Int)^k).natAbs<2^60) k h
def SR {σ:St}{ρ:Fr}{e:Ex}(Y:evV σ ρ e=some (.int y)):evV σ ρ (.b .pow (.int 2) (.b .mod e (.int 8)))=some (.int (2^(y%8).toNat)):=by
 have#[W,Z]:=RW y;apply gX rfl (jN Y rfl (by decide)) ?_;show pb (0<=y%8/\y%8<=1000/\(2:Int).natAbs<2^64) (V.int (2^(y%8).toNat))=_;unfold pb;rw[br #[by show tH .a4 .a .aZ Z,by show uu (.ik .A (.n 1000)) .d (.l .A (.n 8)) .aZ W Z,by decide]]
def pC (W:P 1000=some SM.fnL){y:Int}{σ:St}{Q:V->St->Prop}(h:Q (.int (Jb b y)) σ):fk P (n+1) 1000 [.int y,.int b] σ Q:=by
 apply#[SM.fnL,W,az 2,az 2,?_];have#[Y,Z]:=DP (RW y).1;show CS (.int (Jb b y)) (jN (nX (a:=.l 1) (x:=b) rfl (SR (e:=.l 0) (y:=y) rfl) Y Z) rfl (by decide)) h
def IQ (Z:P 1000=some SM.fnL):OY (fk P (n+1)) (.clo 0 [.int b]) (Jb b):=#[0,[.int b],rfl,λy σ Q q=>pC Z q]
abbrev jkB (b y:Int):Bool:=Jb b y != 0
def S9:jkB b y=true↔Jb b y=1:=by
 unfold jkB;rcases TP b y with e|e<;>(rw[e];decide)
def EK (Z:P 1000=some SM.fnL):jW (fk P (n+1)) (.clo 0 [.int b]) (jkB b):=.inr #[0,[.int b],rfl,λy σ Q q=>pC Z (q _ λ_ _ h=>h)]
def EL {C:Cal}(h:b%256=0):jW C .none (jkB b):=.inl #[rfl,λy=>by unfold jkB;rw[OX h];rfl]
abbrev tw (x y:Int):List V:=if y=x then [.int y] else []
def BJ (x:Int):∀l:List Int,(posOf (.int x) (l.reverse.map Key.int)).length=(l.reverse.flatMap (tw x)).length
 | []=>rfl
 |y::l=>by
  rw[yo,cu,List.flatMap_append,List.length_append,<- BJ x l];show(posOf (.int x) (l.reverse.map Key.int++[Key.int y])).length=_;rw[eB,List.length_append];have e:([y].flatMap (tw x))=tw x y:=List.flatMap_singleton ..;rw[e];unfold tw;by_cases c:y=x
  ·rw[br c,br (bx Key.int c)];rfl
  ·rw[aw c,aw λq=>c (Key.int.inj q)];rfl
def sD (x:Int)(ys:List Int):(posOf (.int x) (ys.map Key.int)).length=(ys.flatMap (tw x)).length:=by
 have:=BJ x ys.reverse
 rwa [List.reverse_reverse]at this
def s8 (x:Int):∀ys:List Int,(ys.flatMap (tw x)).length<=ys.length
 | []=>az _
 |y::ys=>by
  have Z:=s8 x ys;rw[j7,List.length_append,km];have:(tw x y).length<=1:=by
   unfold tw;split
   ·show az _
   ·show bh _
  (show fe (.k .M .Q) .b .aF (.k .A .U) Z this)
abbrev jK (ys:List Int):Nat:=if 200<=ys.length then ys.length/100+1 else ys.length
public abbrev rmB (b:Int)(ys:List Int)(k:Key):Bool:=qx (jkB b) k||qx (jG ys) k
def HK {ys:List Int}{x:Int}:(!rmB b ys (.int x))=(decide (Jb b x=0)&&decide ((ys.flatMap (tw x)).length<=jK ys)):=by
 have h:=s8 x ys;show(!(jkB b x||jG ys x))=_;rw[Bool.not_or];have Y:(!jkB b x)=decide (Jb b x=0):=by
  unfold jkB;rcases TP b x with e|e<;>(rw[e];decide)
 have Z:(!jG ys x)=decide ((ys.flatMap (tw x)).length<=jK ys):=by
  unfold jG jK;rw[sD];by_cases c:200<=ys.length
  ·rw[di c,br c,Bool.true_and];by_cases d:ys.length/100+1<(ys.flatMap (tw x)).length
   ·rw[di d,dk (gG.mpr d)];rfl
   ·rw[dk d,di (sd.mp d)];rfl
  ·rw[dk c,aw c,di h];rfl
 rw[Y,Z]
end SM
namespace SM
abbrev HI:Ex:=.K [(2,1)] (.seq (.l 3)) (.v 1) %[.c .eq (.l 1) (.l 2)|0] (.elt (.l 1))
def DM {C:Cal}{ρ:Fr}{σ:St}{bl:Addr}{x:Int}{ys:List Int}{Q:V->St->Prop}(I:ρ 1=some (.int x))(U:ρ 3=some (.L bl))(B:σ.L bl=some (ys.map V.int))(hz:ys.length<=bp)(k:∀c σ',Ext σ σ'->σ'.L c=some (ys.flatMap (tw x))->Q (.L c) σ'):wpE C HI ρ σ Q:=by
 apply Fv.K (C:=C) (u:=V.int) (us:=ys) (tw x) (λρ=>ρ 2=some (.int x)) (Gv.l U B) (by show jR [(2,1)] ρ 2=_;show I) hz (λσ' E y hy ρ' Z K hK=>?_) σ _ (Ext.refl σ) λc σ' E _ h=>k c σ' E h;apply hK _ Z ?_;apply Gives.test (b:=decide (y=x)) ?_ ?_
 ·have e1:evV σ' (upd ρ' 1 (.int y)) (.l 1)=some (.int y):=rfl;have e2:evV σ' (upd ρ' 1 (.int y)) (.l 2)=some (.int x):=Z;show(evV σ' (upd ρ' 1 (.int y)) (.l 1)).bind (λW=>(evV σ' (upd ρ' 1 (.int y)) (.l 2)).bind λY=>ur σ' .eq W Y)=_;rw[e1,e2];rfl
 ·unfold tw;by_cases c:y=x
  ·rw[di c,br rfl,br c];apply#[.int y,rfl,rfl]
  ·rw[dk c,aw (by decide),aw c]
end SM
namespace SM
variable {P:Nat->Option Fn}
abbrev jkN (n y:Int):Bool:=y==n+9
def EF (Z:P 1001=some R10.fnN){k:Nat}{n y:Int}{σ:St}{Q:V->St->Prop}(h:Q (.bool (jkN n y)) σ):fk P (k+1) 1001 [.int y,.int n] σ Q:=
 #[R10.fnN,Z,az 2,az 2,CS (.bool (jkN n y)) rfl h]
def VC (Z:P 1001=some R10.fnN){k:Nat}{n:Int}:jW (fk P (k+1)) (.clo 1 [.int n]) (jkN n):=.inr #[1,[.int n],rfl,λy σ Q q=>EF Z (q _ λ_ _ h=>h)]
def XN {n:Nat}{js:List Key}(J:JIs (jkN n) (xB n) js):Fix n (rmA false (jkN n) (xB n)) λc=>decide (c∈js) where
 n0:=xd n
 rm:=λc=>by
  cases c with
  |int y =>
   show(jkN n y||(false&&jG (xB n) y))=_;rw[Bool.false_and,we];unfold jkN;rw[deq];show jz.mpr #[λe=>bx Key.int e,Key.int.inj]
  |str s=>rfl
 j9:=di ((J (n+9) (.tail _ (.tail _ (.tail _ (.head _))))).mpr (rj _))
 jo:=λw Z=>dk λq=>by
  have Y:(n:Int)+w∈xB n:=by
   simp only[bw,lq,or_false]at Z;rcases Z with rfl|rfl|rfl|rfl|rfl
   ·show .head _
   ·show .tail _ (.head _)
   ·show .tail _ (.tail _ (.head _))
   ·show .tail _ (.tail _ (.tail _ (.tail _ (.head _))))
   ·show .tail _ (.tail _ (.tail _ (.tail _ (.tail _ (.tail _ (.tail _ (.head _)))))))
  have e:=eq_of_beq ((J _ Y).mp q);have:w=9:=by(show tH (.ie .A (.n 9)) .f (.ie (.a .L .A) (.a .L (.n 9))) e)
  clear q;subst this;show absurd Z (by decide)
def JC {n:Nat}{js:List Key}{L:List Bk}(J:JIs (jkN n) (xB n) js)(h:FL (xA n) (xB n) false (jkN n) js L):L=[(0,0,4),(4,6,2)]:=AH (XN J) h
def EP:codes 0 0 (mrg 0 0 0 [(0,0,4),(4,6,2)]++[(6,8,0)])=ER:=by rfl
def SK:∀t∈ER,PyData.strOk t.1=true:=by
 rw[<- EP];show l0
public abbrev zer (b:List Int):List Int:=b++List.replicate 200 0
structure WN (ρ:Fr)(σ:St)(la lb lp sl:Addr)(m bits:Int)(ns a b:List Int)(ps:List (Pc×Addr)):Prop where
 F:LF ρ la lb lp sl m bits
 H:LS σ la lb lp [(sl,ns)] a (zer b) ps
 L:Laid 61 a b ps
def V2 (Y:PX P){ρ:Fr}{σ:St}{la lb lp sl U ob da:Addr}{m bits:Int}{ns a b:List Int}{ps:List (Pc×Addr)}{n:Nat}{K:Fl->Fr->St->Prop}(E:yN ρ σ la lb lp sl m bits ns a b ps n U ob da)(h:∀ρ' σ',WN ρ' σ' la lb lp sl m bits ns a b ps->K .next ρ' σ'):tP (fk P 6) R10.yG 7 R10.O7 (.clo 1 [.int n]) ρ σ λσ=>fw (fk P 6) R10.DX ρ σ K:=by
 apply#[_,E.r9,_,E.r10,?_];apply λx d I=>tR (n:=2) Y.h0 Y.h1 Y.h2 Y.h3 Y.h4 Y.h5 Y.h6 Y.h7 (xs:=xA n) (ys:=xB n) (aj:=false) (jk:=jkN n) (.inl rfl) E.La E.Lb (by show 8<4000;decide) (by show 6<400000;decide) (VC Y.hN) (λjs L hj hb=>?_) (λσ' c3 js L T=>?_) x d I
 ·rw[JC hj hb];show 2<64;decide
 ·have e:=T.at_;rw[JC T.J T.B]at e;have e:σ'.L c3=some (ER.map oV):=e;apply#[_,E.r8,?_];apply FP e (T.kp _ _ E.Ld) SK #[rfl,?_];have H:=E.X.H.ext T.kp;have b2:=E.X.L.b2;apply#[_,E.X.F.r4,?_];apply RA (u:=0) (n:=200) rfl (λ_=>rfl) (by decide) λc σ2 E2 hc hL=>?_;have W:=H.ext E2.L;apply qI W.Lb hL (H.new hc).2.1.symm (by rw[jf];unfold bp;(show dp (.k (.a .A .aL) .Z) .a .a6 b2)) ?_;show h _ _ #[#[E.X.F.r0,E.X.F.r2,E.X.F.r3,rfl,E.X.F.r5,E.X.F.r20],W.setB,E.X.L]
end SM
end MP
end
section
namespace MP
abbrev kO (ff:Pc->Nat)(P:Pc):List Bk:=if ff P<P.2.2.length then [(P.1+ff P,P.2.1+ff P,P.2.2.length-ff P)] else []
abbrev keep (ff:Pc->Nat)(ps:List Pc):List Bk:=ps.flatMap (kO ff)
section
variable {ff:Pc->Nat}{ps:List Pc}{x y:Nat}{t:Bk}{P:Pc}
def sM (h:t∈kO ff P):ff P<P.2.2.length/\t=(P.1+ff P,P.2.1+ff P,P.2.2.length-ff P):=by
 unfold kO at h;by_cases c:ff P<P.2.2.length
 ·rw[br c]at h;apply#[c,aq.mp h]
 ·rw[aw c]at h;cases h
def kN (h:t∈keep ff ps):∃P∈ps,ff P<P.2.2.length/\t=(P.1+ff P,P.2.1+ff P,P.2.2.length-ff P):=by
 have#[P,Z,h]:=List.mem_flatMap.mp h;apply#[P,Z,sM h]
def y4:Cov (keep ff ps) x y↔∃P∈ps,∃o,o<P.2.2.length/\ff P<=o/\x=P.1+o/\y=P.2.1+o:=by
 constructor
 ·rintro ⟨t,U,o,Y,rfl,rfl⟩;have#[P,W,Z,rfl]:=kN U;dsimp only at Y ⊢;apply#[P,W,ff P+o,by show dj .L .b .aR (.e .aC .C) Y (aa (ax .A .a .B Z)),ll _ _,gq ..,gq ..]
 ·rintro ⟨P,W,o,Y,Z,rfl,rfl⟩;apply#[(P.1+ff P,P.2.1+ff P,P.2.2.length-ff P),List.mem_flatMap.mpr #[P,W,?_],o-ff P,by dsimp only;(show jd .B .k .R (.e .aA .C) (.e .a6 .D) Y (aa (ax .A .a .A Z)) (aa (fe .A .b .N .I Y Z))),by dsimp only;(show pz .aY .e .c9 (aa (ax .A .a .A Z))),by dsimp only;(show pz .aY .e .c9 (aa (ax .A .a .A Z)))];unfold kO;rw[br (oe Z Y)];show .head _
def pE:∀{ps:List Pc},ps.Pairwise Bef->zf (keep ff ps)
 | []=>λ_=>#[λt h=>(by cases h),.nil]
 |P::ps=>λh=>by
  have#[h1,h2]:=ib.mp h;have W:=pE h2;apply#[λt Y=>?_,?_]
  ·have#[Q,_,Z,rfl]:=kN Y;dsimp only;(show fe .H .d .aJ .V Z (aa (ax .A .a .B Z)))
  ·show((P::ps).flatMap (kO ff)).Pairwise dT;rw[j7];apply rA.mpr #[?_,W.ord,λt Y u U=>?_]
   ·unfold kO;by_cases c:ff P<P.2.2.length
    ·rw[br c];show xg ..
    ·rw[aw c];show .nil
   ·have#[Z,rfl]:=sM Y;have#[Q,I,hg,rfl]:=kN U;have:=h1 Q I;unfold Bef at this;unfold dT;dsimp only
    (show#[(FH (.k .a3 .a0) .b (.l .aN .D) (.e .a1 .G) this.1 (aa (ax .A .a .B Z))),(FH (.k .a3 .a0) .b (.l .aN .D) (.e .a1 .G) this.2 (aa (ax .A .a .B Z)))])
def zR (h:ps.Pairwise Bef):qL (keep ff ps):=λt U q=>by
 have#[P,hP,W,rfl]:=kN U;have#[Q,I,o,Y,hg,Z,e2]:=y4.mp q;dsimp only at Z e2;rcases tri h hP I with e|r|r
 ·subst e;(show jd .ff [[0,1,1,-1]] .B (.e (.a .S .F) (.a .C .A)) (.e .aH .B) Y Z (aa (ax .A .a .B W)))
 ·unfold Bef at r;(show ui .ff [[0,-1,1,1]] (.e .a3 .a0) (.l .aN .D) (.e .a1 .G) Z r.1 (aa (ax .A .a .B W)))
 ·unfold Bef at r;(show ui .ff .o .B (.e (.a .S .F) (.a .G .A)) (.l (.a .G .B) .C) Y Z r.1)
end
section
variable {a b:List Int}{fr:List Pc}{l:Pc}{rm js:Key->Bool}{pl:Int->Bool}{J:Int->Int}{ff:Pc->Nat}{z:Nat}{L:List Bk}
structure FFs (pl:Int->Bool)(J:Int->Int)(ff:Pc->Nat)(ps:List Pc):Prop where
 zero:∀P∈ps,P.1=0->ff P=0
 first:∀P∈ps,P.1≠0->nc pl J P.2.2 (ff P)
def Lay.blocks (H:Lay a b fr l)(hz:rm (.int 0)=true)(hp:∀(j:Nat) (c:Key),((b++List.replicate z 0).map Key.int)[j]?=some c->rm c=false->js c=false)(K:∀P∈fr++[l],Kinds rm js pl J P.2.2)(F:FFs pl J ff (fr++[l]))
  (h:kq (Flm (a.map Key.int) ((b++List.replicate z 0).map Key.int) rm js) 0 (a.map Key.int).length 0 ((b++List.replicate z 0).map Key.int).length L):mrg 0 0 0 L=keep ff (fr++[l]):=by
 have W:=H.own (z:=z) (js:=js) hz hp;have ok:=kq.ok (λ_ _ _ _ _ h=>h.within) h;have C:=JR W h (λi j o=>#[λ_=>bh _,λ_=>bh _]) (λi j o=>by
  have:=H.bound o;rw[ak,ak,List.length_append]
  (show#[λU=>(vg .K .c .cB (.k .F .D) this.1 U),λU=>(vg .A .c .R .c8 this.2 U)])) H.tch
 apply N3 #[λt ht=>(ok.1 t ht).2,ok.2] (pE H.bef) (zR H.bef) λx y=>?_;rw[C x y,y4];rw[ak];constructor
 ·rintro ⟨⟨P,Z,o,Y,rfl,rfl⟩,_,_,M⟩;apply#[P,Z,o,Y,?_,rfl,rfl];by_cases c:P.1=0
  ·rw[F.zero P Z c];show bh _
  ·show(H.V1 Z (K P Z) (F.first P Z c) Y M).resolve_left c
 ·rintro ⟨P,Z,o,Y,hf,rfl,rfl⟩;have o':InP (fr++[l]) (P.1+o) (P.2.1+o):=#[P,Z,o,Y,rfl,rfl];apply#[o',bh _,(H.bound o').1,?_];by_cases c:P.1=0
  ·have I:=(H.zero P Z).mp c;apply .start o (ax (.e .M .aS) .t .G c) (ax (.e .M .aS) .t .G I) ?_;have:=H.ownIn (o:=0) (n:=o+1) Z (ax (.k (.a .O .P) .B) .a .B Y);rw[c,I]at this;show this
  ·show H.UY Z (K P Z) (F.first P Z c) Y (.inr hf)
def t5 (p:Int->Bool):∀{L:List Bk} {n:Nat},zf L->(∀t∈L,n<=t.1/\∃v,a[t.1]?=some v/\p v=true)->L.length<=((a.drop n).filter p).length
 | [],n=>λ_ _=>bh _
 |t::r,n=>λh Y=>by
  have#[hn,v,e,W]:=Y t (.head _);have hr:=ib.mp h.ord;have ht:=h.pos t (.head _);have U:=t5 p (L:=r) (n:=t.1+1) h.tail λu Z=>by
   have:=hr.1 u Z;unfold dT at this;apply#[by show fe .F .b .b7 (.k .X .B) ht this.1,(Y u (.tail _ Z)).2]
  have e1:a.drop n=(a.drop n).take (t.1-n)++a.drop t.1:=by
   have:=(zh (t.1-n) (a.drop n)).symm;rw[List.drop_drop,show n+(t.1-n)=t.1 by(show dt .V .f .a2 (aa (ax .A .a .A hn)))]at this;show this
  have#[hl,rfl]:=bc.mp e;have e2:a.drop t.1=a[t.1]::a.drop (t.1+1):=ky hl;rw[e1,sf,List.length_append,e2,rn W,km,km]
  (show dt (.k .P .aF) .a .I U)
def Lay.few (H:Lay a b fr l)(hz:rm (.int 0)=true)(U:∀(j:Nat) (c:Key),((b++List.replicate z 0).map Key.int)[j]?=some c->rm c=false->js c=false)
  (h:kq (Flm (a.map Key.int) ((b++List.replicate z 0).map Key.int) rm js) 0 (a.map Key.int).length 0 ((b++List.replicate z 0).map Key.int).length L):L.length<=(a.filter λv=>decide (0<=v)).length:=by
 have W:=H.own (z:=z) (js:=js) hz U;have ok:=kq.ok (λ_ _ _ _ _ h=>h.within) h;have C:=JR W h (λi j o=>#[λ_=>bh _,λ_=>bh _]) (λi j o=>by
  have:=H.bound o;rw[ak,ak,List.length_append]
  (show#[λY=>(vg .K .c .cB (.k .F .D) this.1 Y),λY=>(vg .A .c .R .c8 this.2 Y)])) H.tch
 apply t5 (λv=>decide (0<=v)) (n:=0) #[λt Z=>(ok.1 t Z).2,ok.2] λt Z=>#[bh _,?_];have#[o,_]:=(C t.1 t.2.1).mp #[t,Z,0,(ok.1 t Z).2,rfl,rfl];have#[v,B,_,I]:=H.val o;apply#[v,B,di I]
end
end MP
end
section
namespace MP
open PySem
namespace SM
variable {σ:St}
def dI {G:St->Prop}{T:V->Fr->List V->St->(Fr->List V->St->Prop)->Prop}{K:Fr->List V->St->Prop}{σ₀:St}(p:Int->Bool)(Inv:Fr->Prop)(I:∀σ,Ext σ₀ σ->G σ):∀(us acc:List Int) (ρ:Fr) (σ:St),Inv ρ->Ext σ₀ σ->acc.length+us.length<bp->(∀y∈us,∀ρ (acc:List V) σ (k:Fr->List V->St->Prop),Inv ρ->Ext σ₀ σ->acc.length<bp->(∀ρ' σ',Inv ρ'->Ext σ₀ σ'->k ρ' (if p y then acc++[.int y] else acc) σ')->T (.int y) ρ acc σ k) ->
  (∀ρ' σ',Inv ρ'->Ext σ₀ σ'->K ρ' ((acc++us.filter p).map V.int) σ')->nN (us.map V.int) G T ρ (acc.map V.int) σ K
 | []=>λacc ρ σ hi E hz step fin=>#[I σ E,by have:=fin ρ σ hi E;rwa [List.filter_nil,dg]at this]
 |y::us=>λacc ρ σ hi E hz step fin=>by
  have Y:acc.length+us.length+1<bp:=hz;apply#[I σ E,step y (.head _) ρ _ σ _ hi E (by rw[ak];(show dt .B .a (.l (.a .X .U) .B) Y)) λρ' σ' W E'=>?_];cases h:p y with
  |true =>
   rw[br rfl];have ih:=dI (T:=T) (K:=K) p Inv I us (acc++[y]) ρ' σ' W E' (by rw[List.length_append,ee];(show dt (.l (.a .P .B) .C) .a (.l .aI .C) Y)) (λz hz=>step z (.tail _ hz)) λZ σ2 h2 E2=>by
    have:=fin Z σ2 h2 E2
    rwa [rn h,List.append_cons]at this
   rwa [cu]at ih
  |false =>
   rw[aw (by decide)];show dI (T:=T) (K:=K) p Inv I us acc ρ' σ' W E' (dt .L .a (.l .aI .C) Y) (λz hz=>step z (.tail _ hz)) λZ σ2 h2 E2=>by
    have:=fin Z σ2 h2 E2
    rwa [lQ (by rw[h];decide)]at this
abbrev plB (b:Int)(ys:List Int)(x:Int):Bool:=!rmB b ys (.int x)
abbrev lY:Ex:=.and (.c .eq (.w 4 %[.l 1|0]) (.int 0)) (.c .le (.bf .len %[HI|0]) (.b .add (.b .fdiv (.bf .len %[.l 3|0]) (.int 100)) (.int 1)))
abbrev RN:Ex:=.K [(3,4),(4,11)] (.seq (.l 3)) (.v 1) %[lY|0] (.elt (.l 1))
def CT {C:Cal}{ρ:Fr}{e f:Ex}{Q:Bool->St->Prop}:wpT C (.c .le (.bf .len %[e|0]) f) ρ σ Q=wpE C e ρ σ λv σ=>CW .len [v] σ λY σ=>wpE C f ρ σ λZ σ=>iJ .le Y Z σ λr=>Q r σ:=rfl
def z7 {P:Nat->Option Fn}(hP:P 1000=some SM.fnL){n:Nat}{ρ:Fr}{b x:Int}{bl:Addr}{ys:List Int}{Q:Bool->St->Prop}(I:ρ 1=some (.int x))(W:ρ 3=some (.L bl))(r4:ρ 4=some (.clo 0 [.int b]))(Lb:σ.L bl=some (ys.map V.int))(Z:200<=ys.length)(ly:ys.length<100000)
  (k:∀σ',Ext σ σ'->Q (plB b ys x) σ'):wpT (fk P (n+1)) lY ρ σ Q:=by
 apply#[_,r4,_,I,?_];apply pC hP ?_;unfold plB at k;rw[HK]at k;show if (Jb b x==0)=true then _ else _
 rw[deq];by_cases c:Jb b x=0
 ·rw[di c,Bool.true_and]at k;rw[di c,br rfl,CT];apply DM (ρ:=ρ) (x:=x) I W Lb (by unfold bp;(show dp .bH .a (.l .A (.n 100000)) ly)) λc2 σ2 E2 Y=>?_;apply#[_,Y,?_];apply jc _ (v:=.int (jK ys:Nat)) ?_ ?_
  ·apply(ye (nX (ub W (E2.L _ _ Lb)) (b:=.int 100) (y:=100) rfl (by decide) (by decide)) (b:=.int 1) rfl).trans (bx (λz=>some (V.int z)) ?_);unfold jK;rw[br Z];(show QB (.ie (.a .A .U) (.t .P)) [[100,0,1,-1,0,1],[100,1,0,1,1,-1]] (.ik .O .B) (.il .B (.n 100)) (.ie (.a (.m 100 .A) .B) .P) (.l .C (.n 100)) (.e (.a (.m 100 .A) .C) .B) (Ar.imod _ 100 (by decide)).1 (Ar.imod _ 100 (by decide)).2.1 (Ar.imod _ 100 (by decide)).2.2 (Ar.zm _ 100 (by decide)).1 (Ar.zm _ 100 (by decide)).2)
  ·show Q (decide (((ys.flatMap (tw x)).length:Int)<=(jK ys:Nat))) σ2;rw[jz.mpr (Int.ofNat_le (m:=(ys.flatMap (tw x)).length) (n:=jK ys))];show k _ E2
 ·rw[dk c,Bool.false_and]at k;rw[dk c,aw (by decide)];show k _ (Ext.refl _)
def MT {P:Nat->Option Fn}(hP:P 1000=some SM.fnL){n:Nat}{ρ:Fr}{b:Int}{al bl:Addr}{xs ys:List Int}{Q:V->St->Prop}(r3:ρ 3=some (.L al))(r4:ρ 4=some (.L bl))(W:ρ 11=some (.clo 0 [.int b]))(La:σ.L al=some (xs.map V.int))(Lb:σ.L bl=some (ys.map V.int))(lx:xs.length<100000)(Y:200<=ys.length)(ly:ys.length<100000)
  (k:∀c σ',Ext σ σ'->σ.L c=none->σ'.L c=some ((xs.filter (plB b ys)).map V.int)->Q (.L c) σ'):wpE (fk P (n+1)) RN ρ σ Q:=by
 apply#[_,r3,_,La,?_];apply dI (σ₀:=σ) (plB b ys) (λρ=>ρ 3=some (.L bl)/\ρ 4=some (.clo 0 [.int b])) (λσ' E=>E.L _ _ La) xs [] _ σ #[r4,W] (Ext.refl σ) (by rw[List.length_nil];unfold bp;(show dp (.l .aV .Z) .a (.l .A (.n 100000)) lx)) (λx _ ρ' acc σ' kk B E ha hk=>?_) λρ' σ' B E=>?_
 ·have#[I,U]:=B;show wpT (fk P (n+1)) lY (upd ρ' 1 (.int x)) σ' _;apply z7 hP rfl I U (E.L _ _ Lb) Y ly λσ2 E2=>?_;have:=hk (upd ρ' 1 (.int x)) σ2 #[I,U] (E.trans E2);cases h:plB b ys x with
  |true =>
   rw[h,br rfl]at this;show j8 (fk P (n+1)) (.elt (.l 1)) (upd ρ' 1 (.int x)) acc σ2 kk;apply#[_,rfl,ha,this]
  |false =>
   rw[h,aw (by decide)]at this;show this
 ·rw[sv];intro c hc;show k c _ (E.cz (E.noL hc)) (E.noL hc) (bg _ _ _)
def zY {pl:Int->Bool}{J:Int->Int}{pc:List Int}{f I:Nat}(h:nc pl J pc f)(h':nc pl J pc I):f=I:=by
 rcases fS (pl:=pl) pc with no|⟨s,v,U,W,Y⟩
 ·rw[h.none no,h'.none no]
 ·have#[g,g1,e,g3,g4]:=h.some s v U W Y;have#[k,Z,e',k3,k4]:=h'.some s v U W Y;have:=g4 k Z k3;have:=k4 g g1 g3
  (rename_i B;show T9 .C [[1,-1,1,0,1,-1,1],[1,1,-1,1,0,1,-1]] (.e .A .C) .c0 (.k .F .G) (.k .G .F) (.e .aU .H) (.e .a0 .H) e e' B this (aa (ax .A .a .A g1)) (aa (ax .A .a .A Z)))
abbrev ffX (pl:Int->Bool)(J:Int->Int)(P:Pc):Nat:=if P.1=0 then 0 else Classical.epsilon λf=>nc pl J P.2.2 f
def SO {pl:Int->Bool}{J:Int->Int}{P:Pc}{f:Nat}(h0:P.1≠0)(h:nc pl J P.2.2 f):ffX pl J P=f/\nc pl J P.2.2 (ffX pl J P):=by
 have e:ffX pl J P=Classical.epsilon λf=>nc pl J P.2.2 f:=aw h0;have s:nc pl J P.2.2 (ffX pl J P):=by
  rw[e];show Classical.epsilon_spec (p:=λf=>nc pl J P.2.2 f) #[f,h]
 apply#[zY s h,s]
abbrev eqO (i p j q:Nat):List O5:=[("equal",i,p,j,q)]
abbrev cdS (ff:Pc->Nat)(s:Nat×Nat×List O5)(P:Pc):Nat×Nat×List O5:=if ff P<P.2.2.length then (P.1+P.2.2.length,P.2.1+P.2.2.length,(s.2.2++dM s.1 (P.1+ff P) s.2.1 (P.2.1+ff P))++eqO (P.1+ff P) (P.1+P.2.2.length) (P.2.1+ff P) (P.2.1+P.2.2.length)) else s
abbrev cdF (ff:Pc->Nat)(s:Nat×Nat×List O5)(ps:List Pc):Nat×Nat×List O5:=ps.foldl (cdS ff) s
def qF {ff:Pc->Nat}{n m:Nat}:∀{ps:List Pc} {s:Nat×Nat×List O5},ps.Pairwise Bef->(∀P∈ps,s.1<=P.1/\s.2.1<=P.2.1/\P.1+P.2.2.length<=n/\P.2.1+P.2.2.length<=m)->s.1<=n->s.2.1<=m ->
  (cdF ff s ps).2.2++dM (cdF ff s ps).1 n (cdF ff s ps).2.1 m=s.2.2++codes s.1 s.2.1 (keep ff ps++[(n,m,0)])
 | [],s=>λ_ _ I U=>by
  show s.2.2++dM s.1 n s.2.1 m=s.2.2++(chg s.1 n s.2.1 m++(eql n m 0++[]));rw[qE I U];show bx (s.2.2++·) (dg _).symm
 |P::ps,s=>λhp hb I U=>by
  have#[W,Z]:=ib.mp hp;have#[b1,b2,b3,b4]:=hb P (.head _);have ek:keep ff (P::ps)=kO ff P++keep ff ps:=j7 ..;show(cdF ff (cdS ff s P) ps).2.2++dM (cdF ff (cdS ff s P) ps).1 n (cdF ff (cdS ff s P) ps).2.1 m=_;rw[ek];by_cases c:ff P<P.2.2.length
  ·have e1:cdS ff s P=(P.1+P.2.2.length,P.2.1+P.2.2.length,(s.2.2++dM s.1 (P.1+ff P) s.2.1 (P.2.1+ff P))++eqO (P.1+ff P) (P.1+P.2.2.length) (P.2.1+ff P) (P.2.1+P.2.2.length)):=br c;have e2:kO ff P=[(P.1+ff P,P.2.1+ff P,P.2.2.length-ff P)]:=br c;rw[e1,e2];have ih:=qF (ff:=ff) (n:=n) (m:=m) (ps:=ps) (s:=(P.1+P.2.2.length,P.2.1+P.2.2.length,(s.2.2++dM s.1 (P.1+ff P) s.2.1 (P.2.1+ff P))++eqO (P.1+ff P) (P.1+P.2.2.length) (P.2.1+ff P) (P.2.1+P.2.2.length))) Z (λQ Y=>by
    have:=W Q Y;unfold Bef at this;have#[_,_,q3,q4]:=hb Q (.tail _ Y);apply#[mh this.1,mh this.2,q3,q4]) b3 b4
   rw[ih];have e3:eql (P.1+ff P) (P.2.1+ff P) (P.2.2.length-ff P)=eqO (P.1+ff P) (P.1+P.2.2.length) (P.2.1+ff P) (P.2.1+P.2.2.length):=by
    unfold eql eqO;rw[aw (fe (.u .A .O) .d .aJ .V c (aa (ax .A .a .B c))),show P.1+ff P+(P.2.2.length-ff P)=P.1+P.2.2.length by show pz .bS .f .bB (aa (ax .A .a .B c)),show P.2.1+ff P+(P.2.2.length-ff P)=P.2.1+P.2.2.length by(show pz .bS .f .bB (aa (ax .A .a .B c)))]
   show _=s.2.2++(chg s.1 (P.1+ff P) s.2.1 (P.2.1+ff P)++(eql (P.1+ff P) (P.2.1+ff P) (P.2.2.length-ff P)++codes (P.1+ff P+(P.2.2.length-ff P)) (P.2.1+ff P+(P.2.2.length-ff P)) (keep ff ps++[(n,m,0)])));rw[e3,qE (dt .b1 .a .A b1) (dt .b1 .a .A b2),show P.1+ff P+(P.2.2.length-ff P)=P.1+P.2.2.length by show pz .bS .f .bB (aa (ax .A .a .B c)),show P.2.1+ff P+(P.2.2.length-ff P)=P.2.1+P.2.2.length by(show pz .bS .f .bB (aa (ax .A .a .B c)))];dsimp only;rw[ji,ji]
  ·have e1:cdS ff s P=s:=aw c;have e2:kO ff P=[]:=aw c;rw[e1,e2,sv];show qF Z (λQ Y=>hb Q (.tail _ Y)) I U
end SM
end MP
end
section
set_option genInjectivity false
set_option genSizeOf false
namespace MP
open PySem
namespace SM
abbrev HV:jw:=(.cons (.aug 13 .add (.call 11 %[.l 14,.b .add (.l 16) (.l 19),.l 15,.b .add (.l 17) (.l 19)|0]))
 (.cons (.a [.T [14,15]] (.T %[.b .add (.l 16) (.bf .len %[.l 18|0]),.b .add (.l 17) (.bf .len %[.l 18|0])|0]))
 (.cons (.expr (.bm .append (.l 13) %[.T %[.str "equal",.b .add (.l 16) (.l 19),.l 14,.b .add (.l 17) (.l 19),.l 15|0]|0]))
 .nil)))
abbrev wO:jw:=.cons (.C (.c .lt (.l 19) (.bf .len %[.l 18|0])) HV .nil) .nil
abbrev wQ:jw:=(.cons (.a [(.v 19)] (.I (.c .eq (.l 16) (.int 0)) (.int 0) (.call 10 %[.l 18,.l 11,.l 12|0]))) wO)
structure PC where
 la:Addr
 lb:Addr
 lp:Addr
 pl:Addr
 zl:Addr
 bits:Int
 zs:List Int
 σ:St
structure PF (c:PC)(ρ:Fr):Prop where
 r3:ρ 3=some (.L c.la)
 r4:ρ 4=some (.L c.lb)
 r5:ρ 5=some (.L c.lp)
 r11:ρ 11=some (.clo 0 [.int c.bits])
 r12:ρ 12=some (.L c.pl)
 r13:ρ 13=some (.L c.zl)
 r20:ρ 20=some (.int c.bits)
def PF.up {c:PC}{ρ:Fr}(h:PF c ρ){n:Nat}{v:V}(Z:13<n/\n≠20):PF c (upd ρ n v):=
 #[(bz (dp (.u .aZ .A) .x .cH Z.1)).trans h.r3,(bz (dp (.u .aT .A) .x .cH Z.1)).trans h.r4,(bz (dp (.u (.n 5) .A) .x .cH Z.1)).trans h.r5,(bz (dp (.u (.n 11) .A) .x .cH Z.1)).trans h.r11,(bz (dp (.u (.n 12) .A) .x .cH Z.1)).trans h.r12,(bz (dp (.u (.n 13) .A) .x .cH Z.1)).trans h.r13,(bz Z.2.symm).trans h.r20]
structure PI (c:PC)(s:Nat×Nat×List O5)(ρ:Fr)(σ:St):Prop where
 F:PF c ρ
 r14:ρ 14=some (.int (s.1:Nat))
 r15:ρ 15=some (.int (s.2.1:Nat))
 kp:∀x xs,c.σ.L x=some xs->σ.L x=some xs
 z:σ.L c.zl=some (s.2.2.map oV)
public abbrev ffC (c:PC):Pc->Nat:=ffX (λv=>c.zs.contains v) (Jb c.bits)
section
variable {c:PC}{P:Nat->Option Fn}{ρ:Fr}{σ:St}{s:Nat×Nat×List O5}{p:Pc}{x:Addr}
def s9 (X':PX P)(hz:c.σ.L c.zl=none)(I:PI c s ρ σ)(r16:ρ 16=some (.int (p.1:Nat)))(ar:ρ 17=some (.int (p.2.1:Nat)))(ao:ρ 18=some (.L x))(hx:c.σ.L x=some (p.2.2.map V.int))(W:ρ 19=some (.int (ffC c p:Nat)))(hs:s.2.2.length<1000)
  {again:Fr->St->Prop} {K:Fl->Fr->St->Prop} (h:∀ρ' σ',PI c (cdS (ffC c) s p) ρ' σ'->again ρ' σ'):fw (fk P 6) wO ρ σ (uq again K):=by
 have bd:=I.kp _ _ hx;unfold cdS at h;apply nQ (ffC c p<p.2.2.length) (JE W (ub ao bd)) (λq=>?_) λq=>?_
 ·rw[br q]at h;apply#[_,I.F.r13,?_];rw[gO];have bl:evV σ ρ (.l 14)=some (.int (s.1:Nat)):=I.r14;have be:evV σ ρ (.l 15)=some (.int (s.2.1:Nat)):=I.r15;have a1:∀σ',evV σ' ρ (.b .add (.l 16) (.l 19))=some (.int ((p.1+ffC c p:Nat):Int)):=λσ'=>ye (a:=.l 16) (b:=.l 19) r16 W;have a2:∀σ',evV σ' ρ (.b .add (.l 17) (.l 19))=some (.int ((p.2.1+ffC c p:Nat):Int)):=λσ'=>ye (a:=.l 17) (b:=.l 19) ar W;apply nu _ (vs:=[.int (s.1:Nat),.int ((p.1+ffC c p:Nat):Int),.int (s.2.1:Nat),.int ((p.2.1+ffC c p:Nat):Int)]) ?_ ?_
  ·rw[du,bl,du,a1,du,be,du,a2];rfl
  apply jM (n:=5) X'.h11 λc2 U=>?_;have hl:=lA (i:=s.1) (p:=p.1+ffC c p) (j:=s.2.1) (q:=p.2.1+ffC c p);generalize dM s.1 (p.1+ffC c p) s.2.1 (p.2.1+ffC c p)=B at h hl ⊢;have n2:c.zl≠c2:=λe=>by rw[<- e,I.z]at U;cases U
  apply#[s.2.2.map oV,B.map oV,n2,(bz n2).trans I.z,bg _ _ _,by rw[ak,ak];unfold bp;(show fy (.k .M .Z) .b .T .cI hs hl),?_];have kp:∀y xs,c.σ.L y=some xs->((σ.cz c2 (B.map oV)).cz c.zl (s.2.2.map oV++B.map oV)).L y=some xs:=λy xs e=>by
   have y1:y≠c.zl:=λq=>by rw[q,hz]at e;cases e
   have y2:y≠c2:=λq=>by rw[<- q,I.kp _ _ e]at U;cases U
   show(bz y1).trans ((bz y2).trans (I.kp _ _ e))
  have z3:((σ.cz c2 (B.map oV)).cz c.zl (s.2.2.map oV++B.map oV)).L c.zl=some ((s.2.2++B).map oV):=by
   rw[cu];show bg _ _ _
  generalize (σ.cz c2 (B.map oV)).cz c.zl (s.2.2.map oV++B.map oV)=Y at kp z3;show fw (fk P 6) _ (upd ρ 13 (.L c.zl)) Y _;have F3:PF c (upd ρ 13 (.L c.zl)):=#[I.F.r3,I.F.r4,I.F.r5,I.F.r11,I.F.r12,rfl,I.F.r20];have ai:upd ρ 13 (.L c.zl) 16=some (.int (p.1:Nat)):=r16;have ag:upd ρ 13 (.L c.zl) 17=some (.int (p.2.1:Nat)):=ar;have aE:upd ρ 13 (.L c.zl) 18=some (.L x):=ao;have ab:upd ρ 13 (.L c.zl) 19=some (.int (ffC c p:Nat)):=W;generalize upd ρ 13 (.L c.zl)=aj at F3 ai ag aE ab ⊢;have el:evV Y aj (.bf .len %[.l 18|0])=some (.int (p.2.2.length:Nat)):=ub aE (kp _ _ hx);apply KZ [.int ((p.1+p.2.2.length:Nat):Int),.int ((p.2.1+p.2.2.length:Nat):Int)] ?_ rfl ?_
  ·show(fD Y aj _).bind _=_;rw[du,ye (a:=.l 16) ai el,du,ye (a:=.l 17) ag el];rfl
  have F4:=(F3.up (n:=14) (v:=.int ((p.1+p.2.2.length:Nat):Int)) (by decide)).up (n:=15) (v:=.int ((p.2.1+p.2.2.length:Nat):Int)) (by decide);apply iX (oV ("equal",p.1+ffC c p,p.1+p.2.2.length,p.2.1+ffC c p,p.2.1+p.2.2.length)) F4.r13 z3 (QP rfl (ye (σ:=Y) (a:=.l 16) (b:=.l 19) ai ab) rfl (ye (σ:=Y) (a:=.l 17) (b:=.l 19) ag ab) rfl) (by rw[ak,List.length_append];unfold bp;(show fy (.l .M .Z) .b .T .cI hs hl)) ?_;apply iW (qb (h _ _ #[F4,rfl,rfl,λy xs e=>?_,?_]))
  ·have y1:y≠c.zl:=λq=>by rw[q,hz]at e;cases e
   show(bz y1).trans (kp _ _ e)
  ·show(bg _ _ _).trans (bx some (cu (f:=oV) (l₁:=s.2.2++B) (l₂:=eqO (p.1+ffC c p) (p.1+p.2.2.length) (p.2.1+ffC c p) (p.2.1+p.2.2.length))).symm)
 ·rw[aw q]at h;show iW (qb (h _ _ I))
def DQ (X':PX P)(hz:c.σ.L c.zl=none)(hp:c.σ.L c.pl=some (c.zs.map V.int))(I:PI c s ρ σ)(hx:c.σ.L x=some (p.2.2.map V.int))(ag:p.2.2.length<63)(hs:s.2.2.length<1000)
  {again:Fr->St->Prop} {K:Fl->Fr->St->Prop} (h:∀ρ' σ',PI c (cdS (ffC c) s p) ρ' σ'->(p.1≠0->nc (λv=>c.zs.contains v) (Jb c.bits) p.2.2 (ffC c p))->again ρ' σ'):fw (fk P 6) wQ (upd (upd (upd ρ 16 (.int (p.1:Nat))) 17 (.int (p.2.1:Nat))) 18 (.L x)) σ (uq again K):=by
 have F3:=((I.F.up (n:=16) (v:=.int (p.1:Nat)) (by decide)).up (n:=17) (v:=.int (p.2.1:Nat)) (by decide)).up (n:=18) (v:=.L x) (by decide);have ab:upd (upd (upd ρ 16 (.int (p.1:Nat))) 17 (.int (p.2.1:Nat))) 18 (.L x) 14=some (.int (s.1:Nat)):=I.r14;have B:upd (upd (upd ρ 16 (.int (p.1:Nat))) 17 (.int (p.2.1:Nat))) 18 (.L x) 15=some (.int (s.2.1:Nat)):=I.r15;have W:upd (upd (upd ρ 16 (.int (p.1:Nat))) 17 (.int (p.2.1:Nat))) 18 (.L x) 16=some (.int (p.1:Nat)):=rfl;have U:upd (upd (upd ρ 16 (.int (p.1:Nat))) 17 (.int (p.2.1:Nat))) 18 (.L x) 17=some (.int (p.2.1:Nat)):=rfl;have Y:upd (upd (upd ρ 16 (.int (p.1:Nat))) 17 (.int (p.2.1:Nat))) 18 (.L x) 18=some (.L x):=rfl;generalize upd (upd (upd ρ 16 (.int (p.1:Nat))) 17 (.int (p.2.1:Nat))) 18 (.L x)=Z at F3 ab B W U Y ⊢;rw[wQ,ti,AW];apply uc _ (mE (a:=.l 16) (b:=.int 0) (x:=p.1) (y:=0) W rfl) ?_;by_cases h0:p.1=0
 ·rw[di h0];apply iB ?_;have ef:ffC c p=0:=br h0;show s9 (ρ:=upd Z 19 (.int 0)) (s:=s) X' hz #[F3.up (by decide),ab,B,I.kp,I.z] W U Y hx (by rw[ef];rfl) hs λρ' σ' I'=>h ρ' σ' I' λq=>absurd h0 q
 ·rw[dk h0];apply fC ?_;rw[gO];apply nu _ (vs:=[.L x,.clo 0 [.int c.bits],.L c.pl]) ?_ ?_
  ·have e1:evV σ Z (.l 18)=some (.L x):=Y;have e2:evV σ Z (.l 11)=some (.clo 0 [.int c.bits]):=F3.r11;have e3:evV σ Z (.l 12)=some (.L c.pl):=F3.r12;rw[du,e1,du,e2,du,e3];rfl
  ·apply ED (n:=5) X'.h10 (IQ X'.hL) (I.kp _ _ hx) (I.kp _ _ hp) ag λσ2 f E FA=>?_;have#[ef,ai]:=SO h0 FA;have ef:ffC c p=f:=ef;rw[<- ef];show s9 (ρ:=upd Z 19 (.int (ffC c p:Nat))) (s:=s) X' hz #[F3.up (by decide),ab,B,λy xs e=>E.L _ _ (I.kp _ _ e),E.L _ _ I.z] W U Y hx (bg _ _ _) hs λρ' σ' I'=>h ρ' σ' I' λ_=>ai
end
end SM
end MP
end
section
namespace MP
open PySem
namespace SM
public abbrev tJ:V->St->Prop:=λv _=>v=.bool true
section
variable {a b:List Int}{fr:List Pc}{l:Pc}{bits:Int}{js:List Key}{L:List Bk}
def jZ:(zer b).length=b.length+200:=by
 rw[List.length_append,jf]
def vV (hb:b.length<1000):rmA true (jkB bits) (zer b) (.int 0)=true:=by
 show(jkB bits 0||jG (zer b) 0)=true;have:jG (zer b) 0=true:=by
  unfold jG;rw[sD,jZ];have e:(List.replicate 200 (0:Int)).flatMap (tw 0)=List.replicate 200 (V.int 0):=by rfl
  have:200<=((zer b).flatMap (tw 0)).length:=by
   rw[List.flatMap_append,List.length_append,e,jf];show Nat.le_add_left _ _
  rw[di (by(show iy (.k .aL (.a .A .aL)) .j):200<=b.length+200),di (by(show mf .cV [[100,1,100,1]] (.l .C (.n 1000)) (.k .aL .B) (.e (.a (.m 100 .A) .D) (.a .C .aL)) hb this (Ar.zm _ 100 (by decide)).2):(b.length+200)/100+1<((zer b).flatMap (tw 0)).length)];rfl
 rw[this,Bool.or_true]
def FO (J:JIs (jkB bits) (zer b) js)(j:Nat)(c:Key)(h:((b++List.replicate 200 0).map Key.int)[j]?=some c)(Z:rmA true (jkB bits) (zer b) c=false):decide (c∈js)=false:=by
 have#[v,e,rfl]:=kR h;apply dk λq=>?_;have:=(J v (cw e)).mp q;have Z:(jkB bits v||jG (zer b) v)=false:=Z;rw[this]at Z;cases Z
def EC (H:Lay a b fr l)(J:JIs (jkB bits) (zer b) js)(P:Pc)(Y:P∈fr++[l]):Kinds (rmA true (jkB bits) (zer b)) (λc=>decide (c∈js)) (λv=>(a.filter (plB bits (zer b))).contains v) (Jb bits) P.2.2 where
 pl:=λt v e=>by
  have Z:=cw (H.item P Y t v e).1;rw[List.contains_iff_mem,nF];show v∈a/\(!rmB bits (zer b) (.int v))=true↔rmB bits (zer b) (.int v)=false;rw[fh];apply#[And.right,λq=>#[Z,q]]
 j01:=TP bits
 js:=λt v e=>by
  have Z:v∈zer b:=dq _ (cw (H.item P Y t v e).2.1);rw[yk,J v Z];show S9
def NI (H:Lay a b fr l)(hb:b.length<1000)(Z:(a.filter λv=>decide (0<=v)).length<=61):Few a (zer b) true (jkB bits):=λjs L J h=>by
 have:=H.few (z:=200) (vV (bits:=bits) hb) (FO J) h
 (show fy .aM .b (.k .B (.n 61)) .A Z this)
def zN (H:Lay a b fr l)(hb:b.length<1000)(J:JIs (jkB bits) (zer b) js)(h:FL a (zer b) true (jkB bits) js L){ff:Pc->Nat}(F:FFs (λv=>(a.filter (plB bits (zer b))).contains v) (Jb bits) ff (fr++[l])):mrg 0 0 0 L=keep ff (fr++[l]):=
 H.blocks (z:=200) (vV (bits:=bits) hb) (FO J) (EC H J) F h
end
def FX {C:Cal}{ρ:Fr}{σ:St}{op:Cop}{e f:Ex}{Q:V->St->Prop}:wpE C (.c op e f) ρ σ Q=wpE C e ρ σ λY σ=>wpE C f ρ σ λZ σ=>iJ op Y Z σ λr=>Q (.bool r) σ:=rfl
section
variable {c:PC}{P:Nat->Option Fn}{ρ:Fr}{σ:St}{sl:Addr}{m:Int}{ns a b:List Int}{ps:List (Pc×Addr)}{s:Nat×Nat×List O5}
structure PLs (c:PC)(sl:Addr)(ns a b:List Int)(ps:List (Pc×Addr)):Prop where
 H:LS c.σ c.la c.lb c.lp [(sl,ns)] a (zer b) ps
 L:Laid 61 a b ps
 z:c.σ.L c.zl=none
 p:c.σ.L c.pl=some (c.zs.map V.int)
 zs:c.zs=a.filter (plB c.bits (zer b))
def RJ (Z:PX P)(S:PLs c sl ns a b ps)(F:PF c ρ)(U:∀x xs,c.σ.L x=some xs->σ.L x=some xs){cs:List O5}(hz:σ.L c.zl=some (cs.map oV))(Y:cs=codes 0 0 (keep (ffC c) (ps.map (·.1))++[(a.length,(zer b).length,0)]))(W:∀p∈ps.map (·.1),p.1≠0->nc (λv=>c.zs.contains v) (Jb c.bits) p.2.2 (ffC c p)):fw (fk P 6) R10.PM ρ σ (jD tJ):=by
 show wpE (fk P 6) (.c .eq (.meth (.n %[.I (.c .eq (.b .mod (.l 20) (.int 256)) (.int 0)) .none (.l 11),.l 3,.l 4|0]) 7 .nil) (.l 13)) ρ σ λv σ=>jD tJ (.ret v) ρ σ;rw[FX,vZ,vY];have#[fr,l,ep,LY]:=S.L.lay;have a2:=S.L.a2;have b2:=S.L.b2;have La:=U _ _ S.H.La;have Lb:=U _ _ S.H.Lb;have e0:evV σ ρ (.I (.c .eq (.b .mod (.l 20) (.int 256)) (.int 0)) .none (.l 11))=some (if c.bits%256=0 then .none else .clo 0 [.int c.bits]):=by
  apply v7 ?_ rfl F.r11;show(evV σ ρ (.b .mod (.l 20) (.int 256))).bind (λva=>(evV σ ρ (.int 0)).bind λvb=>ur σ .eq va vb)=_;rw[jN (a:=.l 20) (b:=.int 256) F.r20 rfl (by decide)];rfl
 have e3:evV σ ρ (.l 3)=some (.L c.la):=F.r3;have e4:evV σ ρ (.l 4)=some (.L c.lb):=F.r4;apply nu _ (vs:=[if c.bits%256=0 then .none else .clo 0 [.int c.bits],.L c.la,.L c.lb]) ?_ λx d hx=>?_
 ·rw[du,e0,du,e3,du,e4];rfl
 apply tR (n:=2) Z.h0 Z.h1 Z.h2 Z.h3 Z.h4 Z.h5 Z.h6 Z.h7 (xs:=a) (ys:=zer b) (aj:=true) (as:=[]) (jk:=jkB c.bits) (.inr #[rfl,rfl]) La Lb (by rw[jZ];(show dp (.l (.a .A .aL) (.n 4000)) .a .a6 b2)) (dp (.l .A .aP) .a .a6 a2) ?_ (NI LY (dp .T .a .a6 b2) S.L.p) (λσ' c3 js L T=>?_) x d hx
 ·by_cases q:c.bits%256=0
  ·rw[br q];show EL q
  ·rw[aw q];show EK Z.hL
 ·have e:=T.at_;have F':FFs (λv=>(a.filter (plB c.bits (zer b))).contains v) (Jb c.bits) (ffC c) (fr++[l]):=⟨λp hp h0=>br h0,λp hp h0=>by
   rw[<- S.zs];show W p (by rw[ep];show hp) h0⟩
  rw[zN LY (dp .T .a .a6 b2) T.J T.B F',<- ep,<- Y]at e;apply#[_,F.r13,?_];apply FV (K:=λr=>jD tJ (.ret (.bool r)) ρ σ') e (T.kp _ _ hz) (λt I=>?_) (show V.bool true=V.bool true from rfl);rw[Y]at I;show l0 t I
def RK (X':PX P)(S:PLs c sl ns a b ps)(I:PI c s ρ σ)(es:s=cdF (ffC c) (0,0,[]) (ps.map (·.1)))(hl:s.2.2.length<1000)(B:∀p∈ps.map (·.1),p.1≠0->nc (λv=>c.zs.contains v) (Jb c.bits) p.2.2 (ffC c p)):fw (fk P 6) R10.PN ρ σ (jD tJ):=by
 have#[fr,l,ep,W]:=S.L.lay;apply#[_,I.F.r13,?_];rw[gO];have ag:evV σ ρ (.l 14)=some (.int (s.1:Nat)):=I.r14;have ab:evV σ ρ (.l 15)=some (.int (s.2.1:Nat)):=I.r15;apply nu _ (vs:=[.int (s.1:Nat),.int (a.length:Nat),.int (s.2.1:Nat),.int ((zer b).length:Nat)]) ?_ ?_
 ·rw[du,ag,du,ub I.F.r3 (I.kp _ _ S.H.La),du,ab,du,ub I.F.r4 (I.kp _ _ S.H.Lb)];rfl
 apply jM (n:=5) X'.h11 λc2 Y=>?_;have U:=lA (i:=s.1) (p:=a.length) (j:=s.2.1) (q:=(zer b).length);have n2:c.zl≠c2:=λe=>by rw[<- e,I.z]at Y;cases Y
 apply#[s.2.2.map oV,(dM s.1 a.length s.2.1 (zer b).length).map oV,n2,(bz n2).trans I.z,bg _ _ _,by rw[ak,ak];unfold bp;(show fy (.k .M .Z) .b .T .cI hl U),?_];apply RJ X' (ρ:=upd ρ 13 (.L c.zl)) (cs:=s.2.2++dM s.1 a.length s.2.1 (zer b).length) S #[I.F.r3,I.F.r4,I.F.r5,I.F.r11,I.F.r12,rfl,I.F.r20] (λy xs e=>?_) ?_ ?_ B
 ·have y1:y≠c.zl:=λq=>by rw[q,S.z]at e;cases e
  have y2:y≠c2:=λq=>by rw[<- q,I.kp _ _ e]at Y;cases Y
  show(bz y1).trans ((bz y2).trans (I.kp _ _ e))
 ·rw[cu];show bg _ _ _
 ·rw[es,ep];apply(qF (s:=(0,0,[])) W.bef (λp hp=>#[bh _,bh _,?_]) (bh _) (bh _)).trans (sv _);rw[jZ];have la:=W.la;have lb:=W.lb;rcases cy.mp hp with q|q
  ·have:=W.ends p q
   (show#[(vg .K .b (.e .a0 .C) (.l .M .D) la this.1),(vg (.k .M (.a .C .aL)) .b (.e .a0 .C) (.l .M .D) lb this.2)])
  ·have rfl:=aq.mp q
   (show#[(dt .K .a .V la),(dt (.k .M (.a .C .aL)) .a .V lb)])
def T8 {ff:Pc->Nat}{p:Pc}:(cdS ff s p).2.2.length<=s.2.2.length+2:=by
 unfold cdS;by_cases q:ff p<p.2.2.length
 ·rw[br q];have:=lA (i:=s.1) (p:=p.1+ff p) (j:=s.2.1) (q:=p.2.1+ff p);show((s.2.2++_)++[_]).length<=_;rw[List.length_append,List.length_append,ee];(show ax (.k .aI .aM) .a .cI this)
 ·rw[aw q];show ll _ _
def RL (X':PX P)(S:PLs c sl ns a b ps)(I:PI c (0,0,[]) ρ σ):fw (fk P 6) R10.PQ ρ σ (jD tJ):=by
 have ln:=S.L.n;apply#[_,I.F.r5,_,I.kp _ _ S.H.Lp,?_];apply sq (λt ρ' σ'=>PI c (cdF (ffC c) (0,0,[]) ((ps.map (·.1)).take t)) ρ' σ'/\(cdF (ffC c) (0,0,[]) ((ps.map (·.1)).take t)).2.2.length<=2*t/\∀p∈(ps.map (·.1)).take t,p.1≠0->nc (λv=>c.zs.contains v) (Jb c.bits) p.2.2 (ffC c p)) ?_ ?_ #[I,az _,λp hp=>nomatch hp]
 ·intro t v ρ' σ' hv zz;have#[I',Y,Z]:=zz;apply#[I'.kp _ _ S.H.Lp,λkk hk=>?_];rw[cj]at hv;have#[p,ex,rfl]:=gm.mp hv;have ag:=(bc.mp ex).1;have hm:=cw ex;have ai:=S.L.l p hm;apply#[_,rfl,rfl,?_];have et:(ps.map (·.1)).take (t+1)=(ps.map (·.1)).take t++[p.1]:=by
   rw[List.take_add_one,cj,ex];rfl
  have ef:cdF (ffC c) (0,0,[]) ((ps.map (·.1)).take (t+1))=cdS (ffC c) (cdF (ffC c) (0,0,[]) ((ps.map (·.1)).take t)) p.1:=by
   rw[et];show List.foldl_append ..
  apply DQ (p:=p.1) (x:=p.2) X' S.z S.p I' (S.H.Lc p hm) (dp (.l .A (.n 63)) .a (.k .A (.n 61)) ai) (pq .T [[1,2,1,2]] (.k .B (.a (.n 61) .U)) .bU .N ln Y ag) λab σ2 I2 FA=>hk ab σ2 #[?_,?_,λq hq h0=>?_]
  ·rw[ef];show I2
  ·rw[ef];have:=T8 (ff:=ffC c) (s:=cdF (ffC c) (0,0,[]) ((ps.map (·.1)).take t)) (p:=p.1)
   (show fe (.k .A (.m 2 .L)) .b (.k .C (.m 2 .B)) (.k .A (.a .C .W)) Y this)
  ·rw[et]at hq;rcases cy.mp hq with q1|q1
   ·show Z q q1 h0
   ·have rfl:=aq.mp q1;show FA h0
 ·intro ρ' σ' zz;have#[I',Y,Z]:=zz;apply#[I'.kp _ _ S.H.Lp,?_];have hz:(ps.map pV).length=(ps.map (·.1)).length:=by rw[ak,ak]
  rw[hz,rk]at I' Y Z;rw[ak]at Y;show RK X' S I' rfl (fy .T .G (.k .B (.a (.n 61) .U)) .aP ln Y) Z
end
def RI {P:Nat->Option Fn}(B:PX P){ρ:Fr}{σ:St}{la lb lp sl:Addr}{m bits:Int}{ns a b:List Int}{ps:List (Pc×Addr)}(M:WN ρ σ la lb lp sl m bits ns a b ps):fw (fk P 6) R10.HW (upd ρ 11 (.clo 0 [.int bits])) σ (jD tJ):=by
 have a2:=M.L.a2;have b2:=M.L.b2;rw[R10.HW,ti];apply MT (n:=5) B.hL (ρ:=upd ρ 11 (.clo 0 [.int bits])) M.F.r3 M.F.r4 (bg _ _ _) M.H.La M.H.Lb (dp (.l .A (.n 100000)) .a .a6 a2) (by rw[jZ];(show iy (.k .aL (.a .A .aL)) .j)) (by rw[jZ];(show dp (.l (.a .A .aL) (.n 100000)) .a .a6 b2)) λpl Z E1 ab I=>?_;have H1:=M.H.ext E1.L;apply L0 [] rfl (bh _) λW Y=>?_;have E2:Ext Z (Z.cz W []):=(Ext.refl Z).cz Y;have U:(Z.cz W []).L W=some (List.map oV []):=bg _ _ _;apply RL B (c:=#[la,lb,lp,pl,W,bits,a.filter (plB bits (zer b)),Z]) #[H1,M.L,Y,I,rfl] #[#[M.F.r3,M.F.r4,M.F.r5,rfl,rfl,rfl,M.F.r20],rfl,rfl,E2.L,U]
end SM
end MP
end
section
namespace Mine
open MP PySem
def VI:oO.Holds:=VU λns Y=>SM.UC (P:=R10.P) #[rfl,rfl,rfl,rfl,rfl,rfl,rfl,rfl,rfl,rfl,rfl,rfl] rfl Y λρ' σ' la lb lp sl m bits a b ps n W ob U E=>#[rfl,n,E.r21,SM.V2 (P:=R10.P) #[rfl,rfl,rfl,rfl,rfl,rfl,rfl,rfl,rfl,rfl,rfl,rfl] E λZ σ2 M=>#[rfl,bits,M.F.r20,SM.RI (P:=R10.P) #[rfl,rfl,rfl,rfl,rfl,rfl,rfl,rfl,rfl,rfl,rfl,rfl] M]]
end Mine
end
end Mine.Internal
theorem PySem.Challenge.cw_dm0056_10_holds : PySem.Challenge.rw_dm0056_10.Holds :=
 Mine.Internal.Mine.VI
