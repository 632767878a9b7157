import PyProof.Rows.All
import Wide.All
import OpenK.AllK
import Wide.FinOn
import Open.Tops
import PyProof.DictItems
import KE.KDictList
import KE.KLam
import PyProof.Rows.SortWalk
import PyProof.Rows.SortShell
import KE.KSortTup
import PyProof.Rows.MinMaxN
import PyProof.Rows.SumAny
import PyProof.RulesDelMore
import PyProof.DictCompW
import OpenK.KWalk
import PySem.Challenge.RW_dm0056_07
set_option Elab.async false
set_option linter.all false
set_option tactic.hygienic false
set_option maxRecDepth 100000
set_option compiler.extract_closed false
set_option genCtorIdx false
namespace Mine.Internal
namespace Aq
open Lean
def T(s:String)(l:List Syntax):Syntax:=.node .none (.str `Lean.Parser.Tactic s) l.toArray
def M(s:String)(l:List Syntax):Syntax:=.node .none (.str `Lean.Parser.Term s) l.toArray
def R(s:String)(l:List Syntax):Syntax:=.node .none (.str `Lean.Parser.Tactic.rcasesPat s) l.toArray
def L(l:List Syntax):Syntax:=.node .none `null l.toArray
def a(s:String):Syntax:=.atom .none s
def id(s:String):Syntax:=mkIdent (.str .anonymous s)
def is(s:String)(x:Syntax):Bool:=x.getKind==.str `Lean.Parser.Term s
def mp(f:Syntax->Syntax)(l:List Syntax):List Syntax:=l.foldr (λx r=>f x::r) []
def fm(f:Nat->List Syntax)(n:Nat):List Syntax:=(List.range n).foldr (λi r=>f i++r) []
def sp(s:String)(l:List Syntax):Syntax:=L (l.foldr (λx r=>if r.isEmpty then [x] else x::a s::r) [])
def ar(x:Syntax):List Syntax:=x.getSepArgs.toList
def qs(l:List Syntax):Syntax:=T "tacticSeq" [T "tacticSeq1Indented" [sp ";" l]]
def qp(l:List Syntax):Syntax:=T "paren" [a "(",qs l,a ")"]
def qz(l:List Syntax):Syntax:=T "first" [a "first",L (mp (λx=>.node .none `group (.mk [a "|",qs [x]])) (l++[T "fail" [a "fail",L []]]))]
def qh:Syntax:=M "syntheticHole" [a "?",a "_"]
def ap(f:Syntax)(l:List Syntax):Syntax:=M "app" [f,L l]
def re(x:Syntax):Syntax:=T "refine" [a "refine",x]
def qr(s:String)(l:List Syntax):Syntax:=re (ap (mkIdent (.str `Ar s)) l)
def us:String:="e2_0 e2_1 i2_1 e3_0 e3_1 i3_1 e3_2 i3_2 e4_0 e4_1 i4_1 e4_2 i4_2 e4_3 i4_3 e5_0 e5_1 i5_1 e5_2 i5_2 e5_3 i5_3 e5_4 e6_0 e6_1 e6_2 i6_2 e6_3 i6_3 e6_4 i6_4 e6_5 i6_5 e7_0 i7_1 e7_2 i7_2 e7_3 i7_3 e7_4 i7_4 e8_2 i8_2 e8_3 i8_3 e8_4 i8_4 e9_0 e9_2 e9_3 i9_3 e9_4 i9_4 e9_5 i9_5 e9_7 i9_7 e9_8"
def ql(c:String)(n j:Nat)(l:List Syntax):List Syntax:=
 let x:=c++toString n++"_"++toString (n-j)
 if (us.splitOn " ").contains x then [qr x l] else []
def it(l:List Syntax):Syntax:=T "intro" [a "intro",L l]
def ty(x:Syntax):Syntax:=T "tacticTry_" [a "try",qs [x]]
def cl(x:Syntax):Syntax:=ty (T "clear" [a "clear",L [x]])
def sw(x:Syntax):Syntax:=T "show" [a "show",x]
def ho:Syntax:=M "hole" [a "_"]
def pt(j m:Nat):Syntax:=Nat.repeat (λt=>ap (id "Exists") [M "fun" [a "fun",M "basicFun" [L [ho],L [],a "=>",t]]]) j (Nat.repeat (λt=>ap (id "And") [ho,t]) (m-1) ho)
def mm(o:Option Syntax):MacroM Syntax:=o.elim Macro.throwUnsupported pure
def f1(x:Syntax):Option Syntax:=if x[3].getNumArgs>0||x[1][0].getNumArgs>0 then none else some (qp (mp (λr=>qz [qr (if r[0].getNumArgs==0 then "rwm" else "rwn") [ap r[1] [M "ellipsis" [a ".."]],qh],T "rewriteSeq" [a "rewrite",x[1],T "rwRuleSeq" [a "[",L [r],a "]"],x[3]]]) (ar x[2][1])++[ty (T "withReducible" [a "with_reducible",qs [T "tacticRfl" [a "rfl"]]])]))
def ob(r z:Syntax):Syntax:=T "obtain" [a "obtain",L [r],L [],L [a ":=",L [z]]]
def ot(r:Syntax):Syntax:=
 let y:=r[0][0][0]
 if r[1].getNumArgs==0&&r[0][0].getNumArgs==1&&y.getKind== `Lean.Parser.Tactic.rcasesPat.one&&y[0].getId != `rfl then it [y[0]] else qp [it [id "ζ"],ob r[0] (id "ζ")]
def f2(x:Syntax):Option Syntax:=
 let p:=x[1][0][0]
 let q:=ar p[0][1]
 let n:=q.length
 let t:=x[3][1][0]
 if p.getNumArgs != 1||x[2].getNumArgs != 0||n<2 then none else
 let k:=min n 9
 some (qp (qz (fm (λj=>ql "e" k (j+1) [t,qh]) k)::(if t.isIdent then [cl t] else [])++mp ot (if n<10 then q else q.take 8)++(if n<10 then [] else [qp [it [id "ζ"],ob (x[1][0].setArg 0 (p.setArg 0 (p[0].setArg 1 (sp "," (q.drop 8))))) (id "ζ")]])))
def f3(x:Syntax):Option Syntax:=
 let l:=ar x[1][1]
 let n:=l.length
 if !(is "anonymousCtor" x[1]||x[1].getKind== `«term#[_,]»)||n<2 then none else
 some (qp [sw (ap (id "Exists") [ho]),qz (fm (λi=>
  let k:=9-i
  let b:=l.take (k-1)
  if k==n||2<k&&k<n&&!b.any λs=>(s.find? (is "syntheticHole")).isSome then fm (λj=>mp (λs=>qp (sw (pt (k-j-1) (j+1))::s::(if k==n then [] else [x.setArg 1 (x[1].setArg 1 (sp "," (l.drop (k-1))))]))) (ql "i" k (j+1) (if k==n then l else b++[qh]))) (k-1) else []) 8)])
def f4(x:Syntax):Option Syntax:=
 let y:=x[1][0][1]
 let z:=id "ζ"
 let w:=id "ξ"
 let c (z:Syntax):Syntax:=x.setArg 1 (x[1].setArg 0 (x[1][0].setArg 1 z))
 let g (f:String) (v l:List Syntax):Syntax:=qp (qr f [y,qh]::cl y::it v::l)
 if !y.isIdent||x[1].getNumArgs != 1||x[1][0][0].getNumArgs+x[2].getNumArgs+x[3].getNumArgs != 0 then none else
 some (qz [g "x8" [z] [T "subst" [a "subst",L [z]]],qr "x0" [y],qr "x1" [y],g "x2" [z] [c z],g "x3" [z,w] [c z,c w],qr "x4" [y],qr "x5" [y]])
def dt(s:String):Syntax:=M "dotIdent" [a ".",id s]
def pa:Nat->Syntax->Syntax:=Nat.rec (λs=>s) λ_ f s=>T "rcasesPatMed" [L [if s.getKind== `«term#[_,]» then R "tuple" [a "⟨",sp "," (mp (λr=>T "rcasesPatLo" [f r,L []]) (ar s[1])),a "⟩"] else if is "hole" s then R "ignore" [s] else R "one" [s]]]
end Aq
open Lean in
local macro_rules (kind:=Lean.Parser.Tactic.show)
 |x=>Aq.mm (some (Aq.qz [Aq.T "exact" [Aq.a "exact",x[1]],Aq.re (Aq.M "typeAscription" [Aq.M "hygienicLParen" [Aq.a "(",.node .none `hygieneInfo (.mk [mkIdent .anonymous])],Aq.qh,Aq.a ":",Aq.L [x[1]],Aq.a ")"])]))
open Lean in
local macro_rules (kind:=Lean.Parser.Tactic.rwSeq)
 |x=>Aq.mm (Aq.f1 x)
open Lean in
local macro_rules (kind:=Lean.Parser.Tactic.obtain)
 |x=>Aq.mm (Aq.f2 x)
open Lean in
local macro_rules (kind:=Lean.Parser.Tactic.refine)
 |x=>Aq.mm (Aq.f3 x)
open Lean in
local macro_rules (kind:=Lean.Parser.Tactic.cases)
 |x=>Aq.mm (Aq.f4 x)
open Lean in
local macro_rules (kind:=Lean.Parser.Tactic.apply)
 |x=>Aq.mm (some (Aq.re x[1]))
open Lean in
local macro_rules (kind:=«term%[_|_]»)
 |x=>Aq.mm (if x[3].isNatLit? == some 0 then some ((Aq.ar x[1]).foldr (λe r=>Aq.ap (Aq.dt "cons") [e,r]) (Aq.dt "nil")) else none)
open Lean in
local macro_rules (kind:=Lean.Parser.Tactic.tacticHave__)
 |x=>
  let d:=x[2][0]
  let b:=d[0].getKind== `«term#[_,]»
  Aq.mm (if b||d[0][0].getId== `rfl then some (Aq.T "obtain" [Aq.a "obtain",Aq.L [Aq.pa 9 (if b then d[0] else d[0][0])],Aq.L d[2][0].getArgs.toList,Aq.L [Aq.a ":=",Aq.L [d[4]]]]) else none)
open Lean in
local macro_rules (kind:=Vector.«term#v[_,]»)
 |x=>Aq.mm (some (Aq.ap (mkIdent `List.toArray) [.node .none `«term[_]» (.mk [Aq.a "[",x[1],Aq.a "]"])]))
open Lean in
def Ar.st(x:Syntax):Syntax:=
 let y:=x.rewriteBottomUp λs=>match s with
 |.node _ k a=>.node .none k a
 |.atom _ v=>.atom .none v
 |.ident _ r v p=>.ident .none r v p
 |s=>s
 let d:=y[1]
 let f:=d.getKind== `Lean.Parser.Command.definition
 let a:=d.getKind== `Lean.Parser.Command.abbrev
 let m k l:=((y.setArg 0 ((y[0].setArg 2 mkNullNode).setArg 4 (mkNullNode (.mk [mkNode `Lean.Parser.Command.noncomputable (.mk [mkAtom "noncomputable"])])))).setArg 1 (mkNode k (.mk ([d[0],d[1],d[2],d[3]]++l))))
 if y[0][1].getNumArgs+y[0][4].getNumArgs != 0 then y
 else if f&&d[2][1].getNumArgs != 0&&!(d[2][0].getNumArgs==0&&[`N,`E,`P].contains d[2][1][0][1].getId) then y.setArg 1 (mkNode `Lean.Parser.Command.theorem (.mk [d[0],d[1],mkNode `Lean.Parser.Command.declSig (.mk [d[2][0],d[2][1][0]]),d[3]]))
 else if f||a&&y[0][2].getNumArgs != 0 then m `Lean.Parser.Command.abbrev []
 else if a then m `Lean.Parser.Command.definition [mkNullNode] else y
open Lean in
local macro_rules (kind:=Lean.Parser.Command.declaration)
 |x=>if x.getPos?.isNone||x[1][1][0].getId.getRoot==`PySem then Macro.throwUnsupported else return Ar.st x
open Lean in
local macro_rules (kind:=«term#[_,]»)
 |x=>return mkNode `Lean.Parser.Term.anonymousCtor #[mkAtom "⟨",x[1],mkAtom "⟩"]
def QqV:=PySem.Value->PySem.Shared->Prop
set_option bootstrap.genMatcherCode false
namespace Mine.Z
abbrev aa:=@Nat.sub_add_cancel
abbrev ab:=@PySem.wpAny_bind
abbrev ae:=@Nat.lt_or_gt_of_ne
abbrev af:=@PySem.wpAny_pure
abbrev ah:=@Option.some.inj
abbrev ak:=@List.mem_singleton
abbrev aq:=@List.getElem?_eq_getElem
abbrev au:=@Nat.le_refl
abbrev aw:=@List.length_map
abbrev az:=@List.append_assoc
abbrev ba:=@PySem.Heap.get?_push_of_some
abbrev bb:=@if_neg
abbrev bg:=@List.length_append
abbrev bh:=@List.getElem?_append_right
abbrev bq:=@Nat.zero_le
abbrev bw:=@of_decide_eq_true
abbrev bx:=@Nat.le_of_ble_eq_true
abbrev cf:=@PyProof.Rows.wpS_bind
abbrev cg:=@List.drop_eq_getElem_cons
abbrev cm:=@Classical.not_and_iff_not_or_not
abbrev cp:=@if_pos
abbrev cq:=@Option.isSome_iff_exists
abbrev cu:=@List.mem_append
abbrev cv:=@PyProof.Rows.wpS_pure
abbrev cw:=@List.size_toArray
abbrev cy:=@List.getElem?_eq_some_iff
abbrev cz:=@List.mem_cons
abbrev dg:=@List.mem_append_left
abbrev dh:=@beq_iff_eq
abbrev di:=@congrArg
abbrev dj:=@PySem.wpAny_mono
abbrev dk:=@List.append_nil
abbrev dp:=@PySem.wpAny_holding
abbrev dq:=@List.getElem?_map
abbrev dt:=@List.mem_append_right
abbrev du:=@List.getElem_mem
abbrev dw:=@Bool.and_eq_true
abbrev dz:=@List.take_append_drop
abbrev ee:=@List.take_succ_eq_append_getElem
abbrev eg:=@PySem.Heap.get?_push_size
abbrev eh:=@List.length_take
abbrev er:=@List.getElem?_append_left
abbrev fe:=@PySem.builtinLookup_eq_fast
abbrev fj:=@List.mem_map
abbrev fk:=@List.mem_of_getElem?
abbrev fm:=@List.mem_iff_getElem
abbrev fo:=@PySem.wpAny_of_eq
abbrev fp:=@decide_eq_false
abbrev fq:=@Option.bind_eq_some_iff
abbrev fu:=@List.map_append
abbrev fw:=@Bool.false_eq_true
abbrev fx:=@List.take_length
abbrev gf:=@Option.some.injEq
abbrev gh:=@List.length_drop
abbrev gi:=@Bool.not_eq_true'
abbrev gk:=@PySem.typeLookup_type
abbrev gp:=@decide_eq_true
abbrev gv:=@Nat.le_add_right
abbrev gw:=@PySem.wpAny_standAt
abbrev gx:=@Bool.false_ne_true
abbrev gy:=@Nat.le_of_lt
abbrev ic:=@PySem.Heap.size_push
abbrev ip:=@PySem.Heap.lt_size
abbrev iq:=@List.length_cons
abbrev ir:=@Nat.lt_of_succ_lt
abbrev ix:=@Nat.lt_or_ge
abbrev je:=@Nat.lt_irrefl
abbrev jg:=@List.mem_of_mem_take
abbrev ji:=@Option.map_eq_some_iff
abbrev jj:=@Nat.lt_or_eq_of_le
abbrev jk:=@List.map_map
abbrev jo:=@List.all_eq_true
abbrev jt:=@Nat.ne_of_lt
abbrev jv:=@List.pairwise_singleton
abbrev jz:=@Classical.byContradiction
abbrev kc:=@PyProof.Rows.wpS_forRange
abbrev ke:=@Prod.mk.inj
abbrev kf:=@List.length_singleton
abbrev kg:=@List.getElem?_eq_none
abbrev ki:=@congrFun
abbrev kn:=@if_false
abbrev kq:=@Nat.add_sub_cancel_left
abbrev lg:=@List.reverse_perm
abbrev lh:=@PyProof.Rows.wpS_mono
abbrev lu:=@PySem.wpAny_newObj_type
abbrev lz:=@PySem.isSubtype_type
abbrev mj:=@Nat.zero_add
abbrev mn:=@Nat.succ.inj
abbrev mq:=@List.pairwise_append
abbrev mu:=@PySem.wpAny_call_entry
abbrev mv:=@List.getElem_take
abbrev mz:=@Nat.sub_le
abbrev nr:=@Nat.le_trans
abbrev nt:=@Nat.add_assoc
abbrev nv:=@List.mem_reverse
abbrev og:=@List.pairwise_cons
abbrev oh:=@List.getD_eq_getElem?_getD
abbrev oj:=@List.forIn_nil
abbrev ou:=@Nat.not_lt_zero
abbrev ow:=@List.forIn_cons
abbrev pf:=@PySem.F.slot_tuple_iterator_next
abbrev pg:=@List.mem_of_mem_drop
abbrev ph:=@Int.toNat_natCast
abbrev qb:=@beq_eq_false_iff_ne
abbrev qk:=@PySem.wpAny_loadPart_at
abbrev qo:=@List.lookup_eq_none_iff
abbrev qq:=@List.drop_zero
abbrev qt:=@List.drop_length
abbrev qu:=@PySem.Heap.get?_none_of_le
abbrev rf:=@PySem.wpAny_rule
abbrev rg:=@PySem.wpAny_call
abbrev rk:=@List.eq_nil_of_length_eq_zero
abbrev ru:=@Nat.not_lt
abbrev rv:=@Nat.lt_of_lt_of_le
abbrev rz:=@Int.zero_add
abbrev sd:=@Int.lt_or_gt_of_ne
abbrev sr:=@PySem.wpAny_execs_cons
abbrev tg:=@Prod.mk.injEq
abbrev ti:=@List.map_cons
abbrev tq:=@not_or
abbrev ub:=@PySem.Heap.get?_update_other
abbrev ug:=@PySem.codeAny_of_tree
abbrev uh:=@Int.fmod_eq_emod_of_nonneg
abbrev ui:=@decide_eq_decide
abbrev uj:=@Nat.lt_succ_self
abbrev uk:=@List.exists_cons_of_length_eq_add_one
abbrev uo:=@PySem.wpAny_truthy_bool
abbrev uq:=@Option.isNone_iff_eq_none
abbrev ur:=@List.pairwise_iff_getElem
abbrev vh:=@List.length_reverse
abbrev vp:=@PySem.wpAny_seqItems
abbrev vq:=@List.Pairwise.imp_of_mem
abbrev vt:=@Bool.or_eq_true
abbrev wh:=@Option.isSome_none
abbrev wk:=@List.getElem?_cons_succ
abbrev xg:=@PySem.Heap.SameBut.update
abbrev yb:=@Nat.lt_succ_of_lt
abbrev yc:=@Nat.add_zero
abbrev yd:=@List.length_range
abbrev ye:=@PySem.codeAny_builtin
abbrev yf:=@PySem.Heap.Ns.of_isNs
abbrev yh:=@PySem.wpAny_load
abbrev yt:=@List.not_mem_nil
abbrev yu:=@List.cons_append
abbrev yv:=@if_true
abbrev yw:=@Bool.not_true
abbrev zt:=@List.getElem?_of_mem
abbrev cW:=@beq_false_of_ne
abbrev cX:=@Option.map_some
abbrev cY:=@Nat.min_eq_left
abbrev dB:=@List.map_congr_left
abbrev dC:=@List.getElem?_range
abbrev dD:=@List.flatMap_append
abbrev dE:=@PySem.Heap.get?_update_self
abbrev dG:=@PySem.entryFor_of_tree
abbrev dH:=@Int.le_of_eq
abbrev eC:=@le_of_le_of_eq
abbrev eD:=@PySem.codeAny_call_builtin
abbrev eE:=@PyProof.Rows.callWith_type
abbrev eF:=@Prod.ext
abbrev eG:=@Option.none_or
abbrev eH:=@Nat.eq_zero_or_pos
abbrev eI:=@Array.ext_getElem?
abbrev eJ:=@PySem.Around.under_plainId
abbrev f9:=@PySem.wpAny_specialOf
abbrev fA:=@List.getElem?_eq_none_iff
abbrev fL:=@decide_eq_true_eq
abbrev fO:=@Nat.le_succ
abbrev fP:=@Nat.le_of_succ_le
abbrev fQ:=@List.reverse_cons
abbrev fR:=@List.pairwise_map
abbrev fS:=@Classical.not_not
abbrev gJ:=@PySem.wpAny_typeOf
abbrev gK:=@PySem.F.slot_list_append
abbrev gL:=@List.map_take
abbrev gM:=@Bool.or_false
abbrev gN:=@PyProof.Rows.wpS_modify
abbrev i7:=@PySem.wpAny_loadPart
abbrev i8:=@decide_eq_false_iff_not
abbrev i9:=@PySem.call_meets
abbrev iA:=@Nat.succ_ne_zero
abbrev iB:=@List.lookup_cons
abbrev iC:=@List.isEmpty_iff
abbrev iD:=@List.flatten_nil
abbrev iE:=@PySem.Code.quiet_builtin
abbrev j9:=@Ne.symm
abbrev jT:=@PySem.wpAny_pyIter_list
abbrev jU:=@PySem.wpAny_field
abbrev jV:=@PySem.Calls.spliced_nil
abbrev kC:=@PySem.signature?_of
abbrev kD:=@Nat.sub_eq_zero_of_le
abbrev kE:=@List.singleton_append
abbrev kF:=@List.getElem?_toArray
abbrev kG:=@List.Perm.append_left
abbrev nG:=@PySem.wpAny_callSpecial?_slot
abbrev nH:=@PySem.wpAny_askSetting
abbrev nI:=@List.mem_range
abbrev pK:=@List.ne_and_not_mem_of_not_mem_cons
abbrev rQ:=@PyProof.Rows.wpS_get
abbrev rR:=@PySem.F.args_tuple_iterator_next_1
abbrev rS:=@PySem.F.entry_tuple_iterator_next
abbrev DX:=@PySem.slot_list_getitem
end Mine.Z
open Mine.Z
section
namespace Ar
set_option genSizeOf false
set_option genInjectivity false
inductive N where
 |v (i:Nat)
 |n (k:Nat)
 |a (x y:N)
 |m (k:Nat) (x:N)
 |r (x:N) (k:Nat)
inductive E where
 |v (i:Nat)
 |n (k:Int)
 |a (x y:E)
 |s (x y:E)
 |m (k:Int) (x:E)
 |r (x:E) (k:Int)
 |g (x:E)
 |t (x:N)
set_option genCtorIdx true in
inductive R where
 |lt|le|eq|ge|gt|ne
inductive P where
 |i (r:R) (x y:E)
 |n (r:R) (x y:N)
 |ff
structure Q where
 r:R
 x:E
 y:E
public abbrev hd (d:α):List α->α
 | []=>d
 |x::_=>x
public abbrev tl:List α->List α
 | []=>[]
 |_::l=>l
public abbrev nth (d:α):Nat->List α->α
 |0=>hd d
 |i+1=>λl=>nth d i (tl l)
public abbrev N.d (k:List Nat):N->Nat
 |.v i=>nth 0 i k
 |.n c=>c
 |.a x y=>x.d k+y.d k
 |.m c x=>c*x.d k
 |.r x c=>x.d k*c
public abbrev E.d (c:List Int)(k:List Nat):E->Int
 |.v i=>nth 0 i c
 |.n j=>j
 |.a x y=>x.d c k+y.d c k
 |.s x y=>x.d c k-y.d c k
 |.m i x=>i*x.d c k
 |.r x i=>x.d c k*i
 |.g x=>- x.d c k
 |.t x=>(x.d k:Int)
public abbrev R.i (a b:Int):R->Prop
 |.lt=>a<b
 |.le=>a<=b
 |.eq=>a=b
 |.ge=>¬a<b
 |.gt=>¬a<=b
 |.ne=>¬a=b
public abbrev R.n (a b:Nat):R->Prop
 |.lt=>a<b
 |.le=>a<=b
 |.eq=>a=b
 |.ge=>¬a<b
 |.gt=>¬a<=b
 |.ne=>¬a=b
public abbrev P.h (c:List Int)(k:List Nat):P->Prop
 |.i r x y=>r.i (x.d c k) (y.d c k)
 |.n r x y=>r.n (x.d k) (y.d k)
 |.ff=>False
def R.n_i {a b:Nat}:(r:R)->r.n a b->r.i (a:Int) (b:Int)
 |.lt=>Int.ofNat_lt.mpr
 |.le=>Int.ofNat_le.mpr
 |.eq=>λh=>di _ h
 |.ge=>λh e=>h (Int.ofNat_lt.mp e)
 |.gt=>λh e=>h (Int.ofNat_le.mp e)
 |.ne=>λh e=>h (Int.ofNat.inj e)
def R.i_n {a b:Nat}:(r:R)->r.i (a:Int) (b:Int)->r.n a b
 |.lt=>Int.ofNat_lt.mp
 |.le=>Int.ofNat_le.mp
 |.eq=>λh=>Int.ofNat.inj h
 |.ge=>λh e=>h (Int.ofNat_lt.mpr e)
 |.gt=>λh e=>h (Int.ofNat_le.mpr e)
 |.ne=>λh e=>h (di _ e)
def ad {a b c d:Int}(h:a=c)(e:b=d):a+b=c+d:=h▸e▸rfl
def sb {a b c d:Int}(h:a=c)(e:b=d):a-b=c-d:=h▸e▸rfl
def aac (a b c d:Int):a+b+(c+d)=a+c+(b+d):=by omega
def NR {a b:Int}(h:a<0)(e:b<=0):a+b<0:=Int.add_neg_of_neg_of_nonpos h e
def ltd {a b:Int}(h:a<b):0<=b-a+-1:=by omega
abbrev S:List Int->(Nat->Int)->Int
 | []=>λ_=>0
 |y::l=>λf=>f 0*y+S l λj=>f (j+1)
abbrev dl (i j:Nat):Int:=bif Nat.beq i j then 1 else 0
def DR:(l:List Int)->(f g:Nat->Int)->S l (λj=>f j+g j)=S l f+S l g
 | [],_,_=>rfl
 |y::l,f,g=>(ad (Int.add_mul (f 0) (g 0) y) (DR l (λj=>f (j+1)) λj=>g (j+1))).trans (aac _ _ _ _)
def DQ (i:Int):(l:List Int)->(f:Nat->Int)->S l (λj=>i*f j)=i*S l f
 | [],_=>(Int.mul_zero i).symm
 |y::l,f=>(ad (Int.mul_assoc i (f 0) y) (DQ i l λj=>f (j+1))).trans (Int.mul_add ..).symm
def j7:(l:List Int)->S l (λ_=>0)=0
 | []=>rfl
 |y::l=>(ad (Int.zero_mul y) (j7 l)).trans (rz 0)
def y5:(i:Nat)->(l:List Int)->S l (dl i)=nth 0 i l
 |0,[]=>rfl
 |0,y::l=>(ad (Int.one_mul y) (j7 l)).trans (Int.add_zero y)
 |i+1,[]=>y5 i []
 |i+1,y::l=>(ad (Int.zero_mul y) (y5 i l)).trans (rz _)
abbrev up:List Nat->List Int
 | []=>[]
 |x::l=>(x:Int)::up l
def uX:(i:Nat)->(l:List Nat)->nth 0 i (up l)=(nth 0 i l:Nat)
 |0,[]=>rfl
 |0,_::_=>rfl
 |i+1,[]=>uX i []
 |i+1,_::l=>uX i l
structure L where
 k:Int
 c:Nat->Int
 n:Nat->Int
abbrev L.d (c k:List Int)(l:L):Int:=l.k+(S c l.c+S k l.n)
abbrev L.add (l m:L):L:=#[l.k+m.k,λj=>l.c j+m.c j,λj=>l.n j+m.n j]
abbrev L.scl (i:Int)(l:L):L:=#[i*l.k,λj=>i*l.c j,λj=>i*l.n j]
abbrev L.num (i:Int):L:=#[i,λ_=>0,λ_=>0]
def L.tT {c k:List Int}(l m:L):(l.add m).d c k=l.d c k+m.d c k:=
 (di (l.k+m.k+·) ((ad (DR ..) (DR ..)).trans (aac _ _ _ _))).trans (aac _ _ _ _)
def L.mR {c k:List Int}(i:Int)(l:L):(l.scl i).d c k=i*l.d c k:=
 (di (i*l.k+·) ((ad (DQ ..) (DQ ..)).trans (Int.mul_add ..).symm)).trans (Int.mul_add ..).symm
def L.tS {c k:List Int}(i:Int):(L.num i).d c k=i:=
 (di (i+·) ((ad (j7 c) (j7 k)).trans (rz 0))).trans (Int.add_zero i)
abbrev N.l:N->L
 |.v i=>#[0,λ_=>0,dl i]
 |.n c=>.num c
 |.a x y=>x.l.add y.l
 |.m c x=>x.l.scl c
 |.r x c=>x.l.scl c
abbrev E.l:E->L
 |.v i=>#[0,dl i,λ_=>0]
 |.n j=>.num j
 |.a x y=>x.l.add y.l
 |.s x y=>x.l.add (y.l.scl (-1))
 |.m i x=>x.l.scl i
 |.r x i=>x.l.scl i
 |.g x=>x.l.scl (-1)
 |.t x=>x.l
def N.l_d {c:List Int}{k:List Nat}:(x:N)->x.l.d c (up k)=(x.d k:Nat)
 |.v i=>(rz _).trans ((ad (j7 c) ((y5 i (up k)).trans (uX i k))).trans (rz _))
 |.n i=>L.tS (i:Int)
 |.a x y=>(L.tT x.l y.l).trans ((ad (N.l_d x) (N.l_d y)))
 |.m i x=>(L.mR i x.l).trans ((di ((i:Int)*·) (N.l_d x)))
 |.r x i=>(L.mR i x.l).trans ((di ((i:Int)*·) (N.l_d x)).trans (Int.mul_comm ..))
def o9 {c k:List Int}(x y:L):(x.add (y.scl (-1))).d c k=x.d c k-y.d c k:=
 (L.tT ..).trans (di (x.d c k+·) ((L.mR ..).trans (Int.neg_one_mul _)))
def E.l_d {c:List Int}{k:List Nat}:(x:E)->x.l.d c (up k)=x.d c k
 |.v i=>(rz _).trans ((ad (y5 i c) (j7 (up k))).trans (Int.add_zero _))
 |.n i=>L.tS i
 |.a x y=>(L.tT x.l y.l).trans ((ad (E.l_d x) (E.l_d y)))
 |.s x y=>(o9 x.l y.l).trans ((sb (E.l_d x) (E.l_d y)))
 |.m i x=>(L.mR i x.l).trans ((di (i*·) (E.l_d x)))
 |.r x i=>(L.mR i x.l).trans ((di (i*·) (E.l_d x)).trans (Int.mul_comm ..))
 |.g x=>(L.mR (-1) x.l).trans ((Int.neg_one_mul _).trans (di (- ·) (E.l_d x)))
 |.t x=>N.l_d x
abbrev R.l (x y:L):R->L
 |.lt=>(y.add (x.scl (-1))).add (.num (-1))
 |.le=>y.add (x.scl (-1))
 |.eq=>y.add (x.scl (-1))
 |.ge=>x.add (y.scl (-1))
 |.gt=>(x.add (y.scl (-1))).add (.num (-1))
 |.ne=>.num 0
def less {c k:List Int}{x y:L}(h:x.d c k<y.d c k):0<=((y.add (x.scl (-1))).add (.num (-1))).d c k:=
 eC (ltd h) ((L.tT ..).trans (ad (o9 y x) (L.tS (-1)))).symm
def R.l_d {c k:List Int}{x y:L}:(r:R)->r.i (x.d c k) (y.d c k)->0<=(r.l x y).d c k
 |.lt=>λh=>less h
 |.le=>λh=>eC (Int.sub_nonneg_of_le h) (o9 y x).symm
 |.eq=>λh=>eC (Int.sub_nonneg_of_le (dH h)) (o9 y x).symm
 |.ge=>λh=>eC (Int.sub_nonneg_of_le (Int.not_lt.mp h)) (o9 x y).symm
 |.gt=>λh=>less (Int.not_le.mp h)
 |.ne=>λ_=>dH (L.tS 0).symm
def R.O1 {a b Y Z:Int}(r:R)(W:a=Y)(X:b=Z)(h:r.i Y Z):r.i a b:=by subst W X;show h
abbrev Q.h (c:List Int)(k:List Nat)(q:Q):Prop:=q.r.i (q.x.d c k) (q.y.d c k)
abbrev Q.l (q:Q):L:=q.r.l q.x.l q.y.l
def Q.l_d {c:List Int}{k:List Nat}{q:Q}(h:q.h c k):0<=q.l.d c (up k):=
 R.l_d q.r (R.O1 q.r (E.l_d q.x) (E.l_d q.y) h)
abbrev R.e:R->Bool
 |.eq=>true
 |_=>false
def R.e_d {a b:Int}:(r:R)->r.e=true->r.i a b->r=.eq/\a=b
 |.eq=>λ_ h=>#[rfl,h]
 |.lt=>λe=>Bool.noConfusion e
 |.le=>λe=>Bool.noConfusion e
 |.ge=>λe=>Bool.noConfusion e
 |.gt=>λe=>Bool.noConfusion e
 |.ne=>λe=>Bool.noConfusion e
def Q.e_d {c:List Int}{k:List Nat}{q:Q}(e:q.r.e=true)(h:q.h c k):q.l.d c (up k)=0:=by
 have#[r,x,y]:=q;have#[rfl,h]:=R.e_d r e h;show(o9 y.l x.l).trans ((sb (E.l_d y) (E.l_d x)).trans (Int.sub_eq_zero_of_eq h.symm))
abbrev P.q:P->Q
 |.i r x y=>#[r,x,y]
 |.n r x y=>#[r,.t x,.t y]
 |.ff=>#[.ne,.n 0,.n 0]
def P.to {c:List Int}{k:List Nat}:{p:P}->p.h c k->p.q.h c k
 |.i _ _ _=>id
 |.n r _ _=>R.n_i r
 |.ff=>False.elim
def P.of {c:List Int}{k:List Nat}:(p:P)->p.q.h c k->p.h c k
 |.i _ _ _=>id
 |.n r _ _=>R.i_n r
 |.ff=>λh=>h rfl
abbrev sum:List Q->List Int->L
 | []=>λ_=>.num 0
 |q::qs=>λms=>(q.l.scl (ms.headD 0)).add (sum qs ms.tail)
abbrev good:List Q->List Int->Bool
 | []=>λ_=>true
 |q::qs=>λms=>(q.r.e||decide (0<=ms.headD 0))&&good qs ms.tail
abbrev All (c:List Int)(k:List Nat):List Q->Prop
 | []=>True
 |q::qs=>q.h c k/\All c k qs
def band {a b:Bool}:(a&&b)=true->a=true/\b=true:=(dw a b).mp
def IA {c:List Int}{k:List Nat}:(qs:List Q)->(ms:List Int)->good qs ms=true->All c k qs->0<=(sum qs ms).d c (up k)
 | []=>λ_ _ _=>dH (L.tS 0).symm
 |q::qs=>λms Z h=>eC
   (Int.add_nonneg (((vt ..).mp (band Z).1).elim
    (λe=>dH ((di (ms.headD 0*·) (Q.e_d e h.1)).trans (Int.mul_zero _)).symm)
    (λe=>Int.mul_nonneg (bw e) (Q.l_d h.1))) (IA qs ms.tail (band Z).2 h.2))
   ((L.tT ..).trans (ad (L.mR ..) rfl)).symm
abbrev zero:List Int->(Nat->Int)->Bool
 | []=>λ_=>true
 |_::l=>λf=>decide (f 0=0)&&zero l λj=>f (j+1)
abbrev JR:List Nat->(Nat->Int)->Bool
 | []=>λ_=>true
 |_::l=>λf=>decide (f 0<=0)&&JR l λj=>f (j+1)
def A1:(l:List Int)->(f:Nat->Int)->zero l f=true->S l f=0
 | []=>λ_ _=>rfl
 |y::l=>λf h=>(ad ((di (·*y) (bw (band h).1)).trans (Int.zero_mul y)) (A1 l _ (band h).2)).trans (rz 0)
def C6:(l:List Nat)->(f:Nat->Int)->JR l f=true->S (up l) f<=0
 | []=>λ_ _=>Int.le_refl _
 |y::l=>λf h=>Int.add_le_add (Int.mul_nonpos_of_nonpos_of_nonneg (bw (band h).1) (Int.natCast_nonneg y)) (C6 l _ (band h).2)
abbrev ok (c:List Int)(k:List Nat)(qs:List Q)(ms:List Int):Bool:=
 good qs ms&&(decide ((sum qs ms).k<0)&&(zero c (sum qs ms).c&&JR k (sum qs ms).n))
def NO {c:List Int}{k:List Nat}{qs:List Q}{ms:List Int}(h:ok c k qs ms=true)(X:All c k qs):False:=
 have Y:=band (band h).2;have Z:=band Y.2
 Int.not_lt.mpr (IA qs ms (band h).1 X) (NR (bw Y.1) (Int.le_trans (dH ((ad (A1 c _ Z.1) rfl).trans (rz _))) (C6 k _ Z.2)))
abbrev R.JU:R->List R
 |.lt=>[.ge]
 |.le=>[.gt]
 |.eq=>[.lt,.gt]
 |.ge=>[.lt]
 |.gt=>[.le]
 |.ne=>[.eq]
def R.neg {a b:Int}:(r:R)->(∀s,s∈r.JU->¬s.i a b)->r.i a b
 |.lt=>λh=>Decidable.not_not.mp (h .ge (.head _))
 |.le=>λh=>Decidable.not_not.mp (h .gt (.head _))
 |.eq=>λh=>Int.le_antisymm (Decidable.not_not.mp (h .gt (.tail _ (.head _)))) (Int.not_lt.mp (h .lt (.head _)))
 |.ge=>λh=>h .lt (.head _)
 |.gt=>λh=>h .le (.head _)
 |.ne=>λh=>h .eq (.head _)
abbrev oks (c:List Int)(k:List Nat)(x y:E)(qs:List Q):List R->List (List Int)->Bool
 | []=>λ_=>true
 |r::rs=>λms=>ok c k (#[r,x,y]::qs) (ms.headD [])&&oks c k x y qs rs ms.tail
def IB {c:List Int}{k:List Nat}{x y:E}{qs:List Q}(Y:All c k qs):(Z:List R)->(ms:List (List Int))->oks c k x y qs Z ms=true->∀s,s∈Z->¬s.i (x.d c k) (y.d c k)
 |_,_,h,_,.head _=>λX=>NO (band h).1 #[X,Y]
 |_,ms,h,s,.tail _ m=>IB Y _ ms.tail (band h).2 s m
abbrev chk (c:List Int)(k:List Nat)(g:P)(ps:List P)(ms:List (List Int)):Bool:=
 oks c k g.q.x g.q.y (ps.map P.q) g.q.r.JU ms
def main {c:List Int}{k:List Nat}{g:P}(Z:List P){ms:List (List Int)}(h:chk c k g Z ms=true)(Y:All c k (Z.map P.q)):g.h c k:=
 P.of g (R.neg g.q.r (IB Y g.q.r.JU ms h))
def M:=List (List Int)
def a0 (c:List Int)(k:List Nat)(g:P)(ms:M)(Z:chk c k g [] ms=true:=by show Ar.y):g.h c k:=main [] Z trivial
def a1 (c:List Int)(k:List Nat)(g:P)(ms:M)(Z:P)(X:Z.h c k)(Y:chk c k g [Z] ms=true:=by show Ar.y):g.h c k:=main [Z] Y #[P.to X,trivial]
def a2 (c:List Int)(k:List Nat)(g:P)(ms:M)(Y Z:P)(U:Y.h c k)(W:Z.h c k)(X:chk c k g [Y,Z] ms=true:=by show Ar.y):g.h c k:=main [Y,Z] X #[P.to U,P.to W,trivial]
def a3 (c:List Int)(k:List Nat)(g:P)(ms:M)(X Y Z:P)(O:X.h c k)(T:Y.h c k)(U:Z.h c k)(W:chk c k g [X,Y,Z] ms=true:=by show Ar.y):g.h c k:=main [X,Y,Z] W #[P.to O,P.to T,P.to U,trivial]
def a4 (c:List Int)(k:List Nat)(g:P)(ms:M)(W X Y Z:P)(J:W.h c k)(K:X.h c k)(O:Y.h c k)(T:Z.h c k)(U:chk c k g [W,X,Y,Z] ms=true:=by show Ar.y):g.h c k:=main [W,X,Y,Z] U #[P.to J,P.to K,P.to O,P.to T,trivial]
def a5 (c:List Int)(k:List Nat)(g:P)(ms:M)(U W X Y Z:P)(H:U.h c k)(I:W.h c k)(J:X.h c k)(K:Y.h c k)(O:Z.h c k)(T:chk c k g [U,W,X,Y,Z] ms=true:=by show Ar.y):g.h c k:=main [U,W,X,Y,Z] T #[P.to H,P.to I,P.to J,P.to K,P.to O,trivial]
def a6 (c:List Int)(k:List Nat)(g:P)(ms:M)(T U W X Y Z:P)(D:T.h c k)(G:U.h c k)(H:W.h c k)(I:X.h c k)(J:Y.h c k)(K:Z.h c k)(O:chk c k g [T,U,W,X,Y,Z] ms=true:=by show Ar.y):g.h c k:=main [T,U,W,X,Y,Z] O #[P.to D,P.to G,P.to H,P.to I,P.to J,P.to K,trivial]
def a7 (c:List Int)(k:List Nat)(g:P)(ms:M)(O T U W X Y Z:P)(B:O.h c k)(C:T.h c k)(D:U.h c k)(G:W.h c k)(H:X.h c k)(I:Y.h c k)(J:Z.h c k)(K:chk c k g [O,T,U,W,X,Y,Z] ms=true:=by show Ar.y):g.h c k:=main [O,T,U,W,X,Y,Z] K #[P.to B,P.to C,P.to D,P.to G,P.to H,P.to I,P.to J,trivial]
def a8 (c:List Int)(k:List Nat)(g:P)(ms:M)(K O T U W X Y Z:P)(z:K.h c k)(A:O.h c k)(B:T.h c k)(C:U.h c k)(D:W.h c k)(G:X.h c k)(H:Y.h c k)(I:Z.h c k)(J:chk c k g [K,O,T,U,W,X,Y,Z] ms=true:=by show Ar.y):g.h c k:=main [K,O,T,U,W,X,Y,Z] J #[P.to z,P.to A,P.to B,P.to C,P.to D,P.to G,P.to H,P.to I,trivial]
def y:true=true:=rfl
def N.A:N:=.v 0
def E.A:E:=.v 0
def N.B:N:=.v 1
def E.B:E:=.v 1
def N.C:N:=.v 2
def E.C:E:=.v 2
def N.D:N:=.v 3
def E.D:E:=.v 3
def N.F:N:=.v 4
def N.G:N:=.v 5
def N.H:N:=.v 6
def N.I:N:=.v 7
def N.J:N:=.v 8
def N.K:N:=.v 9
def N.O:N:=.n 0
def E.O:E:=.n 0
def N.U:N:=.n 1
def E.U:E:=.n 1
def N.W:N:=.n 2
def E.W:E:=.n 2
public abbrev P.l (x y:N):P:=.n .lt x y
public abbrev P.il (x y:E):P:=.i .lt x y
public abbrev P.k (x y:N):P:=.n .le x y
public abbrev P.ik (x y:E):P:=.i .le x y
public abbrev P.e (x y:N):P:=.n .eq x y
public abbrev P.ie (x y:E):P:=.i .eq x y
public abbrev P.g (x y:N):P:=.n .ge x y
public abbrev P.ig (x y:E):P:=.i .ge x y
public abbrev P.j (x y:N):P:=.n .gt x y
public abbrev P.ij (x y:E):P:=.i .gt x y
public abbrev P.u (x y:N):P:=.n .ne x y
public abbrev P.iu (x y:E):P:=.i .ne x y
public abbrev E.ng (k:Int):E:=.n (-k)
def LI (x y:Nat):x<=x-y+y:=Nat.sub_le_iff_le_add.mp (au _)
def imp {a b:Prop}(h:a->b):¬a\/b:=(Classical.em a).elim (λx=>.inr (h x)) .inl
def dF (x k:Nat)(h:0<k):x%k<k/\k*(x/k)+x%k=x:=#[Nat.mod_lt x h,Nat.div_add_mod x k]
def imod (x k:Int)(h:0<k):0<=x%k/\x%k<k/\k*(x/k)+x%k=x:=#[Int.emod_nonneg x (Int.ne_of_gt h),Int.emod_lt_of_pos x h,Int.mul_ediv_add_emod x k]
def iz (x y:Nat):min x y<=x/\min x y<=y/\(x<=min x y\/y<=min x y):=#[Nat.min_le_left x y,Nat.min_le_right x y,(Nat.le_total x y).imp (λh=>Nat.le_min.mpr #[au x,h]) λh=>Nat.le_min.mpr #[h,au y]]
def ton (x:Int):(0<=x/\(x.toNat:Int)=x)\/(x<=0/\x.toNat=0):=
 (Int.le_total 0 x).elim (λh=>.inl #[h,Int.toNat_of_nonneg h]) λh=>.inr #[h,Int.toNat_of_nonpos h]
def nab (x:Int):(0<=x/\(x.natAbs:Int)=x)\/(x<=0/\(x.natAbs:Int)=-x):=
 (Int.le_total 0 x).elim (λh=>.inl #[h,Int.natAbs_of_nonneg h]) λh=>.inr #[h,Int.ofNat_natAbs_of_nonpos h]
def sub {p:Prop}(x y:Nat)(Y:y<=x->x-y+y=x->p)(Z:x<=y->x-y=0->p):p:=
 (Nat.le_total y x).elim (λh=>Y h (aa h)) λh=>Z h (kD h)
@[elab_as_elim] theorem rwm {Z:Sort u}{a b:Z}{p:Z->Prop}(h:a=b)(q:p b):p a:=Eq.rec (motive:=λx _=>p x) q h.symm
@[elab_as_elim] theorem rwn {Z:Sort u}{a b:Z}{p:Z->Prop}(h:b=a)(q:p b):p a:=Eq.rec (motive:=λx _=>p x) q h
def x0 {Z:Type u}{x:Z}{p:Prop}(h:none=some x):p:=Option.noConfusion rfl (heq_of_eq h)
def x1 {Z:Type u}{x:Z}{p:Prop}(h:some x=none):p:=x0 h.symm
def x2 {Z:Type u}{x y:Z}{p:Prop}(h:some x=some y)(k:x=y->p):p:=k (ah h)
def x3 {Y:Type u}{Z:Type v}{a b:Y}{c d:Z}{p:Prop}(h:(a,c)=(b,d))(k:a=b->c=d->p):p:=k (di Prod.fst h) (di Prod.snd h)
def x4 {p:Prop}(h:false=true):p:=Bool.noConfusion h
def x5 {p:Prop}(h:true=false):p:=Bool.noConfusion h
def x8 {Z:Type u}{a b:Z}{p:Prop}(h:a=b)(k:a=b->p):p:=k h
section
variable {r:Prop}
def e2_0 {p q:Prop}(h:p/\q)(k:p->q->r):r:=k h.1 h.2
def e2_1 {p:A->Prop}(h:∃a,p a)(k:∀a,p a->r):r:=h.elim λa g=>k a g
def i2_1 {p:A->Prop}(a:A)(h:p a):∃a,p a:=#[a,h]
def e3_0 {p q s:Prop}(h:p/\q/\s)(k:p->q->s->r):r:=k h.1 h.2.1 h.2.2
def e3_1 {p q:A->Prop}(h:∃a,p a/\q a)(k:∀a,p a->q a->r):r:=h.elim λa g=>k a g.1 g.2
def i3_1 {p q:A->Prop}(a:A)(h:p a)(i:q a):∃a,p a/\q a:=#[a,h,i]
def e3_2 {p:A->B->Prop}(h:∃a b,p a b)(k:∀a b,p a b->r):r:=h.elim λa g=>g.elim λb g=>k a b g
def i3_2 {p:A->B->Prop}(a:A)(b:B)(h:p a b):∃a b,p a b:=#[a,b,h]
def e4_0 {p q s t:Prop}(h:p/\q/\s/\t)(k:p->q->s->t->r):r:=k h.1 h.2.1 h.2.2.1 h.2.2.2
def e4_1 {p q s:A->Prop}(h:∃a,p a/\q a/\s a)(k:∀a,p a->q a->s a->r):r:=h.elim λa g=>k a g.1 g.2.1 g.2.2
def i4_1 {p q s:A->Prop}(a:A)(h:p a)(i:q a)(j:s a):∃a,p a/\q a/\s a:=#[a,h,i,j]
def e4_2 {p q:A->B->Prop}(h:∃a b,p a b/\q a b)(k:∀a b,p a b->q a b->r):r:=h.elim λa g=>g.elim λb g=>k a b g.1 g.2
def i4_2 {p q:A->B->Prop}(a:A)(b:B)(h:p a b)(i:q a b):∃a b,p a b/\q a b:=#[a,b,h,i]
def e4_3 {p:A->B->C->Prop}(h:∃a b c,p a b c)(k:∀a b c,p a b c->r):r:=h.elim λa g=>g.elim λb g=>g.elim λc g=>k a b c g
def i4_3 {p:A->B->C->Prop}(a:A)(b:B)(c:C)(h:p a b c):∃a b c,p a b c:=#[a,b,c,h]
def e5_0 {p q s t u:Prop}(h:p/\q/\s/\t/\u)(k:p->q->s->t->u->r):r:=k h.1 h.2.1 h.2.2.1 h.2.2.2.1 h.2.2.2.2
def e5_1 {p q s t:A->Prop}(h:∃a,p a/\q a/\s a/\t a)(k:∀a,p a->q a->s a->t a->r):r:=h.elim λa g=>k a g.1 g.2.1 g.2.2.1 g.2.2.2
def i5_1 {p q s t:A->Prop}(a:A)(h:p a)(i:q a)(j:s a)(l:t a):∃a,p a/\q a/\s a/\t a:=#[a,h,i,j,l]
def e5_2 {p q s:A->B->Prop}(h:∃a b,p a b/\q a b/\s a b)(k:∀a b,p a b->q a b->s a b->r):r:=h.elim λa g=>g.elim λb g=>k a b g.1 g.2.1 g.2.2
def i5_2 {p q s:A->B->Prop}(a:A)(b:B)(h:p a b)(i:q a b)(j:s a b):∃a b,p a b/\q a b/\s a b:=#[a,b,h,i,j]
def e5_3 {p q:A->B->C->Prop}(h:∃a b c,p a b c/\q a b c)(k:∀a b c,p a b c->q a b c->r):r:=h.elim λa g=>g.elim λb g=>g.elim λc g=>k a b c g.1 g.2
def i5_3 {p q:A->B->C->Prop}(a:A)(b:B)(c:C)(h:p a b c)(i:q a b c):∃a b c,p a b c/\q a b c:=#[a,b,c,h,i]
def e5_4 {p:A->B->C->D->Prop}(h:∃a b c d,p a b c d)(k:∀a b c d,p a b c d->r):r:=h.elim λa g=>g.elim λb g=>g.elim λc g=>g.elim λd g=>k a b c d g
def e6_0 {p q s t u v:Prop}(h:p/\q/\s/\t/\u/\v)(k:p->q->s->t->u->v->r):r:=k h.1 h.2.1 h.2.2.1 h.2.2.2.1 h.2.2.2.2.1 h.2.2.2.2.2
def e6_1 {p q s t u:A->Prop}(h:∃a,p a/\q a/\s a/\t a/\u a)(k:∀a,p a->q a->s a->t a->u a->r):r:=h.elim λa g=>k a g.1 g.2.1 g.2.2.1 g.2.2.2.1 g.2.2.2.2
def e6_2 {p q s t:A->B->Prop}(h:∃a b,p a b/\q a b/\s a b/\t a b)(k:∀a b,p a b->q a b->s a b->t a b->r):r:=h.elim λa g=>g.elim λb g=>k a b g.1 g.2.1 g.2.2.1 g.2.2.2
def i6_2 {p q s t:A->B->Prop}(a:A)(b:B)(h:p a b)(i:q a b)(j:s a b)(l:t a b):∃a b,p a b/\q a b/\s a b/\t a b:=#[a,b,h,i,j,l]
def e6_3 {p q s:A->B->C->Prop}(h:∃a b c,p a b c/\q a b c/\s a b c)(k:∀a b c,p a b c->q a b c->s a b c->r):r:=h.elim λa g=>g.elim λb g=>g.elim λc g=>k a b c g.1 g.2.1 g.2.2
def i6_3 {p q s:A->B->C->Prop}(a:A)(b:B)(c:C)(h:p a b c)(i:q a b c)(j:s a b c):∃a b c,p a b c/\q a b c/\s a b c:=#[a,b,c,h,i,j]
def e6_4 {p q:A->B->C->D->Prop}(h:∃a b c d,p a b c d/\q a b c d)(k:∀a b c d,p a b c d->q a b c d->r):r:=h.elim λa g=>g.elim λb g=>g.elim λc g=>g.elim λd g=>k a b c d g.1 g.2
def i6_4 {p q:A->B->C->D->Prop}(a:A)(b:B)(c:C)(d:D)(h:p a b c d)(i:q a b c d):∃a b c d,p a b c d/\q a b c d:=#[a,b,c,d,h,i]
def e6_5 {p:A->B->C->D->F->Prop}(h:∃a b c d f,p a b c d f)(k:∀a b c d f,p a b c d f->r):r:=h.elim λa g=>g.elim λb g=>g.elim λc g=>g.elim λd g=>g.elim λf g=>k a b c d f g
def i6_5 {p:A->B->C->D->F->Prop}(a:A)(b:B)(c:C)(d:D)(f:F)(h:p a b c d f):∃a b c d f,p a b c d f:=#[a,b,c,d,f,h]
def e7_0 {p q s t u v w:Prop}(h:p/\q/\s/\t/\u/\v/\w)(k:p->q->s->t->u->v->w->r):r:=k h.1 h.2.1 h.2.2.1 h.2.2.2.1 h.2.2.2.2.1 h.2.2.2.2.2.1 h.2.2.2.2.2.2
def i7_1 {p q s t u v:A->Prop}(a:A)(h:p a)(i:q a)(j:s a)(l:t a)(m:u a)(n:v a):∃a,p a/\q a/\s a/\t a/\u a/\v a:=#[a,h,i,j,l,m,n]
def e7_2 {p q s t u:A->B->Prop}(h:∃a b,p a b/\q a b/\s a b/\t a b/\u a b)(k:∀a b,p a b->q a b->s a b->t a b->u a b->r):r:=h.elim λa g=>g.elim λb g=>k a b g.1 g.2.1 g.2.2.1 g.2.2.2.1 g.2.2.2.2
def i7_2 {p q s t u:A->B->Prop}(a:A)(b:B)(h:p a b)(i:q a b)(j:s a b)(l:t a b)(m:u a b):∃a b,p a b/\q a b/\s a b/\t a b/\u a b:=#[a,b,h,i,j,l,m]
def e7_3 {p q s t:A->B->C->Prop}(h:∃a b c,p a b c/\q a b c/\s a b c/\t a b c)(k:∀a b c,p a b c->q a b c->s a b c->t a b c->r):r:=h.elim λa g=>g.elim λb g=>g.elim λc g=>k a b c g.1 g.2.1 g.2.2.1 g.2.2.2
def i7_3 {p q s t:A->B->C->Prop}(a:A)(b:B)(c:C)(h:p a b c)(i:q a b c)(j:s a b c)(l:t a b c):∃a b c,p a b c/\q a b c/\s a b c/\t a b c:=#[a,b,c,h,i,j,l]
def e7_4 {p q s:A->B->C->D->Prop}(h:∃a b c d,p a b c d/\q a b c d/\s a b c d)(k:∀a b c d,p a b c d->q a b c d->s a b c d->r):r:=h.elim λa g=>g.elim λb g=>g.elim λc g=>g.elim λd g=>k a b c d g.1 g.2.1 g.2.2
def i7_4 {p q s:A->B->C->D->Prop}(a:A)(b:B)(c:C)(d:D)(h:p a b c d)(i:q a b c d)(j:s a b c d):∃a b c d,p a b c d/\q a b c d/\s a b c d:=#[a,b,c,d,h,i,j]
def e8_2 {p q s t u v:A->B->Prop}(h:∃a b,p a b/\q a b/\s a b/\t a b/\u a b/\v a b)(k:∀a b,p a b->q a b->s a b->t a b->u a b->v a b->r):r:=h.elim λa g=>g.elim λb g=>k a b g.1 g.2.1 g.2.2.1 g.2.2.2.1 g.2.2.2.2.1 g.2.2.2.2.2
def i8_2 {p q s t u v:A->B->Prop}(a:A)(b:B)(h:p a b)(i:q a b)(j:s a b)(l:t a b)(m:u a b)(n:v a b):∃a b,p a b/\q a b/\s a b/\t a b/\u a b/\v a b:=#[a,b,h,i,j,l,m,n]
def e8_3 {p q s t u:A->B->C->Prop}(h:∃a b c,p a b c/\q a b c/\s a b c/\t a b c/\u a b c)(k:∀a b c,p a b c->q a b c->s a b c->t a b c->u a b c->r):r:=h.elim λa g=>g.elim λb g=>g.elim λc g=>k a b c g.1 g.2.1 g.2.2.1 g.2.2.2.1 g.2.2.2.2
def i8_3 {p q s t u:A->B->C->Prop}(a:A)(b:B)(c:C)(h:p a b c)(i:q a b c)(j:s a b c)(l:t a b c)(m:u a b c):∃a b c,p a b c/\q a b c/\s a b c/\t a b c/\u a b c:=#[a,b,c,h,i,j,l,m]
def e8_4 {p q s t:A->B->C->D->Prop}(h:∃a b c d,p a b c d/\q a b c d/\s a b c d/\t a b c d)(k:∀a b c d,p a b c d->q a b c d->s a b c d->t a b c d->r):r:=h.elim λa g=>g.elim λb g=>g.elim λc g=>g.elim λd g=>k a b c d g.1 g.2.1 g.2.2.1 g.2.2.2
def i8_4 {p q s t:A->B->C->D->Prop}(a:A)(b:B)(c:C)(d:D)(h:p a b c d)(i:q a b c d)(j:s a b c d)(l:t a b c d):∃a b c d,p a b c d/\q a b c d/\s a b c d/\t a b c d:=#[a,b,c,d,h,i,j,l]
def e9_0 {p q s t u v w k J:Prop}(h:p/\q/\s/\t/\u/\v/\w/\k/\J)(k:p->q->s->t->u->v->w->k->J->r):r:=k h.1 h.2.1 h.2.2.1 h.2.2.2.1 h.2.2.2.2.1 h.2.2.2.2.2.1 h.2.2.2.2.2.2.1 h.2.2.2.2.2.2.2.1 h.2.2.2.2.2.2.2.2
def e9_2 {p q s t u v w:A->B->Prop}(h:∃a b,p a b/\q a b/\s a b/\t a b/\u a b/\v a b/\w a b)(k:∀a b,p a b->q a b->s a b->t a b->u a b->v a b->w a b->r):r:=h.elim λa g=>g.elim λb g=>k a b g.1 g.2.1 g.2.2.1 g.2.2.2.1 g.2.2.2.2.1 g.2.2.2.2.2.1 g.2.2.2.2.2.2
def e9_3 {p q s t u v:A->B->C->Prop}(h:∃a b c,p a b c/\q a b c/\s a b c/\t a b c/\u a b c/\v a b c)(k:∀a b c,p a b c->q a b c->s a b c->t a b c->u a b c->v a b c->r):r:=h.elim λa g=>g.elim λb g=>g.elim λc g=>k a b c g.1 g.2.1 g.2.2.1 g.2.2.2.1 g.2.2.2.2.1 g.2.2.2.2.2
def i9_3 {p q s t u v:A->B->C->Prop}(a:A)(b:B)(c:C)(h:p a b c)(i:q a b c)(j:s a b c)(l:t a b c)(m:u a b c)(n:v a b c):∃a b c,p a b c/\q a b c/\s a b c/\t a b c/\u a b c/\v a b c:=#[a,b,c,h,i,j,l,m,n]
def e9_4 {p q s t u:A->B->C->D->Prop}(h:∃a b c d,p a b c d/\q a b c d/\s a b c d/\t a b c d/\u a b c d)(k:∀a b c d,p a b c d->q a b c d->s a b c d->t a b c d->u a b c d->r):r:=h.elim λa g=>g.elim λb g=>g.elim λc g=>g.elim λd g=>k a b c d g.1 g.2.1 g.2.2.1 g.2.2.2.1 g.2.2.2.2
def i9_4 {p q s t u:A->B->C->D->Prop}(a:A)(b:B)(c:C)(d:D)(h:p a b c d)(i:q a b c d)(j:s a b c d)(l:t a b c d)(m:u a b c d):∃a b c d,p a b c d/\q a b c d/\s a b c d/\t a b c d/\u a b c d:=#[a,b,c,d,h,i,j,l,m]
def e9_5 {p q s t:A->B->C->D->F->Prop}(h:∃a b c d f,p a b c d f/\q a b c d f/\s a b c d f/\t a b c d f)(k:∀a b c d f,p a b c d f->q a b c d f->s a b c d f->t a b c d f->r):r:=h.elim λa g=>g.elim λb g=>g.elim λc g=>g.elim λd g=>g.elim λf g=>k a b c d f g.1 g.2.1 g.2.2.1 g.2.2.2
def i9_5 {p q s t:A->B->C->D->F->Prop}(a:A)(b:B)(c:C)(d:D)(f:F)(h:p a b c d f)(i:q a b c d f)(j:s a b c d f)(l:t a b c d f):∃a b c d f,p a b c d f/\q a b c d f/\s a b c d f/\t a b c d f:=#[a,b,c,d,f,h,i,j,l]
def e9_7 {p q:A->B->C->D->F->G->H->Prop}(h:∃a b c d f y z,p a b c d f y z/\q a b c d f y z)(k:∀a b c d f y z,p a b c d f y z->q a b c d f y z->r):r:=h.elim λa g=>g.elim λb g=>g.elim λc g=>g.elim λd g=>g.elim λf g=>g.elim λy g=>g.elim λz g=>k a b c d f y z g.1 g.2
def i9_7 {p q:A->B->C->D->F->G->H->Prop}(a:A)(b:B)(c:C)(d:D)(f:F)(y:G)(z:H)(h:p a b c d f y z)(i:q a b c d f y z):∃a b c d f y z,p a b c d f y z/\q a b c d f y z:=#[a,b,c,d,f,y,z,h,i]
def e9_8 {p:A->B->C->D->F->G->H->I->Prop}(h:∃a b c d f y z o,p a b c d f y z o)(k:∀a b c d f y z o,p a b c d f y z o->r):r:=h.elim λa g=>g.elim λb g=>g.elim λc g=>g.elim λd g=>g.elim λf g=>g.elim λy g=>g.elim λz g=>g.elim λo g=>k a b c d f y z o g
end
public abbrev M.h:M:=[[1]]
public abbrev M.a:M:=[[1,1]]
public abbrev M.i:M:=[[0,1]]
public abbrev M.y:M:=[[1,-1]]
public abbrev M.b:M:=[[1,1,1]]
public abbrev M.c:M:=[[0,1,1]]
public abbrev M.n:M:=[[1],[1]]
public abbrev M.d:M:=[[1,1,-1]]
public abbrev M.k:M:=[[1,-1,1]]
public abbrev M.e:M:=[[1,1,1,1]]
public abbrev M.j:M:=[[0,1,1,1]]
public abbrev M.s:M:=[[1,1,1,-1]]
public abbrev M.v:M:=[[1,1,-1,1]]
public abbrev M.o:M:=[[1,1,1,1,1]]
public abbrev M.t:M:=[[1,0],[1,1]]
public abbrev M.D:M:=[[1,1,-1,-1]]
public abbrev M.f:M:=[[1,1],[1,-1]]
public abbrev M.l:M:=[[1,-1],[1,1]]
public abbrev M.g:M:=[[1,0,1],[1,1,0]]
public abbrev M.r:M:=[[0,1,1],[0,1,1]]
public abbrev M.u:M:=[[1,0,0],[1,1,1]]
public abbrev M.B:M:=[[1,1,-1],[1,0,1]]
public abbrev M.q:M:=[[1,-1,-1],[1,1,1]]
public abbrev M.w:M:=[[1,-1,1],[1,1,-1]]
public abbrev M.x:M:=[[1,1,-1],[1,-1,1]]
def E.L:E:=.t .A
def E.P:E:=.t .B
def E.R:E:=.t .C
def N.aV:N:=.n 300
public abbrev M.m:M:=[[1,1,0,1],[1,0,1,0]]
def N.a6:N:=.n 400000
def N.Y:N:=.n 1000000
public abbrev M.p:M:=[[1,-1,1,-1],[1,1,-1,1]]
public abbrev M.z:M:=[[1,-1,-1,1],[1,1,1,-1]]
public abbrev M.A:M:=[[1,1,-1,-1],[1,-1,1,1]]
public abbrev M.C:M:=[[1,-1,1,1],[1,1,-1,-1]]
def E.M:E:=.n (2^63)
def N.aC:N:=.m 2 .B
def P.A:P:=.k .A .B
def N.L:N:=.a .A .B
def P.B:P:=.l .A .B
def N.M:N:=.a .A .U
def N.P:N:=.a .B .U
def P.C:P:=.l .O .A
def P.D:P:=.e .A .B
def N.Q:N:=.a .B .C
def N.R:N:=.a .C .D
def P.G:P:=.k .U .A
def N.S:N:=.a .A .C
def P.H:P:=.k .C .B
def P.I:P:=.l .A .C
def N.T:N:=.a .C .U
def P.L:P:=.k .A .C
def N.V:N:=.a .A .D
def N.X:N:=.a .D .F
def P.N:P:=.e .A .O
def P.Q:P:=.l .C .B
def N.Z:N:=.a .B .A
def P.U:P:=.l .O .B
def P.V:P:=.l .C .D
def P.W:P:=.l .B .D
def P.X:P:=.l .O .C
def P.Y:P:=.l .B .A
def N.a0:N:=.a .D .U
def P.a0:P:=.k .C .D
def N.a1:N:=.a .F .U
def P.a3:P:=.l .U .A
def P.a4:P:=.k .B .A
def N.a3:N:=.a .B .F
def N.a5:N:=.a .O .U
def N.a7:N:=.a .C .A
def N.a8:N:=.a .C .B
def P.aH:P:=.k .A .D
def N.a9:N:=.a .F .G
def N.aA:N:=.a .D .B
def N.aB:N:=.a .G .H
def P.aQ:P:=.l .B .C
def N.aD:N:=.a .A .F
def P.aR:P:=.e .B .O
def N.aF:N:=.a .G .U
def P.aX:P:=.k .C .A
def P.aZ:P:=.k .F .C
def P.b0:P:=.k .B .C
def N.aG:N:=.a .F .D
def P.b6:P:=.e .C .O
def P.b7:P:=.e .F .O
def P.b9:P:=.l .A .O
def P.bB:P:=.l .D .C
def N.aI:N:=.a .F .B
def N.aJ:N:=.a .B .D
def P.bH:P:=.g .A .B
def P.bJ:P:=.e .B .C
def N.aL:N:=.a .C .F
def P.bP:P:=.e .D .O
def N.aN:N:=.a .A .W
def N.aP:N:=.a .D .C
def P.bS:P:=.g .C .D
def P.bU:P:=.k .D .C
def N.aQ:N:=.a .F .C
def P.c2:P:=.k .B .D
def N.aR:N:=.a .F .A
def P.c3:P:=.k .D .B
def P.c5:P:=.e .C .D
def P.c7:P:=.e .G .O
def P.c8:P:=.l .B .U
def P.cB:P:=.e .B .A
def P.cC:P:=.l .B .O
def P.cD:P:=.k .D .F
def P.cF:P:=.l .A .U
def P.a9:P:=.ik .O .A
def P.aC:P:=.ie .A .B
def P.aJ:P:=.il .A .B
def P.aP:P:=.ik .A .O
def P.aT:P:=.ig .A .B
def P.b5:P:=.il .B .A
def P.bL:P:=.il .O .A
def P.bN:P:=.ie .C .D
def P.cJ:P:=.ie .B .A
def P.aA:P:=.k .B (.n 61)
def P.b4:P:=.k .A (.n 61)
def P.cH:P:=.k .A (.n 63)
def P.aG:P:=.ie .L .A
def P.bD:P:=.l .B .a6
def P.cG:P:=.l .A .a6
def P.b3:P:=.k .A .Y
def P.bA:P:=.l .A .Y
def P.M:P:=.l .A (.n (2^60))
def P.a1:P:=.l .A (.n (2^40))
def P.cA:P:=.k .A (.n 16777216)
def P.aF:P:=.il .A (.n (2^64))
def P.aU:P:=.il .A .M
def N.aS:N:=.a (.m 2 .C) .U
def N.aU:N:=.a .aC .U
def P.cQ:P:=.k .A (.m 40 .B)
def P.F:P:=.k .L .C
def P.J:P:=.l .L .C
def P.O:P:=.e (.a .D .A) .C
def P.R:P:=.k .A .P
def P.S:P:=.k .M .B
def P.T:P:=.e .L .C
def P.Z:P:=.l .M .B
def P.a2:P:=.k .S .B
def N.a2:N:=.a .M .B
def P.a5:P:=.e .A .Q
def N.a4:N:=.a .A .P
def P.a7:P:=.e .A .P
def P.a8:P:=.e .M .C
def P.aI:P:=.e .M .B
def P.aK:P:=.k .A .Z
def P.aM:P:=.l .A .P
def P.aW:P:=.k .X .C
def P.aY:P:=.e (.a .G .A) .C
def P.b1:P:=.e .V .C
def P.b2:P:=.e .R .F
def P.b8:P:=.e .Q .D
def N.aH:N:=.a .L .U
def P.bG:P:=.e .P .A
def P.bM:P:=.e .a3 .D
def P.bQ:P:=.k .A .L
def N.aM:N:=.a .B .T
def P.bR:P:=.k .V .C
def P.bW:P:=.k .L .D
def P.bX:P:=.k .R .B
def P.bY:P:=.k .U .L
def P.c0:P:=.e (.a .B .G) .F
def P.c1:P:=.e (.a .D .G) .F
def P.c4:P:=.k .C .P
def P.c6:P:=.e .S .D
def P.c9:P:=.e .a7 .B
def E.Q:E:=.a .A (.s .B .U)
def N.aT:N:=.a .C .a0
def P.cI:P:=.l .C .aA
def P.cN:P:=.k .A (.a .B .O)
def P.cR:P:=.e (.a .G .A) .D
def P.aN:P:=.ie .L (.g .A)
def P.a6:P:=.il (.g (.n (2^64))) .A
def P.aB:P:=.ik (.g .M) .A
def P.aV:P:=.e .B (.a .A (.n 3))
def P.bK:P:=.ie .L (.g .P)
def N.aK:N:=.r (.a (.r .B 63) .C) 63
def P.cK:P:=.e (.a .aC .F) .G
def P.K:P:=.k .a4 .C
def P.aD:P:=.l (.a .M .U) .B
def P.aS:P:=.k .M .P
def P.bC:P:=.e .L .R
def P.bF:P:=.k .a2 .C
def P.bT:P:=.k .L .R
def P.bZ:P:=.k (.a .A .Q) .D
def P.cM:P:=.k .A (.a .P .O)
def P.cP:P:=.k (.a .A .T) .B
def P.cS:P:=.k .U (.a .A .L)
def P.cL:P:=.k (.a (.a .A .G) .H) .X
def P.aL:P:=.ie (.s (.t .M) .U) .L
def P.bV:P:=.e .a4 .a2
def P.bI:P:=.l (.a (.a .A (.m 3 .P)) (.n 20)) .C
end Ar
namespace Mine.Z
abbrev av:=λ{k0 k1}=>@Ar.a1 [] [k0,k1]
abbrev fc:=λ{k0 k1 k2}=>@Ar.a1 [] [k0,k1,k2]
abbrev kh:=λ{c0}=>@Ar.a1 [c0] []
abbrev ll:=λ{k0 k1 k2 k3 k4}=>@Ar.a3 [] [k0,k1,k2,k3,k4]
abbrev fb:=λ{k0 k1 k2}=>@Ar.a2 [] [k0,k1,k2]
abbrev fy:=λ{k0 k1 k2 k3}=>@Ar.a2 [] [k0,k1,k2,k3]
abbrev my:=λ{k0 k1}=>@Ar.a0 [] [k0,k1]
abbrev oz:=λ{k0 k1 k2 k3 k4}=>@Ar.a2 [] [k0,k1,k2,k3,k4]
abbrev oq:=λ{k0 k1 k2}=>@Ar.a3 [] [k0,k1,k2]
abbrev nu:=λ{k0}=>@Ar.a0 [] [k0]
abbrev sh:=λ{c0 c1}=>@Ar.a1 [c0,c1] []
abbrev kA:=λ{k0 k1 k2 k3}=>@Ar.a1 [] [k0,k1,k2,k3]
abbrev gj:=λ{k0 k1}=>@Ar.a2 [] [k0,k1]
abbrev fh:=λ{k0}=>@Ar.a1 [] [k0]
abbrev mr:=λ{k0 k1 k2 k3}=>@Ar.a3 [] [k0,k1,k2,k3]
abbrev KV:=λ{k0 k1 k2 k3 k4 k5}=>@Ar.a6 [] [k0,k1,k2,k3,k4,k5]
abbrev j5:=λ{k0 k1 k2 k3 k4}=>@Ar.a4 [] [k0,k1,k2,k3,k4]
abbrev zo:=@Ar.a0 [] []
abbrev mZ:=λ{k0 k1 k2 k3}=>@Ar.a4 [] [k0,k1,k2,k3]
abbrev sg:=λ{c0 k0}=>@Ar.a2 [c0] [k0]
abbrev i5:=λ{c0 c1 c2}=>@Ar.a2 [c0,c1,c2] []
abbrev zm:=λ{k0 k1 k2 k3 k4 k5}=>@Ar.a3 [] [k0,k1,k2,k3,k4,k5]
abbrev mY:=λ{k0 k1 k2 k3 k4 k5}=>@Ar.a5 [] [k0,k1,k2,k3,k4,k5]
abbrev DL:=λ{k0 k1 k2 k3 k4 k5 k6}=>@Ar.a5 [] [k0,k1,k2,k3,k4,k5,k6]
abbrev DM:=λ{k0 k1 k2 k3 k4}=>@Ar.a5 [] [k0,k1,k2,k3,k4]
abbrev nZ:=λ{k0}=>@Ar.a2 [] [k0]
abbrev rJ:=λ{k0 k1 k2 k3 k4 k5 k6}=>@Ar.a2 [] [k0,k1,k2,k3,k4,k5,k6]
abbrev DP:=λ{c0 k0}=>@Ar.a1 [c0] [k0]
abbrev IQ:=λ{c0 k0}=>@Ar.a3 [c0] [k0]
abbrev DO:=λ{c0 k0 k1}=>@Ar.a2 [c0] [k0,k1]
abbrev DN:=λ{k0 k1 k2 k3 k4 k5 k6}=>@Ar.a3 [] [k0,k1,k2,k3,k4,k5,k6]
abbrev N1:=@Ar.a1 [] []
abbrev MV:=λ{k0 k1 k2 k3 k4 k5 k6 k7 k8 k9}=>@Ar.a6 [] [k0,k1,k2,k3,k4,k5,k6,k7,k8,k9]
abbrev O4:=λ{k0 k1 k2 k3 k4 k5 k6 k7 k8 k9 k10}=>@Ar.a7 [] [k0,k1,k2,k3,k4,k5,k6,k7,k8,k9,k10]
abbrev xy:=λ{k0 k1 k2 k3 k4 k5}=>@Ar.a4 [] [k0,k1,k2,k3,k4,k5]
abbrev N0:=λ{k0 k1 k2 k3 k4}=>@Ar.a1 [] [k0,k1,k2,k3,k4]
abbrev O6:=λ{k0 k1 k2 k3 k4 k5 k6 k7 k8 k9}=>@Ar.a7 [] [k0,k1,k2,k3,k4,k5,k6,k7,k8,k9]
abbrev N2:=λ{c0 c1 c2}=>@Ar.a0 [c0,c1,c2] []
abbrev n4:=λ{c0 c1}=>@Ar.a2 [c0,c1] []
abbrev IP:=λ{c0 c1 k0}=>@Ar.a3 [c0,c1] [k0]
abbrev OA:=λ{k0 k1 k2 k3 k4 k5}=>@Ar.a2 [] [k0,k1,k2,k3,k4,k5]
abbrev HR:=λ{k0 k1 k2 k3 k4 k5 k6}=>@Ar.a4 [] [k0,k1,k2,k3,k4,k5,k6]
abbrev i4:=λ{c0 c1 c2 c3}=>@Ar.a2 [c0,c1,c2,c3] []
abbrev pF:=λ{c0}=>@Ar.a0 [c0] []
abbrev MX:=λ{k0 k1 k2 k3 k4 k5 k6 k7 k8}=>@Ar.a5 [] [k0,k1,k2,k3,k4,k5,k6,k7,k8]
abbrev O9:=λ{k0 k1 k2 k3 k4 k5 k6 k7 k8}=>@Ar.a6 [] [k0,k1,k2,k3,k4,k5,k6,k7,k8]
abbrev MZ:=λ{k0 k1}=>@Ar.a3 [] [k0,k1]
abbrev MW:=λ{k0 k1 k2 k3 k4 k5 k6}=>@Ar.a6 [] [k0,k1,k2,k3,k4,k5,k6]
abbrev O7:=λ{k0 k1 k2 k3 k4 k5 k6 k7}=>@Ar.a7 [] [k0,k1,k2,k3,k4,k5,k6,k7]
abbrev O3:=λ{k0 k1 k2 k3 k4 k5 k6 k7}=>@Ar.a8 [] [k0,k1,k2,k3,k4,k5,k6,k7]
abbrev O8:=λ{k0 k1 k2 k3 k4 k5 k6}=>@Ar.a7 [] [k0,k1,k2,k3,k4,k5,k6]
abbrev MY:=λ{c0 k0 k1}=>@Ar.a3 [c0] [k0,k1]
end Mine.Z
end
section
set_option tactic.hygienic true
set_option backward.match.sparseCases false
namespace MP
set_option genSizeOf false
set_option genInjectivity false
open PySem
structure EV where
 ks:List Expr
 s:Str
 k:Nat
 op:BoolOp
 g:List Comprehension×Scope
 b:Option Expr×Option Expr
 c:Const
abbrev vk (ks:List Expr):EV:=#[ks,"",0,.And,([],default),(none,none),.none]
abbrev v0:EV:=vk []
abbrev vw (x:Expr):EV:=Expr.casesOn (motive_1:=λ_=>EV) x
 (λop xs _=>#[xs,"",0,op,([],default),(none,none),.none])
 (λ_ _ _=>v0)
 (λl _ r _=>vk [l,r])
 (λ_ y _=>vk [y])
 (λ_ _ _ _=>v0)
 (λu y z _=>vk [u,y,z])
 (λ_ _ _=>v0)
 (λ_ _ _=>v0)
 (λy gs sc _=>#[[y],"",0,.And,(gs,sc),(none,none),.none])
 (λ_ _ _ _=>v0)
 (λy z gs sc _=>#[[y,z],"",0,.And,(gs,sc),(none,none),.none])
 (λ_ _ _ _=>v0)
 (λ_ _=>v0)
 (λ_ _=>v0)
 (λ_ _=>v0)
 (λl _ r _=>vk (l::r))
 (λf xs _ _=>vk (f::xs))
 (λ_ _ _ _=>v0)
 (λ_ _=>v0)
 (λc k _=>#[[],"",k,.And,([],default),(none,none),c])
 (λy _ _=>vk [y])
 (λy z _=>vk [y,z])
 (λ_ _=>v0)
 (λy _=>#[[],y,0,.And,([],default),(none,none),.none])
 (λxs _=>vk xs)
 (λxs k _=>#[xs,"",k,.And,([],default),(none,none),.none])
 (λl h st _=>#[st.toList,"",0,.And,([],default),(l,h),.none])
abbrev hV (k:Nat)(x:Expr):Bool:=Nat.beq x.ctorIdx k
abbrev kids (x:Expr):List Expr:=(vw x).ks
abbrev kid (i:Nat)(x:Expr):Expr:=(kids x).getD i default
abbrev mx (x:Expr):Str:=(vw x).s
abbrev exK (x:Expr):Nat:=(vw x).k
abbrev xU (x:Expr):Str:=match (vw x).c with
 |.str t=>t
 |_=>""
structure SV where
 es:List Expr
 b:List Stmt
 c:List Stmt
abbrev s0:SV:=#[[],[],[]]
abbrev sw (x:Stmt):SV:=Stmt.casesOn (motive_2:=λ_=>SV) x
 (λ_ _ _ _ _ _ _ _ _ _=>s0)
 (λ_ _ _ _ _ _ _ _ _ _=>s0)
 (λ_ _ _ b _ _ _ _ _ _ _=>#[[],b,[]])
 (λe _=>#[e.toList,[],[]])
 (λts _=>#[ts,[],[]])
 (λts e _=>#[e::ts,[],[]])
 (λ_ _ _ _ _ _ _=>s0)
 (λt _ e _=>#[[e,t],[],[]])
 (λ_ _ _ _ _=>s0)
 (λt e b _ _=>#[[e,t],b,[]])
 (λ_ _ _ _ _=>s0)
 (λe b _ _=>#[[e],b,[]])
 (λe b c _=>#[[e],b,c])
 (λ_ _ _=>s0)
 (λ_ _ _=>s0)
 (λ_ _ _=>s0)
 (λ_ _ _=>s0)
 (λ_ _ _ _ _=>s0)
 (λ_ _ _ _ _=>s0)
 (λ_ _ _=>s0)
 (λ_ _=>s0)
 (λ_ _ _ _=>s0)
 (λ_ _=>s0)
 (λ_ _=>s0)
 (λe _=>#[[e],[],[]])
 (λ_=>s0)
 (λ_=>s0)
 (λ_=>s0)
abbrev yx (x:Stmt):List Expr:=(sw x).es
abbrev st0 (x:Stmt):Expr:=(yx x).headD default
end MP
end
section
set_option backward.match.sparseCases false
open PySem PySem.W PyProof.Rows
set_option maxHeartbeats 0
namespace Mine
public abbrev pw:Program:=PySem.Challenge.pw_dm0056_07
public abbrev an:Option Value:=some (Value.ref 6)
public abbrev p0:Pos:=#[0,0,0,0]
public abbrev TB:String->Option Builtin:=PySem.W.Fast.tw14364793385576792824
def goT:=PySem.W.Fast.tw10295753902157049106
def LL:=PySem.W.Fast.tw10110043849684766642
public abbrev JS:Builtin:=PySem.W.Fast.tw4202317264376624991
public abbrev B0:List Frame:=[topFrame p0]
abbrev iY (x:Stmt):Str:=MP.xU (MP.st0 ((MP.sw x).b.headD default))
abbrev NY (d:Str)(x:Stmt):Stmt:=.Expr (.Constant (.str d) (MP.exK (MP.st0 x)) (MP.st0 x).pos) x.pos
abbrev HD (d:Str):Stmt->Stmt
 |.ClassDef n b k bo dl tp sc ts bd sa pos=>.ClassDef n b k (bo.modify 0 (NY d)) dl tp sc ts bd sa pos
 |s=>s
abbrev IM (i:Nat)(d:Str)(p:Program):Program:={p with main:={p.main with body:=p.main.body.modify i (HD d)}}
abbrev Ds:{s:String // iY (pw.main.body.getD 5 default)=Str.ofString s}:=#[_,rfl]
abbrev IL:{cs:List Char // String.ofList cs=Ds.1}:=#[_,rfl]
abbrev MG:Str:=#[(PySem.W.R.mapR Char.toNat IL.1).toArray]
def HE:iY (pw.main.body.getD 5 default)=MG:=by
 rw[Ds.2,<- IL.2,Fast.ofString_ofList,PySem.W.R.mapR_eq];rfl
abbrev pwF:Program:=IM 5 MG pw
def JL:pwF=pw:=by
 have h:IM 5 (iY (pw.main.body.getD 5 default)) pw=pw:=by kernel_rfl
 rw[HE]at h;show h
abbrev S0 (w:World)(os:OsState):Shared:=#[boot_heap w.params,#[[]],boot_drawn,boot_toks,os]
public abbrev bE:List Stmt:=behindTheImports pw
public abbrev bF:List Stmt:=behindTheImports pwF
def MT:bF=bE:=di behindTheImports JL
public abbrev H9:Env:={scope:=pw.main.scope,locals:=mainNs,globals:=mainNs,cells:=[],code:=Value.ref 13,frame:=some 14}
public abbrev cE:Code:=Code.body bE H9
abbrev X0 (w:World)(os:OsState):Option (Shared×Thread):=topGo TB pw w 11 an 12 (S0 w os) (topStub pw)
abbrev ob (w:World)(os:OsState)(i:Nat):Obj:=((X0 w os).elim (S0 w os) (·.1)).heap.objs.toList.getD i default
abbrev T4 (w:World)(os:OsState):BT:=
 .node (ob w os 0)
  (.node (ob w os 1) (.node (ob w os 3) (.node (ob w os 7) .nil .nil) (.node (ob w os 11) .nil .nil)) (.node (ob w os 5) (.node (ob w os 9) .nil .nil) (.node (ob w os 13) .nil .nil)))
  (.node (ob w os 2) (.node (ob w os 4) (.node (ob w os 8) .nil .nil) (.node (ob w os 12) .nil .nil)) (.node (ob w os 6) (.node (ob w os 10) .nil .nil) (.node (ob w os 14) .nil .nil)))
abbrev S4 (w:World)(os:OsState):SharedT:={tree:=T4 w os,n:=15,life:={},gens:=#[[]],drawn:={},toks:=187,os:=os}
def pre:(λw os=>topGo TB pw w 11 an 12 (S0 w os) (topStub pw))=λw os=>some ((S4 w os).abs,#[denote TB cE,cE,p0,B0]):=by kernel_rfl
def blk:(λw os=>segRun TB pw w 11 an 1 1 (S4 w os).abs (blockOf bE H9 cE p0 B0))=λw os=>some (Flow.next,(S4 w os).abs,cE,p0):=by kernel_rfl
def fin:(λw c q s=>topRun TB pw w 11 an 2 s #[doneF .next,c,q,B0])=λw c q s=>some s:=by kernel_rfl
end Mine
end
section
set_option backward.match.sparseCases false
open PySem PySem.W PyProof.Rows
set_option maxHeartbeats 0
namespace Mine
abbrev xR (as:Array Nat)(p:Nat->Bool)(start stop:Nat):Bool:=
 match Nat.beq start 0,Nat.beq stop as.size with
 |true,true=>PySem.W.R.anyR as.toList p
 |_,_=>Array.any as p start stop
def vK:@Array.any Nat=xR:=by
 funext as p start stop
 unfold xR;split
 ·rename_i Y Z;have U:=Nat.eq_of_beq_eq_true Y;have X:=Nat.eq_of_beq_eq_true Z;subst U X;rw[<- PySem.W.R.anyR_eq,Array.any_toList]
 ·rfl
abbrev th0:Thread:=piecesOf bF H9 cE p0 B0
abbrev XA (w:World)(os:OsState):Option (SharedT×Thread):=goT TB pw w 11 an 1 1966 (S4 w os) th0
abbrev sA (w:World)(os:OsState):SharedT:=(XA w os).elim (S4 w os) (·.1)
abbrev tA (w:World)(os:OsState):Thread:=(XA w os).elim th0 (·.2)
abbrev gI (t:Thread):Args:=match t.code with|.builtin _ a=>a|_=>{}
def atA:(λw os=>((XA w os).isSome,(tA w os).cur))=λw os=>(true,JS (gI (tA w os))):=by kernel_rfl
end Mine
end
section
set_option backward.match.sparseCases false
namespace MP
set_option genSizeOf false
open PySem
set_option genCtorIdx true in
inductive Key where
 |int (i:Int)
 |str (s:Str)
 deriving DecidableEq
variable {α:Type}{i:Addr}{f:Addr->Prop}{vs:List V}
inductive V where
 |none
 |bool (b:Bool)
 |int (i:Int)
 |str (s:Str)
 |L (a:Addr)
 |dct (a:Addr)
 |set (a:Addr)
 |obj (a:Addr)
 |T (xs:List V)
 |mt (xs:List V)
 |gF (a:Addr)
 |gX (a:Addr)
 |clo (k:Nat) (cs:List V)
 |ro (ns:List Int)
abbrev V.qL:V->Option Key
 |.int i=>some (.int i)
 |.str s=>some (.str s)
 |_=>Option.none
abbrev Key.v:Key->V
 |.int i=>.int i
 |.str s=>.str s
structure St where
 L:Addr->Option (List V)
 D:Addr->Option (List (Key×V))
 S:Addr->Option (List Key)
 I:Addr->Option (Addr×(Nat->Option V))
 Z:Addr->Option Obj
def Fr:=Nat->Option V
abbrev upd {α:Type}(f:Nat->Option α)(i:Nat)(v:α):Nat->Option α:=λj=>if j=i then some v else f j
def cn (f:Nat->Option α)(i:Nat)(v:α):upd f i v i=some v:=by simp[upd]
def fg {f:Nat->Option α}{i j:Nat}{v:α}(h:j≠i):upd f i v j=f j:=by simp[upd,h]
abbrev St.ew (σ:St)(a:Addr)(xs:List V):St:={σ with L:=upd σ.L a xs}
abbrev clr {α:Type}(f:Nat->Option α)(i:Nat):Nat->Option α:=λj=>if j=i then none else f j
def mU {f:Nat->Option α}{i j:Nat}{v:α}(h:clr f i j=some v):j≠i/\f j=some v:=by
 unfold clr at h;by_cases q:j=i
 ·rw[cp q]at h;cases h
 ·rw[bb q]at h;apply#[q,h]
abbrev St.nj (σ:St)(a:Addr)(es:List (Key×V)):St:={σ with D:=upd σ.D a es,Z:=clr σ.Z a}
abbrev St.xp (σ:St)(a:Addr)(ks:List Key):St:={σ with S:=upd σ.S a ks,Z:=clr σ.Z a}
abbrev St.jn (σ:St)(a:Addr)(d:Addr)(f:Nat->Option V):St:={σ with I:=upd σ.I a (d,f)}
abbrev St.dom (σ:St)(b:Addr):Prop:=(σ.L b).isSome\/(σ.D b).isSome\/(σ.S b).isSome\/(σ.I b).isSome\/(σ.Z b).isSome\/∃a f,σ.I a=some (b,f)
set_option genInjectivity false
set_option genCtorIdx true in
inductive Bop where
 |add|sub|mul|fdiv|mod|pow
set_option genCtorIdx true in
inductive Cop where
 |eq|ne|lt|le|gt|ge|is|isNot|isIn|notIn
set_option genCtorIdx true in
inductive BM where
 |append
 |pop
 |insert|extend
 |sort
 |index|count|get|setdefault|add
set_option genCtorIdx true in
inductive BF where
 |len
 |set
 |sorted
inductive Tg where
 |v (x:Nat)
 |T (xs:List Nat)
mutual
inductive Ex where
 |none
 |bool (b:Bool)
 |int (i:Int)
 |str (s:Str)
 |l (x:Nat)
 |b (op:Bop) (a b:Ex)
 |neg (a:Ex)
 |not (a:Ex)
 |and (a b:Ex)
 |or (a b:Ex)
 |c (op:Cop) (a b:Ex)
 |I (c a b:Ex)
 |L (es:Exs)
 |T (es:Exs)
 |dct0
 |call (f:Nat) (es:Exs)
 |meth (e:Ex) (m:Nat) (es:Exs)
 |attr (e:Ex) (a:Nat)
 |g (e:Ex)
 |h (e:Ex)
 |bm (k:BM) (e:Ex) (es:Exs)
 |bf (k:BF) (es:Exs)
 |w (f:Nat) (es:Exs)
 |sub (e i:Ex)
 |slc (e lo hi:Ex)
 |K (fv:List (Nat×Nat)) (it:It) (t:Tg) (cs:Exs) (more:Gens)
 |n (es:Exs)
 |N (a b c:Ex)
 |M (e:Ex)
 |dead
inductive Exs where
 |nil
 |cons (e:Ex) (es:Exs)
inductive It where
 |rng1 (e:Ex)
 |rng2 (a b:Ex)
 |enum (e:Ex)
 |seq (e:Ex)
inductive Gens where
 |elt (e:Ex)
 |cons (it:It) (t:Tg) (cs:Exs) (more:Gens)
end
inductive QE where
 |int (i:Int)
 |l (x:Nat)
 |b (op:Bop) (a b:QE)
inductive Tgt where
 |v (x:Nat)
 |attr (o:Ex) (a:Nat)
 |sub (o i:Ex)
 |T (xs:List Nat)
mutual
inductive Stm where
 |a (ts:List Tgt) (e:Ex)
 |aug (x:Nat) (op:Bop) (e:Ex)
 |dcompA (i:Nat) (fv:List (Nat×Nat)) (e:Ex) (x:Nat) (v:QE)
 |expr (e:Ex)
 |C (c:Ex) (t e:pq)
 |loop (c:Ex) (b:pq)
 |each (t:Tg) (it:It) (b:pq)
 |ret (e:Ex)
 |brk
 |cont
 |pass
 |dead
inductive pq where
 |nil
 |cons (s:Stm) (ss:pq)
end
set_option genCtorIdx true in
inductive Fl where
 |next|brk|cont
 |ret (v:V)
abbrev iZ (σ:St):Nat->V->Option PyData
 |_,.none=>some .none
 |_,.bool b=>some (.bool b)
 |_,.int i=>some (.int i)
 |_,.str s=>if PyData.strOk s then some (.str s) else Option.none
 |n+1,.T xs=>(xs.mapM (iZ σ n)).map .tuple
 |n+1,.L a=>(σ.L a).bind λxs=>(xs.mapM (iZ σ n)).map .list
 |_,_=>Option.none
abbrev bz:Nat:=1000000
abbrev CL (a b:Int):Prop:=a.natAbs<2^60\/b.natAbs<2^60
abbrev vInt:V->Option Int
 |.int i=>some i|_=>none
abbrev vStr:V->Option Str
 |.str i=>some i|_=>none
abbrev jX:V->Option Addr
 |.L i=>some i|_=>none
abbrev EG:V->Option Addr
 |.dct i=>some i|_=>none
abbrev J4:V->Option Addr
 |.obj i=>some i|_=>none
abbrev vRo:V->Option (List Int)
 |.ro i=>some i|_=>none
abbrev J1:V->Option (List V)
 |.T i=>some i|_=>none
def jf {x:α}{p:Prop}(h:none=some x):p:=by cases h
def qx {v:V}{i:Int}(h:vInt v=some i):v=.int i:=by
 cases v<;>first|show di _ (ah h)|show jf h
def eL {v:V}{i:Str}(h:vStr v=some i):v=.str i:=by
 cases v<;>first|show di _ (ah h)|show jf h
def gQ {v:V}(h:jX v=some i):v=.L i:=by
 cases v<;>first|show di _ (ah h)|show jf h
def EF {v:V}(h:EG v=some i):v=.dct i:=by
 cases v<;>first|show di _ (ah h)|show jf h
def wH {v:V}(h:J4 v=some i):v=.obj i:=by
 cases v<;>first|show di _ (ah h)|show jf h
def J3 {v:V}{i:List Int}(h:vRo v=some i):v=.ro i:=by
 cases v<;>first|show di _ (ah h)|show jf h
def ED {v:V}{i:List V}(h:J1 v=some i):v=.T i:=by
 cases v<;>first|show di _ (ah h)|show jf h
abbrev jH (v:V)(f:Int->Prop):Prop:=match v with
 |.int i=>f i
 |_=>False
def yj {v:V}{f:Int->Prop}(h:jH v f):∃i,v=.int i/\f i:=by
 cases v<;>first|refine⟨_,rfl,h⟩|show False.elim h
abbrev cZ (v:V)(f:Addr->Prop):Prop:=match v with
 |.L i=>f i
 |_=>False
def ud {v:V}(h:cZ v f):∃i,v=.L i/\f i:=by
 cases v<;>first|refine⟨_,rfl,h⟩|show False.elim h
abbrev oJ (v:V)(f:Addr->Prop):Prop:=match v with
 |.dct i=>f i
 |_=>False
def gZ {v:V}(h:oJ v f):∃i,v=.dct i/\f i:=by
 cases v<;>first|refine⟨_,rfl,h⟩|show False.elim h
abbrev onSet (v:V)(f:Addr->Prop):Prop:=match v with
 |.set i=>f i
 |_=>False
def FY {v:V}(h:onSet v f):∃i,v=.set i/\f i:=by
 cases v<;>first|refine⟨_,rfl,h⟩|show False.elim h
abbrev on0 (vs:List V)(p:Prop):Prop:=match vs with
 | []=>p
 |_::_=>False
abbrev on1 (vs:List V)(f:V->Prop):Prop:=match vs with
 | []=>False
 |v::r=>on0 r (f v)
abbrev on2 (vs:List V)(f:V->V->Prop):Prop:=match vs with
 | []=>False
 |v::r=>on1 r (f v)
abbrev on3 (vs:List V)(f:V->V->V->Prop):Prop:=match vs with
 | []=>False
 |v::r=>on2 r (f v)
def wZ {p:Prop}(h:on0 vs p):vs=[]/\p:=by
 cases vs
 ·apply#[rfl,h]
 ·show False.elim h
def jI {f:V->Prop}(h:on1 vs f):∃v,vs=[v]/\f v:=by
 cases vs with
 |nil=>show False.elim h
 |cons v r=>have#[rfl,h]:=wZ (p:=f v) h;apply#[v,rfl,h]
def oK {f:V->V->Prop}(h:on2 vs f):∃v u,vs=[v,u]/\f v u:=by
 cases vs with
 |nil=>show False.elim h
 |cons v r=>have#[u,rfl,h]:=jI (f:=f v) h;apply#[v,u,rfl,h]
def LQ {f:V->V->V->Prop}(h:on3 vs f):∃v u z,vs=[v,u,z]/\f v u z:=by
 cases vs with
 |nil=>show False.elim h
 |cons v r=>have#[u,z,rfl,h]:=oK (f:=f v) h;apply#[v,u,z,rfl,h]
abbrev kT (op:Bop)(a b:Int)(σ:St)(Q:V->St->Prop):Prop:=match op with
 |.add=>Q (.int (a+b)) σ
 |.sub=>Q (.int (a-b)) σ
 |.mul=>CL a b/\Q (.int (a*b)) σ
 |.fdiv=>b≠0/\b.natAbs<2^60/\Q (.int (a.fdiv b)) σ
 |.mod=>b≠0/\Q (.int (a.fmod b)) σ
 |.pow=>0<=b/\b<=1000/\a.natAbs<2^64/\Q (.int (a^b.toNat)) σ
abbrev itemsOf (a:V)(σ:St):Option (List V):=match jX a with
 |some l=>σ.L l
 |none=>(vRo a).map λns=>ns.map V.int
abbrev I8 (a:V)(b:Addr)(σ:St)(Q:V->St->Prop):Prop:=∃xs ys,itemsOf a σ=some xs/\σ.L b=some ys/\xs.length+ys.length<=bz/\∀c,σ.L c=Option.none->Q (.L c) (σ.ew c (xs++ys))
abbrev HZ (a:Addr)(n:Int)(σ:St)(Q:V->St->Prop):Prop:=∃xs,σ.L a=some xs/\xs.length*n.toNat<=bz/\n.natAbs<2^60/\∀c,σ.L c=Option.none->Q (.L c) (σ.ew c ((List.replicate n.toNat xs).flatten))
abbrev jB (op:Bop)(a b:V)(σ:St)(Q:V->St->Prop):Prop:=match vInt a,vInt b with
 |some i,some j=>kT op i j σ Q
 |none,some n=>match op,jX a with
  |.mul,some l=>HZ l n σ Q
  |_,_=>False
 |none,none=>match op,jX b with
  |.add,some m=>I8 a m σ Q
  |_,_=>False
 |_,_=>False
def s9 {op:Bop}{a b:V}{σ:St}{Q:V->St->Prop}(h:jB op a b σ Q):(∃i j,a=.int i/\b=.int j/\kT op i j σ Q)\/(op=.mul/\∃l n,a=.L l/\b=.int n/\HZ l n σ Q)\/(op=.add/\∃m,b=.L m/\I8 a m σ Q):=by
 unfold jB at h;cases O:vInt a with
 |some i =>
  cases U:vInt b with
  |some j=>rw[O,U]at h;show .inl #[i,j,qx O,qx U,h]
  |none=>rw[O,U]at h;show h.elim
 |none =>
  cases U:vInt b with
  |some j =>
   rw[O,U]at h;cases W:jX a with
   |none=>rw[W]at h;cases op<;>show h.elim
   |some l =>
    rw[W]at h;cases op with
    |mul=>show .inr (.inl #[rfl,l,j,gQ W,qx U,h])
    |_=>show h.elim
  |none =>
   rw[O,U]at h;cases W:jX b with
   |none=>rw[W]at h;cases op<;>show h.elim
   |some m =>
    rw[W]at h;cases op with
    |add=>show .inr (.inr #[rfl,m,gQ W,h])
    |_=>show h.elim
abbrev wG (a b:V)(σ:St)(K:Bool->Prop):Prop:=∃d e,iZ σ 6 a=some d/\iZ σ 6 b=some e/\K (PyData.eqv d e)
abbrev s7 (a b:V)(σ:St)(K:Bool->Prop):Prop:=match vInt a with
 |some i=>match vInt b with
  |some j=>K (i==j)
  |none=>wG a b σ K
 |none=>match vStr a with
  |some x=>match vStr b with
   |some y=>K (x==y)
   |none=>wG a b σ K
  |none=>wG a b σ K
def kS {a b:V}{σ:St}{K:Bool->Prop}(h:s7 a b σ K):(∃i j,a=.int i/\b=.int j/\K (i==j))\/(∃x y,a=.str x/\b=.str y/\K (x==y))\/wG a b σ K:=by
 unfold s7 at h;cases O:vInt a with
 |some i =>
  rw[O]at h;cases W:vInt b with
  |some j=>rw[W]at h;show .inl #[i,j,qx O,qx W,h]
  |none=>rw[W]at h;show .inr (.inr h)
 |none =>
  rw[O]at h;cases U:vStr a with
  |none=>rw[U]at h;show .inr (.inr h)
  |some x =>
   rw[U]at h;cases W:vStr b with
   |some y=>rw[W]at h;show .inr (.inl #[x,y,eL U,eL W,h])
   |none=>rw[W]at h;show .inr (.inr h)
abbrev isNone:V->Bool
 |.none=>true
 |_=>false
abbrev I7 (b:Addr)(v:V)(σ:St)(K:Bool->Prop):Prop:=match v with
 |.L a=>(σ.L a).isSome/\(σ.L b).isSome/\K (a==b)
 |.none=>K false
 |_=>False
abbrev DZ (v w:V)(σ:St)(K:Bool->Prop):Prop:=match w with
 |.none=>K (isNone v)
 |.L b=>I7 b v σ K
 |_=>False
abbrev E7 (a b:V)(σ:St)(K:Bool->Prop):Prop:=jH a λi=>cZ b λl=>∃ns:List Int,σ.L l=some (ns.map V.int)/\K (ns.contains i)
abbrev NN (op:Cop)(a b:Int)(K:Bool->Prop):Prop:=match op with
 |.lt=>K (decide (a<b))
 |.le=>K (decide (a<=b))
 |.gt=>K (decide (b<a))
 |.ge=>K (decide (b<=a))
 |_=>False
abbrev I6 (op:Cop)(a b:V)(K:Bool->Prop):Prop:=jH a λi=>jH b λj=>NN op i j K
abbrev o7:Cop->V->V->St->(Bool->Prop)->Prop
 |.eq,a,b,σ,K=>s7 a b σ K
 |.ne,a,b,σ,K=>s7 a b σ λr=>K (!r)
 |.is,a,b,σ,K=>DZ a b σ K
 |.isNot,a,b,σ,K=>DZ a b σ λr=>K (!r)
 |.isIn,a,b,σ,K=>E7 a b σ K
 |.notIn,a,b,σ,K=>E7 a b σ λr=>K (!r)
 |op,a,b,σ,K=>I6 op a b K
abbrev uc:V->St->(Bool->Prop)->Prop
 |.none,_,K=>K false
 |.bool b,_,K=>K b
 |.int i,_,K=>K (i != 0)
 |.str s,_,K=>s.cps.size<=bz/\K (s.cps.size != 0)
 |.L a,σ,K=>∃xs,σ.L a=some xs/\K (!xs.isEmpty)
 |.ro ns,_,K=>ns.length<=bz/\K (!ns.isEmpty)
 |.clo _ _,_,K=>K true
 |_,_,_=>False
abbrev jw (n:Nat)(i:Int):Int:=if i<0 then i+n else i
abbrev iw (n:Nat)(i:Int):Nat:=min n (jw n i).toNat
abbrev rT (a b:V)(σ:St)(K:V->Prop):Prop:=match a with
 |.L a=>jH b λi=>∃xs v,σ.L a=some xs/\0<=jw xs.length i/\xs[(jw xs.length i).toNat]?=some v/\K v
 |.ro ns=>jH b λi=>∃n,ns.length<=bz/\0<=jw ns.length i/\ns[(jw ns.length i).toNat]?=some n/\K (.int n)
 |.T xs=>jH b λi=>∃v,i.natAbs<2^60/\0<=jw xs.length i/\xs[(jw xs.length i).toNat]?=some v/\K v
 |.dct a=>∃es kk v,σ.D a=some es/\b.qL=some kk/\es.lookup kk=some v/\K v
 |_=>False
abbrev hU (d:Nat):V->Option Int
 |.none=>some d
 |.int i=>some i
 |_=>Option.none
abbrev wD (a lo hi:V)(σ:St)(Q:V->St->Prop):Prop:=match a with
 |.L a=>∃xs i j,σ.L a=some xs/\hU 0 lo=some i/\hU xs.length hi=some j/\i.natAbs<2^60/\j.natAbs<2^60 /\
   ∀c,σ.L c=Option.none->Q (.L c) (σ.ew c ((xs.take (iw xs.length j)).drop (iw xs.length i)))
 |.ro ns=>∃i j,ns.length<=bz/\hU 0 lo=some i/\hU ns.length hi=some j/\i.natAbs<2^60/\j.natAbs<2^60 /\
   ∀c,σ.L c=Option.none->Q (.L c) (σ.ew c (((ns.take (iw ns.length j)).drop (iw ns.length i)).map V.int))
 |_=>False
abbrev putD (es:List (Key×V))(k:Key)(v:V):List (Key×V):=
 if es.any (λe=>e.1==k) then es.map (λe=>if e.1=k then (k,v) else e) else es++[(k,v)]
abbrev ju:List Int->List Int->Bool
 |a::as,b::bs=>if a=b then ju as bs else decide (a<b)
 |_,_=>false
abbrev iT (t:List Int):V:=.T (t.map V.int)
abbrev tI (t:Int×Int×Int):V:=.T [.int t.1,.int t.2.1,.int t.2.2]
abbrev mtV (t:Int×Int×Int):V:=.mt [.int t.1,.int t.2.1,.int t.2.2]
abbrev leT (s t:Int×Int×Int):Bool:=!ju [t.1,t.2.1,t.2.2] [s.1,s.2.1,s.2.2]
abbrev LA (k:BM)(v:V)(vs:List V)(σ:St)(Q:V->St->Prop):Prop:=match k with
 |.append=>cZ v λa=>on1 vs λx=>∃xs,σ.L a=some xs/\xs.length<bz/\Q .none (σ.ew a (xs++[x]))
 |.pop=>cZ v λa=>on0 vs (∃xs x,σ.L a=some (xs++[x])/\Q x (σ.ew a xs))
 |.insert=>False
 |.extend=>cZ v λa=>on1 vs λx=>cZ x λb=>∃xs ys,a≠b/\σ.L a=some xs/\σ.L b=some ys/\xs.length+ys.length<=bz/\Q .none (σ.ew a (xs++ys))
 |.sort=>cZ v λa=>on0 vs (∃ts:List (Int×Int×Int),σ.L a=some (ts.map mtV)/\Q .none (σ.ew a ((ts.mergeSort leT).map mtV)))
 |.index=>False
 |.count=>False
 |.get=>oJ v λa=>on2 vs λk d=>∃es kk,σ.D a=some es/\k.qL=some kk/\Q ((es.lookup kk).getD d) σ
 |.setdefault=>oJ v λa=>on2 vs λk d=>∃es kk,σ.D a=some es/\k.qL=some kk/\es.length<bz/\Q ((es.lookup kk).getD d) (σ.nj a (if (es.lookup kk).isSome then es else es++[(kk,d)]))
 |.add=>False
abbrev MQ (k:BM)(v:V)(σ:St):Prop:=match k with
 |.get=>oJ v λa=>(σ.D a).isSome=true
 |.setdefault=>oJ v λa=>(σ.D a).isSome=true
 |.add=>onSet v λa=>(σ.S a).isSome=true
 |_=>cZ v λa=>(σ.L a).isSome=true
abbrev L9 (v:V)(σ:St)(Q:V->St->Prop):Prop:=match v with
 |.L a=>∃xs,σ.L a=some xs/\Q (.int xs.length) σ
 |.T xs=>xs.length<=bz/\Q (.int xs.length) σ
 |.ro ns=>ns.length<=bz/\Q (.int ns.length) σ
 |.dct a=>∃es,σ.D a=some es/\Q (.int es.length) σ
 |_=>False
abbrev A7 (k:BF)(vs:List V)(σ:St)(Q:V->St->Prop):Prop:=match k with
 |.len=>on1 vs λv=>L9 v σ Q
 |.set=>on0 vs (∀c,σ.S c=Option.none->σ.D c=Option.none->Q (.set c) (σ.xp c []))
 |.sorted=>on1 vs λv=>cZ v λa=>∃(ts:List (List Int)) (k:Nat),k≠0/\σ.L a=some (ts.map iT)/\(∀t∈ts,t.length=k)/\∀ts':List (List Int),ts'.Perm ts->ts'.Pairwise (λx y=>ju y x=false)->∀c,σ.L c=Option.none->Q (.L c) (σ.ew c (ts'.map iT))
abbrev EH:V->St->Option (List V)
 |.T vs,_=>some vs
 |.mt vs,_=>some vs
 |.L a,σ=>σ.L a
 |_,_=>Option.none
abbrev gr:List Nat->List V->Fr->Fr
 |x::xs,v::vs,ρ=>gr xs vs (upd ρ x v)
 |_,_,ρ=>ρ
abbrev qi:Tg->V->St->Fr->(Fr->Prop)->Prop
 |.v x,v,_,ρ,K=>K (upd ρ x v)
 |.T xs,v,σ,ρ,K=>∃vs,EH v σ=some vs/\xs.length=vs.length/\K (gr xs vs ρ)
abbrev rp (a b:Int):List V:=(List.range (b-a).toNat).map λi:Nat=>V.int (a+i)
def Cal:=Nat->List V->St->(V->St->Prop)->Prop
abbrev KW (f:V)(vs:List V)(C:Cal)(nclo:Nat)(σ:St)(Q:V->St->Prop):Prop:=match f with
 |.gF a=>on2 vs λk d=>∃es kk,σ.D a=some es/\k.qL=some kk/\Q ((es.lookup kk).getD d) σ
 |.gX a=>on1 vs λk=>∃ks kk,σ.S a=some ks/\k.qL=some kk/\Q (.bool (decide (kk∈ks))) σ
 |.clo k cs=>C (nclo+k) (vs++cs) σ Q
 |_=>False
abbrev dT (fv:List (Nat×Nat))(ρ:Fr):Fr:=λi=>(fv.lookup i).bind ρ
abbrev mF:List V->(St->Prop)->(V->Fr->List V->St->(Fr->List V->St->Prop)->Prop)->Fr->List V->St->(Fr->List V->St->Prop)->Prop
 | [],G,_,ρ,acc,σ,K=>G σ/\K ρ acc σ
 |v::vs,G,T,ρ,acc,σ,K=>G σ/\T v ρ acc σ λρ acc σ=>mF vs G T ρ acc σ K
abbrev HY (v:V)(σ:St)(K:List V->(St->Prop)->St->Prop):Prop:=match v with
 |.L a=>∃xs,σ.L a=some xs/\K xs (λτ=>τ.L a=some xs) σ
 |.T xs=>K xs (λ_=>True) σ
 |_=>False
mutual
noncomputable def wpE (C:Cal):Ex->Fr->St->(V->St->Prop)->Prop
 |.none,_,σ,Q=>Q .none σ
 |.bool b,_,σ,Q=>Q (.bool b) σ
 |.int i,_,σ,Q=>Q (.int i) σ
 |.str s,_,σ,Q=>Q (.str s) σ
 |.l x,ρ,σ,Q=>∃v,ρ x=some v/\Q v σ
 |.b op a b,ρ,σ,Q=>wpE C a ρ σ λva σ=>wpE C b ρ σ λvb σ=>jB op va vb σ Q
 |.neg a,ρ,σ,Q=>wpE C a ρ σ λv σ=>∃i,v=.int i/\Q (.int (-i)) σ
 |.not a,ρ,σ,Q=>wpE C a ρ σ λv σ=>uc v σ λb=>Q (.bool !b) σ
 |.and a b,ρ,σ,Q=>wpE C a ρ σ λv σ=>uc v σ λt=>if t then wpE C b ρ σ Q else Q v σ
 |.or a b,ρ,σ,Q=>wpE C a ρ σ λv σ=>uc v σ λt=>if t then Q v σ else wpE C b ρ σ Q
 |.c op a b,ρ,σ,Q=>wpE C a ρ σ λva σ=>wpE C b ρ σ λvb σ=>o7 op va vb σ λr=>Q (.bool r) σ
 |.I c a b,ρ,σ,Q=>wpT C c ρ σ λt σ=>if t then wpE C a ρ σ Q else wpE C b ρ σ Q
 |.L es,ρ,σ,Q=>uv C es ρ σ λvs σ=>vs.length<=bz/\∀c,σ.L c=Option.none->Q (.L c) (σ.ew c vs)
 |.T es,ρ,σ,Q=>uv C es ρ σ λvs σ=>vs.length<=bz/\Q (.T vs) σ
 |.dct0,_,σ,Q=>∀c,σ.D c=Option.none->Q (.dct c) (σ.nj c [])
 |.call f es,ρ,σ,Q=>uv C es ρ σ λvs σ=>C f vs σ Q
 |.meth e m es,ρ,σ,Q=>wpE C e ρ σ λv σ=>∃a,v=.obj a/\(σ.I a).isSome/\uv C es ρ σ λvs σ=>C m (v::vs) σ Q
 |.attr e x,ρ,σ,Q=>wpE C e ρ σ λv σ=>∃a d f u,v=.obj a/\σ.I a=some (d,f)/\f x=some u/\Q u σ
 |.g e,ρ,σ,Q=>wpE C e ρ σ λv σ=>∃a,v=.dct a/\(σ.D a).isSome/\Q (.gF a) σ
 |.h e,ρ,σ,Q=>wpE C e ρ σ λv σ=>∃a,v=.set a/\(σ.S a).isSome/\Q (.gX a) σ
 |.bm k e es,ρ,σ,Q=>wpE C e ρ σ λv σ=>MQ k v σ/\uv C es ρ σ λvs σ=>LA k v vs σ Q
 |.bf k es,ρ,σ,Q=>uv C es ρ σ λvs σ=>A7 k vs σ Q
 |.w f es,ρ,σ,Q=>∃v,ρ f=some v/\uv C es ρ σ λvs σ=>KW v vs C 1000 σ Q
 |.sub e i,ρ,σ,Q=>wpE C e ρ σ λv σ=>wpE C i ρ σ λj σ=>rT v j σ λr=>Q r σ
 |.slc e lo hi,ρ,σ,Q=>wpE C e ρ σ λv σ=>wpE C lo ρ σ λa σ=>wpE C hi ρ σ λb σ=>wD v a b σ Q
 |.K fv it t cs more,ρ,σ,Q=>uB C it ρ σ λvs G σ =>
   mF vs G (λv ρ' acc σ K=>qi t v σ ρ' λρ'=>yi C cs ρ' σ λok σ=>if ok then fT C more ρ' acc σ K else K ρ' acc σ) (dT fv ρ) [] σ
    λ_ acc σ=>∀c,σ.L c=Option.none->Q (.L c) (σ.ew c acc)
 |.n es,ρ,σ,Q=>uv C es ρ σ λvs σ=>∀a d,σ.I a=Option.none->C 0 (.obj a::vs) (σ.jn a d λ_=>Option.none) λv σ=>v=.none/\Q (.obj a) σ
 |.N a b c,ρ,σ,Q=>wpE C a ρ σ λx σ=>wpE C b ρ σ λy σ=>wpE C c ρ σ λz σ=>Q (.mt [x,y,z]) σ
 |.M e,ρ,σ,Q=>wpE C e ρ σ λv σ=>∃a,∃ts:List (List V),v=.L a/\σ.L a=some (ts.map V.T)/\(∀t∈ts,t.length=3)/\∀c,σ.L c=Option.none->Q (.L c) (σ.ew c (ts.map V.mt))
 |.dead,_,_,_=>False
noncomputable def wpT (C:Cal):Ex->Fr->St->(Bool->St->Prop)->Prop
 |.not a,ρ,σ,Q=>wpT C a ρ σ λb σ=>Q (!b) σ
 |.and a b,ρ,σ,Q=>wpT C a ρ σ λt σ=>if t then wpT C b ρ σ Q else Q false σ
 |.or a b,ρ,σ,Q=>wpT C a ρ σ λt σ=>if t then Q true σ else wpT C b ρ σ Q
 |.c op a b,ρ,σ,Q=>wpE C a ρ σ λva σ=>wpE C b ρ σ λvb σ=>o7 op va vb σ λr=>Q r σ
 |.I c a b,ρ,σ,Q=>wpT C c ρ σ λt σ=>if t then wpT C a ρ σ Q else wpT C b ρ σ Q
 |.l x,ρ,σ,Q=>∃v,ρ x=some v/\uc v σ λb=>Q b σ
 |.int i,_,σ,Q=>Q (i != 0) σ
 |.bool b,_,σ,Q=>Q b σ
 |.attr e x,ρ,σ,Q=>wpE C e ρ σ λv σ=>∃a d f u,v=.obj a/\σ.I a=some (d,f)/\f x=some u/\uc u σ λb=>Q b σ
 |.w f es,ρ,σ,Q=>∃v,ρ f=some v/\uv C es ρ σ λvs σ=>KW v vs C 1000 σ λr σ=>uc r σ λb=>Q b σ
 |.sub e i,ρ,σ,Q=>wpE C e ρ σ λv σ=>wpE C i ρ σ λj σ=>rT v j σ λr=>uc r σ λb=>Q b σ
 |.b op a b,ρ,σ,Q=>wpE C a ρ σ λva σ=>wpE C b ρ σ λvb σ=>jB op va vb σ λr σ=>uc r σ λb=>Q b σ
 |_,_,_,_=>False
noncomputable def uv (C:Cal):Exs->Fr->St->(List V->St->Prop)->Prop
 |.nil,_,σ,Q=>Q [] σ
 |.cons e es,ρ,σ,Q=>wpE C e ρ σ λv σ=>uv C es ρ σ λvs σ=>Q (v::vs) σ
noncomputable def yi (C:Cal):Exs->Fr->St->(Bool->St->Prop)->Prop
 |.nil,_,σ,Q=>Q true σ
 |.cons e es,ρ,σ,Q=>wpT C e ρ σ λb σ=>if b then yi C es ρ σ Q else Q false σ
noncomputable def uB (C:Cal):It->Fr->St->(List V->(St->Prop)->St->Prop)->Prop
 |.rng1 e,ρ,σ,K=>wpE C e ρ σ λv σ=>∃n:Int,v=.int n/\n.natAbs<2^40/\K (rp 0 n) (λ_=>True) σ
 |.rng2 a b,ρ,σ,K=>wpE C a ρ σ λv σ=>wpE C b ρ σ λu σ=>∃m n:Int,v=.int m/\u=.int n/\m.natAbs<2^40/\n.natAbs<2^40/\K (rp m n) (λ_=>True) σ
 |.enum e,ρ,σ,K=>wpE C e ρ σ λv σ=>∃a xs,v=.L a/\σ.L a=some xs/\K (xs.zipIdx.map λp=>V.T [.int p.2,p.1]) (λτ=>τ.L a=some xs) σ
 |.seq e,ρ,σ,K=>wpE C e ρ σ λv σ=>HY v σ K
noncomputable def fT (C:Cal):Gens->Fr->List V->St->(Fr->List V->St->Prop)->Prop
 |.elt e,ρ,acc,σ,K=>wpE C e ρ σ λv σ=>acc.length<bz/\K ρ (acc++[v]) σ
 |.cons it t cs more,ρ,acc,σ,K=>uB C it ρ σ λvs G σ =>
   mF vs G (λv ρ acc σ K=>qi t v σ ρ λρ=>yi C cs ρ σ λok σ=>if ok then fT C more ρ acc σ K else K ρ acc σ) ρ acc σ K
end
abbrev y9 (u k v:V)(σ:St)(K:St->Prop):Prop:=oJ u λa=>∃es kk,σ.D a=some es/\k.qL=some kk/\es.length<bz/\K (σ.nj a (putD es kk v))
abbrev HX (C:Cal):Tgt->V->Fr->St->(Fr->St->Prop)->Prop
 |.v x,v,ρ,σ,K=>K (upd ρ x v) σ
 |.attr o a,v,ρ,σ,K=>wpE C o ρ σ λu σ=>∃x d f,u=.obj x/\σ.I x=some (d,f)/\K ρ (σ.jn x d (upd f a v))
 |.sub o i,v,ρ,σ,K=>wpE C o ρ σ λu σ=>wpE C i ρ σ λj σ=>y9 u j v σ λσ=>K ρ σ
 |.T xs,v,ρ,σ,K=>qi (.T xs) v σ ρ λρ=>K ρ σ
abbrev iF (C:Cal):List Tgt->V->Fr->St->(Fr->St->Prop)->Prop
 | [],_,ρ,σ,K=>K ρ σ
 |t::ts,v,ρ,σ,K=>HX C t v ρ σ λρ σ=>iF C ts v ρ σ K
abbrev IY (a b:Addr)(σ:St)(Q:V->St->Prop):Prop:=∃xs ys,a≠b/\σ.L a=some xs/\σ.L b=some ys/\xs.length+ys.length<=bz/\Q (.L a) (σ.ew a (xs++ys))
abbrev I9 (op:Bop)(v u:V)(σ:St)(Q:V->St->Prop):Prop:=match v with
 |.L a=>cZ u λb=>match op with
  |.add=>IY a b σ Q
  |_=>False
 |.int a=>jH u λb=>kT op a b σ Q
 |_=>False
abbrev qV (ρ:Fr)(σ:St):QE->Int->Prop
 |.int i=>λr=>r=i
 |.l x=>λr=>ρ x=some (.int r)
 |.b op a b=>λr=>∃i j,qV ρ σ a i/\qV ρ σ b j/\kT op i j σ λv _=>v=.int r
abbrev dOf (f:Int->Int)(ns:List Int):List (Key×V):=ns.foldl (λes n=>putD es (.int n) (.int (f n))) []
abbrev ND (i:Nat)(fv:List (Nat×Nat))(x:Nat)(v:QE)(u:V)(ρ:Fr)(σ:St)(K:Fr->St->Prop):Prop:=cZ u λa=>∃(ns:List Int) (f:Int->Int),σ.L a=some (ns.map V.int)/\(∀n∈ns,qV (upd (dT fv ρ) x (.int n)) σ v (f n))/\∀c,σ.D c=none->K (upd ρ i (.dct c)) (σ.nj c (dOf f ns))
abbrev xE (T:(Fr->St->Prop)->Fr->St->Prop):Nat->Fr->St->Prop
 |0,_,_=>False
 |n+1,ρ,σ=>T (xE T n) ρ σ
abbrev vI:List V->(St->Prop)->(V->Fr->St->(Fr->St->Prop)->Prop)->Fr->St->(Fr->St->Prop)->Prop
 | [],G,_,ρ,σ,K=>G σ/\K ρ σ
 |v::vs,G,T,ρ,σ,K=>G σ/\T v ρ σ λρ σ=>vI vs G T ρ σ K
abbrev kW (again:Fr->St->Prop)(K:Fl->Fr->St->Prop):Fl->Fr->St->Prop
 |.next,ρ,σ=>again ρ σ
 |fl,ρ,σ=>K fl ρ σ
abbrev wi (again:Fr->St->Prop)(K:Fl->Fr->St->Prop):Fl->Fr->St->Prop
 |.next,ρ,σ=>again ρ σ
 |.cont,ρ,σ=>again ρ σ
 |.brk,ρ,σ=>K .next ρ σ
 |.ret v,ρ,σ=>K (.ret v) ρ σ
mutual
noncomputable def wpS (C:Cal):Stm->Fr->St->(Fl->Fr->St->Prop)->Prop
 |.a ts e,ρ,σ,K=>wpE C e ρ σ λv σ=>iF C ts v ρ σ λρ σ=>K .next ρ σ
 |.aug x op e,ρ,σ,K=>∃v,ρ x=some v/\wpE C e ρ σ λu σ=>I9 op v u σ λr σ=>K .next (upd ρ x r) σ
 |.dcompA i fv e x v,ρ,σ,K=>wpE C e ρ σ λu σ=>ND i fv x v u ρ σ λρ σ=>K .next ρ σ
 |.expr e,ρ,σ,K=>wpE C e ρ σ λv σ=>v=.none/\K .next ρ σ
 |.C c t e,ρ,σ,K=>wpT C c ρ σ λb σ=>if b then gq C t ρ σ K else gq C e ρ σ K
 |.loop c b,ρ,σ,K=>∃n,xE (λagain ρ σ=>wpT C c ρ σ λt σ=>if t then gq C b ρ σ (wi again K) else K .next ρ σ) n ρ σ
 |.each t it b,ρ,σ,K=>uB C it ρ σ λvs G σ=>vI vs G (λv ρ σ k=>qi t v σ ρ λρ=>gq C b ρ σ (wi k K)) ρ σ λρ σ=>K .next ρ σ
 |.ret e,ρ,σ,K=>wpE C e ρ σ λv σ=>K (.ret v) ρ σ
 |.brk,ρ,σ,K=>K .brk ρ σ
 |.cont,ρ,σ,K=>K .cont ρ σ
 |.pass,ρ,σ,K=>K .next ρ σ
 |.dead,_,_,_=>False
noncomputable def gq (C:Cal):pq->Fr->St->(Fl->Fr->St->Prop)->Prop
 |.nil,ρ,σ,K=>K .next ρ σ
 |.cons s ss,ρ,σ,K=>wpS C s ρ σ (kW (λρ σ=>gq C ss ρ σ K) K)
end
structure Fn where
 n:Nat
 dflt:List V
 body:pq
abbrev gI (f:Fn)(vs:List V):List V:=vs++f.dflt.drop (f.dflt.length-(f.n-vs.length))
abbrev frameOf (f:Fn)(vs:List V):Fr:=λi=>(gI f vs)[i]?
abbrev uN (Q:V->St->Prop):Fl->Fr->St->Prop
 |.ret v,_,σ=>Q v σ
 |.next,_,σ=>Q .none σ
 |_,_,_=>False
abbrev jc (P:Nat->Option Fn):Nat->Cal
 |0,_,_,_,_=>False
 |d+1,f,vs,σ,Q=>∃fn,P f=some fn/\vs.length<=fn.n/\fn.n<=vs.length+fn.dflt.length/\gq (jc P d) fn.body (frameOf fn vs) σ (uN Q)
end MP
end
section
namespace MP
open PySem PyProof.Rows
abbrev L0 (l:List Nat):Prop:=l.Pairwise (·<·)
structure Tbl (led:Bool)(t:SetTable):Prop where
 led:t.led=led
 nod:t.dummies=#v[]
 rise:L0 t.place.toList
def L0.at {xs:Array Nat}(h:L0 xs.toList){i j x y:Nat}(hi:xs[i]?=some x)(U:xs[j]?=some y)(W:i<j):x<y:=by
 have#[a,J]:=Array.getElem?_eq_some_iff.mp hi;have#[b,O]:=Array.getElem?_eq_some_iff.mp U;have:=ur.mp h i j (by simpa using a) (by simpa using b) W;simp only[Array.getElem_toList]at this;rw[J,O]at this;show this
end MP
end
section
namespace MP
set_option genSizeOf false
set_option genInjectivity false
open PySem
structure Stc where
 prog:Program
 w:World
 hb:Heap
 cM:Addr
 cS:Addr
 attrs:List Str
 gl:Str->Option Value
 cap:Str->Bool
 clo:Nat->List V->Addr->Prop
abbrev Frz (o:Obj):Prop:=
 (o.cls≠.type "list"/\∃xs n,o.data=.seq xs n)\/((o.cls=.type "builtin_function_or_method"\/o.cls=.type "method-wrapper")/\∃vs,o.data=.fields vs)\/∃fd,o.data=.func fd
mutual
noncomputable def VR (G:Stc)(h:Heap):V->Value->Prop
 |.none=>λw=>w=.none
 |.bool b=>λw=>w=.bool b
 |.int i=>λw=>∃t,w=.int i t
 |.str s=>λw=>∃t,w=.str s t
 |.L a=>λw=>w=.ref a
 |.dct a=>λw=>w=.ref a
 |.set a=>λw=>w=.ref a
 |.obj a=>λw=>w=.ref a
 |.T xs=>λw=>∃a ws n,w=.ref a/\IsT h a ws.toArray n/\VRs G h xs ws
 |.mt xs=>λw=>∃a ws n dd,w=.ref a/\h.get? a=some {cls:=.ref G.cM,dict:=dd,data:=.seq ws.toArray n,slots:=#v[]}/\VRs G h xs ws
 |.gF a=>λw=>∃q o,w=.ref q/\h.get? q=some o/\o.cls=.type "builtin_function_or_method"/\o.data=.fields #v[.builtin "dict.get",.ref a]
 |.gX a=>λw=>∃q o,w=.ref q/\h.get? q=some o/\o.cls=.type "builtin_function_or_method"/\o.data=.fields #v[.builtin "set.__contains__",.ref a]
 |.clo k cs=>λw=>∃a o,w=.ref a/\G.clo k cs a/\G.hb.get? a=some o/\o.cls=.type "function"
 |.ro ns=>λw=>∃a ws n,w=.ref a/\IsL G.hb a ws.toArray n/\PyProof.Rows.IntsAre ws ns
noncomputable def VRs (G:Stc)(h:Heap):List V->List Value->Prop
 | []=>λws=>ws=[]
 |v::vs=>λws=>∃w us,ws=w::us/\VR G h v w/\VRs G h vs us
end
section
variable {xs:List V}{ws:List Value}{n:Nat}{o:Obj}{v:V}{w:Value}{es:List (Key×V)}{ks:List Key}{X:List Addr}{b d:Addr}{f:Nat->Option V}
variable {G:Stc}{h:Heap}
def VR.none:VR G h .none .none:=rfl
def VR.bool (b:Bool):VR G h (.bool b) (.bool b):=rfl
def VR.int (i:Int)(t:Tok):VR G h (.int i) (.int i t):=#[t,rfl]
def VR.str (s:Str)(t:Tok):VR G h (.str s) (.str s t):=#[t,rfl]
def VR.L (a:Addr):VR G h (.L a) (.ref a):=rfl
def VR.dct (a:Addr):VR G h (.dct a) (.ref a):=rfl
def VR.set (a:Addr):VR G h (.set a) (.ref a):=rfl
def VR.obj (a:Addr):VR G h (.obj a) (.ref a):=rfl
def VR.T {a:Addr}(g:IsT h a ws.toArray n)(r:VRs G h xs ws):VR G h (.T xs) (.ref a):=#[a,ws,n,rfl,g,r]
def VR.mt {a:Addr}{dd:Option Addr}(g:h.get? a=some {cls:=.ref G.cM,dict:=dd,data:=.seq ws.toArray n,slots:=#v[]})(r:VRs G h xs ws):VR G h (.mt xs) (.ref a):=#[a,ws,n,dd,rfl,g,r]
def VR.gF {q a:Addr}(g:h.get? q=some o)(c:o.cls=.type "builtin_function_or_method")(d:o.data=.fields #v[.builtin "dict.get",.ref a]):VR G h (.gF a) (.ref q):=#[q,o,rfl,g,c,d]
def VR.gX {q a:Addr}(g:h.get? q=some o)(c:o.cls=.type "builtin_function_or_method")(d:o.data=.fields #v[.builtin "set.__contains__",.ref a]):VR G h (.gX a) (.ref q):=#[q,o,rfl,g,c,d]
def VR.ro {a:Addr}{ns:List Int}(g:IsL G.hb a ws.toArray n)(r:PyProof.Rows.IntsAre ws ns):VR G h (.ro ns) (.ref a):=#[a,ws,n,rfl,g,r]
def VRs.nil:VRs G h [] []:=rfl
def VRs.cons {vs:List V}(a:VR G h v w)(r:VRs G h vs ws):VRs G h (v::vs) (w::ws):=#[w,ws,rfl,a,r]
end
abbrev jq (h h':Heap):Prop:=∀b o,h.get? b=some o->Frz o->h'.get? b=some o
mutual
theorem VR.mono {G:Stc}{h h':Heap}(hk:jq h h'):{v:V}->{w:Value}->VR G h v w->VR G h' v w
 |.none=>λx=>x
 |.bool _=>λx=>x
 |.int _=>λx=>x
 |.str _=>λx=>x
 |.L _=>λx=>x
 |.dct _=>λx=>x
 |.set _=>λx=>x
 |.obj _=>λx=>x
 |.T _=>λW=>by have#[a,ws,n,e,g,r]:=W;apply#[a,ws,n,e,hk _ _ g (.inl #[show Value.type "tuple" ≠ .type "list" by decide,_,_,rfl]),VRs.mono hk r]
 |.mt _=>λW=>by have#[a,ws,n,dd,e,g,r]:=W;apply#[a,ws,n,dd,e,hk _ _ g (.inl #[λx=>(nomatch x),_,_,rfl]),VRs.mono hk r]
 |.gF _=>λW=>by have#[q,o,e,g,c,d]:=W;apply#[q,o,e,hk _ _ g (.inr (.inl #[.inl c,_,d])),c,d]
 |.gX _=>λW=>by have#[q,o,e,g,c,d]:=W;apply#[q,o,e,hk _ _ g (.inr (.inl #[.inl c,_,d])),c,d]
 |.clo _ _=>λx=>x
 |.ro _=>λx=>x
theorem VRs.mono {G:Stc}{h h':Heap}(hk:jq h h'):{vs:List V}->{ws:List Value}->VRs G h vs ws->VRs G h' vs ws
 | []=>λx=>x
 |_::_=>λW=>by have#[w,us,e,a,r]:=W;apply#[w,us,e,VR.mono hk a,VRs.mono hk r]
end
def VR.inv {G:Stc}{h:Heap}(x:VR G h v w):VR G h v w:=x
section
variable {G:Stc}{h:Heap}
def VRs.length:{vs:List V}->{ws:List Value}->VRs G h vs ws->vs.length=ws.length
 | []=>λe=>e▸rfl
 |_::_=>λW=>by have#[_,_,e,_,r]:=W;show e▸di (·+1) (VRs.length r)
def VRs.get {vs:List V}(x:VRs G h vs ws){i:Nat}(e:vs[i]?=some v):∃w,ws[i]?=some w/\VR G h v w:=by
 induction vs generalizing ws i with
 |nil=>cases e
 |cons u vs W =>
  have#[w,us,q,a,r]:=x;subst q;cases i with
  |zero=>refine#[w,rfl,ah e▸a]
  |succ i=>show W r e
def VRs.append:{vs us:List V}->{ws xs:List Value}->VRs G h vs ws->VRs G h us xs->VRs G h (vs++us) (ws++xs)
 | []=>λe b=>e▸b
 |_::_=>λW b=>by have#[_,_,e,a,r]:=W;show e▸.cons a (VRs.append r b)
def VRs.take:{vs:List V}->{ws:List Value}->(n:Nat)->VRs G h vs ws->VRs G h (vs.take n) (ws.take n)
 | []=>λn e=>by have rfl:=e;rw[List.take_nil,List.take_nil];rfl
 |_::_=>λn x=>by
  cases n with
  |zero=>show .nil
  |succ n=>have#[_,_,rfl,a,r]:=x;show .cons a (VRs.take n r)
def VRs.drop:{vs:List V}->{ws:List Value}->(n:Nat)->VRs G h vs ws->VRs G h (vs.drop n) (ws.drop n)
 | []=>λn e=>by have rfl:=e;rw[List.drop_nil,List.drop_nil];rfl
 |_::_=>λn x=>by
  cases n with
  |zero=>show x
  |succ n=>have#[_,_,rfl,_,r]:=x;show VRs.drop n r
def VRs.reverse:{vs:List V}->{ws:List Value}->VRs G h vs ws->VRs G h vs.reverse ws.reverse
 | []=>λe=>by subst e;show .nil
 |_::_=>λW=>by have#[_,_,e,a,r]:=W;subst e;rw[fQ,fQ];show VRs.append (VRs.reverse r) %[a|0]
end
def mM {prog:Program}{w:World}{A:Around}{E:QqV}{s:Shared}{a:Int}{t:Tok}{b:Str}{u:Tok}{Q:Bool->Shared->Prop}(h:Q false s):wpAny (model prog w) A (eqBool (.int a t) (.str b u)) Q E s:=by
 unfold eqBool;show ab (PySem.EqMixed.eq_int_str (uo h))
def mL {prog:Program}{w:World}{A:Around}{E:QqV}{s:Shared}{a:Str}{t:Tok}{b:Int}{u:Tok}{Q:Bool->Shared->Prop}(h:Q false s):wpAny (model prog w) A (eqBool (.str a t) (.int b u)) Q E s:=by
 unfold eqBool;show ab (PySem.EqMixed.eq_str_int (uo h))
abbrev tE:Key->Value->Bool
 |.int i,v=>Value.isInt i v
 |.str s,v=>Value.isStrOf s v
abbrev keyHash (w:World):Key->Int
 |.int i=>hashInt i
 |.str s=>hashStr w s
def qd {k:Key}{v:Value}(h:tE k v=true):(∃i t,k=.int i/\v=.int i t)\/∃s t,k=.str s/\v=.str s t:=by
 cases k with
 |int i=>have#[t,rfl]:=Value.isInt_shape h;show .inl #[i,t,rfl,rfl]
 |str s=>have#[t,rfl]:=Value.isStrOf_shape h;show .inr #[s,t,rfl,rfl]
abbrev keyKind (prog:Program)(w:World):KeyKind prog w Key where
 is:=tE
 hash:=keyHash w
 inj:=λv a b ha hb=>by
  rcases qd ha with ⟨i,t,rfl,rfl⟩|⟨x,t,rfl,rfl⟩<;>rcases qd hb with ⟨j,u,rfl,e⟩|⟨y,u,rfl,e⟩<;>cases e<;>rfl
 byValue:=λk v h=>by rcases qd h with ⟨i,t,rfl,rfl⟩|⟨x,t,rfl,rfl⟩<;>rfl
 pyHash:=λhv h=>by
  rcases qd hv with ⟨i,t,rfl,rfl⟩|⟨x,t,rfl,rfl⟩
  ·show wpAny_pyHash_int h
  ·show wpAny_pyHash_str h
 eqBool:=λhu hv h=>by
  rcases qd hu with ⟨i,t,rfl,rfl⟩|⟨x,t,rfl,rfl⟩<;>rcases qd hv with ⟨j,u,rfl,rfl⟩|⟨y,u,rfl,rfl⟩
  ·apply wpAny_eqBool_int ?_;simpa[Bool.beq_eq_decide_eq] using h
  ·show mM (by simpa using h)
  ·show mL (by simpa using h)
  ·show wpAny_eqBool_str (by simpa using h)
 «strs»:=λk x t v h=>by
  rcases qd h with ⟨i,u,rfl,e⟩|⟨y,u,rfl,e⟩
  ·skip
   cases e
  ·cases e;cases v<;>rfl
public abbrev Stc.kk (G:Stc):KeyKind G.prog G.w Key:=keyKind G.prog G.w
abbrev DRs (G:Stc)(h:Heap):List (Key×V)->List (Key×Value)->Prop
 | []=>λds=>ds=[]
 |e::es=>λds=>∃w us,ds=(e.1,w)::us/\VR G h e.2 w/\DRs G h es us
def DRs.nil {G:Stc}{h:Heap}:DRs G h [] []:=rfl
def DRs.cons {G:Stc}{h:Heap}{k:Key}{ds:List (Key×Value)}(a:VR G h v w)(r:DRs G h es ds):DRs G h ((k,v)::es) ((k,w)::ds):=#[w,ds,rfl,a,r]
def DRs.mono {G:Stc}{h h':Heap}(hk:jq h h'):{es:List (Key×V)}->{ds:List (Key×Value)}->DRs G h es ds->DRs G h' es ds
 | []=>λx=>x
 |_::_=>λW=>by have#[w,us,e,a,r]:=W;apply#[w,us,e,a.mono hk,r.mono hk]
abbrev OV (G:Stc)(h:Heap):Option V->Option Value->Prop
 |none,none=>True
 |some v,some w=>VR G h v w
 |_,_=>False
def OV.mono {G:Stc}{h h':Heap}(hk:jq h h'){v:Option V}{w:Option Value}(x:OV G h v w):OV G h' v w:=by
 cases v<;>cases w<;>first|show x|show VR.mono hk x
structure dY (G:Stc)(h:Heap)(a d:Addr)(f:Nat->Option V):Prop where
 here:∃o,h.get? a=some o/\o.cls=.ref G.cS/\o.dict=some d/\∀c,o.data≠.cls c
 ns:∃m,h.Ns1 d m/\(∀i x,G.attrs[i]?=some x->OV G h (f i) (m x))/\∀x,x∉G.attrs->m x=none
 ne:d≠a
public abbrev Stc.led (G:Stc):Bool:=!G.w.params.followText "set-order"
abbrev pG (G:Stc)(h:Heap)(a:Addr)(ks:List Key):Prop:=
 ∃o es ep t,h.get? a=some o/\o.ExactSet/\o.data=.set es ep t/\ElemsOf G.kk es.toList/\(∀k,decide (k∈ks)=true↔∃e∈es.toList,G.kk.is k e.2=true) /\
  es.size<scanBound/\t.fits es.size=true/\es.size=ks.length/\Tbl G.led t
def pG.of {G:Stc}{h:Heap}{a:Addr}(x:pG G h a ks):h.SetOf G.kk a (λk=>decide (k∈ks)) ks.length:=by
 have#[o,es,ep,t,h1,z,B,I,J,O,U,W,_]:=x;apply#[o,es,ep,t,h1,z,B,I,J,O,U,W]
structure Rel (G:Stc)(σ:St)(h:Heap):Prop where
 L:∀a xs,σ.L a=some xs->∃ws n,IsL h a ws.toArray n/\VRs G h xs ws
 D:∀a es,σ.D a=some es->∃ds,h.DictOf G.kk a ds/\DRs G h es ds
 S:∀a ks,σ.S a=some ks->pG G h a ks
 I:∀a d f,σ.I a=some (d,f)->dY G h a d f
 Z:∀a o,σ.Z a=some o->h.get? a=some o/\((σ.D a).isSome\/(σ.S a).isSome)
 Ll:∀a xs,σ.L a=some xs->xs.length<=bz
 Dl:∀a es,σ.D a=some es->es.length<=bz
 inj:∀a a' d f f',σ.I a=some (d,f)->σ.I a'=some (d,f')->a=a'
 apart:∀a d f,σ.I a=some (d,f)->σ.D d=none
 sep:∀a d f a' d' f',σ.I a=some (d,f)->σ.I a'=some (d',f')->a≠d'
 new:∀b,σ.dom b->G.hb.get? b=none
 base:∀b o,G.hb.get? b=some o->h.get? b=some o
structure Evo (X:List Addr)(σ:St)(h:Heap)(σ':St)(h':Heap):Prop where
 keep:∀b o,h.get? b=some o->¬σ.dom b->b∉X->h'.get? b=some o
 frz:jq h h'
 dom:∀b,σ'.dom b->σ.dom b\/h.get? b=none
 there:∀b o,h.get? b=some o->∃o',h'.get? b=some o'
def Evo.refl (X:List Addr)(σ:St)(h:Heap):Evo X σ h σ h:=#[λ_ _ e _ _=>e,λ_ _ e _=>e,λ_ d=>.inl d,λ_ o e=>#[o,e]]
def Evo.trans {σ σ₁ σ₂:St}{h h₁ W:Heap}(x:Evo X σ h σ₁ h₁)(y:Evo X σ₁ h₁ σ₂ W):Evo X σ h σ₂ W:=by
 apply#[λb o e nd O=>y.keep b o (x.keep b o e nd O) (λd=>?_) O,λb o e f=>y.frz b o (x.frz b o e f) f,λb d=>?_,λb o e=>?_]
 ·rcases x.dom b d with d|d
  ·show nd d
  ·rw[e]at d;cases d
 ·rcases y.dom b d with d|d
  ·show x.dom b d
  ·cases hq:h.get? b with
   |none=>show .inr rfl
   |some o=>have#[o',J]:=x.there b o hq;rw[J]at d;cases d
 ·have#[U,e₁]:=x.there b o e;show y.there b U e₁
def Evo.more {Y:List Addr}{σ σ':St}{h h':Heap}(x:Evo X σ h σ' h')(O:∀b∈X,b∈Y):Evo Y σ h σ' h':=
 #[λb o e nd W=>x.keep b o e nd λU=>W (O b U),x.frz,x.dom,x.there]
def Evo.less {Y:List Addr}{σ σ':St}{h h':Heap}(x:Evo X σ h σ' h')(O:∀b∈X,b∈Y\/h.get? b=none):Evo Y σ h σ' h':=
 #[λb o e nd W=>x.keep b o e nd λU=>(O b U).elim W λq=>(by rw[e]at q;cases q),x.frz,x.dom,x.there]
def yk {xs:Array Value}(c:o.cls=.type "list")(d:o.data=.seq xs n):¬Frz o:=by
 rintro (⟨h,_⟩|⟨_,_,h⟩|⟨_,h⟩)
 ·show h c
 ·rw[d]at h;cases h
 ·rw[d]at h;cases h
def qg {es:Array DictEntry}(d:o.data=.dict es n):¬Frz o:=by
 rintro (⟨_,_,_,h⟩|⟨_,_,h⟩|⟨_,h⟩)<;>(rw[d]at h;cases h)
def rB {v:Option Value}(d:o.data=.cell v):¬Frz o:=by
 rintro (⟨_,_,_,h⟩|⟨_,_,h⟩|⟨_,h⟩)<;>(rw[d]at h;cases h)
def tw {h h':Heap}{a:Addr}(W:Heap.SameBut a h h')(U:∀o,h.get? a=some o->¬Frz o):jq h h':=λb o e f=>by
 by_cases hb:b=a
 ·subst hb;show absurd f (U o e)
 ·rw[W.2 b hb];show e
def yn {h h':Heap}{a:Addr}{o':Obj}(W:Heap.SameBut a h h')(U:h'.get? a=some o'):∀b o,h.get? b=some o->∃o',h'.get? b=some o':=λb o e=>by
 by_cases hb:b=a
 ·subst hb;apply#[_,U]
 ·apply#[o,by rw[W.2 b hb];show e]
def none_at_size (h:Heap):h.get? h.objs.size=none:=by
 cases hq:h.get? h.objs.size with
 |none=>rfl
 |some o=>show absurd (ip hq) (je _)
def Rel.pn {G:Stc}{σ:St}{h:Heap}(R:Rel G σ h)(d:σ.dom b):∃o,h.get? b=some o:=by
 rcases d with d|d|d|d|d|⟨a,f,d⟩
 ·have#[xs,e]:=cq.mp d;have#[ws,n,W,_]:=R.L b xs e;apply#[_,W]
 ·have#[xs,e]:=cq.mp d;have#[ds,#[o,es,ep,W,_,dd,_],_]:=R.D b xs e;apply#[o,W]
 ·have#[xs,e]:=cq.mp d;have#[o,es,ep,t,W,_,dd,_]:=R.S b xs e;apply#[o,W]
 ·have#[#[d,f],e]:=cq.mp d;have#[o,W,_]:=(R.I b d f e).here;apply#[o,W]
 ·have#[o,e]:=cq.mp d;apply#[o,(R.Z b o e).1]
 ·have#[m,#[o',es,ep,U,dd,_],_]:=(R.I a b f d).ns;apply#[o',U]
def Rel.same {G:Stc}{σ:St}{h h':Heap}(R:Rel G σ h)(hk:∀b o,h.get? b=some o->σ.dom b->h'.get? b=some o)(O:jq h h')(hb:∀b o,G.hb.get? b=some o->h'.get? b=some o):Rel G σ h' where
 L:=λa xs e=>by
  have#[ws,n,W,v]:=R.L a xs e;apply#[ws,n,hk a _ W (.inl (by rw[e];rfl)),v.mono O]
 D:=λa xs e=>by
  have#[ds,#[o,es,ep,W,r],v]:=R.D a xs e;apply#[ds,#[o,es,ep,hk a o W (.inr (.inl (by rw[e];rfl))),r],v.mono O]
 S:=λa xs e=>by
  have#[o,es,ep,t,W,r]:=R.S a xs e;apply#[o,es,ep,t,hk a o W (.inr (.inr (.inl (by rw[e];rfl)))),r]
 I:=λa d f e=>by
  have#[#[o,W,r],#[m,#[o',es,ep,U,B],v,J],ne]:=R.I a d f e;have dd:σ.dom d:=.inr (.inr (.inr (.inr (.inr #[a,f,e]))));apply#[#[o,hk a o W (.inr (.inr (.inr (.inl (by rw[e];rfl))))),r],#[m,#[o',es,ep,hk d o' U dd,B],λi x z=>(v i x z).mono O,J],ne]
 Z:=λa o e=>#[hk a o (R.Z a o e).1 (.inr (.inr (.inr (.inr (.inl (by rw[e];rfl)))))),(R.Z a o e).2]
 Ll:=R.Ll
 Dl:=R.Dl
 inj:=R.inj
 apart:=R.apart
 sep:=R.sep
 new:=R.new
 base:=hb
def Rel.push {G:Stc}{σ:St}{h:Heap}(R:Rel G σ h)(o:Obj):Rel G σ (h.push o):=
 R.same (λ_ _ e _=>ba o e) (λ_ _ e _=>ba o e) λb o' e=>ba o (R.base b o' e)
def Evo.push (X:List Addr)(σ:St)(h:Heap)(o:Obj):Evo X σ h σ (h.push o):=
 #[λ_ _ e _ _=>ba o e,λ_ _ e _=>ba o e,λ_ d=>.inl d,λ_ o' e=>#[o',ba o e]]
def zk {σ:St}{a:Addr}(d:(σ.ew a xs).dom b):σ.dom b\/b=a:=by
 by_cases h:b=a
 ·show .inr h
 ·apply .inl ?_;rcases d with d|d
  ·show .inl (by simpa[St.ew,upd,h] using d)
  ·show .inr d
def hZ {σ:St}{a:Addr}{xs:List (Key×V)}(d:(σ.nj a xs).dom b):σ.dom b\/b=a:=by
 by_cases h:b=a
 ·show .inr h
 ·apply .inl ?_;rcases d with d|d|d
  ·show .inl d
  ·show .inr (.inl (by simpa[St.nj,upd,h] using d))
  ·show .inr (.inr (by simpa[St.nj,clr,h] using d))
def tR {σ:St}{a:Addr}{xs:List Key}(d:(σ.xp a xs).dom b):σ.dom b\/b=a:=by
 by_cases h:b=a
 ·show .inr h
 ·apply .inl ?_;rcases d with d|d|d|d
  ·show .inl d
  ·show .inr (.inl d)
  ·show .inr (.inr (.inl (by simpa[St.xp,upd,h] using d)))
  ·show .inr (.inr (.inr (by simpa[St.xp,clr,h] using d)))
def hY {σ:St}{a:Addr}(hd:(σ.jn a d f).dom b):σ.dom b\/b=a\/b=d:=by
 by_cases h:b=a
 ·show .inr (.inl h)
 ·by_cases h':b=d
  ·show .inr (.inr h')
  ·apply .inl ?_;rcases hd with q|q|q|q|q|⟨c,g,q⟩
   ·show .inl q
   ·show .inr (.inl q)
   ·show .inr (.inr (.inl q))
   ·show .inr (.inr (.inr (.inl (by simpa[St.jn,upd,h] using q))))
   ·show .inr (.inr (.inr (.inr (.inl q))))
   ·apply .inr (.inr (.inr (.inr (.inr #[c,g,?_]))));by_cases W:c=a
    ·simp only[St.jn,upd,W,yv,gf,tg]at q;show absurd q.1.symm h'
    ·simpa[St.jn,upd,W] using q
structure At (a:Addr)(h h':Heap):Prop where
 other:∀b o,b≠a->h.get? b=some o->h'.get? b=some o
 here:∃o,h'.get? a=some o
 x6:∀o,h.get? a=some o->¬Frz o
def At.frz {a:Addr}{h h':Heap}(x:At a h h'):jq h h':=λb o e f=>x.other b o (λhb=>x.x6 o (hb▸e) f) e
def At.there {a:Addr}{h h':Heap}(x:At a h h'):∀b o,h.get? b=some o->∃o',h'.get? b=some o':=λb o e=>by
 by_cases hb:b=a
 ·subst hb;show x.here
 ·apply#[o,x.other b o hb e]
def At.push (h:Heap)(W:o.isFreed=false:=by rfl):At h.objs.size h (h.push o):=
 #[λ_ _ _ e=>ba o e,#[o,eg _ W],λo' e=>by rw[none_at_size]at e;cases e]
def At.uW {a:Addr}{h h':Heap}{o':Obj}(U:Heap.SameBut a h h')(J:h.get? a=some o)(O:¬Frz o)(W:h'.get? a=some o'):At a h h':=
 #[λb _ hb e=>by rw[U.2 b hb];show e,#[o',W],λ_ e=>by rw[J]at e;cases e;show O]
section
variable {G:Stc}{σ:St}{h h':Heap}{a:Addr}
def Rel.atL (R:Rel G σ h)(x:At a h h')(hb:b≠a)(e:σ.L b=some xs):∃ws n,IsL h' b ws.toArray n/\VRs G h' xs ws:=by
 have#[ws,n,W,v]:=R.L b xs e;apply#[ws,n,x.other b _ hb W,v.mono x.frz]
def Rel.atD (R:Rel G σ h)(x:At a h h')(hb:b≠a)(e:σ.D b=some es):∃ds,h'.DictOf G.kk b ds/\DRs G h' es ds:=by
 have#[ds,#[o,W,ep,U,r],v]:=R.D b es e;apply#[ds,#[o,W,ep,x.other b o hb U,r],v.mono x.frz]
def Rel.atS (R:Rel G σ h)(x:At a h h')(hb:b≠a)(e:σ.S b=some ks):pG G h' b ks:=by
 have#[o,W,ep,t,U,r]:=R.S b ks e;apply#[o,W,ep,t,x.other b o hb U,r]
def Rel.atI (R:Rel G σ h)(x:At a h h')(hb:b≠a)(hd:d≠a)(e:σ.I b=some (d,f)):dY G h' b d f:=by
 have#[#[o,B,r],#[m,#[o',es,ep,W,O],v,U],ne]:=R.I b d f e;apply#[#[o,x.other b o hb B,r],#[m,#[o',es,ep,x.other d o' hd W,O],λi y J=>(v i y J).mono x.frz,U],ne]
def Rel.qZ (R:Rel G σ h)(e:σ.L a=some xs):∃o,h.get? a=some o/\o.cls=.type "list":=by
 have#[ws,n,W,_]:=R.L a xs e;apply#[_,W,rfl]
def Rel.zQ (R:Rel G σ h)(e:σ.D a=some es):∃o,h.get? a=some o/\o.cls=.type "dict":=by
 have#[ds,#[o,U,ep,W,c,_],_]:=R.D a es e;apply#[o,W,c.1]
def Rel.D7 (R:Rel G σ h)(e:σ.S a=some ks):∃o,h.get? a=some o/\o.cls=.type "set":=by
 have#[o,U,ep,t,W,c,_]:=R.S a ks e;apply#[o,W,c.1]
def Rel.KR (R:Rel G σ h)(e:σ.I a=some (d,f)):∃o,h.get? a=some o/\o.cls=.ref G.cS:=by
 have#[o,W,c,_]:=(R.I a d f e).here;apply#[o,W,c]
def Rel.D4 (R:Rel G σ h)(e:σ.I a=some (d,f)):∃o es ep,h.get? d=some o/\o.data=.dict es ep:=by
 have#[m,#[o',es,ep,W,dd,_],_]:=(R.I a d f e).ns;apply#[o',es,ep,W,dd]
def Rel.LW (R:Rel G σ h)(e:σ.L b=some xs)(O:σ.I a=some (d,f)):d≠b:=by
 rintro rfl;have#[o,es,ep,U,hd]:=R.D4 O;have#[ws,n,W,_]:=R.L _ _ e;have rfl:=ah (U.symm.trans W);cases hd
def Rel.JW (R:Rel G σ h){xs:List Key}(e:σ.S b=some xs)(z:σ.I a=some (d,f)):d≠b:=by
 rintro rfl;have#[o,es,ep,O,hd]:=R.D4 z;have#[o',J,B,t',W,_,U,_]:=R.S _ _ e;rw[O]at W;cases W;rw[hd]at U;cases U
def Rel.x7 (R:Rel G σ h)(e:h.get? b=none)(U:σ.I a=some (d,f)):d≠b:=by
 rintro rfl;have#[o,es,ep,W,hd]:=R.D4 U;rw[W]at e;cases e
def Rel.O2 (R:Rel G σ h)(e:σ.Z b=some o):(∃o,h.get? b=some o/\o.cls=.type "dict")\/∃o,h.get? b=some o/\o.cls=.type "set":=
 (R.Z b o e).2.imp (λq=>by
  have#[x,q]:=cq.mp q;show R.zQ q) λq=>by
  have#[x,q]:=cq.mp q;show R.D7 q
def Rel.atZ (R:Rel G σ h)(x:At a h h')(n:∀b o,σ.Z b=some o->b≠a):∀b o,σ.Z b=some o->h'.get? b=some o/\((σ.D b).isSome\/(σ.S b).isSome):=λb o e=>#[x.other b o (n b o e) (R.Z b o e).1,(R.Z b o e).2]
def Rel.putL (R:Rel G σ h)(x:At a h h')(B:σ.L a=none->h.get? a=none)(hl:IsL h' a ws.toArray n)(hv:VRs G h xs ws)(hz:xs.length<=bz):Rel G (σ.ew a xs) h':=by
 have old:∀b o,h.get? b=some o->∀c:Value,o.cls=c->c≠.type "list"->b≠a:=λb o e c hc O hb=>by
  subst hb;cases U:σ.L b with
  |none=>rw[B U]at e;cases e
  |some ys=>have#[o',J,c']:=R.qZ U;rw[e]at J;cases J;show O (hc.symm.trans c')
 have W:∀b c,(∃o,h.get? b=some o/\o.cls=c)->c≠.type "list"->b≠a:=λb c z O=>by have#[o,ho,hc]:=z;show old b o ho c hc O
 apply⟨λb ys e=>?_,λb es e=>R.atD x (W b _ (R.zQ e) (by decide)) e,λb ks e=>R.atS x (W b _ (R.D7 e) (by decide)) e,
  λb d f e=>R.atI x (W b _ (R.KR e) (λq=>nomatch q)) (by
   cases U:σ.L a with
   |none=>show R.x7 (B U) e
   |some ys=>show R.LW U e) e,R.atZ x λb o e=>(R.O2 e).elim (λq=>W b _ q (by decide)) λq=>W b _ q (by decide),λb ys e=>?_,R.Dl,R.inj,R.apart,R.sep,λb d=>?_,λb o e=>?_⟩
 ·by_cases hb:b=a
  ·subst hb;simp only[St.ew,cn,gf]at e;subst e;apply#[ws,n,hl,hv.mono x.frz]
  ·simp only[St.ew,fg hb]at e;show R.atL x hb e
 ·by_cases hb:b=a
  ·subst hb;simp only[St.ew,cn,gf]at e;show e▸hz
  ·simp only[St.ew,fg hb]at e;show R.Ll b ys e
 ·rcases zk d with d|rfl
  ·show R.new b d
  ·cases U:G.hb.get? b with
   |none=>rfl
   |some o =>
    cases I:σ.L b with
    |none=>have:=R.base b o U;rw[B I]at this;cases this
    |some ys=>have:=R.new b (.inl (by rw[I];rfl));rw[U]at this;cases this
 ·apply x.other b o (λhb=>?_) (R.base b o e);subst hb;cases I:σ.L b with
  |none=>have:=R.base b o e;rw[B I]at this;cases this
  |some ys=>have:=R.new b (.inl (by rw[I];rfl));rw[e]at this;cases this
def Evo.putL (x:At a h h')(U:σ.L a=none->h.get? a=none)(xs:List V):Evo X σ h (σ.ew a xs) h':=by
 apply#[λb o e nd _=>x.other b o (λhb=>?_) e,x.frz,λb d=>?_,x.there]
 ·subst hb;cases W:σ.L b with
  |none=>rw[U W]at e;cases e
  |some ys=>show nd (.inl (by rw[W];rfl))
 ·rcases zk d with d|rfl
  ·show .inl d
  ·cases W:σ.L b with
   |none=>show .inr (U W)
   |some ys=>show .inl (.inl (by rw[W];rfl))
def Rel.putD (R:Rel G σ h)(x:At a h h')(hn:σ.D a=none->h.get? a=none)(hi:∀b f,σ.I b≠some (a,f)){xs:List (Key×V)}{ds:List (Key×Value)}(hl:h'.DictOf G.kk a ds)(hv:DRs G h xs ds)(hz:xs.length<=bz):Rel G (σ.nj a xs) h':=by
 have old:∀b o,h.get? b=some o->∀c:Value,o.cls=c->c≠.type "dict"->b≠a:=λb o e c hc U hb=>by
  subst hb;cases O:σ.D b with
  |none=>rw[hn O]at e;cases e
  |some ys=>have#[o',J,c']:=R.zQ O;rw[e]at J;cases J;show U (hc.symm.trans c')
 have W:∀b c,(∃o,h.get? b=some o/\o.cls=c)->c≠.type "dict"->b≠a:=λb c z U=>by have#[o,ho,hc]:=z;show old b o ho c hc U
 apply⟨λb es e=>R.atL x (W b _ (R.qZ e) (by decide)) e,λb ys e=>?_,λb ks e=>R.atS x (W b _ (R.D7 e) (by decide)) e,
  λb d f e=>R.atI x (W b _ (R.KR e) (λq=>nomatch q)) (λhd=>hi b f (hd▸e)) e,λb o e=>(by
   have#[hb,e]:=mU e;have#[q,r]:=R.Z b o e;apply#[x.other b o hb q,?_];show(upd σ.D a xs b).isSome=true\/_;rw[fg hb];show r),R.Ll,λb ys e=>?_,R.inj,λb d f e=>?_,R.sep,λb d=>?_,λb o e=>?_⟩
 ·by_cases hb:b=a
  ·clear W old;subst hb;simp only[St.nj,cn,gf]at e;subst e;apply#[ds,hl,hv.mono x.frz]
  ·simp only[St.nj,fg hb]at e;show R.atD x hb e
 ·by_cases hb:b=a
  ·subst hb;simp only[St.nj,cn,gf]at e;show e▸hz
  ·simp only[St.nj,fg hb]at e;show R.Dl b ys e
 ·have hd:d≠a:=λhd=>hi b f (hd▸e);simp only[St.nj,fg hd];show R.apart b d f e
 ·rcases hZ d with d|rfl
  ·show R.new b d
  ·cases O:G.hb.get? b with
   |none=>rfl
   |some o =>
    cases B:σ.D b with
    |none=>have:=R.base b o O;rw[hn B]at this;cases this
    |some ys=>have:=R.new b (.inr (.inl (by rw[B];rfl)));rw[O]at this;cases this
 ·apply x.other b o (λhb=>?_) (R.base b o e);subst hb;cases B:σ.D b with
  |none=>have:=R.base b o e;rw[hn B]at this;cases this
  |some ys=>have:=R.new b (.inr (.inl (by rw[B];rfl)));rw[e]at this;cases this
def Evo.putD (x:At a h h')(U:σ.D a=none->h.get? a=none)(xs:List (Key×V)):Evo X σ h (σ.nj a xs) h':=by
 apply#[λb o e nd _=>x.other b o (λhb=>?_) e,x.frz,λb d=>?_,x.there]
 ·subst hb;cases W:σ.D b with
  |none=>rw[U W]at e;cases e
  |some ys=>show nd (.inr (.inl (by rw[W];rfl)))
 ·rcases hZ d with d|rfl
  ·show .inl d
  ·cases W:σ.D b with
   |none=>show .inr (U W)
   |some ys=>show .inl (.inr (.inl (by rw[W];rfl)))
def Rel.JM (R:Rel G σ h)(x:At a h h')(B:σ.S a=none->h.get? a=none){xs:List Key}(hl:pG G h' a xs):Rel G (σ.xp a xs) h':=by
 have old:∀b o,h.get? b=some o->∀c:Value,o.cls=c->c≠.type "set"->b≠a:=λb o e c hc O hb=>by
  subst hb;cases U:σ.S b with
  |none=>rw[B U]at e;cases e
  |some ys=>have#[o',J,c']:=R.D7 U;rw[e]at J;cases J;show O (hc.symm.trans c')
 have W:∀b c,(∃o,h.get? b=some o/\o.cls=c)->c≠.type "set"->b≠a:=λb c z O=>by have#[o,ho,hc]:=z;show old b o ho c hc O
 apply⟨λb es e=>R.atL x (W b _ (R.qZ e) (by decide)) e,λb ks e=>R.atD x (W b _ (R.zQ e) (by decide)) e,λb ys e=>?_,
  λb d f e=>R.atI x (W b _ (R.KR e) (λq=>nomatch q)) (by
   cases U:σ.S a with
   |none=>show R.x7 (B U) e
   |some ys=>show R.JW U e) e,λb o e=>(by
   have#[hb,e]:=mU e;have#[q,r]:=R.Z b o e;apply#[x.other b o hb q,?_];show _\/(upd σ.S a xs b).isSome=true;rw[fg hb];show r),R.Ll,R.Dl,R.inj,R.apart,R.sep,λb d=>?_,λb o e=>?_⟩
 ·by_cases hb:b=a
  ·clear W old;subst hb;simp only[St.xp,cn,gf]at e;subst e;show hl
  ·simp only[St.xp,fg hb]at e;show R.atS x hb e
 ·rcases tR d with d|rfl
  ·show R.new b d
  ·cases U:G.hb.get? b with
   |none=>rfl
   |some o =>
    cases I:σ.S b with
    |none=>have:=R.base b o U;rw[B I]at this;cases this
    |some ys=>have:=R.new b (.inr (.inr (.inl (by rw[I];rfl))));rw[U]at this;cases this
 ·apply x.other b o (λhb=>?_) (R.base b o e);subst hb;cases I:σ.S b with
  |none=>have:=R.base b o e;rw[B I]at this;cases this
  |some ys=>have:=R.new b (.inr (.inr (.inl (by rw[I];rfl))));rw[e]at this;cases this
def Evo.JM (x:At a h h')(U:σ.S a=none->h.get? a=none)(xs:List Key):Evo X σ h (σ.xp a xs) h':=by
 apply#[λb o e nd _=>x.other b o (λhb=>?_) e,x.frz,λb d=>?_,x.there]
 ·subst hb;cases W:σ.S b with
  |none=>rw[U W]at e;cases e
  |some ys=>show nd (.inr (.inr (.inl (by rw[W];rfl))))
 ·rcases tR d with d|rfl
  ·show .inl d
  ·cases W:σ.S b with
   |none=>show .inr (U W)
   |some ys=>show .inl (.inr (.inr (.inl (by rw[W];rfl))))
def Rel.JN (R:Rel G σ h){f':Nat->Option V}(e:σ.I a=some (d,f))(x:At d h h')(hl:dY G h' a d f'):Rel G (σ.jn a d f') h':=by
 have aj:d≠a:=hl.ne;have U:∀c d' g,(σ.jn a d f').I c=some (d',g)->∃B,σ.I c=some (d',B):=λc d' g q=>by
  by_cases hc:c=a
  ·subst hc;simp only[St.jn,cn,gf,tg]at q;apply#[f,q.1▸e]
  ·apply#[g,by simpa[St.jn,upd,hc] using q]
 apply⟨λb es W=>R.atL x (R.LW W e).symm W,λb ks W=>R.atD x (λhb=>?_) W,λb ys W=>R.atS x (R.JW W e).symm W,λb d' g W=>?_,R.atZ x λb o W hb=>((R.Z b o W).2.elim (λq=>(by subst hb;rw[R.apart a b f e]at q;cases q)) λq=>(by
  have#[ks,q]:=cq.mp q;show R.JW q e hb.symm)),R.Ll,R.Dl,λb b' d' g g' e1 e2=>?_,λb d' g W=>?_,λb d' g b' ai g' e1 e2=>?_,λb hd=>?_,λb o W=>?_⟩
 ·subst hb;have z:σ.D b=some ks:=W;rw[R.apart a b f e]at z;cases z
 ·by_cases hb:b=a
  ·subst hb;simp only[St.jn,cn,gf,tg]at W;have#[rfl,rfl]:=W;show hl
  ·simp only[St.jn,fg hb]at W;show R.atI x (R.sep _ _ _ _ _ _ W e) (λhd=>hb (R.inj b a d g f (hd▸W) e)) W
 ·have#[J,q1]:=U b d' g e1;have#[O,q2]:=U b' d' g' e2;show R.inj b b' d' J O q1 q2
 ·by_cases hb:b=a
  ·clear hl;subst hb;simp only[St.jn,cn,gf,tg]at W;show W.1▸R.apart b d f e
  ·show R.apart b d' g (by simpa[St.jn,upd,hb] using W)
 ·have#[J,q1]:=U b d' g e1;have#[O,q2]:=U b' ai g' e2;show R.sep _ _ _ _ _ _ q1 q2
 ·have ha:σ.dom a:=.inr (.inr (.inr (.inl (by rw[e];rfl))));have ag:σ.dom d:=.inr (.inr (.inr (.inr (.inr #[a,f,e]))));rcases hY hd with q|rfl|rfl
  ·show R.new b q
  ·show R.new _ ha
  ·show R.new _ ag
 ·apply x.other b o (λhb=>?_) (R.base b o W);clear U;subst hb;have:=R.new b (.inr (.inr (.inr (.inr (.inr #[a,f,e])))));rw[W]at this;cases this
def Evo.JN (W:Nat->Option V)(e:σ.I a=some (d,f))(x:At d h h'):Evo X σ h (σ.jn a d W) h':=by
 apply#[λb o U nd _=>x.other b o (λhb=>nd (hb▸.inr (.inr (.inr (.inr (.inr #[a,f,e])))))) U,x.frz,λb hd=>.inl ?_,x.there];rcases hY hd with q|rfl|rfl
 ·show q
 ·show .inr (.inr (.inr (.inl (by rw[e];rfl))))
 ·show .inr (.inr (.inr (.inr (.inr #[a,f,e]))))
def Rel.JT (R:Rel G σ h)(ha:h.get? a=none)(hd:h.get? d=none)(ai:d≠a)(hk:∀b o,h.get? b=some o->h'.get? b=some o)(hl:dY G h' a d λ_=>none):Rel G (σ.jn a d λ_=>none) h':=by
 have B:=R.same (λb o e _=>hk b o e) (λb o e _=>hk b o e) λb o e=>hk b o (R.base b o e);have W:∀b,h.get? b=none->¬σ.dom b:=λb hb q=>by have#[o,ho]:=R.pn q;rw[hb]at ho;cases ho
 have ag:∀b g,σ.I b≠some (d,g):=λb g q=>W d hd (.inr (.inr (.inr (.inr (.inr #[b,g,q])))));have ao:σ.I a=none:=by
  cases hq:σ.I a with
  |none=>rfl
  |some p=>show absurd (.inr (.inr (.inr (.inl (by rw[hq];rfl))))) (W a ha)
 have base:∀c d' g,(σ.jn a d λ_=>none).I c=some (d',g)->(c=a/\d'=d)\/(c≠a/\σ.I c=some (d',g)):=λc d' g q=>by
  by_cases J:c=a
  ·subst J;simp only[St.jn,cn,gf,tg]at q;show .inl #[rfl,q.1.symm]
  ·show .inr #[J,by simpa[St.jn,upd,J] using q]
 apply#[B.L,B.D,B.S,λb d' g e'=>?_,B.Z,R.Ll,R.Dl,λb b' d' g g' e1 e2=>?_,λb d' g e'=>?_,λb d' g b' aj g' e1 e2=>?_,λb q=>?_,B.base]
 ·by_cases hb:b=a
  ·subst hb;simp only[St.jn,cn,gf,tg]at e';have#[rfl,rfl]:=e';show hl
  ·show B.I b d' g (by simpa[St.jn,upd,hb] using e')
 ·rcases base b d' g e1 with ⟨rfl,rfl⟩|⟨_,O⟩<;>rcases base b' d' g' e2 with ⟨h1,h2⟩|⟨_,z⟩
  ·show h1.symm
  ·show absurd z (ag _ _)
  ·show absurd (h2▸O) (ag _ _)
  ·show R.inj b b' d' g g' O z
 ·rcases base b d' g e' with ⟨rfl,rfl⟩|⟨_,O⟩
  ·show σ.D d'=none;cases hq:σ.D d' with
   |none=>rfl
   |some p=>show absurd (.inr (.inl (by rw[hq];rfl))) (W d' hd)
  ·show R.apart b d' g O
 ·have U:∀c d' g,σ.I c=some (d',g)->σ.dom c/\σ.dom d':=λc d' g q=>#[.inr (.inr (.inr (.inl (by rw[q];rfl)))),.inr (.inr (.inr (.inr (.inr #[c,g,q]))))];rcases base b d' g e1 with ⟨rfl,rfl⟩|⟨_,O⟩<;>rcases base b' aj g' e2 with ⟨h1,h2⟩|⟨_,z⟩
  ·rw[h2];show ai.symm
  ·rintro rfl;show W _ ha (U _ _ _ z).2
  ·rw[h2];rintro rfl;show W _ hd (U _ _ _ O).1
  ·show R.sep _ _ _ _ _ _ O z
 ·have fresh:∀c,h.get? c=none->G.hb.get? c=none:=λc J=>by
   cases hq:G.hb.get? c with
   |none=>rfl
   |some o=>rw[R.base c o hq]at J;cases J
  rcases hY q with q|rfl|rfl
  ·show R.new b q
  ·show fresh _ ha
  ·show fresh _ hd
def Evo.JT (f:Nat->Option V)(W:h.get? a=none)(hd:h.get? d=none)(hk:∀b o,h.get? b=some o->h'.get? b=some o):Evo X σ h (σ.jn a d f) h':=by
 apply#[λb o e _ _=>hk b o e,λb o e _=>hk b o e,λb q=>?_,λb o e=>#[o,hk b o e]];rcases hY q with q|rfl|rfl
 ·show .inl q
 ·show .inr W
 ·show .inr hd
end
end MP
end
section
namespace MP
open PySem PyProof.Rows
variable {env:Env}{ρ:Fr}{h:Heap}{Q:V->St->Prop}{w:Value}{b:Bool}
structure AOk (A:Around)(d:Nat):Prop where
 handled:A.handled=none
 depth:A.depth+3*d+20<recursionLimit
 units:A.units+30*d+300<cLine
structure zr (env:Env):Prop where
 kind:env.scope.kind=.function
 nd:(env.scope.names.map (·.1)).Nodup
 globals:env.globals=mainGlobals
 builtins:env.builtins=builtinsNs
structure FR (G:Stc)(σ:St)(env:Env)(ρ:Fr)(h:Heap):Prop where
 ns:∃m,h.Ns env.locals m/\∀i x,env.scope.names[i]?=some (x,.local)->OV G h (ρ i) (m x)
 cells:∀(i:Nat) (x:Str) (k:NameKind),env.scope.names[i]?=some (x,k)->k=.cell\/k=.free->∃c w,env.cells.lookup x=some c/\h.IsCell c w/\OV G h (ρ i) w/\¬σ.dom c/\c≠env.locals/\(G.cap x=false->G.hb.get? c=none)
 inj:∀(i j:Nat) (x y:Str) (k k':NameKind) (c:Addr),env.scope.names[i]?=some (x,k)->env.scope.names[j]?=some (y,k')->(k=.cell\/k=.free)->(k'=.cell\/k'=.free)->env.cells.lookup x=some c->env.cells.lookup y=some c->i=j
 loc:¬σ.dom env.locals
 notfrz:∀o,h.get? env.locals=some o->¬Frz o
 new:G.hb.get? env.locals=none
 allc:∀p∈env.cells,∃o,h.get? p.2=some o
def FR.evo {G:Stc}{σ σ':St}{h':Heap}(F:FR G σ env ρ h)(x:Evo [] σ h σ' h'):FR G σ' env ρ h':=by
 have#[m,#[o,es,ep,J,r],hm]:=F.ns;have O:=x.keep _ _ J F.loc (by simp);have W:∀b o,h.get? b=some o->¬σ.dom b->¬σ'.dom b:=λb o e nd d=>(x.dom b d).elim nd λq=>by rw[e]at q;cases q
 apply#[#[m,#[o,es,ep,O,r],λi y e=>(hm i y e).mono x.frz],λi y k e hk=>?_,F.inj,W _ _ J F.loc,λz e=>?_,F.new,λp hp=>by have#[o,e]:=F.allc p hp;show x.there _ o e]
 ·have#[c,w,h1,#[B,U,hd],h3,I,h5]:=F.cells i y k e hk;apply#[c,w,h1,#[B,x.keep _ _ U I (by simp),hd],h3.mono x.frz,W _ _ U I,h5]
 ·rw[O]at e;cases e;show F.notfrz o J
structure Go (X:List Addr)(σ:St)(s:Shared)(σ':St)(s':Shared):Prop where
 e:Evo X σ s.heap σ' s'.heap
 g:s'.gens=s.gens
 o:s'.os=s.os
inductive jr (G:Stc)(X:List Addr)(σ:St)(s:Shared)(Q:V->St->Prop)(w:Value)(s':Shared):Prop
 |mk (v:V) (σ':St):Q v σ'->VR G s'.heap v w->Rel G σ' s'.heap->Go X σ s σ' s'->jr G X σ s Q w s'
inductive lq (G:Stc)(X:List Addr)(σ:St)(s:Shared)(Q:Bool->St->Prop)(b:Bool)(s':Shared):Prop
 |mk (σ':St):Q b σ'->Rel G σ' s'.heap->Go X σ s σ' s'->lq G X σ s Q b s'
inductive DS (G:Stc)(X:List Addr)(σ:St)(s:Shared)(Q:List V->St->Prop)(ws:List Value)(s':Shared):Prop
 |mk (vs:List V) (σ':St):Q vs σ'->VRs G s'.heap vs ws->Rel G σ' s'.heap->Go X σ s σ' s'->DS G X σ s Q ws s'
section
variable {G:Stc}{X:List Addr}{σ σ₁ σ₂:St}{s s₁ s₂:Shared}{tk:Nat}{M:Model}{A:Around}{E:QqV}
def Go.refl:Go X σ s σ s:=#[Evo.refl _ _ _,rfl,rfl]
def Go.trans (x:Go X σ s σ₁ s₁)(y:Go X σ₁ s₁ σ₂ s₂):Go X σ s σ₂ s₂:=#[x.e.trans y.e,y.g.trans x.g,y.o.trans x.o]
def Go.frz (x:Go X σ s σ₁ s₁):jq s.heap s₁.heap:=x.e.frz
def Go.keep (x:Go X σ s σ₁ s₁):∀b o,s.heap.get? b=some o->¬σ.dom b->b∉X->s₁.heap.get? b=some o:=x.e.keep
def Go.dom (x:Go X σ s σ₁ s₁):∀b,σ₁.dom b->σ.dom b\/s.heap.get? b=none:=x.e.dom
def Go.there (x:Go X σ s σ₁ s₁):∀b o,s.heap.get? b=some o->∃o',s₁.heap.get? b=some o':=x.e.there
def Go.new (x:Go X σ s σ₁ s₁){b:Addr}(e:s₁.heap.get? b=none):s.heap.get? b=none:=by
 cases hq:s.heap.get? b with
 |none=>rfl
 |some o=>have#[o',W]:=x.there _ _ hq;rw[e]at W;cases W
def Go.more {Y:List Addr}(x:Go X σ s σ₁ s₁)(W:∀b∈X,b∈Y):Go Y σ s σ₁ s₁:=#[x.e.more W,x.g,x.o]
def Go.less {Y:List Addr}(x:Go X σ s σ₁ s₁)(W:∀b∈X,b∈Y\/s.heap.get? b=none):Go Y σ s σ₁ s₁:=#[x.e.less W,x.g,x.o]
def Go.to {W:Drawn}(x:Go X σ s σ₁ s₁)(y:Evo X σ₁ s₁.heap σ₂ h):Go X σ s σ₂ #[h,s₁.gens,W,tk,s₁.os]:=#[x.e.trans y,x.g,x.o]
def Go.tok (x:Go X σ s σ₁ s₁):Go X σ s σ₁ {s₁ with toks:=tk}:=#[x.e,x.g,x.o]
def jr.back {s':Shared}(x:Go X σ s σ₁ s₁):jr G X σ₁ s₁ Q w s'->jr G X σ s Q w s'
 |⟨v,σ',q,vr,r,e⟩=>#[v,σ',q,vr,r,x.trans e]
def lq.back {Q:Bool->St->Prop}{s':Shared}(x:Go X σ s σ₁ s₁):lq G X σ₁ s₁ Q b s'->lq G X σ s Q b s'
 |⟨σ',q,r,e⟩=>#[σ',q,r,x.trans e]
def Go.back {t:Sem Value}(x:Go X σ s σ₁ s₁)(h:wpAny M A t (jr G X σ₁ s₁ Q) E s₂):wpAny M A t (jr G X σ s Q) E s₂:=dj h (λ_ _=>jr.back x) λ_ _ x=>x
def Go.u5 {t:Sem Bool}{Q:Bool->St->Prop}(x:Go X σ s σ₁ s₁)(h:wpAny M A t (lq G X σ₁ s₁ Q) E s₂):wpAny M A t (lq G X σ s Q) E s₂:=dj h (λ_ _=>lq.back x) λ_ _ x=>x
def jr.here {v:V}(q:Q v σ)(vr:VR G s.heap v w)(r:Rel G σ s.heap):jr G X σ s Q w {s with toks:=tk}:=#[v,σ,q,vr,r,Evo.refl _ _ _,rfl,rfl]
def jr.zh {v:V}(q:Q v σ)(vr:VR G s.heap v w)(r:Rel G σ s.heap):jr G X σ s Q w s:=#[v,σ,q,vr,r,.refl]
def lq.here {Q:Bool->St->Prop}(q:Q b σ)(r:Rel G σ s.heap):lq G X σ s Q b s:=#[σ,q,r,.refl]
def lq.zh {Q:Bool->St->Prop}(q:Q b σ)(r:Rel G σ s.heap):lq G X σ s Q b {s with toks:=tk}:=#[σ,q,r,Evo.refl _ _ _,rfl,rfl]
end
public abbrev Stc.M (G:Stc):Model:=model G.prog G.w
structure Cx (G:Stc)(sc:Scope)(d:Nat)(A:Around)(env:Env)(ρ:Fr)(σ:St)(s:Shared):Prop where
 ao:AOk A d
 es:env.scope=sc
 eo:zr env
 F:FR G σ env ρ s.heap
 R:Rel G σ s.heap
def Cx.go {G:Stc}{sc:Scope}{d:Nat}{A:Around}{σ σ₁:St}{s s₁:Shared}(c:Cx G sc d A env ρ σ s)(r:Rel G σ₁ s₁.heap)(x:Go [] σ s σ₁ s₁):Cx G sc d A env ρ σ₁ s₁:=#[c.ao,c.es,c.eo,c.F.evo x.e,r]
def Cx.at {G:Stc}{sc:Scope}{d:Nat}{A:Around}{W:Fr}{σ σ₁:St}{s s₁:Shared}(c:Cx G sc d A env ρ σ s)(F:FR G σ₁ env W s₁.heap)(R:Rel G σ₁ s₁.heap):Cx G sc d A env W σ₁ s₁:=#[c.ao,c.es,c.eo,F,R]
abbrev gc (G:Stc)(C:Cal)(sc:Scope)(d:Nat)(e:Ex)(ex:Expr):Prop:=
 ∀⦃A E env ρ σ Q s⦄,Cx G sc d A env ρ σ s->wpE C e ρ σ Q->wpAny G.M A (eval ex env) (jr G [] σ s Q) E s
abbrev ua (G:Stc)(C:Cal)(sc:Scope)(d:Nat)(e:Ex)(ex:Expr):Prop:=
 ∀⦃A E env ρ σ Q s⦄,Cx G sc d A env ρ σ s->wpT C e ρ σ Q->wpAny G.M A (isTrue ex env (eval ex env)) (lq G [] σ s Q) E s
abbrev pe (G:Stc)(C:Cal)(sc:Scope)(d:Nat)(es:Exs)(exs:List Expr):Prop:=
 ∀⦃A E env ρ σ Q s pos⦄,Cx G sc d A env ρ σ s->uv C es ρ σ Q->wpAny G.M A (spliced (backTo pos (starEach exs env))) (DS G [] σ s Q) E s
section
variable {G:Stc}{A:Around}{E:QqV}{s:Shared}{σ:St}{α:Type}
def qc {t:Sem Value}{P:V->St->Prop}{R:QqV}(h:wpAny G.M A t (jr G [] σ s P) E s)
  (k:∀v σ₁ s₁ w,P v σ₁->VR G s₁.heap v w->Rel G σ₁ s₁.heap->Go [] σ s σ₁ s₁->R w s₁):wpAny G.M A t R E s:=
 dj h (λ_ _ W=>by have#[v,σ',q,vr,r,x]:=W;show k v σ' _ _ q vr r x) λ_ _ x=>x
def nQ {t:Sem Bool}{P:Bool->St->Prop}{R:Bool->Shared->Prop}(h:wpAny G.M A t (lq G [] σ s P) E s)
  (k:∀b σ₁ s₁,P b σ₁->Rel G σ₁ s₁.heap->Go [] σ s σ₁ s₁->R b s₁):wpAny G.M A t R E s:=
 dj h (λ_ _ W=>by have#[σ',q,r,x]:=W;show k _ σ' _ q r x) λ_ _ x=>x
def nP {t:Sem (List Value)}{P:List V->St->Prop}{R:List Value->Shared->Prop}(h:wpAny G.M A t (DS G [] σ s P) E s)
  (k:∀vs σ₁ s₁ ws,P vs σ₁->VRs G s₁.heap vs ws->Rel G σ₁ s₁.heap->Go [] σ s σ₁ s₁->R ws s₁):wpAny G.M A t R E s:=
 dj h (λ_ _ W=>by have#[v,σ',q,vr,r,x]:=W;show k v σ' _ _ q vr r x) λ_ _ x=>x
end
def nD {G:Stc}{σ:St}{a:Addr}{xs:List V}{ws:List Value}(R:Rel G σ h)(e:σ.L a=some xs)(v:VRs G h xs ws):ws.length<=bz:=v.length▸R.Ll a xs e
def zB {n:Nat}(h:n<=bz):(n:Int)<2^63:=Int.lt_of_le_of_lt (Int.ofNat_le.mpr h) (by decide)
def JV (n:Nat):((n:Int) != 0)=(n != 0):=by
 cases n<;>rfl
def oW {α W:Type}{ws:List α}{ns:List W}(q:ws.length=ns.length):ws.toArray.isEmpty=ns.isEmpty:=by
 cases ws<;>cases ns<;>first|rfl|cases q
set_option maxRecDepth 100000 in
def yF {prog:Program}{w:World}{A:Around}{E:QqV}{s:Shared}{a:Addr}{o:Obj}{Q:Bool->Shared->Prop}(U:s.heap.get? a=some o)(O:o.cls=.type "function")(h:Q true s):wpAny (model prog w) A (truthy (.ref a)) Q E s:=by
 have W:s.TypeIs (.ref a) "function":=#[o,U,O];unfold truthy
 first
  |refine ab (wpAny_callSpecial?_none (name:=Str.ofString "__bool__") W (by rw[gk,fe];kernel_rfl) ?_)
  |refine ab (af (ab (wpAny_callSpecial?_none (name:=Str.ofString "__bool__") W (by rw[gk,fe];kernel_rfl) ?_)))
 first
  |refine ab (f9 (name:=Str.ofString "__len__") (r:=none) W (by rw[gk,fe];kernel_rfl) ?_)
  |refine ab (af (ab (f9 (name:=Str.ofString "__len__") (r:=none) W (by rw[gk,fe];kernel_rfl) ?_)))
 show af h
def eM {G:Stc}{A:Around}{E:QqV}{s:Shared}{σ:St}{v:V}{K:Bool->Prop}(R:Rel G σ s.heap)(vr:VR G s.heap v w)(h:uc v σ K){Q:Bool->Shared->Prop}
  (k:∀b tk,K b->Q b {s with toks:=tk}):wpAny G.M A (truthy w) Q E s:=by
 cases v
 case none=>have rfl:=vr;show truthy_none (k _ s.toks h)
 case bool=>have rfl:=vr;show uo (k _ s.toks h)
 case int=>have#[t,rfl]:=vr;show truthy_int (k _ s.toks h)
 case str =>
  have#[t,rfl]:=vr;show PySem.P.truthy_str (Int.not_le.mpr (zB h.1)) (k _ _ (by rw[JV];show h.2))
 case L =>
  have rfl:=vr;have#[xs,e,hk]:=h;have#[ws,n,W,U]:=R.L _ xs e;show wpAny_truthy_list W.isList (zB (nD R e U)) (k _ _ (by rw[oW U.length.symm];show hk))
 case ro =>
  have#[a,ws,n,rfl,g,r]:=vr;show wpAny_truthy_list #[_,R.base _ _ g,rfl,_,rfl] (zB (nr (Nat.le_of_eq r.length) h.1)) (k _ _ (by rw[oW r.length];show h.2))
 case clo =>
  have#[a,o,rfl,_,O,J]:=vr;show yF (R.base _ _ O) J (k _ s.toks h)
 all_goals first|show False.elim h|show False.elim vr
abbrev binOp:Bop->Operator
 |.add=>.Add|.sub=>.Sub|.mul=>.Mult|.fdiv=>.FloorDiv|.mod=>.Mod|.pow=>.Pow
abbrev jP:Cop->CmpOp
 |.eq=>.Eq|.ne=>.NotEq|.lt=>.Lt|.le=>.LtE|.gt=>.Gt|.ge=>.GtE|.is=>.Is|.isNot=>.IsNot|.isIn=>.In|.notIn=>.NotIn
def log2_lt_of {b:Int}(h:b.natAbs<2^60):b.natAbs.log2<9000:=by
 by_cases h0:b.natAbs=0
 ·rw[h0];decide +kernel
 ·have:=(Nat.log2_lt h0).mpr h;(show fh (.l .A (.n 9000)) .a (.l .A (.n 60)) this)
section
variable {G:Stc}{A:Around}{E:QqV}{s:Shared}{σ:St}
def l0 {op:Bop}{a b:Int}{t u:Tok}(R:Rel G σ s.heap)(h:jB op (.int a) (.int b) σ Q):wpAny G.M A (binaryOp (binOp op) (.int a t) (.int b u)) (jr G [] σ s Q) E s:=by
 cases op with
 |add=>show add_int (jr.here h (.int _ _) R)
 |sub=>show sub_int (jr.here h (.int _ _) R)
 |mul =>
  apply mul_int (jr.here h.2 (.int _ _) R) ?_;rcases h.1 with q|q
  ·show IntMulOk.of_left (intBits_le_64 ((Ar.nab _).elim (λW=>(kh .a6 .a .a9 W.1)) λW=>(sg .a6 .d .M .aN q W.2)) ((Ar.nab _).elim (λW=>(sg .aF .d .M .aG q W.2)) λW=>(kh .aF .a .aP W.1)))
  ·show IntMulOk.of_right (intBits_le_64 ((Ar.nab _).elim (λW=>(kh .a6 .a .a9 W.1)) λW=>(sg .a6 .d .M .aN q W.2)) ((Ar.nab _).elim (λW=>(sg .aF .d .M .aG q W.2)) λW=>(kh .aF .a .aP W.1)))
 |fdiv=>show floordiv_int h.1 (jr.here h.2.2 (.int _ _) R) (.inl (PyProof.noPylong_of_log2 (log2_lt_of h.2.1)))
 |mod=>show mod_int' h.1 (jr.here h.2 (.int _ _) R)
 |pow =>
  have#[h0,J,O,U]:=h;show pow_int_small h0 (kh (.ik .A (.n 1000000)) .a (.ik .A (.n 1000)) J) O (jr.here U (.int _ _) R)
end
section
variable {k:Nat}{pos:Pos}{x e₁:Expr}{a b:Ex}{rest xs:List Expr}
variable {G:Stc}{C:Cal}{sc:Scope}{d:Nat}
def AU:gc G C sc d .none (.Constant .none k pos):=λ_ _ _ _ _ _ _ c h=>Constant_none (jr.zh h .none c.R)
def B8 {b:Bool}:gc G C sc d (.bool b) (.Constant (.bool b) k pos):=λ_ _ _ _ _ _ _ c h=>Constant_bool (jr.zh h (.bool b) c.R)
def F8 {i:Int}:gc G C sc d (.int i) (.Constant (.int i) k pos):=λ_ _ _ _ _ _ _ c h=>wpAny_Constant_int (jr.here h (.int _ _) c.R)
def ET {x:Str}:gc G C sc d (.str x) (.Constant (.str x) k pos):=λ_ _ _ _ _ _ _ c h=>by
 show wpAny _ _ (mkText x) _ _ _;show wpAny_mkText (jr.here h (.str _ _) c.R)
def ku {names:List (Str×NameKind)}(nd:(names.map (·.1)).Nodup):∀{i:Nat} {x:Str} {k:NameKind},names[i]?=some (x,k)->names.lookup x=some k:=by
 induction names with
 |nil=>intro i x k e;simp at e
 |cons p r U =>
  intro i x k e;have#[y,k']:=p;simp only[ti,List.nodup_cons]at nd;cases i with
  |zero=>simp only[List.getElem?_cons_zero,gf,tg]at e;have#[rfl,rfl]:=e;simp
  |succ i =>
   simp only[wk]at e;have W:x≠y:=λq=>nd.1 (by
    subst q;show fj.mpr #[(x,k),fk e,rfl])
   rw[iB,qb.mpr W];show U nd.2 e
abbrev isVar (k:NameKind):Bool:=k==.local||k==.cell||k==.free
abbrev jh (x:Str):Bool:=!(x==("__debug__":Str))&&!(x==("__classdict__":Str))
def gV {A:Around}{E:QqV}{env:Env}{ρ:Fr}{σ:St}{s:Shared}{i:Nat}{x:Str}{k:NameKind}{v:V}{Q:QqV}(J:zr env)(F:FR G σ env ρ s.heap)
  (hi:env.scope.names[i]?=some (x,k)) (hk:isVar k=true) (B:jh x=true) (z:ρ i=some v) (h:∀w,VR G s.heap v w->Q w s):wpAny G.M A (loadName env x) Q E s:=by
 have W:env.kindOf x=some k:=ku J.nd hi;simp only[jh,dw,gi]at B;have get:∀{w:Option Value},OV G s.heap (ρ i) w->∃O,w=some O/\VR G s.heap v O:=λ{w} o=>by
  rw[z]at o;cases w with
  |none=>show o.elim
  |some O=>refine#[O,rfl,o]
 cases k with
 | «local» =>
  have#[m,hn,hm]:=F.ns;have#[O,e,vr]:=get (hm i x hi);show wpAny_loadName_local J.kind W hn e (h O vr)
 |cell =>
  have#[c,w,I,U,o,_,_,_]:=F.cells i x _ hi (.inl rfl);have#[O,rfl,vr]:=get o;show wpAny_loadName_cell J.kind W I U (h O vr)
 |free =>
  have#[c,w,I,U,o,_,_,_]:=F.cells i x _ hi (.inr rfl);have#[O,rfl,vr]:=get o;show wpAny_loadName_free J.kind W I U (h O vr) B.2
 |_=>cases hk
def kI {i:Nat}{x:Str}{k:NameKind}(hi:sc.names[i]?=some (x,k))(hk:isVar k=true)(U:jh x=true):gc G C sc d (.l i) (.Name x pos):=λ_ _ _ _ _ _ _ c h=>by
 have#[v,O,q]:=h;have W:(x==("__debug__":Str))=false:=by simp only[jh,dw,gi]at U;show U.1
 show wpAny_Name (gV c.eo c.F (by rw[c.es];show hi) hk U O λw vr=>jr.zh q vr c.R) W
def EZ (W:gc G C sc d a x):gc G C sc d (.neg a) (.UnaryOp .USub x pos):=λ_ _ _ _ _ _ _ c h =>
 UnaryOp_ (qc (W c h) λv σ₁ s₁ w q vr r x=>by
  have#[i,rfl,q]:=q;have#[t,rfl]:=vr;show PyProof.Rows.neg_int (jr.back x (jr.here q (.int _ _) r)))
def EY (U:gc G C sc d a x):gc G C sc d (.not a) (.UnaryOp .Not x pos):=λ_ _ _ _ _ _ _ c h =>
 UnaryOp_ (qc (U c h) λv σ₁ s₁ w q vr r x=>not_of (eM r vr q λb W q=>jr.back x (jr.here q (.bool _) r)))
def snd_and {W:Expr}(O:gc G C sc d a e₁)(hb:gc G C sc d b (.BoolOp .And (W::rest) pos)):gc G C sc d (.and a b) (.BoolOp .And (e₁::W::rest) pos):=λ_ _ _ _ _ _ _ c h =>
 BoolOp_and (qc (O c h) λv σ₁ s₁ w q vr r x=>eM r vr q λt U q=>by
  cases t with
  |true=>show x.tok.back (hb (c.go r x.tok) q)
  |false=>show jr.back x (jr.here q vr r))
def JA {W:Expr}(O:gc G C sc d a e₁)(hb:gc G C sc d b (.BoolOp .Or (W::rest) pos)):gc G C sc d (.or a b) (.BoolOp .Or (e₁::W::rest) pos):=λ_ _ _ _ _ _ _ c h =>
 BoolOp_or (qc (O c h) λv σ₁ s₁ w q vr r x=>eM r vr q λt U q=>by
  cases t with
  |false=>show x.tok.back (hb (c.go r x.tok) q)
  |true=>show jr.back x (jr.here q vr r))
def F7 {c:Ex}{y z:Expr}(W:ua G C sc d c x)(U:gc G C sc d a y)(hb:gc G C sc d b z):gc G C sc d (.I c a b) (.IfExp x y z pos):=λ_ _ _ _ _ _ _ c h =>
 IfExp_ (nQ (W c h) λt σ₁ s₁ q r x=>by
  cases t with
  |true=>show x.back (U (c.go r x) q)
  |false=>show x.back (hb (c.go r x) q))
def BB (U:ua G C sc d a x):ua G C sc d (.not a) (.UnaryOp .Not x pos):=λ_ _ _ _ _ _ _ c h =>
 isTrue_not (dj (U c h) (λ_ _ W=>by have#[a,q,r,x]:=W;apply#[a,q,r,x]) λ_ _ x=>x)
def BE (W:ua G C sc d a e₁)(hb:ua G C sc d b (.BoolOp .And rest pos)):ua G C sc d (.and a b) (.BoolOp .And (e₁::rest) pos):=λ_ _ _ _ _ _ _ c h =>
 isTrue_and (nQ (W c h) λt σ₁ s₁ q r x=>by
  cases t with
  |true=>show x.u5 (hb (c.go r x) q)
  |false=>show lq.back x (lq.here q r))
def FJ (W:ua G C sc d a e₁)(hb:ua G C sc d b (.BoolOp .Or rest pos)):ua G C sc d (.or a b) (.BoolOp .Or (e₁::rest) pos):=λ_ _ _ _ _ _ _ c h =>
 isTrue_or (nQ (W c h) λt σ₁ s₁ q r x=>by
  cases t with
  |false=>show x.u5 (hb (c.go r x) q)
  |true=>show lq.back x (lq.here q r))
def BC {c:Ex}{y z:Expr}(W:ua G C sc d c x)(U:ua G C sc d a y)(hb:ua G C sc d b z):ua G C sc d (.I c a b) (.IfExp x y z pos):=λ_ _ _ _ _ _ _ c h =>
 isTrue_IfExp (nQ (W c h) λt σ₁ s₁ q r x=>by
  cases t with
  |true=>show x.u5 (U (c.go r x) q)
  |false=>show x.u5 (hb (c.go r x) q))
def xn {e:Ex}(O:gc G C sc d e x)(U:∀env whole,isTrue x env whole=(do let v←whole;standAt x.pos;holding [v] (truthy v)))
  (hw:∀ρ σ Q,wpT C e ρ σ Q->wpE C e ρ σ λv σ=>uc v σ λb=>Q b σ):ua G C sc d e x:=λ_ _ _ _ _ _ _ c h =>
 isTrue_plain (qc (O c (hw _ _ _ h)) λv σ₁ s₁ w q vr r y=>eM r vr q λb W q=>lq.back y (lq.zh q r)) (U _ _)
def nz:pe G C sc d .nil []:=λ_ _ _ _ _ _ _ _ c h=>jV #[[],_,h,.nil,c.R,.refl]
def jx {e:Ex}{r:Exs}(B:gc G C sc d e x)(hr:pe G C sc d r xs)(I:∀env,starEach (x::xs) env=(false,eval x env)::starEach xs env):pe G C sc d (.cons e r) (x::xs):=λ_ _ _ _ _ _ _ _ c h =>
 spliced_more (qc (B c h) λv σ₁ s₁ w q vr J x =>
  nP (hr (c.go J x) q) λvs σ₂ s₂ ws U O r₂ W =>
   #[v::vs,σ₂,U,.cons (vr.mono W.frz) O,r₂,x.trans W]) (I _)
def wM {es:Exs}(h₀:pe G C sc d es xs):gc G C sc d (.T es) (.Tuple xs k pos):=λA E env ρ σ Q s c h =>
 Tuple_ (nP (h₀ c h) λvs σ₁ s₁ ws q W r x=>by
  have hz:=q.1;rw[W.length]at hz;unfold bz at hz;apply lu (?_:jr G [] σ s Q (.ref s₁.heap.objs.size) _) (by show ws.toArray.size<=sizeLine;rw[cw,show sizeLine=16777216 from rfl];(show fh .cA .a .b3 hz));apply#[.T vs,σ₁,q.2,.T (IsT.new _ _) (W.mono λ_ _ e _=>ba _ e),r.push _,x.to (Evo.push _ _ _ _)])
def F5 {es:Exs}(h₀:pe G C sc d es xs):gc G C sc d (.L es) (.List xs pos):=λA E env ρ σ Q s c h =>
 List_ (nP (h₀ c h) λvs σ₁ s₁ ws q W r x=>by
  have hz:=q.1;have O:=hz;rw[W.length]at hz;unfold bz at hz;have I:σ₁.L s₁.heap.objs.size=none:=by
   cases hq:σ₁.L s₁.heap.objs.size with
   |none=>rfl
   |some ys=>have#[o,J,_]:=r.qZ hq;rw[none_at_size]at J;cases J
  apply lu (?_:jr G [] σ s Q (.ref s₁.heap.objs.size) _) (by show ws.toArray.size<=sizeLine;rw[cw,show sizeLine=16777216 from rfl];(show fh .cA .a .b3 hz));have U:At s₁.heap.objs.size s₁.heap (s₁.heap.push {cls:=.type "list",data:=.seq ws.toArray}):=At.push s₁.heap;apply#[.L _,_,q.2 _ I,.L _,r.putL U (λ_=>none_at_size _) (IsL.new _ _) W O,x.to (Evo.putL U (λ_=>none_at_size _) _)])
end
end MP
end
section
namespace MP
open PySem PyProof.Rows
section
variable {G:Stc}{A:Around}{E:QqV}{s:Shared}
public abbrev yV (G:Stc):Obj:={cls:=.type "set",dict:=none,data:=.set #v[] 0 (.fresh 0 0 G.led)}
def yT (h:Heap):pG G (h.push (yV G)) h.objs.size []:=
 #[_,#v[],0,_,eg _ rfl,#[rfl,rfl,rfl],rfl,λe W=>by simp at W,λk=>by simp,by decide,by rfl,by rfl,#[rfl,rfl,.nil]]
def qY {Q:QqV}(h:Q (.ref s.heap.objs.size) {s with heap:=s.heap.push (yV G)}) :
  codeAny G.M A (.call (.builtin "set.__new__") #[[.type "set"],[]]) (wants Q E) s:=by
 apply ug ?_;show wpAny _ A.in1 (do checkBuiltinCall "set.__new__" #[[.type "set"],[]];again (.builtin "set.__new__" #[[.type "set"],[]])) _ _ s;apply ab (fo F.newCall_set_0 (af #[plainId_quiet F.plain_set_new _,ye F.entry_set_new ?_]));rw[eJ F.plain_set_new _];unfold Builtin.«set.__new__» Builtin.Frozenset.newClass;have W:=sub_set_self;have#[U,g,d,tk,os]:=s;dsimp only
 wp_walk
 apply nH (af ?_);dsimp only;simp only[newObj];apply ab (wpAny_alloc (af ?_));show af h
set_option maxHeartbeats 1000000 in
set_option maxRecDepth 100000 in
def rC {Q:QqV}(h:Q (.ref s.heap.objs.size) {s with heap:=s.heap.push (yV G)}):wpAny G.M A (call (.type "set") []) Q E s:=by
 have#[c,tl,I]:=F.called_set.mro;have O:=F.called_set.made;have J:=F.called_set.sub;apply rg (ug ?_);show wpAny _ _ (callAny (.type "set") _) _ _ _;apply af #[iE _ (by decide +kernel),ye F.entry_type_call ?_];rw[Around.under_plain (weight_type_call_type "set" [] []) rfl];have h1:=F.called_set.notType;have h2:=F.called_set.canCreate;have z:=F.typeCall_set_0
 repeat (any_goals (first|assumption|wp_step))
 apply codeAny_mono (qY (E:=E) (Q:=λobj s₁=>obj=.ref s.heap.objs.size/\s₁={s with heap:=s.heap.push (yV G)}) #[rfl,rfl]) λr s₁ hr=>?_;cases r with
 |error e=>show hr
 |ok fl =>
  cases fl with
  |ret obj =>
   have#[rfl,rfl]:=hr;have hT:Shared.TypeIs {s with heap:=s.heap.push (yV G)} (.ref s.heap.objs.size) "set":=#[_,eg _ rfl,rfl];have B:=F.called_set.init.lookup;have ag:=F.called_set.init.bind (.ref s.heap.objs.size)
   repeat (any_goals (first|assumption|wp_step))
   apply codeAny_mono (eD (R:=wants (λr s₂=>r=.none/\Q (.ref s.heap.objs.size) s₂) E) F.called_set.init.plain F.entry_set_init (check_set_init hT ?_)) λr₂ s₂ W=>?_
   ·unfold Builtin.«set.__init__» noKeywords
    wp_walk
    apply#[rfl,h]
   ·cases r₂ with
    |error e=>show W
    |ok U =>
     cases U with
     |ret r =>
      have#[rfl,hq]:=W
      repeat (any_goals (first|assumption|wp_step))
     |_=>show W.elim
  |_=>show hr.elim
end
end MP
end
section
set_option tactic.hygienic true
namespace MP
open PySem PyProof.Rows
variable {h:Heap}{a b:V}{x y:Value}{K:Bool->Prop}{Q:QqV}
abbrev L1 (h:Heap)(w:Value)(d:PyData)(n:Nat):Prop:=∃as,Reads h w d as/\d.canLay0=true/\d.depth<=n
abbrev N7 (h:Heap)(ws:List Value)(ds:List PyData)(n:Nat):Prop:=∃as,ReadsAll h ws ds as/\PyData.canLayAll0 ds=true/\PyData.depthAll ds<=n
def iI {G:Stc}{σ:St}(n:Nat)(W:∀{v:V} {w:Value} {d:PyData},iZ σ n v=some d->VR G h v w->L1 h w d n) :
  {xs:List V}->{ws:List Value}->{ds:List PyData}->xs.mapM (iZ σ n)=some ds->VRs G h xs ws->N7 h ws ds n
 | []=>λe vr=>by
  have rfl:=vr;have rfl:=ah (e:some []=some _);apply#[[],.nil,rfl,bq _]
 |x::xs=>λe z=>by
  have#[w,us,q,a,r]:=z;subst q;rw[List.mapM_cons]at e;have#[d,e1,J]:=fq.mp e;have#[ag,B,I]:=fq.mp J;clear e;have rfl:=ah I;have#[as,O,c1,d1]:=W e1 a;have#[bs,U,c2,d2]:=iI n W B r;apply#[as++bs,.cons O U,by simp[PyData.canLayAll0,c1,c2],Nat.max_le.mpr #[d1,d2]]
def BS {x:Str}{t:Tok}{d:PyData}{n:Nat}(e:(if PyData.strOk x then some (PyData.str x) else Option.none)=some d):L1 h (.str x t) d n:=by
 cases c:PyData.strOk x with
 |true=>rw[c]at e;have rfl:=ah e;apply#[[],.str _ _,by simpa[PyData.canLay0] using c,bq _]
 |false=>rw[c]at e;show jf e
def gY {G:Stc}{σ:St}(R:Rel G σ h):(n:Nat)->{v:V}->{w:Value}->{d:PyData}->iZ σ n v=some d->VR G h v w->L1 h w d n:=by
 intro n;induction n with
 |zero =>
  intro v w d e vr;cases v
  case none=>have rfl:=vr;have rfl:=ah e;apply#[[],.none,rfl,bq _]
  case bool=>have rfl:=vr;have rfl:=ah e;apply#[[],.bool _,rfl,bq _]
  case int=>have#[t,rfl]:=vr;have rfl:=ah e;apply#[[],.int _ _,rfl,bq _]
  case str=>have#[t,rfl]:=vr;show BS e
  all_goals show jf e
 |succ n W =>
  intro v w d e vr;cases v
  case none=>have rfl:=vr;have rfl:=ah e;apply#[[],.none,rfl,bq _]
  case bool=>have rfl:=vr;have rfl:=ah e;apply#[[],.bool _,rfl,bq _]
  case int=>have#[t,rfl]:=vr;have rfl:=ah e;apply#[[],.int _ _,rfl,bq _]
  case str=>have#[t,rfl]:=vr;show BS e
  case L =>
   have rfl:=vr;have#[xs,U,e]:=fq.mp e;have#[ds,hd,rfl]:=ji.mp e;have#[ws,m,hl,O]:=R.L _ xs U;have#[as,r,c,dd]:=iI n W hd O;apply#[_,.list hl rfl rfl (by simpa using r),by simpa[PyData.canLay0] using c,Nat.succ_le_succ dd]
  case T =>
   have#[a,ws,m,rfl,g,r]:=vr;have#[ds,hd,rfl]:=ji.mp e;have#[as,r,c,dd]:=iI n W hd r;apply#[_,.tuple g rfl rfl (by simpa using r),by simpa[PyData.canLay0] using c,Nat.succ_le_succ dd]
  all_goals show jf e
section
variable {G:Stc}{A:Around}{E:QqV}{s:Shared}{σ:St}{d:Nat}
def eN {d:PyData}(c:d.canLay0=true)(h:d.depth<=6):SeqAt.shaped d=true:=by
 unfold SeqAt.shaped;rw[c,Bool.true_and];show gp (nr h (by decide))
def AOk.u64 (W:AOk A d):A.units+64<cLine:=by have:=W.units;(show fc (.l (.a .A (.n 64)) .B) .a (.l (.a (.a .A (.m 30 .C)) .aV) .B) this)
def JD (ao:AOk A d)(R:Rel G σ s.heap)(U:VR G s.heap a x)(W:VR G s.heap b y)(h:s7 a b σ K)(k:∀r,K r->Q (.bool r) s):wpAny G.M A (compareOp .Eq x y) Q E s:=by
 rcases kS h with ⟨i,j,rfl,rfl,h⟩|⟨i,j,rfl,rfl,h⟩|⟨d,e,hd,I,hk⟩
 ·have#[t,rfl]:=U;have#[u,rfl]:=W;show PyProof.Rows.eq_int (k _ h)
 ·have#[t,rfl]:=U;have#[u,rfl]:=W;show eq_str (k _ h)
 ·have#[as,J,ca,B]:=gY R 6 hd U;have#[bs,O,z,db]:=gY R 6 I W;show eq_dataH J O (eN ca B) (eN z db) ao.u64 (k _ hk)
def JB (ao:AOk A d)(R:Rel G σ s.heap)(U:VR G s.heap a x)(W:VR G s.heap b y)(h:s7 a b σ λr=>K (!r))(k:∀r,K r->Q (.bool r) s):wpAny G.M A (compareOp .NotEq x y) Q E s:=by
 rcases kS h with ⟨i,j,rfl,rfl,h⟩|⟨i,j,rfl,rfl,h⟩|⟨d,e,hd,I,hk⟩
 ·have#[t,rfl]:=U;have#[u,rfl]:=W;show ne_int (k _ h)
 ·have#[t,rfl]:=U;have#[u,rfl]:=W;show ne_str (k _ h)
 ·have#[as,J,ca,B]:=gY R 6 hd U;have#[bs,O,z,db]:=gY R 6 I W;show ne_dataH J O (eN ca B) (eN z db) ao.u64 (k _ hk)
def lU {v:Value}{R:Bool->Shared->Prop}(h:R (v==.none) s):wpAny G.M A (isSame v .none) R E s:=by
 cases v<;>show fo (by rfl) (by show h)
def EA (W:VR G h a x):(x==.none)=isNone a:=by
 cases a
 case int=>have#[t,rfl]:=W;rfl
 case str=>have#[t,rfl]:=W;rfl
 case T=>have#[_,_,_,rfl,_]:=W;rfl
 case mt=>have#[_,_,_,_,rfl,_]:=W;rfl
 case gF=>have#[_,_,rfl,_]:=W;rfl
 case gX=>have#[_,_,rfl,_]:=W;rfl
 case ro=>have#[_,_,_,rfl,_]:=W;rfl
 case clo=>have#[_,_,rfl,_]:=W;rfl
 all_goals have rfl:=W;rfl
def kZ (R:Rel G σ s.heap)(U:VR G s.heap a x)(O:VR G s.heap b y)(h:DZ a b σ K){Q:Bool->Shared->Prop}(k:∀r,K r->Q r s):wpAny G.M A (isSame x y) Q E s:=by
 cases b with
 |none =>
  have rfl:=O;show lU (k _ (by rw[EA U];show h))
 |L q =>
  have rfl:=O;have h:I7 q a σ K:=h;cases a with
  |none=>have rfl:=U;show wpAny_isSame_plain rfl (k _ h)
  |L p =>
   have rfl:=U;have#[B,I,J]:=h;have#[xs,e1]:=cq.mp B;have#[ys,z]:=cq.mp I;by_cases W:p=q
   ·subst W;show wpAny_isSame_ref_self (k _ (beq_self_eq_true p▸J))
   ·have#[o1,g1,c1]:=R.qZ e1;have#[o2,g2,c2]:=R.qZ z;show wpAny_isSame_ref_other W g1 g2 (by rw[c1];decide) (k _ (qb.mpr W▸J))
  |_=>show False.elim h
 |_=>show False.elim h
def tu {G:Stc}:{ns:List Int}->{ws:List Value}->VRs G h (ns.map V.int) ws->IntsAre ws ns
 | []=>λe=>by have rfl:=e;show .nil
 |_::_=>λz=>by have#[_,_,rfl,#[t,rfl],r]:=z;show .cons _ _ (tu r)
def d8 (ns:List Int)(i:Int):(ns.any λx=>x==i)=ns.contains i:=by
 rw[Bool.eq_iff_iff];simp
def JC (R:Rel G σ s.heap)(U:VR G s.heap a x)(W:VR G s.heap b y)(h:E7 a b σ K)(k:∀r,K r->Q (.bool r) s):wpAny G.M A (compareOp .In x y) Q E s:=by
 have#[i,rfl,h]:=yj (v:=a) h;have#[l,rfl,ns,e,hk]:=ud (v:=b) h;have#[t,rfl]:=U;have rfl:=W;have#[ws,n,hl,O]:=R.L _ _ e;show in_list_ints hl.isList (tu O) (k _ (by rw[d8];show hk))
def yI (R:Rel G σ s.heap)(U:VR G s.heap a x)(W:VR G s.heap b y)(h:E7 a b σ λr=>K (!r))(k:∀r,K r->Q (.bool r) s):wpAny G.M A (compareOp .NotIn x y) Q E s:=by
 have#[i,rfl,h]:=yj (v:=a) h;have#[l,rfl,ns,e,hk]:=ud (v:=b) h;have#[t,rfl]:=U;have rfl:=W;have#[ws,n,hl,O]:=R.L _ _ e;show notin_list_ints hl.isList (tu O) (k _ (by rw[d8];show hk))
def jF {op:Cop}{K:Bool->Prop}(O:AOk A d)(R:Rel G σ s.heap)(U:VR G s.heap a x)(W:VR G s.heap b y)(h:o7 op a b σ K)(k:∀r,K r->Q (.bool r) s):wpAny G.M A (compareOp (jP op) x y) Q E s:=by
 have ord:I6 op a b K->wpAny G.M A (compareOp (jP op) x y) Q E s:=λh=>by
  have#[i,rfl,h]:=yj (v:=a) h;have#[j,rfl,h]:=yj (v:=b) h;have#[t,rfl]:=U;have#[u,rfl]:=W;cases op
  case lt=>show lt_int (k _ h)
  case le=>show le_int (k _ h)
  case gt=>show gt_int (k _ h)
  case ge=>show ge_int (k _ h)
  all_goals show False.elim h
 cases op with
 |eq=>show JD O R U W h k
 |ne=>show JB O R U W h k
 |is =>
  show wpAny G.M A (do return .bool (← isSame x y)) Q E s;show ab (kZ R U W h λr q=>af (k _ q))
 |isNot =>
  show wpAny G.M A (do return .bool (!(← isSame x y))) Q E s;show ab (kZ (K:=λr=>K (!r)) R U W h λr q=>af (k _ q))
 |isIn=>show JC R U W h k
 |notIn=>show yI R U W h k
 |lt=>show ord h
 |le=>show ord h
 |gt=>show ord h
 |ge=>show ord h
end
section
variable {G:Stc}{C:Cal}{sc:Scope}{d:Nat}
def FA {op:Cop}{a b:Ex}{x y:Expr}{pos:Pos}(z:gc G C sc d a x)(hb:gc G C sc d b y)(B:behindInMarks (jP op) y=false):gc G C sc d (.c op a b) (.Compare x [jP op] [y] pos):=λ_ _ _ _ _ _ _ c h =>
 wpAny_Compare1 (qc (z c h) λv σ₁ s₁ w q vr r x =>
  qc (hb (c.go r x) q) λI σ₂ s₂ J O U r₂ W =>
   jF c.ao r₂ (vr.mono W.frz) U O λb q=>jr.back (x.trans W) (jr.zh q (.bool _) r₂)) B
def d6 {G:Stc}{A:Around}{E:QqV}{s:Shared}{env:Env}{l op r pos whole}{Q:Bool->Shared->Prop}
  (h:wpAny G.M A (eval l env) (λa s₁=>wpAny G.M A (eval r env) (λb s₂=>wpAny G.M A (compareOp op a b) (λc W=>wpAny G.M A (truthy c) Q E W) E s₂) E s₁) E s)
  (J:behindInMarks op r=false):wpAny G.M A (isTrue (.Compare l [op] [r] pos) env whole) Q E s:=by
 rw[isTrue_Compare1,markedBehindIn_of_false J];apply ab (dj h (λa s₁ h₁=>ab (dp (dj h₁ (λb s₂ O=>ab (gw (ab (wpAny_operating (dj O (λc W U=>dp U) λ_ _ x=>x)))) ) λ_ _ x=>x))) λ_ _ x=>x)
def BD {op:Cop}{a b:Ex}{x y:Expr}{pos:Pos}(z:gc G C sc d a x)(hb:gc G C sc d b y)(B:behindInMarks (jP op) y=false):ua G C sc d (.c op a b) (.Compare x [jP op] [y] pos):=λ_ _ _ _ _ _ _ c h =>
 d6 (qc (z c h) λv σ₁ s₁ w q vr r x =>
  qc (hb (c.go r x) q) λI σ₂ s₂ J O U r₂ W =>
   jF c.ao r₂ (vr.mono W.frz) U O λb q=>uo (lq.back (x.trans W) (lq.here q r₂))) B
end
end MP
end
section
namespace MP
open PySem PyProof.Rows
variable {ws:List Value}
def nh {n:Nat}(h:n<=bz):n<=sizeLine:=by rw[show sizeLine=16777216 from rfl];unfold bz at h;(show fh .cA .a .b3 h)
section
variable {G:Stc}{σ:St}{h:Heap}
def Rel.KG (R:Rel G σ h):σ.L h.objs.size=none:=by
 cases hq:σ.L h.objs.size with
 |none=>rfl
 |some ys=>have#[o,W,_]:=R.qZ hq;rw[none_at_size]at W;cases W
def Rel.freshD (R:Rel G σ h):σ.D h.objs.size=none:=by
 cases hq:σ.D h.objs.size with
 |none=>rfl
 |some ys=>have#[o,W,_]:=R.zQ hq;rw[none_at_size]at W;cases W
def Rel.KD (R:Rel G σ h):σ.S h.objs.size=none:=by
 cases hq:σ.S h.objs.size with
 |none=>rfl
 |some ys=>have#[o,W,_]:=R.D7 hq;rw[none_at_size]at W;cases W
def lS {X:List Addr}{σ₁:St}{s s₁:Shared}{tk:Nat}{O:Drawn}{Q:V->St->Prop}{vs:List V}(r:Rel G σ₁ s₁.heap)(x:Go X σ s σ₁ s₁)(U:VRs G s₁.heap vs ws)(hz:vs.length<=bz)
  (q:∀c,σ₁.L c=none->Q (.L c) (σ₁.ew c vs)):jr G X σ s Q (.ref s₁.heap.objs.size) #[s₁.heap.push {cls:=.type "list",data:=.seq ws.toArray},s₁.gens,O,tk,s₁.os]:=by
 have W:At s₁.heap.objs.size s₁.heap (s₁.heap.push {cls:=.type "list",data:=.seq ws.toArray}):=At.push s₁.heap;apply#[.L _,_,q _ r.KG,.L _,r.putL W (λ_=>none_at_size _) (IsL.new _ _) U hz,x.to (Evo.putL W (λ_=>none_at_size _) _)]
def VRs.rep {vs:List V}(x:VRs G h vs ws):∀k:Nat,VRs G h (List.replicate k vs).flatten (List.replicate k ws).flatten
 |0=>by simpa using VRs.nil
 |k+1=>by simpa[List.replicate_succ] using x.append (x.rep k)
def VRs.ints {ns:List Int}(i:IntsAre ws ns):VRs G h (ns.map V.int) ws:=by
 induction i with
 |nil=>show .nil
 |cons n t r W=>show .cons (.int n t) W
end
section
variable {G:Stc}{A:Around}{E:QqV}{s:Shared}{σ:St}
def qI {l:Addr}{items:Array Value}{k:Nat}{x:Int}{u:Tok}{Q:QqV}(hl:IsL s.heap l items k)(O:-(2^63:Int)<=x)(J:x<2^63)(W:items.size*x.toNat<=2^24)
  (h:Q (.ref s.heap.objs.size) {s with heap:=s.heap.push {cls:=.type "list",data:=.seq (List.foldl (λx1 x2=>x1++x2) #v[] (List.replicate (if items.isEmpty=true then 0 else x.toNat) items))}}) :
  wpAny G.M A (binaryOp .Mult (.ref l) (.int x u)) Q E s:=
 wpAny_binaryOp_repeat_ref (T:="list") (U:="int") (by decide) #[_,hl,rfl] (λs'=>typeIs_int s' x u) noFill_list_mul F.fills_int_mul F.slot_int_rmul repeat_list F.slot_int_index.lookup
  (i9 F.slot_int_rmul (typeIs_int s x u) F.entry_int_rmul (F.args_int_rmul_2 _ _) (int___rmul___int_list x u l items k)
   ⟨hl,rfl,#[_,hl,rfl],i9 F.slot_list_mul #[_,hl,rfl] F.entry_list_mul (F.args_list_mul_2 _ _)
    (AutoListH.list___mul___list_int_3 l items k x u (by simp[Builtin.List.listFitsIndex];(show#[(kh (.ik (.ng 9223372036854775808) .A) .a .aB O),(kh (.il .A (.n 9223372036854775808)) .a .aU J)])) (mZ .bH [[8,8,1,-1,-1]] (.k .B (.n (2^24))) (.l .C (.n 8)) (.e (.a (.m 8 .A) .C) .D) (.e .a0 (.n (2^63))) W (Ar.dF _ 8 (by decide)).1 (Ar.dF _ 8 (by decide)).2 (aa (zo (.k .U (.n (2^63))) .h))) (by simp[Builtin.List.listTooLong,sizeLine];(show fh .cA .a (.k .A (.n (2^24))) W)))
    #[hl,h]⟩)
set_option maxHeartbeats 2000000 in
def B9 {op:Bop}{a b:V}{x y:Value}{Q:V->St->Prop}(R:Rel G σ s.heap)(va:VR G s.heap a x)(vb:VR G s.heap b y)(h:jB op a b σ Q):wpAny G.M A (binaryOp (binOp op) x y) (jr G [] σ s Q) E s:=by
 have ag:∀i j t u,x=.int i t->y=.int j u->jB op (.int i) (.int j) σ Q->wpAny G.M A (binaryOp (binOp op) x y) (jr G [] σ s Q) E s:=λi j t u e1 e2 q=>by
  subst e1;subst e2;show l0 R q
 have W:∀(l:Addr) (xs:List V) (ws:List Value) (i:Int) (t:Tok) (n:Nat),IsL s.heap l ws.toArray n->VRs G s.heap xs ws->xs.length*i.toNat<=bz->i.natAbs<2^60->(∀c,σ.L c=none->Q (.L c) (σ.ew c (List.replicate i.toNat xs).flatten)) ->
   x=.ref l->y=.int i t->wpAny G.M A (binaryOp .Mult x y) (jr G [] σ s Q) E s:=λl xs ws i t n hl U hz hb q e1 e2=>by
  subst e1;subst e2;have h1:=U.length;apply qI hl ((Ar.nab _).elim (λJ=>(kh .aB .a .a9 J.1)) λJ=>(sg .aB .d .M .aN hb J.2)) ((Ar.nab _).elim (λJ=>(sg .aU .d .M .aG hb J.2)) λJ=>(kh .aU .a .aP J.1)) ?_ ?_
  ·simp only[cw];rw[<- h1];unfold bz at hz;(show fh (.k .A (.n (2^24))) .a .b3 hz)
  ·have e:List.foldl (λx1 x2=>x1++x2) #v[] (List.replicate (if ws.toArray.isEmpty=true then 0 else i.toNat) ws.toArray)=((List.replicate i.toNat ws).flatten).toArray:=by
    rw[listMul_foldl];cases ws with
    |nil=>simp
    |cons w ws=>simp
   rw[e];show lS R .refl (U.rep _) (by rw[lm_len_rep_flat,Nat.mul_comm];show hz) q
 rcases s9 h with ⟨i,j,rfl,rfl,_⟩|⟨rfl,l,n,rfl,rfl,q⟩|⟨rfl,m,rfl,q⟩
 ·have#[t,rfl]:=va.inv;have#[u,rfl]:=vb.inv;show l0 R h
 ·have#[u,rfl]:=vb.inv;have rfl:=va;have#[xs,e1,hz,hb,q]:=q;have#[ws,n,hl,U]:=R.L _ _ e1;show W _ _ _ _ _ _ hl U hz hb q rfl rfl
 ·clear W;have rfl:=vb;have#[xs,ys,O,e5,hz,q]:=q;have#[us,m,ai,I]:=R.L _ _ e5;have go:∀(l:Addr) (ws:List Value) (n:Nat),x=.ref l->IsL s.heap l ws.toArray n->VRs G s.heap xs ws->wpAny G.M A (binaryOp (binOp .add) x (.ref _)) (jr G [] σ s Q) E s:=λl ws n ex hl U=>by
   subst ex;have h1:=U.length;have h2:=I.length;apply P.add_list hl ai ?_ (by simp only[cw];rw[<- h1,<- h2];show nh hz);rw[List.append_toArray];show lS R .refl (U.append I) (by simpa using hz) q
  unfold itemsOf at O;cases z:jX a with
  |some l' =>
   rw[z]at O;have z:=gQ z;subst z;have#[ws,n,hl,U]:=R.L _ _ O;show go _ ws n va.inv hl U
  |none =>
   rw[z]at O;cases B:vRo a with
   |none=>rw[B]at O;cases O
   |some ns =>
    rw[B]at O;cases O;have B:=J3 B;subst B;have#[a,ws,n,ex,g,r]:=va.inv;show go a ws n ex (R.base _ _ g) (VRs.ints (G:=G) (h:=s.heap) r)
def wO {C:Cal}{sc:Scope}{d:Nat}{op:Bop}{a b:Ex}{x y:Expr}{pos:Pos}(B:gc G C sc d a x)(hb:gc G C sc d b y):gc G C sc d (.b op a b) (.BinOp x (binOp op) y pos):=λ_ _ _ _ _ _ _ c h =>
 wpAny_BinOp (qc (B c h) λv σ₁ s₁ w q vr r x =>
  qc (hb (c.go r x) q) λI σ₂ s₂ J O U r₂ W =>
   (x.trans W).back (B9 r₂ (vr.mono W.frz) U O))
def DRs.look {h:Heap}(k:Key):{es:List (Key×V)}->{ds:List (Key×Value)}->DRs G h es ds->OV G h (es.lookup k) (valueAt ds k)
 | []=>λe=>by have rfl:=e;show trivial
 |(k',v)::es=>λz=>by
  have#[w,us,e,a,r]:=z;subst e;by_cases hk:k'=k
  ·subst hk;rw[List.lookup_cons_self,show valueAt ((k',w)::us) k'=some w by simp[valueAt]];show a
  ·rw[iB,qb.mpr (λq=>hk q.symm)];simpa[valueAt,List.find?_cons,hk] using DRs.look k r
def key_is {v:V}{k:Key}{w:Value}{h:Heap}(hk:v.qL=some k)(vr:VR G h v w):G.kk.is k w=true:=by
 cases v
 case int=>have#[t,rfl]:=vr;have rfl:=ah hk;simp[keyKind,tE,Value.isInt]
 case str=>have#[t,rfl]:=vr;have rfl:=ah hk;simp[keyKind,tE,Value.isStrOf]
 all_goals show jf hk
def AN {a b:V}{x y:Value}{ve se:Expr}{K:V->Prop}(R:Rel G σ s.heap)(va:VR G s.heap a x)(vb:VR G s.heap b y)(h:rT a b σ K)(hs:subscripted se false x y=operate [x,y] (getItem x y)){Q:QqV}(k:∀v w tk,K v->VR G s.heap v w->Q w {s with toks:=tk}) :
  wpAny G.M A (subscriptTail ve se x y) Q E s:=by
 have listAt:∀(l:Addr) (ws:List Value) (i:Int) (t:Tok) (n:Nat) (v:Value),IsL s.heap l ws.toArray n->ws.length<=bz->0<=jw ws.length i->ws[(jw ws.length i).toNat]?=some v->x=.ref l->y=.int i t->(∀tk,Q v {s with toks:=tk})->wpAny G.M A (subscriptTail ve se x y) Q E s:=λl ws i t n v hl hz h0 U e1 e2 z=>by
  subst e1;subst e2;have I:(jw ws.length i).toNat<ws.length:=(cy.mp U).1;unfold jw at h0 U I;unfold bz at hz;by_cases hi:i<0
  ·simp only[hi,yv]at h0 U I;show tail_any hl.isList.typeIs DX.lookup (wpAny_getItem_list_neg hl.isList hi (by simp only[cw];(show DP (.ik (.g .L) .A) .a (.ik .O (.a .A .L)) h0)) (sg .aB .b .b3 (.ik .O (.a .A .L)) hz h0) (by simpa using U) (z s.toks)) hs
  ·simp only[hi,kn]at h0 U I;show tail_any hl.isList.typeIs DX.lookup (wpAny_getItem_list hl.isList (kh .a9 .a (.ig .A .O) hi) ((Ar.ton _).elim (λJ=>(MY .aU .s .b3 .Y (.ie .P .A) hz I J.2)) λJ=>(kh .aU .a .aP J.1)) (by simpa using U) (z s.toks)) hs
 have B:∀(l:Addr) (ws:List Value) (i:Int) (t:Tok) (n:Nat) (v:Value),IsT s.heap l ws.toArray n->i.natAbs<2^60->0<=jw ws.length i->ws[(jw ws.length i).toNat]?=some v->x=.ref l->y=.int i t->(∀tk,Q v {s with toks:=tk})->wpAny G.M A (subscriptTail ve se x y) Q E s:=λl ws i t n v hl hz h0 U e1 e2 z=>by
  subst e1;subst e2;have I:(jw ws.length i).toNat<ws.length:=(cy.mp U).1;have hT:IsTup s.heap l ws.toArray:=#[_,hl,rfl,n,rfl];apply tail_any hT.typeIs slot_tuple_getitem.lookup (PyProof.Rows.getItem_tuple hT ((Ar.nab _).elim (λJ=>(kh .aB .a .a9 J.1)) λJ=>(sg .aB .d .M .aN hz J.2)) ((Ar.nab _).elim (λJ=>(sg .aU .d .M .aG hz J.2)) λJ=>(kh .aU .a .aP J.1)) (j:=(jw ws.length i).toNat) ?_ (by simpa using U) (z s.toks)) hs;unfold seqIndex?;rw[cw]
  change (if (decide (0<=jw ws.length i)&&decide (jw ws.length i<ws.length))=true then some (jw ws.length i).toNat else none)=_
  rw[cp];simp only[dw,fL];(show#[(kh .a9 .a .a9 h0),((Ar.ton _).elim (λJ=>(DO (.il .A .L) .d .Y (.ie .P .A) I J.2)) λJ=>(DO (.il .A .L) .b .Y .aP I J.1))])
 cases a with
 |L a =>
  have rfl:=va;have#[i,rfl,xs,v,e,h0,hx,hk]:=yj (v:=b) h;have#[t,rfl]:=vb;have#[ws,n,hl,U]:=R.L _ _ e;have W:=U.length;have#[w,hw,vr]:=U.get hx;rw[W]at h0 hw;show listAt _ ws _ _ n w hl (W▸R.Ll _ _ e) h0 hw rfl rfl λtk=>k v w tk hk vr
 |ro ns =>
  have#[i,rfl,v,hz,h0,hx,hk]:=yj (v:=b) h;have#[t,rfl]:=vb;have#[a,ws,n,rfl,g,r]:=va;have U:=VRs.ints (G:=G) (h:=s.heap) r;have W:=r.length.symm;have#[w,hw,vr]:=U.get (v:=.int v) (by rw[dq,hx];rfl);rw[W]at h0 hw;show listAt _ ws _ _ _ w (R.base _ _ g) (W▸hz) h0 hw rfl rfl λtk=>k (.int v) w tk hk vr
 |T xs =>
  clear listAt;have#[i,rfl,v,hb,h0,hx,hk]:=yj (v:=b) h;have#[t,rfl]:=vb;have#[a,ws,n,rfl,g,r]:=va;have#[w,hw,vr]:=r.get hx;show B _ _ _ _ _ _ g hb (r.length▸h0) (r.length▸hw) rfl rfl λtk=>k v w tk hk vr
 |dct a =>
  clear B;have rfl:=va;have#[es,kk,v,e,ag,hl,hk]:=h;have#[ds,hd,U]:=R.D _ _ e;have hh:=U.look kk;rw[hl]at hh;cases z:valueAt ds kk with
  |none=>rw[z]at hh;show hh.elim
  |some w =>
   rw[z]at hh;show tail_any hd.typeIs slot_dict_getitem.lookup (wpAny_getItem_of (key_is ag vb) hd.mapOf z (k v w _ hk hh)) hs
 |_=>show False.elim h
end
end MP
end
section
namespace MP
open PySem PyProof.Rows
variable {a:Ex}{x:Expr}{pos:Pos}{A:Around}{E:QqV}{σ:St}{s:Shared}{h:Heap}{i:Int}
structure GOk (G:Stc):Prop where
 cls:∃N mN,ClsAt G.hb G.cS N mN/\mN "__getattribute__"=none/\mN "__getattr__"=none/\mN "__setattr__"=none/\∀x∈G.attrs,mN x=none/\typeLookup (.type "object") x=pure none
 len:G.attrs.length<=100
 nd:G.attrs.Nodup
 sys:∃o,G.hb.get? sysModules=some o
 names:∃mg mb,G.hb.Ns mainGlobals mg/\G.hb.Ns builtinsNs mb/\∀x,G.gl x=(mg x).or (mb x)
abbrev isSlice (x:Expr):Bool:=hV 26 x
def gT {W:Expr}(h:isSlice W=false)(x y:Value):subscripted W false x y=operate [x,y] (getItem x y):=by
 cases W<;>first|rfl|show Bool.noConfusion h
section
variable {G:Stc}{C:Cal}{sc:Scope}{d:Nat}
def wN {b:Ex}{y:Expr}(z:gc G C sc d a x)(hb:gc G C sc d b y)(B:isSlice y=false):gc G C sc d (.sub a b) (.Subscript x y pos):=λ_ _ _ _ _ _ _ c h =>
 Subscript_ (qc (z c h) λv σ₁ s₁ w q vr r x =>
  qc (hb (c.go r x) q) λI σ₂ s₂ J O U r₂ W =>
   AN r₂ (vr.mono W.frz) U O (gT B _ _) λv w tk q vr=>jr.back (x.trans W) (jr.here q vr r₂))
abbrev HS (G:Stc)(C:Cal)(sc:Scope)(d:Nat)(e:Ex)(x:Option Expr):Prop:=(e=.none/\x=none)\/∃y,x=some y/\gc G C sc d e y
def HS.at {e:Ex}{x:Option Expr}(p:HS G C sc d e x){env:Env}{ρ:Fr}{Q:V->St->Prop}(c:Cx G sc d A env ρ σ s)(h:wpE C e ρ σ Q):wpAny G.M A (evalPart x env) (jr G [] σ s Q) E s:=by
 rcases p with ⟨rfl,rfl⟩|⟨y,rfl,p⟩
 ·show evalPart_none_step (jr.zh h .none c.R)
 ·show evalPart_some_step (p c h)
def G7 (a:Int)(n:Nat):(max 0 (min a n)).toNat=min n a.toNat:=by
 rcases Int.le_total a 0 with h|h
 ·rw[Int.toNat_of_nonpos h,Nat.min_zero,Int.max_eq_left (Int.le_trans (Int.min_le_left ..) h)];rfl
 ·rcases Int.le_total a n with h'|h'
  ·rw[Int.min_eq_left h',Int.max_eq_right h,Nat.min_eq_right (Int.toNat_le.mpr h')]
  ·rw[Int.min_eq_right h',Int.max_eq_right (Int.natCast_nonneg n),ph,cY ((Int.le_toNat h).mpr h')]
def mW (n:Nat)(i:Int):clipAt n i=iw n i:=G7 _ n
def part_of {v:V}{w:Value}{k:Nat}(vr:VR G h v w)(e:hU k v=some i):∃o,IsPart w o/\o.getD k=i:=by
 cases v
 case none=>have rfl:=vr;apply#[none,.none,ah e]
 case int=>have#[t,rfl]:=vr;apply#[_,.int _ _,ah e]
 all_goals show jf e
def vO (n:Nat)(o:Option Int)(h:o.getD (0:Nat)=i):o.elim 0 (clipAt n)=iw n i:=by
 cases o with
 |none=>simp at h;subst h;simp[iw,jw]
 |some j=>simp at h;subst h;show mW n j
def vN (n:Nat)(o:Option Int)(h:o.getD (n:Nat)=i):o.elim n (clipAt n)=iw n i:=by
 cases o with
 |none=>have rfl:=(h:(n:Int)=i);show(Nat.min_self n).symm
 |some j=>simp at h;subst h;show mW n j
def AP {a b c:V}{x y z:Value}{B:Expr}{lo hi:Option Expr}{p:Pos}{Q:V->St->Prop}(R:Rel G σ s.heap)(va:VR G s.heap a x)(vb:VR G s.heap b y)(vc:VR G s.heap c z)(h:wD a b c σ Q) :
  wpAny G.M A (subscriptTail B (.Slice lo hi none p) x (.ref s.heap.objs.size)) (jr G [] σ s Q) E {s with heap:=s.heap.push {cls:=.type "slice",data:=.fields #v[y,z,.none]}}:=by
 have go:∀(l:Addr) (xs:List V) (ws:List Value) (n:Nat) (i j:Int),x=.ref l->IsL s.heap l ws.toArray n->VRs G s.heap xs ws->xs.length<=bz->hU 0 b=some i->hU xs.length c=some j->(∀c,σ.L c=none->Q (.L c) (σ.ew c ((xs.take (iw xs.length j)).drop (iw xs.length i)))) ->
   wpAny G.M A (subscriptTail B (.Slice lo hi none p) x (.ref s.heap.objs.size)) (jr G [] σ s Q) E {s with heap:=s.heap.push {cls:=.type "slice",data:=.fields #v[y,z,.none]}}:=λl xs ws n i j e hl J hz hi O q=>by
  subst e;have#[o1,p1,e1]:=part_of vb hi;have#[o2,p2,e2]:=part_of vc O;have U:(s.heap.push {cls:=.type "slice",data:=.fields #v[y,z,.none]}).IsList l ws.toArray:=(hl.push _).isList;have W:=J.length;apply tail_any (T:="list") (id:="list.__getitem__") (ops:=[.ref s.heap.objs.size,.ref l]) ?_ DX.lookup (wpAny_getItem_list_slice U (Heap.IsSliceOf.new ..) p1 p2 .none (by simp) ?_ (by simp only[cw];rw[<- W];show nh hz)) rfl
  ·show U.typeIs
  ·have e:slicePick ws.toArray o1 o2 none=((ws.take (iw ws.length j)).drop (iw ws.length i)).toArray:=by
    rw[slicePick_plain,cw,vO ws.length o1 e1,vN ws.length o2 (W▸e2),List.drop_take]
   rw[e];have R':=R.push {cls:=.type "slice",data:=.fields #v[y,z,.none]};have I:=((J.take (iw xs.length j)).drop (iw xs.length i)).mono (h':=s.heap.push {cls:=.type "slice",data:=.fields #v[y,z,.none]}) λ_ _ e _=>ba _ e;rw[<- W];show lS (s₁:={s with heap:=s.heap.push {cls:=.type "slice",data:=.fields #v[y,z,.none]}}) R' #[Evo.push _ _ _ _,rfl,rfl] I (by simp only[gh,eh];(show mr .A .e .H .bU .aH hz (Ar.iz _ _).2.1 (mz _ _))) q
 cases a with
 |L a =>
  have rfl:=va;have#[xs,i,j,e,hi,O,_,_,q]:=h;have#[ws,n,hl,J]:=R.L _ _ e;show go _ xs ws n i j rfl hl J (R.Ll _ _ e) hi O q
 |ro ns =>
  have#[a,ws,n,rfl,g,r]:=va;have#[i,j,hz,hi,O,_,_,q]:=h;apply go _ _ _ _ i j rfl (R.base _ _ g) (VRs.ints r) (by simpa using hz) hi (by simpa using O) λc hc=>?_;have:=q c hc;simpa[List.map_drop,gL] using this
 |_=>show False.elim h
def EU {b c:Ex}{lo hi:Option Expr}{p:Pos}(ha:gc G C sc d a x)(hb:HS G C sc d b lo)(hc:HS G C sc d c hi):gc G C sc d (.slc a b c) (.Subscript x (.Slice lo hi none p) pos):=λ_ _ _ _ _ _ _ c h =>
 Subscript_ (qc (ha c h) λv σ₁ s₁ w q vr r x =>
  wpAny_Slice (qc (hb.at (c.go r x) q) λar σ₂ s₂ aj z J r₂ U =>
   qc (hc.at (c.go r₂ (x.trans U)) z) λao ag ax ai B O I W =>
    evalPart_none_step ((x.trans (U.trans W)).back (AP I ((vr.mono U.frz).mono W.frz) (J.mono W.frz) O B))))
abbrev tj (x:Expr):Bool:=!(hV 16 x&&(kids x).tail.isEmpty)
def cO {o:Expr}(h:tj o=true)(attr:Str)(env:Env)(whole:Sem Value):attributeBase o attr env whole=whole:=by
 cases o with
 |Call f args W pos =>
  cases args with
  |nil=>show Bool.noConfusion h
  |cons a as=>cases f<;>rfl
 |_=>rfl
def dY.inst {a dd:Addr}{f:Nat->Option V}(I:dY G h a dd f){m:Str->Option Value}(O:h.Ns1 dd m):h.Inst a G.cS m:=by
 have#[o,W,J,hd,U]:=I.here;apply#[o,W,J,U,.inr #[dd,hd,I.ne,O]]
def qM {v:V}{w:Value}(vr:VR G h v w):handedOut w=pure w:=by
 cases v
 case int=>have#[t,rfl]:=vr;rfl
 case str=>have#[t,rfl]:=vr;rfl
 case T=>have#[_,_,_,rfl,_]:=vr;rfl
 case mt=>have#[_,_,_,_,rfl,_]:=vr;rfl
 case gF=>have#[_,_,rfl,_]:=vr;rfl
 case gX=>have#[_,_,rfl,_]:=vr;rfl
 case ro=>have#[_,_,_,rfl,_]:=vr;rfl
 case clo=>have#[_,_,rfl,_]:=vr;rfl
 all_goals have rfl:=vr;rfl
def sI {a dd:Addr}{f:Nat->Option V}{i:Nat}{name:Str}{u:V}{expr:Bool}{Q:QqV}(K:GOk G)(R:Rel G σ s.heap)(hI:σ.I a=some (dd,f))(z:G.attrs[i]?=some name)(hu:f i=some u)
  (k:∀w tk,VR G s.heap u w->Q w {s with toks:=tk}):wpAny G.M A (getAttr (.ref a) name expr) Q E s:=by
 have#[N,mN,X,B,ai,ag,O]:=K.cls;have I:=R.I a dd f hI;have#[m,hm,hv,_]:=I.ns;have U:=hv i name z;rw[hu]at U;cases J:m name with
 |none=>rw[J]at U;show U.elim
 |some w =>
  rw[J]at U;have#[hh,g,dr,t,os]:=s;have#[nm,q,bs,sn,sub,aj,d2,k0,k1,k2,k3,k5,hC]:=(X.keeps R.base).obj;have W:=fk z;show load_attr hC (X.keeps R.base).ns B (O name W).1 (O name W).2 (I.inst hm) J (qM U) (k w _ U)
def sL {i:Nat}{name:Str}(K:GOk G)(J:gc G C sc d a x)(hb:tj x=true)(O:G.attrs[i]?=some name):gc G C sc d (.attr a i) (.Attribute x name pos):=λ_ _ _ _ _ _ _ c h =>
 Attribute_any_ (qc (J c h) λv σ₁ s₁ w q vr r x=>by
  have#[b,dd,f,u,rfl,I,U,q]:=q;have rfl:=vr;show sI K r I O U λw W vr=>jr.back x (jr.here q vr r)) (by rw[arm_eval_Attribute,cO hb])
end
variable {args:List Expr}{A:Around}{E:QqV}{s:Shared}{σ:St}
abbrev isStar:Expr->Bool
 |.Starred _ _=>true
 |_=>false
abbrev noStar:List Expr->Bool
 | []=>true
 |e::r=>!isStar e&&noStar r
def band {a b:Bool}(h:(a&&b)=true):a=true/\b=true:=(dw a b).mp h
def gU {e:Expr}(h:(!isStar e)=true)(r:List Expr)(env:Env):starEach (e::r) env=(false,eval e env)::starEach r env:=by
 cases e<;>first|rfl|show Bool.noConfusion h
def xk:{args:List Expr}->noStar args=true->(env:Env)->starEach args env=args.map λe=>(false,eval e env)
 | [],_,env=>rfl
 |e::r,h,env=>(gU (band h).1 r env).trans (di (_::·) (xk (band h).2 env))
def gm {x:Expr}{xs:List Expr}(h:noStar (x::xs)=true):(∀env,starEach (x::xs) env=(false,eval x env)::starEach xs env)/\noStar xs=true:=
 #[gU (band h).1 xs,(band h).2]
def jy (h:noStar args=true)(pos:Pos)(env:Env):(backTo pos (starEach args env)).any (·.1)=false:=by
 rw[xk h];simp[backTo,List.any_eq_false]
def w7 (h:noStar args=true)(pos:Pos)(env:Env):(backTo pos (starEach args env)).all (λx=>!x.1)=true:=by
 rw[xk h];simp[backTo]
def om {M:Model}{f:Value}{W:List (Bool×Sem Value)}{Q:Args->Shared->Prop}(U:W.any (·.1)=false)(h:wpAny M A (spliced W) (λvs s'=>Q #[vs,[]] s') E s):wpAny M A (evalArgs f true W []) Q E s:=by
 cases W with
 |nil =>
  unfold evalArgs;show wpAny M A (spliced []>>=_) Q E s;apply ab (dj h (λvs s' h'=>?_) λ_ _ x=>x);apply dp ?_;show ab (af (ab (af (af h'))))
 |cons t r =>
  have#[b,x]:=t;simp only[List.any_cons,Bool.or_eq_false_iff]at U;have#[rfl,_]:=U;show Calls.evalArgs_plain h
section
variable {G:Stc}{C:Cal}{sc:Scope}{d:Nat}
def sv {env:Env}{o:Expr}{name:Str}{apos pos:Pos}{Q:QqV}(hb:tj o=true)(hs:noStar args=true)(I:args.length<30)(W:(apos.endLine==pos.line)=true)
  (h:wpAny G.M A (eval o env) (λB s₁=>∀z,wpAny G.M A (getMethod B name z) (λp s₂=>wpAny G.M A (callWith pos p.1 p.2 (backTo pos (starEach args env)) []) Q E s₂) E s₁) E s) :
  wpAny G.M A (eval (.Call (.Attribute o name apos) args [] pos) env) Q E s:=by
 rw[arm_eval_Call,cO hb];apply ab (dj h (λB s₁ h₁=>?_) λ_ _ e=>e);apply ab (gw ?_);have U:methodCallForm (args.length+([]:List Keyword).length) (backTo pos (starEach args env)) (backToKw pos (keywordEach [] env))=true:=by
  unfold methodCallForm;rw[w7 hs];show decide (args.length<30)=true;show gp I
 have J:methodCallPos true o env apos pos=pure pos:=by unfold methodCallPos;simp[W]
 unfold methodCall;rw[U];apply ab (dp (dj (h₁ _) (λp s₂ O=>?_) λ_ _ e=>e));show ab (fo J O)
def su {env:Env}{ρ:Fr}{id:String}{first:List Value}{es:Exs}{pos:Pos}{P:List V->St->Prop}{Q:QqV}(U:noStar args=true)(W:pe G C sc d es args)(c:Cx G sc d A env ρ σ s)(h:uv C es ρ σ P)
  (k:∀vs σ₁ s₁ ws,P vs σ₁->VRs G s₁.heap vs ws->Rel G σ₁ s₁.heap->Go [] σ s σ₁ s₁->wpAny G.M A (call (.builtin id) (first++ws)) Q E s₁) :
  wpAny G.M A (callWith pos (.builtin id) first (backTo pos (starEach args env)) []) Q E s:=
 Calls.callWith_builtin (jy U pos env) (om (jy U pos env) (nP (W c h) k))
def A9 {h:Heap}{a:Addr}{xs ys:List V}{ws us:List Value}{n:Nat}{f:Array Value->Array Value}(R:Rel G σ h)(e:σ.L a=some xs)(hl:IsL h a ws.toArray n)(U:VRs G h ys us)(hz:ys.length<=bz)(O:f ws.toArray=us.toArray) :
  Rel G (σ.ew a ys) (h.update a (Obj.mapSeq f))/\Evo [] σ h (σ.ew a ys) (h.update a (Obj.mapSeq f)):=by
 have W:=hl.update f;rw[O]at W;have x:At a h (h.update a (Obj.mapSeq f)):=⟨λb o hb I=>(ub h _ (j9 hb)).trans I,#[_,W],λo J=>by
  have rfl:=ah (J.symm.trans hl);show yk rfl rfl⟩
 apply#[R.putL x (λq=>by rw[e]at q;cases q) W U hz,Evo.putL x (λq=>by rw[e]at q;cases q) _]
abbrev rH:BM->Str
 |.append=>"append"
 |.pop=>"pop"
 |.insert=>"insert"
 |.extend=>"extend"
 |.sort=>"sort"
 |.index=>"index"
 |.count=>"count"
 |.get=>"get"
 |.setdefault=>"setdefault"
 |.add=>"add"
abbrev MR:BM->String
 |.append=>"list.append"
 |.pop=>"list.pop"
 |.insert=>"list.insert"
 |.extend=>"list.extend"
 |.sort=>"list.sort"
 |.index=>"list.index"
 |.count=>"list.count"
 |.get=>"dict.get"
 |.setdefault=>"dict.setdefault"
 |.add=>"set.add"
def t8 {h:Heap}{a:Addr}{items:Array Value}{n:Nat}(hl:IsL h a items n):∀b,Value.ref a=.ref b->∃ob,h.get? b=some ob/\ob.dict=none:=λb e=>by
 injection e with e;subst e;apply#[_,hl,rfl]
def oA {k:BM}{v:V}{w:Value}{W:Sem Bool}{Q:Value×List Value->Shared->Prop}(R:Rel G σ s.heap)(vr:VR G s.heap v w)(h:MQ k v σ)(q:Q (.builtin (MR k),[w]) s) :
  wpAny G.M A (getMethod w (rH k) W) Q E s:=by
 have lst:∀(a:Addr) (name:Str) (id:String),(σ.L a).isSome=true->Slot "list" name id->typeOf (.builtin id)=pure (.type "method_descriptor")->Q (.builtin id,[.ref a]) s->wpAny G.M A (getMethod (.ref a) name W) Q E s:=λa name id e O U q=>by
  have#[xs,e]:=cq.mp e;have#[ws,n,hl,_]:=R.L _ _ e;show getMethod_builtin #[_,hl,rfl] PySem.F.plainAttrs_list O U (t8 hl) q
 cases k
 case get =>
  have#[a,rfl,h]:=gZ (v:=v) h;have rfl:=vr;have#[xs,e]:=cq.mp h;have#[ds,hd,_]:=R.D _ _ e;show getMethod_builtin hd.typeIs PySem.F.plainAttrs_dict PySem.F.slot_dict_get PySem.F.type_dict_get hd.mapOf.noDict q
 case setdefault =>
  have#[a,rfl,h]:=gZ (v:=v) h;have rfl:=vr;have#[xs,e]:=cq.mp h;have#[ds,hd,_]:=R.D _ _ e;show getMethod_builtin hd.typeIs PySem.F.plainAttrs_dict PySem.F.slot_dict_setdefault PySem.F.type_dict_setdefault hd.mapOf.noDict q
 case add =>
  have#[a,rfl,h]:=FY (v:=v) h;have rfl:=vr;have#[xs,e]:=cq.mp h;show getMethod_set_add (R.S _ _ e).of q
 all_goals
  have#[a,rfl,h]:=ud (v:=v) h;have rfl:=vr
 case append=>show lst _ _ _ h gK PySem.F.type_list_append q
 case pop=>show lst _ _ _ h PySem.F.slot_list_pop PySem.F.type_list_pop q
 case insert=>show lst _ _ _ h PySem.F.slot_list_insert PySem.F.type_list_insert q
 case extend=>show lst _ _ _ h PySem.F.slot_list_extend PySem.F.type_list_extend q
 case sort=>show lst _ _ _ h PySem.F.slot_list_sort PySem.F.type_list_sort q
 case index=>show lst _ _ _ h PySem.F.slot_list_index PySem.F.type_list_index q
 case count=>show lst _ _ _ h PySem.F.slot_list_count PySem.F.type_list_count q
end
section
variable {h:Heap}{k:Key}{v:V}{w:Value}{es:List (Key×V)}{a:Addr}{ws:List Value}
variable {G:Stc}{A:Around}{E:QqV}{s:Shared}{σ:St}
def kM (K:GOk G)(R:Rel G σ s.heap){b:Addr}(d:σ.dom b):(b==sysModules)=false:=by
 apply qb.mpr λe=>?_;have#[o,W]:=K.sys;have:=R.new b d;rw[e,W]at this;cases this
def DRs.put (vr:VR G h v w){ds:List (Key×Value)}(r:DRs G h es ds):DRs G h (putD es k v) (stored ds k w):=by
 have I:∀{es:List (Key×V)} {ds:List (Key×Value)},DRs G h es ds->(es.any λe=>e.1==k)=ds.any λU=>decide (U.1=k):=by
  intro es;induction es with
  |nil=>intro ds r;have rfl:=r;rfl
  |cons e es W=>intro ds r;have#[w,us,rfl,a,r]:=r;rw[List.any_cons,List.any_cons,W r];rfl
 have O:∀{es:List (Key×V)} {ds:List (Key×Value)},DRs G h es ds->DRs G h (es.map λe=>if e.1=k then (k,v) else e) (ds.map λU=>if U.1=k then (U.1,w) else U):=by
  intro es;induction es with
  |nil=>intro ds r;have rfl:=r;show .nil
  |cons e es W =>
   intro ds r;have#[k',z]:=e;have#[B,us,rfl,a,r]:=r;rw[ti,ti];by_cases hk:k'=k
   ·subst hk;rw[cp rfl,cp rfl];show .cons vr (W r)
   ·rw[bb hk,bb hk];show .cons a (W r)
 have J:∀{es:List (Key×V)} {ds:List (Key×Value)},DRs G h es ds->DRs G h (es++[(k,v)]) (ds++[(k,w)]):=by
  intro es;induction es with
  |nil=>intro ds r;have rfl:=r;show .cons vr .nil
  |cons e es W=>intro ds r;have#[B,us,rfl,a,r]:=r;show .cons a (W r)
 unfold putD stored;rw[I r];split
 ·show O r
 ·show J r
def DRs.length:{es:List (Key×V)}->{ds:List (Key×Value)}->DRs G h es ds->es.length=ds.length
 | []=>λe=>e▸rfl
 |_::_=>λz=>by have#[_,_,rfl,_,r]:=z;show di (·+1) r.length
def OV.getD {v:Option V}{w:Option Value}{u:V}{x:Value}(o:OV G h v w)(a:VR G h u x):VR G h (v.getD u) (w.getD x):=by
 cases v<;>cases w
 ·show a
 ·show False.elim o
 ·show False.elim o
 ·show o
def jG (es:List (Key×V))(k:Key)(v:V):(putD es k v).length<=es.length+1:=by
 unfold putD;split<;>simp
def HG (R:Rel G σ s.heap)(e:σ.D a=some es):∀b f,σ.I b≠some (a,f):=λb f q=>by
 have:=R.apart b a f q;rw[e]at this;cases this
def LD {h':Heap}{W:List (Key×V)}{ds:List (Key×Value)}(R:Rel G σ s.heap)(e:σ.D a=some es)(B:Heap.SameBut a s.heap h')(hd:h'.DictOf G.kk a ds)(I:DRs G s.heap W ds)(hz:W.length<=bz) :
  Rel G (σ.nj a W) h'/\Evo [] σ s.heap (σ.nj a W) h':=by
 have#[aj,#[o,ai,ep,z,hc,O,_],_]:=R.D _ _ e;have#[o',J,ag,U,_]:=id hd;have x:At a s.heap h':=At.uW B z (qg O) U;apply#[R.putD x (λq=>by rw[e]at q;cases q) (HG R e) hd I hz,Evo.putD x (λq=>by rw[e]at q;cases q) _]
def CH (hk:v.qL=some k)(vr:VR G h v w):w.scannable=true:=by
 cases v
 case int=>have#[t,rfl]:=vr;rfl
 case str=>have#[t,rfl]:=vr;rfl
 all_goals show jf hk
def BW (h:es.lookup k=none)(v:V):putD es k v=es++[(k,v)]:=by
 unfold putD;rw[bb];simp only[List.any_eq_true,not_exists,not_and];intro e W hk;rw[qo]at h;have:=h e W;simp only[dh]at hk;simp[hk]at this
def yU (R:Rel G σ s.heap)(e:σ.D a=some es):Rel G (σ.nj a es) s.heap/\Evo [] σ s.heap (σ.nj a es) s.heap:=by
 have U:upd σ.D a es=σ.D:=by
  funext b
  unfold upd;split
  ·rename_i h;rw[h,e]
  ·rfl
 have hd:∀b,(σ.nj a es).dom b->σ.dom b:=λb d=>(hZ d).elim id λq=>.inr (.inl (by rw[q,e];rfl));have W:σ.nj a es={σ with Z:=clr σ.Z a}:=by unfold St.nj;rw[U]
 apply#[?_,λ_ _ e _ _=>e,λ_ _ e _=>e,λb d=>.inl (hd b d),λ_ o e=>#[o,e]];apply#[R.L,?_,R.S,R.I,λb o q=>?_,R.Ll,?_,R.inj,?_,R.sep,λb d=>R.new b (hd b d),R.base]
 ·rw[W];show R.D
 ·rw[W]at q ⊢;show R.Z b o (mU q).2
 ·rw[W];show R.Dl
 ·rw[W];show R.apart
def VRs.one:VRs G h [v] ws->∃w,ws=[w]/\VR G h v w
 |⟨w,us,e,a,r⟩=>#[w,e.trans (di (w::·) r),a]
def VRs.two {u:V}:VRs G h [v,u] ws->∃w W,ws=[w,W]/\VR G h v w/\VR G h u W
 |⟨w,us,e,a,r⟩=>by have#[W,U,b]:=VRs.one r;apply#[w,W,e.trans (di (w::·) U),a,b]
def uJ {k:BM}{v:V}{vs:List V}{Q:V->St->Prop}(K:GOk G)(hk:k≠.sort)(R:Rel G σ s.heap)(vr:VR G s.heap v w)(I:VRs G s.heap vs ws)(h:LA k v vs σ Q) :
  wpAny G.M A (call (.builtin (MR k)) (w::ws)) (jr G [] σ s Q) E s:=by
 cases k
 case append =>
  have#[a,rfl,h]:=ud (v:=v) h;have rfl:=vr;have#[x,rfl,xs,e,hz,q]:=jI (vs:=vs) h;have#[wa,rfl,va]:=I.one;have#[us,n,hl,O]:=R.L _ _ e;have W:=O.length;apply i9 gK #[_,hl,rfl] PySem.F.entry_list_append (PySem.F.args_list_append_2 _ _) (list_append _ _ _ _ (by simp only[cw];rw[<- W];show nh (av .A .a .B hz))) #[hl,?_];have#[r',J]:=A9 (f:=λx=>x.push wa) R e hl (O.append %[va|0]) (by simp;(show av .S .a .B hz)) (by simp);apply#[.none,_,q,.none,r',J,rfl,rfl]
 case pop =>
  have#[a,rfl,h]:=ud (v:=v) h;have rfl:=vr;have#[rfl,xs,v,e,q]:=wZ (vs:=vs) h;have rfl:=I;have#[us,n,hl,O]:=R.L _ _ e;have W:=O.length;have hz:=R.Ll _ _ e;have#[u,hu,vu]:=O.get (i:=xs.length) (v:=v) (by simp);have U:us.length=xs.length+1:=by rw[<- W];simp
  apply i9 PySem.F.slot_list_pop #[_,hl,rfl] PySem.F.entry_list_pop (PySem.F.args_list_pop_1 _) (MeetsSeq.list_pop_last _ _ _ u (by simp only[cw];rw[U];simpa using hu) (by simp only[cw];rw[<- W];show nh hz)) #[hl,?_];have#[r',J]:=A9 (f:=λx=>x.eraseIdxIfInBounds (us.toArray.size-1)) (us:=us.take xs.length) R e hl (by simpa using O.take xs.length) (by simp at hz;(show av .A .a .S hz)) (by
   have e:us.toArray.eraseIdxIfInBounds (us.toArray.size-1)=(us.eraseIdx (us.length-1)).toArray:=by simp
   rw[e,List.eraseIdx_eq_take_drop_succ];simp[U])
  apply#[v,_,q,vu.mono J.frz,r',J,rfl,rfl]
 case insert=>show False.elim h
 case extend =>
  have#[a,rfl,h]:=ud (v:=v) h;have rfl:=vr;have#[x,rfl,h]:=jI (vs:=vs) h;have#[b,rfl,xs,ys,ax,e1,e2,hz,q]:=ud (v:=x) h;have#[wa,rfl,rfl]:=I.one;have#[us,n,hl,O]:=R.L _ _ e1;have#[ts,m,ar,ai]:=R.L _ _ e2;have W:=O.length;have U:=ai.length;have ag:us.length+ts.length<=sizeLine:=by rw[<- W,<- U];show nh hz
  apply i9 PySem.F.slot_list_extend #[_,hl,rfl] PySem.F.entry_list_extend (PySem.F.args_list_extend_2 _ _) (AutoSeq1.list_extend_list_list_0 _ _ _ _ _ _ ?_ (by simp only[cw];(show fc .A .a .a2 ag)) (by simp only[cw];(show fc (.k .L .T) .a .F ag))) #[hl,ar,?_]
  ·simp only[cw,Builtin.List.listTooLong];rw[show sizeLine=16777216 from rfl]at ag;simp;intro _;first|omega|(unfold sizeLine;(show av (.k .L (.n (2^24))) .a (.k .L (.n 16777216)) ag))
  ·have#[r',J]:=A9 (f:=λx=>x++ts.toArray) R e1 hl (O.append ai) (by simpa using hz) (by simp);apply#[.none,_,q,.none,r',J,rfl,rfl]
 case index=>show False.elim h
 case count=>show False.elim h
 case get =>
  have#[a,rfl,h]:=gZ (v:=v) h;have rfl:=vr;have#[x,y,rfl,es,kk,e,z,q]:=oK (vs:=vs) h;have#[wa,wb,rfl,va,vb]:=I.two;have#[ds,hd,O]:=R.D _ _ e;have hl:=O.look kk;apply call_meetsIn PySem.F.slot_dict_get hd.typeIs PySem.F.entry_dict_get (PySem.F.args_dict_get_3 _ _ _) (meets_dict_get_default G.kk _ (key_is z va) (kM K R (.inr (.inl (by rw[e];rfl)))) _) #[_,hd.mapOf,?_];apply#[_,σ,q,hl.getD vb,R,Evo.refl _ _ _,rfl,rfl]
 case setdefault =>
  have#[a,rfl,h]:=gZ (v:=v) h;have rfl:=vr;have#[x,y,rfl,es,kk,e,z,hz,q]:=oK (vs:=vs) h;have#[wa,wb,rfl,va,vb]:=I.two;have#[ds,hd,O]:=R.D _ _ e;have hl:=O.look kk;have W:=O.length;apply call_meetsIn PySem.F.slot_dict_setdefault hd.typeIs PySem.F.entry_dict_setdefault (PySem.F.args_dict_setdefault_3 _ _ _) (kt_meets_setdefault G.kk _ (key_is z va) (kM K R (.inr (.inl (by rw[e];rfl)))) _) #[ds,hd,by rw[<- W];show nh (av .A .a .B hz),λv' ai=>?_,λhn h' ao aj=>?_]
  ·rw[ai]at hl;cases h1:es.lookup kk with
   |none=>rw[h1]at hl;show hl.elim
   |some u =>
    rw[h1]at hl q;simp only[Option.getD_some,Option.isSome_some,yv]at q;have#[r',J]:=yU R e;apply#[u,_,q,hl,r',J,rfl,rfl]
  ·rw[hn]at hl;cases h1:es.lookup kk with
   |some u=>rw[h1]at hl;show hl.elim
   |none =>
    rw[h1]at q;simp only[Option.getD_none,wh,fw,kn]at q;have e2:=BW h1;have#[r',J]:=LD R e aj ao (O.put vb) (nr (jG _ _ _) (av .S .a .B hz));rw[e2]at r' J;apply#[_,_,q,vb.mono J.frz,r',J,rfl,rfl]
 case add=>show False.elim h
 case sort=>show absurd rfl hk
def JE {C:Cal}{sc:Scope}{d:Nat}{k:BM}{a:Ex}{es:Exs}{o:Expr}{args:List Expr}{apos pos:Pos}(K:GOk G)(hk:k≠.sort)(ha:gc G C sc d a o)(B:pe G C sc d es args)(hb:tj o=true)(z:noStar args=true)(J:args.length<30)(U:(apos.endLine==pos.line)=true) :
  gc G C sc d (.bm k a es) (.Call (.Attribute o (rH k) apos) args [] pos):=λ_ _ _ _ _ _ _ c h =>
 sv hb z J U (qc (ha c h) λv σ₁ s₁ w q vr r x pl =>
  oA r vr q.1 (su z B (c.go r x) q.2 λvs σ₂ s₂ ws O I r₂ W =>
   (x.trans W).back (uJ K hk r₂ (vr.mono W.frz) I O)))
end
variable {M:Model}{A:Around}{E:QqV}{s:Shared}
abbrev za (p:Arguments):Bool:=p.posonlyargs.isEmpty&&p.kwonlyargs.isEmpty&&p.vararg.isNone&&p.kwarg.isNone
abbrev addDefaults:List (Str×Value)->List (Str×Value)->List (Str×Value)
 |slots,[]=>slots
 |slots,(n,d)::r=>addDefaults (if (slots.lookup n).isNone then slots++[(n,d)] else slots) r
def xv (f:Str×Value->List (Str×Value)->Sem (ForInStep (List (Str×Value))))
  (W:∀n d slots,f (n,d) slots=if (slots.lookup n).isNone then pure (.yield (slots++[(n,d)])) else pure (.yield slots)) :
  ∀(l:List (Str×Value)) (slots:List (Str×Value)) (Q:List (Str×Value)->Shared->Prop),Q (addDefaults slots l) s->wpAny M A (forIn l slots f) Q E s
 | []=>λslots Q h=>by rw[oj];show af h
 |(n,d)::r=>λslots Q h=>by
  rw[ow,W];apply ab ?_;dsimp only[addDefaults]at h;split
  ·rename_i U;rw[cp U]at h;show af (xv f W r _ Q h)
  ·rename_i U;rw[bb U]at h;show af (xv f W r _ Q h)
def ya:∀(l₁ l₂ slots:List (Str×Value)),addDefaults slots (l₁++l₂)=addDefaults (addDefaults slots l₁) l₂
 | []=>λ_ _=>rfl
 |(n,d)::r=>λl₂ slots=>by rw[yu];dsimp only[addDefaults];show ya r l₂ _
def zp:∀(l slots:List (Str×Value)),(∀p∈l,(slots.lookup p.1).isSome=true)->addDefaults slots l=slots
 | []=>λ_ _=>rfl
 |(n,d)::r=>λslots h=>by
  have O:=h (n,d) (.head _);dsimp only[addDefaults];rw[bb (by cases U:slots.lookup n<;>simp_all)];show zp r slots λp W=>h p (.tail _ W)
def vl {slots:List (Str×Value)}{n:Str}(h:n∈slots.map (·.1)):(slots.lookup n).isSome=true:=by
 cases hq:slots.lookup n with
 |some v=>rfl
 |none =>
  rw[qo]at hq;have#[p,W,rfl]:=fj.mp h;have:=hq p W;simp at this
def lookup_none_of_not_mem {slots:List (Str×Value)}{n:Str}(h:n∉slots.map (·.1)):slots.lookup n=none:=by
 rw[qo];intro p W;simp only[bne_iff_ne,ne_eq,qb];rintro rfl;show h (fj.mpr #[p,W,rfl])
def d9:∀(l slots:List (Str×Value)),(l.map (·.1)).Nodup->(∀n∈l.map (·.1),n∉slots.map (·.1))->addDefaults slots l=slots++l
 | []=>λ_ _ _=>(dk _).symm
 |(n,d)::r=>λslots W h=>by
  simp only[ti,List.nodup_cons]at W;have J:=h n (.head _);dsimp only[addDefaults];rw[cp (by rw[lookup_none_of_not_mem J];rfl)]
  rewrite [d9 r _ W.2 λm U=>?_]
  ·simp
  ·have O:=h m (.tail _ U);simp only[fu,ti,List.map_nil,cu,ak,tq];apply#[O,λe=>W.1 (e▸U)]
def sM {n₁ n₂:List Str}{vals d₁ d₂:List Value}(ag:(n₁++n₂).Nodup)(h1:n₁.length=vals.length)(h2:n₂.length=d₂.length)(I:d₁.length<=n₁.length) :
  addDefaults ((n₁++n₂).zip vals) (((n₁++n₂).drop ((n₁++n₂).length-(d₁++d₂).length)).zip (d₁++d₂))=(n₁++n₂).zip (vals++d₂):=by
 have e0:(n₁++n₂).zip vals=n₁.zip vals:=by
  have:=List.zip_append (l₁:=n₁) (r₁:=n₂) (l₂:=vals) (r₂:=[]) h1;simpa using this
 have e1:(n₁++n₂).drop ((n₁++n₂).length-(d₁++d₂).length)=n₁.drop (n₁.length-d₁.length)++n₂:=by
  rw[bg,bg,show n₁.length+n₂.length-(d₁.length+d₂.length)=n₁.length-d₁.length by show zm .D .z .c5 (.e (.a .A .aG) (.a .G .C)) (.e .a3 .G) h2 (aa (fy .bT .k (.e .D .B) .L h2 I)) (aa (av .A .a .A I)),List.drop_append,show n₁.length-d₁.length-n₁.length=0 by(show Ar.sub _ _ (λJ U=>(Ar.sub _ _ (λO W=>(fy .N .u .T (.e .R .B) U W)) λO W=>(fb .N .u .T .b6 U W))) λJ U=>(fh .N .t .N U))];rfl
 have f1:(n₁.zip vals).map (·.1)=n₁:=List.map_fst_zip (av .A .a .D h1);have f2:(n₂.zip d₂).map (·.1)=n₂:=List.map_fst_zip (av .A .a .D h2);have hd:=List.nodup_append.mp ag;rw[e0,e1,List.zip_append (by rw[gh];(show Ar.sub _ _ (λJ U=>(Ar.sub _ _ (λO W=>(fy .D .w .c6 (.e .a8 .D) U W)) λO W=>(mZ .D [[1,1,-1,0,1],[1,0,1,1,0]] .b0 .b1 .H .bP I U O W))) λJ U=>(Ar.sub _ _ (λO W=>(mr .D .m .a0 .N (.e .aA .C) J U W)) λO W=>(mZ .D [[1,1,1,0,1],[1,0,0,1,0]] .b0 .a0 .N .bP I J U W)))),ya];have e2:addDefaults (n₁.zip vals) ((n₁.drop (n₁.length-d₁.length)).zip d₁)=n₁.zip vals:=zp _ _ λp hp=>by
  apply vl ?_;rw[f1];show pg (List.of_mem_zip hp).1
 rw[e2,d9,List.zip_append h1]
 ·rw[f2];show hd.2.1
 ·intro n hn hm;rw[f1]at hm;rw[f2]at hn;show hd.2.2 n hm n hn rfl
def yS {ns:List Str}{vals ds:List Value}(z:ns.Nodup)(h1:vals.length<=ns.length)(h2:ns.length<=vals.length+ds.length)(h3:ds.length<=ns.length) :
  addDefaults (ns.zip vals) ((ns.drop (ns.length-ds.length)).zip ds)=ns.zip (vals++ds.drop (ds.length-(ns.length-vals.length))):=by
 have en:=dz vals.length ns;have ed:=dz (ds.length-(ns.length-vals.length)) ds;have:=sM (n₁:=ns.take vals.length) (n₂:=ns.drop vals.length) (vals:=vals) (d₁:=ds.take (ds.length-(ns.length-vals.length))) (d₂:=ds.drop (ds.length-(ns.length-vals.length)))
  (by rw[en];show z) (by rw[eh];(show(Ar.iz _ _).2.2.elim (λJ=>(gj .D .g .A .a4 (Ar.iz _ _).1 J)) λJ=>(oq .D .m .b0 .A .aX h1 (Ar.iz _ _).1 J))) (by rw[gh,gh];(show Ar.sub _ _ (λJ W=>(Ar.sub _ _ (λU I=>(fy .D .x .b8 (.e .a7 .D) W I)) λU I=>(mY .D [[1,0,0,1,1,0],[1,1,1,-1,0,1]] (.k .C .X) .b1 .c0 (.k .F .A) .c7 h2 (aa (av .A .a .A h1)) W U I))) λJ W=>(Ar.sub _ _ (λU I=>(mr .D [[1,0,1,0],[1,1,0,1]] .a0 .aR .O J W I)) λU I=>(mY .D [[1,0,0,0,1,0],[1,1,1,1,0,1]] (.k .C .X) .b1 (.k .F .G) .aR .c7 h2 (aa (av .A .a .A h1)) J W I)))) (by rw[eh,eh];(show Ar.sub _ _ (λJ W=>((Ar.iz _ _).2.2.elim (λU=>(Ar.sub _ _ (λq3 p3=>(DL .A [[1,1,1,1,1,-1]] .a0 (.k .A .F) (.e .a9 .C) (.k .H .B) (.e .aB .D) h3 (Ar.iz _ _).1 W U p3)) λq3 p3=>(DL .A [[1,1,1,1,1,1]] .a0 (.k .A .F) (.e .a9 .C) (.k .H .B) (.k .D .H) h3 (Ar.iz _ _).1 W U q3))) λU=>(mr .A .e .a0 .L .c3 h3 (Ar.iz _ _).2.1 U))) λJ W=>(fb .A .b .L .b6 (Ar.iz _ _).1 W)))
 rw[en,ed]at this;show this
def sS:∀(ms:List Str) (n:Str) (u:Value) (l:List (Str×Value)),n∉ms->(ms.filterMap λm=>(((n,u)::l).lookup m).map (m,·))=ms.filterMap λm=>(l.lookup m).map (m,·)
 | []=>λ_ _ _ _=>rfl
 |m::ms=>λn u l h=>by
  simp only[cz,tq]at h;have e:((n,u)::l).lookup m=l.lookup m:=by rw[iB,qb.mpr (j9 h.1)]
  simp only[List.filterMap_cons,e,sS ms n u l h.2]
def sT:∀{ns:List Str} {us:List Value},ns.Nodup->us.length=ns.length->(ns.filterMap λn=>((ns.zip us).lookup n).map (n,·))=ns.zip us
 | [],_,_,_=>by simp
 |n::ns,[],_,h=>by simp at h
 |n::ns,u::us,W,h=>by
  simp only[List.nodup_cons]at W;have U:=sT (ns:=ns) (us:=us) W.2 (by simpa using h);simp only[List.zip_cons_cons,List.filterMap_cons,List.lookup_cons_self,cX];rw[sS ns n u _ W.1,U]
def wC {α:Type}{c:Bool}{a b:Sem α}{Q:α->Shared->Prop}(W:c=false)(h:wpAny M A b Q E s):wpAny M A (if c=true then a else b) Q E s:=by
 subst W;show h
section
variable {ns:List Str}{vals ds xs:List Value}
def DH (h:vals.length<=ns.length):(decide (vals.length>ns.length)&&true)=false:=by
 rw[fp (ru.mpr h)];rfl
def zU (z:xs=ds)(h1:vals.length<=ns.length)(h2:ns.length<=vals.length+ds.length)(O:ds.length<=ns.length) :
  (!((ns.take (ns.length-(xs.drop (xs.length-ns.length)).length)).filter λn=>((ns.zip vals).lookup n).isNone).isEmpty)=false:=by
 subst z;rw[kD O,qq,Bool.not_eq_false',iC,List.filter_eq_nil_iff];intro n U J;have e0:ns.zip vals=(ns.take vals.length).zip vals:=by
  have:=List.zip_append (l₁:=ns.take vals.length) (r₁:=ns.drop vals.length) (l₂:=vals) (r₂:=[]) (by rw[eh];(show(Ar.iz _ _).2.2.elim (λW=>(gj .D .g .A .a4 (Ar.iz _ _).1 W)) λW=>(oq .D .m .b0 .A .aX h1 (Ar.iz _ _).1 W)));rw[dz,dk,List.zip_nil_right,dk]at this;show this
 have hm:n∈(ns.zip vals).map (·.1):=by
  rw[e0,List.map_fst_zip (by rw[eh];(show av .A .a .A (Ar.iz _ _).1))];rw[List.mem_take_iff_getElem]at U ⊢;have#[i,hi,e]:=U;apply#[i,by(first|show(Ar.iz _ _).2.2.elim (λW=>(DL .B [[1,1,1,1,1,1]] (.k .C .X) (.l .A .G) (.k .G .H) (.e (.a .H .F) .C) .c3 h2 hi (Ar.iz _ _).1 (aa (av .A .a .A O)) W)) λW=>(mr .B .e .I .a0 .c3 hi (Ar.iz _ _).2.1 W)|omega),e]
 cases (vl hm).symm.trans (di _ (uq.mp J))
def zV (ho:xs=ds)(z:ns.Nodup)(I:vals.length<=ns.length)(h2:ns.length<=vals.length+ds.length)(h3:ds.length<=ns.length) :
  ((ns++[]).filterMap λn=>((addDefaults (ns.zip vals) ((ns.drop (ns.length-(xs.drop (xs.length-ns.length)).length)).zip (xs.drop (xs.length-ns.length)))).lookup n).map (n,·))=ns.zip (vals++ds.drop (ds.length-(ns.length-vals.length))):=by
 subst ho;rw[kD h3,qq,dk,yS z I h2 h3];show sT z (by rw[bg,gh];(show Ar.sub _ _ (λq1 O=>(Ar.sub _ _ (λB U=>(Ar.sub _ _ (λJ W=>(zm .T .p (.e .aJ .F) .c1 .aY O U W)) λJ W=>(mY .T [[1,0,0,0,1,0],[1,1,1,-1,0,1]] .L (.e .aJ .F) .c1 .aX .c7 I O U J W))) λB U=>(Ar.sub _ _ (λJ W=>(mY .T [[1,1,-1,0,1,0],[1,0,1,1,0,1]] (.k .C .V) .bM (.k .D .G) .b7 .aY h2 O B U W)) λJ W=>(KV .T [[1,0,1,-1,0,1,0],[1,1,0,1,1,0,1]] .L (.k .C .V) .bM (.k .D .G) .b7 .c7 I h2 O B U W)))) λq1 O=>(Ar.sub _ _ (λB U=>(Ar.sub _ _ (λJ W=>(mY .T [[1,0,1,0,1,-1],[1,1,0,1,0,0]] .L .cD .aR (.e .a9 .D) .aY I q1 O U W)) λJ W=>(oq .T [[1,0,0,1],[1,1,1,0]] .L .aR .aX I O J))) λB U=>(DM .T [[1,0,1,1,0,1],[1,1,0,0,1,0]] .L (.k .C .V) .cD .aR .b7 I h2 q1 O U))))
end
def HP {nm qn:Str}{args:List Arg}{kd dfs body sc gl clo df kdf dc pm cd bl ct bu}{vals ds:List Value}{Q:List (Str×Value)->Shared->Prop}
  (hd:∀(Q:Option (Array Value)->Shared->Prop),(∀o,(o.getD #v[]).toList=ds->Q o s)->wpAny M A (seqItems? df) Q E s)
  (W:(args.map (·.arg)).Nodup) (U:vals.length<=(args.map (·.arg)).length) (I:(args.map (·.arg)).length<=vals.length+ds.length) (J:ds.length<=(args.map (·.arg)).length)
  (h:Q ((args.map (·.arg)).zip (vals++ds.drop (ds.length-((args.map (·.arg)).length-vals.length)))) s):wpAny M A (bindArgs #[nm,qn,#[[],args,none,[],kd,none,dfs],body,sc,gl,clo,df,kdf,dc,pm,cd,bl,ct,bu] #[vals,[]]) Q E s:=
 ab (m:=forIn [] _ _) (af (ab (hd _ λo O=>wC (DH U) (wC (zU O U I J) (ab (xv _ (λn d slots=>rfl) _ _ _ (ab (m:=forIn [] _ _) (af (af (zV O W U I J▸h))))))))))
def vZ {fd:FuncData}{vals ds:List Value}{Q:List (Str×Value)->Shared->Prop}(W:za fd.params=true)
  (hd:∀(Q:Option (Array Value)->Shared->Prop),(∀o,(o.getD #v[]).toList=ds->Q o s)->wpAny M A (seqItems? fd.defaults) Q E s)
  (U:(fd.params.args.map (·.arg)).Nodup) (I:vals.length<=fd.params.args.length) (J:fd.params.args.length<=vals.length+ds.length) (O:ds.length<=fd.params.args.length)
  (h:Q ((fd.params.args.map (·.arg)).zip (vals++ds.drop (ds.length-(fd.params.args.length-vals.length)))) s):wpAny M A (bindArgs fd #[vals,[]]) Q E s:=by
 have el:(fd.params.args.map (·.arg)).length=fd.params.args.length:=aw _;rw[<- el]at I J O h;have e:fd.params=#[[],fd.params.args,none,[],fd.params.kw_defaults,none,fd.params.defaults]:=by
  clear I J O h hd U el;cases fd with|mk nm qn p =>
  cases p with|mk po args B z kd ka dfs =>
  have#[W,h4]:=band W;have#[W,h5]:=band W;have#[h6,h7]:=band W;show congr (congr (congr (di (λpo B z ka=>Arguments.mk po args B z kd ka dfs) (iC.mp h6)) (uq.mp h5)) (iC.mp h7)) (uq.mp h4)
 have:=HP (nm:=fd.name) (qn:=fd.qualname) (kd:=fd.params.kw_defaults) (dfs:=fd.params.defaults) (body:=fd.body) (sc:=fd.scope) (gl:=fd.globals) (clo:=fd.closure) (df:=fd.defaults) (kdf:=fd.kwdefaults) (dc:=fd.doc) (pm:=fd.pyModule) (cd:=fd.annotations) (bl:=fd.code) (ct:=fd.closureTuple) (bu:=fd.builtins) hd U I J O h;rw[<- e]at this;show this
variable {s₁:Shared}{A:Around}{E:QqV}{h:Heap}{X:List Addr}{i:Nat}{x:Str}{k:NameKind}{ρ:Fr}{w:Value}{Q:Unit->Shared->Prop}
abbrev envX (env:Env):List Addr:=env.locals::env.cells.map (·.2)
inductive FlR (G:Stc)(h:Heap):Fl->Flow->Prop
 |next:FlR G h .next .next
 |brk:FlR G h .brk .brk
 |cont:FlR G h .cont .cont
 |ret {v:V} {w:Value}:VR G h v w->FlR G h (.ret v) (.ret w)
inductive qj (G:Stc)(env:Env)(σ:St)(s:Shared)(K:Fl->Fr->St->Prop)(f:Flow)(s':Shared):Prop
 |mk (fl:Fl) (ρ':Fr) (σ':St):FlR G s'.heap fl f->K fl ρ' σ'->FR G σ' env ρ' s'.heap->Rel G σ' s'.heap->Go (envX env) σ s σ' s'->qj G env σ s K f s'
inductive pI (G:Stc)(env:Env)(σ:St)(s:Shared)(K:Fr->St->Prop)(s':Shared):Prop
 |mk (ρ':Fr) (σ':St):K ρ' σ'->FR G σ' env ρ' s'.heap->Rel G σ' s'.heap->Go (envX env) σ s σ' s'->pI G env σ s K s'
def mem_of_lookup {α W:Type}[BEq α][LawfulBEq α]{l:List (α×W)}{x:α}{c:W}(h:l.lookup x=some c):(x,c)∈l:=by
 induction l with
 |nil=>simp at h
 |cons p r O =>
  have#[y,b]:=p;rw[iB]at h;split at h
  ·rename_i U;cases h;rw[dh]at U;subst U;show .head _
  ·show .tail _ (O h)
section
variable {G:Stc}{env:Env}{σ σ₁:St}{s:Shared}{h₁:Heap}{tk:Nat}
def Go.wide (x:Go [] σ s σ₁ s₁):Go (envX env) σ s σ₁ s₁:=x.more λ_ h=>(nomatch h)
def qj.back {K:Fl->Fr->St->Prop}{f:Flow}{s':Shared}(x:Go (envX env) σ s σ₁ s₁):qj G env σ₁ s₁ K f s'->qj G env σ s K f s'
 |⟨W,ρ',σ',a,b,c,d,e⟩=>#[W,ρ',σ',a,b,c,d,x.trans e]
def pI.back {K:Fr->St->Prop}{s':Shared}(x:Go (envX env) σ s σ₁ s₁):pI G env σ₁ s₁ K s'->pI G env σ s K s'
 |⟨ρ',σ',b,c,d,e⟩=>#[ρ',σ',b,c,d,x.trans e]
def Go.DK {M:Model}{s₂:Shared}{t:Sem Flow}{K:Fl->Fr->St->Prop}(x:Go (envX env) σ s σ₁ s₁)(h:wpAny M A t (qj G env σ₁ s₁ K) E s₂):wpAny M A t (qj G env σ s K) E s₂:=dj h (λ_ _=>qj.back x) λ_ _ x=>x
def Rel.frame {h':Heap}{a:Addr}{o':Obj}(R:Rel G σ h)(W:Heap.SameBut a h h')(hd:¬σ.dom a)(hb:G.hb.get? a=none)(U:jq h h'):Rel G σ h':=
 R.same (λb o e d=>by rw[W.2 b (λhb=>hd (hb▸d))];show e) U λb o e=>by rw[W.2 b (λh=>by subst h;rw[hb]at e;cases e)];show R.base b o e
def Evo.frame {h':Heap}{a:Addr}{o':Obj}(W:Heap.SameBut a h h')(J:h'.get? a=some o')(I:a∈X)(O:jq h h'):Evo X σ h σ h':=
 #[λb o e _ U=>by rw[W.2 b (λhb=>U (hb▸I))];show e,O,λb d=>.inl d,yn W J]
def hJ {names:List (Str×NameKind)}(nd:(names.map (·.1)).Nodup){j:Nat}{k':NameKind}(hi:names[i]?=some (x,k))(O:names[j]?=some (x,k')):i=j:=by
 have U:(names.map (·.1))[i]?=some x:=by rw[dq,hi];rfl
 have J:(names.map (·.1))[j]?=some x:=by rw[dq,O];rfl
 have W:i<(names.map (·.1)).length:=(cy.mp U).1;show(List.getElem?_inj W nd).mp (U.trans J.symm)
abbrev oN (k:NameKind):Bool:=k==.local||k==.cell
abbrev Own (G:Stc)(x:Str)(k:NameKind):Prop:=oN k=true/\(k=.cell->G.cap x=false)
def fW {v:V}(eo:zr env)(F:FR G σ env ρ s.heap)(R:Rel G σ s.heap)
  (hi:env.scope.names[i]?=some (x,k)) (hk:oN k=true) (hN:∀c,env.cells.lookup x=some c->k=.cell->G.hb.get? c=none) (vr:VR G s.heap v w) (bp:env.locals∈X) (br:∀c,env.cells.lookup x=some c->k=.cell->c∈X)
  (q:∀s',FR G σ env (upd ρ i v) s'.heap->Rel G σ s'.heap->Go X σ s σ s'->Q () s'):wpAny G.M A (storeName env x w) Q E s:=by
 have J:env.kindOf x=some k:=ku eo.nd hi;cases k with
 | «local» =>
  have#[m,hn,hm]:=F.ns;apply wpAny_storeName_local J hn (λh' ao O=>?_) (by rw[eo.kind];rfl);have B:jq s.heap h':=tw O F.notfrz;have#[o',bu,bv,aj,ar,_]:=id ao;have R':=R.frame (o':=o') O F.loc F.new B;apply q _ #[#[_,ao,λj y U=>?_],λj y k' U I=>?_,F.inj,F.loc,λo e=>?_,F.new,λp hp=>by have#[o,e]:=F.allc p hp;show yn O aj _ o e] R' #[Evo.frame O aj bp B,rfl,rfl]
  ·by_cases W:j=i
   ·subst W;rw[hi]at U;cases U;simp only[cn,yv];show vr.mono B
   ·have be:y≠x:=λe=>W (by subst e;show hJ eo.nd U hi);simp only[fg W,be,kn];show(hm j y U).mono B
  ·have#[c,w',h1,#[oc,ai,hd],h3,h4,h5,h6]:=F.cells j y k' U I;have W:j≠i:=λe=>by
    subst e;rw[hi]at U;cases U;rcases I with h|h<;>cases h
   apply#[c,w',h1,#[oc,by rw[O.2 c h5];show ai,hd],?_,h4,h5,h6];rw[fg W];show h3.mono B
  ·rw[aj]at e;cases e;show qg ar
 |cell =>
  have#[c,bt,hc,z,o,h4,h5,h6]:=F.cells i x _ hi (.inl rfl);have h7:=hN c hc rfl;apply wpAny_storeName_cell eo.kind J hc z λh' ax O=>?_;have#[oc,ai,hd]:=id z;have#[bd,ag,ar]:=id ax;have B:jq s.heap h':=tw O λo e=>by rw[ai]at e;cases e;show rB hd
  have R':=R.frame (o':=bd) O h4 h7 B;have hX:c∈X:=br c hc rfl;have#[m,#[o2,es,ep,bl,r2],hm]:=F.ns;apply q _ #[#[m,#[o2,es,ep,by rw[O.2 _ h5.symm];show bl,r2],λj y U=>?_],λj y k' U I=>?_,F.inj,F.loc,λo e=>?_,F.new,λp hp=>by have#[o,e]:=F.allc p hp;show yn O ag _ o e] R' #[Evo.frame O ag hX B,rfl,rfl]
  ·have W:j≠i:=λe=>by subst e;rw[hi]at U;cases U
   rw[fg W];show(hm j y U).mono B
  ·have#[c2,w2,g1,#[bc,ay,gd],g3,g4,g5,g6]:=F.cells j y k' U I;by_cases W:j=i
   ·clear q;subst W;rw[hi]at U;cases U;rw[hc]at g1;cases g1;apply#[c,some w,hc,ax,by rw[cn];show vr.mono B,h4,h5,h6]
   ·have bn:c2≠c:=λe=>by subst e;show W (F.inj j i y x k' _ c2 U hi I (.inl rfl) g1 hc)
    apply#[c2,w2,g1,#[bc,by rw[O.2 _ bn];show ay,gd],?_,g4,g5,g6];rw[fg W];show g3.mono B
  ·rw[O.2 _ h5.symm]at e;show F.notfrz o e
 |_=>cases hk
def FV (F:FR G σ env ρ h)(hi:env.scope.names[i]?=some (x,k))(hk:Own G x k):∀c,env.cells.lookup x=some c->k=.cell->G.hb.get? c=none:=λc O e=>by
 have#[I,U,W,_,_,_,_,J]:=F.cells i x _ hi (.inl e);rw[O]at W;cases W;show J (hk.2 e)
def fX {v:V}(J:zr env)(F:FR G σ env ρ s.heap)(R:Rel G σ s.heap)
  (hi:env.scope.names[i]?=some (x,k)) (hk:Own G x k) (vr:VR G s.heap v w) (W:env.locals∈X) (U:∀c,env.cells.lookup x=some c->c∈X)
  (q:∀s',FR G σ env (upd ρ i v) s'.heap->Rel G σ s'.heap->Go X σ s σ s'->Q () s'):wpAny G.M A (storeName env x w) Q E s:=
 fW J F R hi hk.1 (FV F hi hk) vr W (λc O _=>U c O) q
def yz {v:V}(U:zr env)(F:FR G σ env ρ s.heap)(R:Rel G σ s.heap)
  (hi:env.scope.names[i]?=some (x,k)) (hk:Own G x k) (vr:VR G s.heap v w)
  (q:∀s',FR G σ env (upd ρ i v) s'.heap->Rel G σ s'.heap->Go (envX env) σ s σ s'->Q () s'):wpAny G.M A (storeName env x w) Q E s:=
 fX U F R hi hk vr (.head _) (λc W=>.tail _ (fj.mpr #[(x,c),mem_of_lookup W,rfl])) q
end
variable {xs:List Stmt}{pos:Pos}{x:Expr}
abbrev yg (G:Stc)(C:Cal)(sc:Scope)(d:Nat)(st:Stm)(x:Stmt):Prop:=
 ∀⦃A E env ρ σ K s⦄,Cx G sc d A env ρ σ s->wpS C st ρ σ K->wpAny G.M A (exec x env) (qj G env σ s K) E s
abbrev fH (G:Stc)(C:Cal)(sc:Scope)(d:Nat)(st:pq)(xs:List Stmt):Prop:=
 ∀⦃A E env ρ σ K s⦄,Cx G sc d A env ρ σ s->gq C st ρ σ K->wpAny G.M A (execs xs env) (qj G env σ s K) E s
section
variable {G:Stc}{C:Cal}{sc:Scope}{d:Nat}
def qj.here {env:Env}{σ:St}{s:Shared}{tk:Nat}{K:Fl->Fr->St->Prop}{W:Fl}{f:Flow}{ρ:Fr}(a:FlR G s.heap W f)(q:K W ρ σ)(F:FR G σ env ρ s.heap)(R:Rel G σ s.heap):qj G env σ s K f {s with toks:=tk}:=
 #[W,ρ,σ,a,q,F,R,Go.refl.tok]
def qj.zh {A:Around}{env:Env}{σ:St}{s:Shared}{K:Fl->Fr->St->Prop}{W:Fl}{f:Flow}{ρ:Fr}(a:FlR G s.heap W f)(q:K W ρ σ)(c:Cx G sc d A env ρ σ s):qj G env σ s K f s:=
 #[W,ρ,σ,a,q,c.F,c.R,.refl]
def yQ:fH G C sc d .nil []:=λ_ _ _ _ _ _ _ c h=>wpAny_execs_nil (qj.zh .next h c)
def uL {st:Stm}{r:pq}{x:Stmt}(h₁:yg G C sc d st x)(W:fH G C sc d r xs):fH G C sc d (.cons st r) (x::xs):=λ_ _ _ _ _ _ _ c h =>
 sr (dj (h₁ c h) (λf s' l=>by
  have#[I,ρ',σ',a,q,J,O,U]:=l;cases a with
  |next=>show U.DK (W (c.at J O) q)
  |brk=>refine#[.brk,ρ',σ',.brk,q,J,O,U]
  |cont=>refine#[.cont,ρ',σ',.cont,q,J,O,U]
  |ret v=>refine#[_,ρ',σ',.ret v,q,J,O,U]) λ_ _ x=>x)
def AS:yg G C sc d .pass (.Pass pos):=λ_ _ _ _ _ _ _ c h=>wpAny_Pass (qj.zh .next h c)
def FC:yg G C sc d .brk (.Break pos):=λ_ _ _ _ _ _ _ c h=>by
 show wpAny G.M _ (do standAt pos;pure Flow.brk) _ _ _;show ab (gw (af (qj.zh .brk h c)))
def B5:yg G C sc d .cont (.Continue pos):=λ_ _ _ _ _ _ _ c h=>by
 show wpAny G.M _ (do standAt pos;pure Flow.cont) _ _ _;show ab (gw (af (qj.zh .cont h c)))
def B3 {x:Stmt}:yg G C sc d .dead x:=λ_ _ _ _ _ _ _ c h=>h.elim
def yM:gc G C sc d .dead x:=λ_ _ _ _ _ _ _ c h=>h.elim
def yL:ua G C sc d .dead x:=λ_ _ _ _ _ _ _ c h=>h.elim
def EW {e:Ex}(W:gc G C sc d e x):yg G C sc d (.ret e) (.Return (some x) pos):=λ_ _ _ _ _ _ _ c h =>
 wpAny_Return_some (qc (W c h) λv σ₁ s₁ w q vr r x=>#[.ret v,_,σ₁,.ret vr,q,c.F.evo x.e,r,x.wide])
def AR:yg G C sc d (.ret .none) (.Return none pos):=λ_ _ _ _ _ _ _ c h =>
 wpAny_Return_none (qj.zh (.ret .none) h c)
abbrev zx (x:Expr):Bool:=!(hV 8 x||(hV 9 x||hV 10 x))
def dI {e:Expr}(h:zx e=true)(t:Option Expr)(n:Nat)(env:Env):swapsWith e t n env=pure false:=by
 cases e<;>first|rfl|show Bool.noConfusion h
def AY {e:Ex}(W:gc G C sc d e x)(U:zx x=true):yg G C sc d (.expr e) (.Expr x pos):=λ_ _ _ _ _ _ _ c h =>
 wpAny_Expr (qc (W c h) λv σ₁ s₁ w q vr r x=>by
  have#[rfl,q]:=q;have rfl:=vr;apply#[.next,_,σ₁,.next,q,c.F.evo x.e,r,x.wide]) (by unfold interactive;rw[c.eo.kind];rfl) (dI U _ _ _)
def B6 {c:Ex}{t e:pq}{ys:List Stmt}(O:ua G C sc d c x)(W:fH G C sc d t xs)(U:fH G C sc d e ys):yg G C sc d (.C c t e) (.If x xs ys pos):=λ_ _ _ _ _ _ _ c h =>
 wpAny_If (nQ (O c h) λb σ₁ s₁ q r x=>by
  cases b with
  |true=>show x.wide.DK (W (c.go r x) q)
  |false=>show x.wide.DK (U (c.go r x) q))
def AX {c:Ex}{b:pq}(hc:ua G C sc d c x)(hb:fH G C sc d b xs):yg G C sc d (.loop c b) (.While x xs [] pos):=λA E env ρ σ K s B h=>by
 have#[n,h]:=h;apply wpAny_While (codeAny_whileLoop (λn s'=>∃ρ' σ',xE (λagain ρ σ=>wpT C c ρ σ λt σ=>if t then gq C b ρ σ (wi again K) else K .next ρ σ) n ρ' σ'/\FR G σ' env ρ' s'.heap/\Rel G σ' s'.heap/\Go (envX env) σ s σ' s') ?_ n #[ρ,σ,h,B.F,B.R,.refl]);intro n s' z;have#[ρ',σ',hl,F',R',x']:=z;cases n with
 |zero=>show hl.elim
 |succ n =>
  apply nQ (hc (B.at (A:=_) F' R') hl) λt σ₁ s₁ q r y=>?_;cases t with
  |false=>show wpAny_execs_nil #[.next,ρ',σ₁,.next,q,F'.evo y.e,r,x'.trans y.wide]
  |true =>
   apply dj (hb ((B.at F' R').go r y) q) (λf s₂ l=>?_) λ_ _ x=>x;have#[fl,W,σ₂,a,U,J,O,I]:=l;have x3:=x'.trans (y.wide.trans I);cases a with
   |next=>refine#[n,uj n,W,σ₂,U,J,O,x3]
   |cont=>refine#[n,uj n,W,σ₂,U,J,O,x3]
   |brk=>refine#[.next,W,σ₂,.next,U,J,O,x3]
   |ret v=>refine#[_,W,σ₂,.ret v,U,J,O,x3]
end
end MP
end
section
set_option tactic.hygienic true
namespace MP
open PySem PyProof.Rows
variable {σ:St}{h h':Heap}{i:Nat}{pos:Pos}{A:Around}{E:QqV}{s:Shared}{Q:Unit->Shared->Prop}{vs:List V}{env:Env}
abbrev LU (G:Stc)(env:Env)(σ:St)(s:Shared)(K:Fr->St->Prop):Unit->Shared->Prop:=λ_ s'=>pI G env σ s K s'
abbrev j6 (G:Stc)(C:Cal)(sc:Scope)(d:Nat)(t:Tgt)(x:Expr):Prop:=
 ∀⦃A E env ρ σ K s v w⦄,Cx G sc d A env ρ σ s->VR G s.heap v w->HX C t v ρ σ K->wpAny G.M A (assign x env w) (LU G env σ s K) E s
section
variable {G:Stc}{C:Cal}{sc:Scope}{d:Nat}
def Rel.keeps (R:Rel G σ h)(hk:∀b o,h.get? b=some o->h'.get? b=some o):Rel G σ h':=R.same (λb o e _=>hk b o e) (λb o e _=>hk b o e) λb o e=>hk b o (R.base b o e)
def Evo.keeps {X:List Addr}(hk:∀b o,h.get? b=some o->h'.get? b=some o):Evo X σ h σ h':=#[λb o e _ _=>hk b o e,λb o e _=>hk b o e,λb d=>.inl d,λb o e=>#[o,hk b o e]]
def iS (x:Heap.ExtBut h.objs.size h h'):∀b o,h.get? b=some o->h'.get? b=some o:=λb o e=>x b o (jt (ip e)) e
def wJ {x:Str}{k:NameKind}(hi:sc.names[i]?=some (x,k))(hk:Own G x k):j6 G C sc d (.v i) (.Name x pos):=λ_ _ _ _ _ _ _ _ _ c vr h =>
 assign_Name (yz c.eo c.F c.R (by rw[c.es];show hi) hk vr λs' U W x=>#[_,_,h,U,W,x])
def sG {a dd:Addr}{f:Nat->Option V}{name:Str}{u:V}{w:Value}(K:GOk G)(R:Rel G σ s.heap)(hI:σ.I a=some (dd,f))(hn:G.attrs[i]?=some name)(vr:VR G s.heap u w)
  (k:∀s',Rel G (σ.jn a dd (upd f i u)) s'.heap->Go [] σ s (σ.jn a dd (upd f i u)) s'->Q () s'):wpAny G.M A (setAttr (.ref a) name w) Q E s:=by
 have#[N,mN,X,dm,df,cb,be]:=K.cls;have I:=R.I a dd f hI;have#[m,hm,hv,ag]:=I.ns;have#[hh,g,dr,t,os]:=s;have#[nm,q,bs,sn,sub,dx,d2,k0,k1,k2,k3,k5,hC]:=(X.keeps R.base).obj;have O:=fk hn;have ca:a≠G.cS:=by
  rintro rfl;have#[_,_,_,_,_,_,_,_,_,_,_,_,cl]:=X.obj;have:=R.new _ (.inr (.inr (.inr (.inl (by rw[hI];rfl)))));rw[cl]at this;cases this
 have hw:Within m G.attrs:=λy hy=>by
  by_cases h:y∈G.attrs
  ·show h
  ·show absurd (ag y h) hy
 apply store_attr PySem.F.store_object hC (X.keeps R.base).ns cb (be name O).1 (be name O).2 ca (I.inst hm) (λh' cx I' hk aj=>?_) hw (nr K.len (by decide));have#[o,ho,hc,hd,cd]:=I.here;have#[z,e₁,ai,J,U,ax]:=aj o ho;have eo:z=o:=by
  have#[oc,od,dc,da]:=o;have#[bu,br,bp,bn]:=z;simp only at ai J U hd;subst ai;subst J;subst U;have:=ax dd hd;simp only at this;rw[hd,this]
 subst eo;have W:h'.Ns1 dd (λy=>if y=name then some w else m y):=by
  have#[o',e',_,_,ar]:=I';have rfl:=ah (e₁.symm.trans e');rcases ar with ⟨bc,_⟩|⟨d',ar,_,W⟩
  ·rw[hd]at bc;cases bc
  ·have rfl:=ah (hd.symm.trans ar);show W
 have B:At dd hh h':=by
  have#[od,es,ep,cc,cj,_]:=hm;have#[bt,dn,dv,ay,_]:=W;apply#[λb ob hb e=>?_,#[bt,ay],λo' e=>?_]
  ·by_cases bd:b=a
   ·subst bd;rw[ho]at e;cases e;show e₁
   ·show hk b ob bd (λct d' bl ed=>by
     clear hk;have rfl:=ah (ho.symm.trans bl);have rfl:=ah (hd.symm.trans ed);show hb) e
  ·have rfl:=ah (cc.symm.trans e);show qg cj
 have ck:dY G h' a dd (upd f i u):=by
  apply#[#[_,e₁,hc,hd,cd],#[_,W,λj y hj=>?_,λy hy=>?_],I.ne]
  ·by_cases ao:j=i
   ·clear I;subst ao;rw[hn]at hj;cases hj;simp only[cn,yv];show vr.mono B.frz
   ·have bv:y≠name:=λe=>by
     subst e;have ch:j<G.attrs.length:=(cy.mp hj).1;show ao ((List.getElem?_inj ch K.nd).mp (hj.trans hn.symm))
    simp only[fg ao,bv,kn];show(hv j y hj).mono B.frz
  ·have:y≠name:=λe=>hy (e▸O);simp only[this,kn];show ag y hy
 show k _ (R.JN hI B ck) #[Evo.JN _ hI B,rfl,rfl]
def AF {o:Ex}{x:Expr}{name:Str}(K:GOk G)(J:gc G C sc d o x)(I:G.attrs[i]?=some name):j6 G C sc d (.attr o i) (.Attribute x name pos):=λ_ _ _ _ _ _ _ _ _ c vr h=>by
 rw[assign_Attribute];apply ab (dp (qc (J c h) λu σ₁ s₁ O q W r x=>?_));have#[a,dd,f,rfl,B,q]:=q;have rfl:=W;apply ab (gw (ab (dp (sG K r B I (vr.mono x.frz) λs' z U=>wpAny_release ?_))));apply#[_,_,q,(c.F.evo x.e).evo U.e,z,(x.trans U).wide]
def oY {it l:Addr}{items:Array Value}(ag:l≠it):∀(n i:Nat) (s:Shared) (Q:List Value->Shared->Prop),s.heap.IsListIter it l i->s.heap.IsList l items->i+n<=items.size ->
  (∀h',h'.IsListIter it l (i+n)->Heap.SameBut it s.heap h'->Q ((items.toList.drop i).take n) {s with heap:=h'})->wpAny G.M A (draw (.ref it) n) Q E s
 |0=>λi s Q hit hl hn hQ=>by
  dsimp only[draw];show af (by simpa using hQ s.heap hit (.refl ..))
 |n+1=>λi s Q hit hl hn hQ=>by
  dsimp only[draw];have hx:items[i]?=some items[i]:=Array.getElem?_eq_getElem (fc .B .a .cP hn);apply ab (wpAny_pyNext_list_item hit hl hx λh₁ O W=>?_);have I:h₁.IsList l items:=by have#[o,ho,r]:=hl;apply#[o,by rw[W.2 l ag];show ho,r]
  apply ab (dp (oY ag n (i+1) _ _ O I (fc .bF .a .K hn) λz U J=>af ?_));have hd:items.toList.drop i=items[i]::items.toList.drop (i+1):=by
   rw[cg (by simpa using (by(show fc .B .a .cP hn):i<items.size))];simp
  have:=hQ z (by rw[show i+(n+1)=i+1+n by(show my .bV .n)];show U) (W.trans J);rw[hd,List.take_succ_cons]at this;show this
def jY {t:Addr}{items:Array Value}{Q:List Value->Shared->Prop}(hh:A.handled=none)(ht:s.heap.IsList t items)
  (hQ:∀h',Heap.ExtBut s.heap.objs.size s.heap h'->Q items.toList {s with heap:=h'}):wpAny G.M A (unpackItems (.ref t) items.size none) Q E s:=by
 have ag:t≠s.heap.objs.size:=by have#[o,z,_]:=ht;show jt (ip z)
 unfold unpackItems;apply ab ?_
 ·unfold notIterableAtAll;apply ab (f9 ht.typeIs slot_list_iter.lookup ?_);apply af ?_;simp only[fw,kn];apply ab (dp (jT ht ?_));have hp:(s.heap.push {cls:=.type "list_iterator",data:=.fields #v[.ref t,.int 0 0]}).IsList t items:=by have#[o,z,r]:=ht;apply#[o,ba _ z,r]
  apply ab (dp (oY ag items.size 0 _ _ #[_,eg _ rfl,rfl,rfl] hp (nu (.k (.a .O .A) .A) .h) λh₁ U W=>?_));have ai:List.take items.size (List.drop 0 items.toList)=items.toList:=by
   rw[qq];show List.take_of_length_le (by simp)
  rw[ai];rw[bb (by simp)];have J:h₁.IsList t items:=by have#[o,z,r]:=hp;apply#[o,by rw[W.2 t ag];show z,r]
  apply ab (dp (wpAny_pyNext_list_end hh U J (by simp) λB I=>?_));simp only[wh,fw,kn];apply af (hQ B λb o hb e=>I b o hb (W.extBut b o hb (ba _ e)))
abbrev zY (G:Stc):Prop:=∀(A:Around) (E:QqV) (s:Shared) (t:Addr) (ws:List Value) (n:Nat) (dd:Option Addr) (Q:List Value->Shared->Prop),A.handled=none->(∀b o,G.hb.get? b=some o->s.heap.get? b=some o) ->
 s.heap.get? t=some {cls:=.ref G.cM,dict:=dd,data:=.seq ws.toArray n,slots:=#v[]} ->
 (∀h',Heap.ExtBut s.heap.objs.size s.heap h'->Q ws {s with heap:=h'})->wpAny G.M A (unpackItems (.ref t) ws.length none) Q E s
def wd {A:Around}{E:QqV}{v:V}{w:Value}{Q:List Value->Shared->Prop}(U:zY G)(W:A.handled=none)(R:Rel G σ s.heap)(vr:VR G s.heap v w)(e:EH v σ=some vs)
  (k:∀ws h',VRs G h' vs ws->Rel G σ h'->(∀b o,s.heap.get? b=some o->h'.get? b=some o)->Q ws {s with heap:=h'}):wpAny G.M A (unpackItems w vs.length none) Q E s:=by
 have fin:∀ws h',VRs G s.heap vs ws->Heap.ExtBut s.heap.objs.size s.heap h'->Q ws {s with heap:=h'}:=λws h' r x =>
  k ws h' (r.mono λb o e _=>iS x b o e) (R.keeps (iS x)) (iS x)
 clear k;cases v
 case L =>
  have rfl:=vr;have#[ws,n,hl,O]:=R.L _ _ e;have:=jY (G:=G) (A:=A) (E:=E) (Q:=Q) W hl.isList λh' x=>fin ws h' O x;rw[cw,<- O.length]at this;show this
 case T =>
  have#[a,ws,n,rfl,g,r]:=vr;have rfl:=ah e;have:=PyProof.Rows.unpackItems_tuple (prog:=G.prog) (w:=G.w) (A:=A) (E:=E) (Q:=Q) W #[_,g,rfl,_,rfl] λh' x=>fin _ h' r x;rw[cw,<- r.length]at this;show this
 case mt =>
  have#[a,ws,n,dd,rfl,g,r]:=vr;have rfl:=ah e;have:=U A E s _ _ _ _ Q W R.base g λh' x=>fin _ h' r x;rw[<- r.length]at this;show this
 all_goals show jf e
def any_some {α:Type}{a:Option α}{f:α->Bool}(h:a.any f=true):∃x,a=some x/\f x=true:=by
 cases a with
 |none=>show Bool.noConfusion h
 |some x=>refine#[x,rfl,h]
abbrev qa (sc:Scope)(i:Nat):Str:=(sc.names[i]?.map (·.1)).getD ""
abbrev kindAt (k:NameKind->Bool)(sc:Scope)(i:Nat):Bool:=sc.names[i]?.any λy=>k y.2&&jh y.1
def wu {p:NameKind->Bool}(h:kindAt p sc i=true):∃k,sc.names[i]?=some (qa sc i,k)/\p k=true/\jh (qa sc i)=true:=by
 have#[y,e,h]:=any_some h;have W:qa sc i=y.1:=by unfold qa;rw[e];rfl
 apply#[y.2,W▸e,(band h).1,W▸(band h).2]
abbrev tc (sc:Scope):List Nat->List Expr->List Expr
 | []=>λ_=>[]
 |i::is=>λl=>.Name (qa sc i) (l.headD default).pos::tc sc is l.tail
abbrev ownAt (cap:Str->Bool)(sc:Scope)(i:Nat):Bool:=kindAt oN sc i&&(kindAt (·==.local) sc i||!cap (qa sc i))
def uT {G:Stc}{sc:Scope}(h:ownAt G.cap sc i=true):∃k,sc.names[i]?=some (qa sc i,k)/\Own G (qa sc i) k/\jh (qa sc i)=true:=by
 have#[k,W,I,J]:=wu (band h).1;apply#[k,W,#[I,λe=>?_],J];rcases vt .. |>.mp (band h).2 with q|q
 ·have#[k',O,U,_]:=wu q;rw[W]at O;cases O;rw[e]at U;cases U
 ·show(gi _).mp q
abbrev qB (cap:Str->Bool)(sc:Scope)(is:List Nat):Bool:=is.all (ownAt cap sc)
def iN:(is:List Nat)->(l:List Expr)->(assignEach (tc sc is l) env).length=is.length
 | []=>λ_=>rfl
 |_::is=>λl=>di (·+1) (iN is l.tail)
def fZ {env:Env}:(is:List Nat)->(l:List Expr)->(assignEach (tc sc is l) env).findIdx? (·.1)=none
 | []=>λ_=>rfl
 |_::is=>λl=>by
  have e:=fZ (env:=env) is l.tail;show List.findIdx? _ ((false,_)::assignEach (tc sc is l.tail) env)=none;rw[List.findIdx?_cons,e];rfl
abbrev wK (elts:List Expr):List Str:=elts.filterMap λx=>bif hV 23 x then some (mx x) else none
def jE {X:List Addr}(W:env.scope=sc)(eo:zr env)(U:env.locals∈X)(is:List Nat)(l:List Expr){ws:List Value}{ρ:Fr}(J:qB G.cap sc is=true)(hl:is.length=vs.length)(I:∀y∈wK (tc sc is l),∀c,env.cells.lookup y=some c->c∈X)
  (F:FR G σ env ρ s.heap) (R:Rel G σ s.heap) (vr:VRs G s.heap vs ws) (k:∀s',FR G σ env (gr is vs ρ) s'.heap->Rel G σ s'.heap->Go X σ s σ s'->Q () s') :
  wpAny G.M A (assignInOrder ((assignEach (tc sc is l) env).map (·.2)) ws) Q E s:=by
 induction is generalizing l vs ws ρ s with
 |nil=>show af (k s F R .refl)
 |cons i is ih =>
  cases vs with
  |nil=>show nomatch hl
  |cons v vs =>
  have#[w,us,e,B,vr]:=vr;subst e;have#[kk,hi,hk,_]:=uT (band J).1;show wpAny G.M A (do holding us (assign (.Name (qa sc i) (l.headD default).pos) env w);assignInOrder ((assignEach (tc sc is l.tail) env).map (·.2)) us) Q E s;apply ab (dp (assign_Name (fX eo F R (by rw[W];show hi) hk B U (I _ (.head _)) λs' F' R' O=>?_)));show ih l.tail (band J).2 (mn hl) (λy hy=>I y (.tail _ hy)) F' R' (vr.mono O.frz) λz F2 R2 x2=>k z F2 R2 (O.trans x2)
def uD (W:env.scope=sc)(I:zr env){is:List Nat}{l:List Expr}{ws:List Value}{ρ:Fr}(J:qB G.cap sc is=true)(O:is.length=vs.length)
  (F:FR G σ env ρ s.heap) (R:Rel G σ s.heap) (vr:VRs G s.heap vs ws) (k:∀s',FR G σ env (gr is vs ρ) s'.heap->Rel G σ s'.heap->Go (envX env) σ s σ s'->Q () s') :
  wpAny G.M A (assignInOrder ((assignEach (tc sc is l) env).map (·.2)) ws) Q E s:=
 jE W I (.head _) is l J O (λy _ c U=>.tail _ (fj.mpr #[(y,c),mem_of_lookup U,rfl])) F R vr k
def EI {is:List Nat}{l:List Expr}{k:Nat}(U:zY G)(O:qB G.cap sc is=true):j6 G C sc d (.T is) (.Tuple (tc sc is l) k pos):=λ_ _ _ _ _ _ _ _ _ c vr h=>by
 have#[vs,e,hl,q]:=h;rw[assign_Tuple];apply ab (gw ?_);unfold unpack;rw[iN,fZ,hl];apply ab (dp (wd U c.ao.handled c.R vr e λws h' W I hk=>?_));apply uD c.es c.eo O hl (c.F.evo (Evo.keeps hk)) I W λz B J x2=>?_;apply#[_,_,q,B,J,#[(Evo.keeps hk).trans x2.e,x2.g,x2.o]]
def EJ {o i:Ex}{x y:Expr}(ho:gc G C sc d o x)(hi:gc G C sc d i y):j6 G C sc d (.sub o i) (.Subscript x y pos):=λA E env ρ σ K s v w c vr h=>by
 rw[arm_assign_Subscript];apply ab (dp (qc (ho c h) λu σ₁ s₁ ao q J r x=>?_));apply ab (dp (qc (hi (c.go r x) q) λj σ₂ s₂ aj U O r₂ W=>?_));apply ab (gw (ab (dp ?_)));have z:=(vr.mono x.frz).mono W.frz;have#[a,rfl,ar,kk,e,I,hz,U]:=gZ (v:=u) U;have rfl:=J;have#[ds,hd,hv]:=r₂.D _ _ e;apply wpAny_setItem_pairs (key_is I O) hd (λh' ai ag=>wpAny_release ?_) (by rw[<- hv.length];show nh (av .A .a .B hz));have#[R',x']:=LD r₂ e ag ai (hv.put z) (nr (jG _ _ _) (av .S .a .B hz));apply#[_,_,U,((c.F.evo x.e).evo W.e).evo x',R',((x.trans W).to x').wide]
end
variable {targets xs:List Expr}{value:Expr}{env:Env}
abbrev wm (sc:Scope)(ts:List Expr):List Str:=ts.filterMap λ
 |.Name id pos=>if sc.names.lookup id==some .local&&pos.line==(ts.head?.map (·.pos.line)).getD 0 then some id else none
 |_=>none
abbrev NJ (x:Expr):Option (Option (List Expr)):=bif hV 25 x then some (some (kids x)) else bif hV 24 x then none else some none
abbrev tgK:List Expr->Option (Option (List Expr))
 | []=>some none
 |x::r=>bif r.isEmpty then NJ x else some none
abbrev tupK (x:Expr):Option (List Expr):=bif hV 25 x then some (kids x) else none
abbrev LH (sc:Scope)(ts vs:List Expr):Option (Option (List Str)):=
 bif !(ts.length==2||ts.length==3)||vs.length != ts.length then some none
 else bif vs.any isStar then some none
 else bif (wm sc ts).length != ts.length||(wm sc ts).eraseDups.length != (wm sc ts).length then some none
 else bif vs.all (foldedForSure 8) then some none
 else bif vs.all (constantsAlone 8) then none
 else some (some (wm sc ts))
abbrev swp (sc:Scope)(targets:List Expr)(value:Expr):Option (Option (List Str)):=
 (tgK targets).bind λo=>o.elim (some none) λts=>(tupK value).elim (some none) (LH sc ts)
def AH (h:tgK targets=some none)(value:Expr)(env:Env):swappedStores targets value env=pure none:=by
 cases targets with
 |nil=>rfl
 |cons x r =>
  cases r with
  |nil=>cases x<;>first|rfl|show jf (ah h).symm|show jf h
  |cons y r=>cases x<;>rfl
def AG {ts:List Expr}(h:tgK targets=some (some ts)):∃k p,targets=[.Tuple ts k p]:=by
 cases targets with
 |nil=>show jf (ah h)
 |cons x r =>
  cases r with
  |nil =>
   cases x
   case Tuple=>have rfl:=ah (ah h);apply#[_,_,rfl]
   all_goals first|show jf (ah h)|show jf h
  |cons y r=>show jf (ah h)
def yE (h:tupK value=none)(ts:List Expr)(k:Nat)(p:Pos)(env:Env):swappedStores [.Tuple ts k p] value env=pure none:=by
 cases value<;>first|rfl|show jf h.symm
def yD {vs:List Expr}(h:tupK value=some vs):∃k p,value=.Tuple vs k p:=by
 cases value
 case Tuple=>have rfl:=ah h;apply#[_,_,rfl]
 all_goals show jf h
def i3 {α:Type}{b:Bool}{x y:Option (Option α)}{r:Option α}{t u:Sem (Option α)}(h:(bif b then x else y)=some r)(U:x=some r->t=pure r)(W:y=some r->u=pure r):(if b=true then t else u)=pure r:=by
 cases b with
 |true=>show U h
 |false=>show W h
def pS {sc:Scope}{r:Option (List Str)}(h:swp sc targets value=some r)(J:env.scope=sc)(hk:env.blockKind=.function):swappedStores targets value env=pure r:=by
 have#[o,U,h]:=fq.mp h;cases o with
 |none=>have rfl:=ah h;show AH U value env
 |some ts =>
  have#[k,p,rfl]:=AG U;have h:(tupK value).elim (some none) (LH sc ts)=some r:=h;cases W:tupK value with
  |none=>rw[W]at h;have rfl:=ah h;show yE W ts k p env
  |some vs =>
   rw[W]at h;have#[k',O,rfl]:=yD W;subst J;have e:swappedStores [.Tuple ts k p] (.Tuple vs k' O) env=(if (!(ts.length==2||ts.length==3)||vs.length != ts.length||env.blockKind != .function)=true then pure none
    else if vs.any isStar=true then pure none
    else if ((wm env.scope ts).length != ts.length||(wm env.scope ts).eraseDups.length != (wm env.scope ts).length)=true then pure none
    else if vs.all (foldedForSure 8)=true then pure none
    else if vs.all (constantsAlone 8)=true then (do unsupported "assign.tuple-of-constant-expressions:order-of-the-stores";pure (some (wm env.scope ts)))
    else pure (some (wm env.scope ts))):=rfl
   rw[e,hk,show(ScopeKind.function != ScopeKind.function)=false from rfl,gM];show i3 h (λh=>ah h▸rfl) λh=>i3 h (λh=>ah h▸rfl) λh=>i3 h (λh=>ah h▸rfl) λh=>i3 h (λh=>ah h▸rfl) λh=>i3 h (λh=>jf h) λh=>ah h▸rfl
def wc (h:zx value=true)(targets:List Expr)(n:Nat)(env:Env):swapsWithSole targets value n env=pure false:=by
 cases targets with
 |nil=>rfl
 |cons t r =>
  cases r with
  |nil=>show dI h _ _ _
  |cons=>rfl
section
variable {G:Stc}{C:Cal}{sc:Scope}{d:Nat}
inductive eV (G:Stc)(C:Cal)(sc:Scope)(d:Nat):List Tgt->List Expr->Prop
 |nil:eV G C sc d [] []
 |cons {t:Tgt} {x:Expr} {ts:List Tgt} {xs:List Expr}:j6 G C sc d t x->(∀env,assignEach (x::xs) env=(false,assign x env)::assignEach xs env)->eV G C sc d ts xs->eV G C sc d (t::ts) (x::xs)
def wQ {A:Around}{E:QqV}{ts:List Tgt}(J:eV G C sc d ts xs):∀{ρ:Fr} {σ:St} {K:Fr->St->Prop} {s:Shared} {v:V} {w:Value},Cx G sc d A env ρ σ s->VR G s.heap v w ->
  iF C ts v ρ σ K->wpAny G.M A (assignAll w ((assignEach xs env).map (·.2))) (LU G env σ s K) E s:=by
 induction J with
 |nil=>show λc vr h=>af #[_,_,h,c.F,c.R,.refl]
 | @cons t x ts xs O I hr U =>
  intro ρ σ K s v w c vr h;rw[I];cases hr with
  |nil=>show O c vr h
  |cons a b c' =>
   rw[b env]at U ⊢;apply ab (dp (dj (O c vr h) (λ_ s' l=>?_) λ_ _ x=>x));have#[ρ',σ',q,z,B,W]:=l;show dj (U (c.at z B) (vr.mono W.frz) q) (λ_ _=>pI.back W) λ_ _ x=>x
def uK {ts:List Tgt}{e:Ex}{x:Expr}{pos:Pos}(O:eV G C sc d ts xs)(J:gc G C sc d e x)(I:zx x=true)(hw:swp sc xs x=some none):yg G C sc d (.a ts e) (.Assign xs x pos):=λ_ _ _ _ _ _ _ c h=>by
 rw[exec_Assign];apply ab (gw ?_);rw[wc I];apply ab (af ?_);rw[bb (by decide)];apply ab (qc (J c h) λv σ₁ s₁ w q vr r x=>?_);rw[pS hw c.es (by unfold Env.blockKind;rw[c.eo.kind];rfl)];apply ab (af ?_);show wpAny G.M _ (do assignAll w _;pure Flow.next) _ _ _;apply ab (dj (wQ O (c.go r x) vr q) (λ_ s' l=>af ?_) λ_ _ x=>x);have#[ρ',σ',U,z,B,W]:=l;apply#[.next,ρ',σ',.next,U,z,B,x.wide.trans W]
def fD:∀(xs:List Nat) (vs:List V) (x:Nat) (v:V) (ρ:Fr),xs.length=vs.length->gr (xs++[x]) (vs++[v]) ρ=upd (gr xs vs ρ) x v
 | [],[],_,_,_,_=>rfl
 | [],_::_,_,_,_,h=>absurd h.symm (iA _)
 |_::_,[],_,_,_,h=>absurd h (iA _)
 |y::xs,u::vs,x,v,ρ,h=>by
  show fD xs vs x v _ (mn h)
def A8 {α:Type}{f:Nat->Option α}{i j:Nat}{a b:α}(h:i≠j):upd (upd f i a) j b=upd (upd f j b) i a:=by
 funext k
 unfold upd;by_cases U:k=j<;>by_cases W:k=i<;>simp_all
def lD:∀(xs:List Nat) (vs:List V) (x:Nat) (v:V) (ρ:Fr),x∉xs->gr xs vs (upd ρ x v)=upd (gr xs vs ρ) x v
 | [],_,_,_,_,_=>rfl
 |_::_,[],_,_,_,_=>rfl
 |y::xs,u::vs,x,v,ρ,h=>by
  show gr xs vs (upd (upd ρ x v) y u)=upd (gr xs vs (upd ρ y u)) x v;have h:=pK h;rw[A8 h.1,lD xs vs x v _ h.2]
def dK:∀(xs:List Nat) (vs:List V) (ρ:Fr),xs.length=vs.length->xs.Nodup->gr xs.reverse vs.reverse ρ=gr xs vs ρ
 | [],[],_,_,_=>rfl
 | [],_::_,_,h,_=>absurd h.symm (iA _)
 |_::_,[],_,h,_=>absurd h (iA _)
 |x::xs,v::vs,ρ,h,W=>by
  have W:=List.nodup_cons.mp W;have h:xs.length=vs.length:=mn h;rw[fQ,fQ,fD _ _ _ _ _ (by rw[vh,vh];show h),dK xs vs ρ h W.2];show(lD xs vs x v ρ W.1).symm
abbrev LR (cap:Str->Bool)(sc:Scope)(is:List Nat)(xs:List Str):Bool:=decide (xs=is.map (qa sc))&&qB cap sc is
def sD {A:Around}{E:QqV}(W:env.scope=sc)(z:zr env){σ:St}(is:List Nat){vs:List V}{ws:List Value}{ρ:Fr}{s:Shared}{Q:Unit->Shared->Prop}(O:qB G.cap sc is=true)(hl:is.length=vs.length)
  (F:FR G σ env ρ s.heap) (R:Rel G σ s.heap) (vr:VRs G s.heap vs ws) (k:∀s',FR G σ env (gr is vs ρ) s'.heap->Rel G σ s'.heap->Go (envX env) σ s σ s'->Q () s') :
  wpAny G.M A (assignInOrder ((is.map (qa sc)).map λn=>bindName env n) ws) Q E s:=by
 induction is generalizing vs ws ρ s with
 |nil=>show af (k s F R .refl)
 |cons i is B =>
  cases vs with
  |nil=>show nomatch hl
  |cons v vs =>
  have#[w,us,e,J,vr]:=vr;subst e;have#[kk,hi,hk,_]:=uT (band O).1;show wpAny G.M A (do holding us (bindName env (qa sc i) w);assignInOrder ((is.map (qa sc)).map λn=>bindName env n) us) Q E s;apply ab (dp (wpAny_bindName (yz z F R (by rw[W];show hi) hk J λs' F' R' U=>?_)));show B (band O).2 (mn hl) F' R' (vr.mono U.frz) λI F2 R2 x2=>k I F2 R2 (U.trans x2)
def snd_swap {is:List Nat}{e:Ex}{x:Expr}{pos:Pos}{names:List Str}(U:zY G)(B:gc G C sc d e x)(z:zx x=true)(hw:swp sc xs x=some (some names))(J:LR G.cap sc is names=true)(O:is.Nodup):yg G C sc d (.a [.T is] e) (.Assign xs x pos):=λ_ _ _ _ _ _ _ c h=>by
 rw[exec_Assign];apply ab (gw ?_);rw[wc z];apply ab (af ?_);rw[bb (by decide)];apply ab (qc (B c h) λv σ₁ s₁ w q vr r x=>?_);rw[pS hw c.es (by unfold Env.blockKind;rw[c.eo.kind];rfl)];apply ab (af ?_);have#[vs,ev,hl,q]:=q;show wpAny G.M _ (do rule "assign.swapped-stores";let items←unpackItems w names.length none;assignInOrder (names.reverse.map λn=>bindName _ n) items.reverse;pure Flow.next) _ _ _;apply ab (rf (ab ?_));have rfl:=bw (band J).1;rw[aw,hl,<- List.map_reverse];apply wd U c.ao.handled r vr ev λws h' W R' hk=>?_;apply ab (sD c.es c.eo is.reverse (by unfold qB;rw[List.all_reverse];show(band J).2) (by simpa using hl) ((c.F.evo x.e).evo (Evo.keeps hk)) R' W.reverse λs2 I R2 x2=>af ?_);rw[dK _ _ _ hl O]at I;apply#[.next,_,_,.next,q,I,R2,x.wide.trans #[(Evo.keeps hk).trans x2.e,x2.g,x2.o]]
end
end MP
end
section
namespace MP
open PySem PyProof.Rows
def jM:typeLookup (.type "list") (dunderI "add")=pure (some (.builtin "list.__iadd__")):=by rw[gk,fe];kernel_rfl
def vG:fillsInplaceSlot (.type "list") "add" (Operator.Add==.Add)=pure false:=by
 unfold fillsInplaceSlot;show(typeLookup (.type "list") (dunderI "add")>>=λW=>pure (W.isSome&&!isSeqSlot W))=pure false;rw[jM];first|rfl|kernel_rfl
def CN:seqSlot? (.type "list") (dunderI "add")=pure (some (.builtin "list.__iadd__")):=by
 unfold seqSlot?;rw[jM];first|rfl|kernel_rfl
section
variable {G:Stc}{A:Around}{E:QqV}{s:Shared}{σ:St}
def vF {a b:Value}{Q:QqV}(W:s.TypeIs a "list")(hb:s.TypeIs b "list")(U:wpAny G.M A (call (.builtin "list.__iadd__") [a,b]) Q E s):wpAny G.M A (inplaceOp .Add a b) Q E s:=by
 unfold inplaceOp;apply dp ?_;apply ab (gJ W (ab (fo vG ?_)));show wpAny _ A (if false=true then _ else _) Q E s;rw[bb gx];apply ab (wpAny_binaryOp1_none (nm:="add") W hb noFill_list_add ?_);apply ab (fo CN ?_);show ab (rf U)
def BA {op:Bop}{a b:V}{x y:Value}{Q:V->St->Prop}(J:op=.add\/op=.sub)(R:Rel G σ s.heap)(va:VR G s.heap a x)(z:VR G s.heap b y)(h:I9 op a b σ Q):wpAny G.M A (inplaceOp (binOp op) x y) (jr G [] σ s Q) E s:=by
 cases a with
 |L a =>
  have rfl:=va;have#[b,rfl,h]:=ud (v:=b) h;have rfl:=z;rcases J with rfl|rfl
  ·have#[xs,ys,ag,e1,e2,hz,q]:=h;have#[us,n,hl,hv]:=R.L _ _ e1;have#[ts,m,B,O]:=R.L _ _ e2;have I:=hv.length;have U:=O.length;have W:us.length+ts.length<=sizeLine:=by rw[<- I,<- U];show nh hz
   apply vF #[_,hl,rfl] #[_,B,rfl] (i9 PySem.F.slot_list_iadd #[_,hl,rfl] PySem.F.entry_list_iadd (PySem.F.args_list_iadd_2 _ _) (AutoSeq1.list___iadd___list_list_0 _ _ _ _ _ _ ?_ (by simp only[cw];(show fc .A .a .a2 W)) (by simp only[cw];(show fc (.k .L .T) .a .F W))) #[hl,B,?_])
   ·simp only[cw,Builtin.List.listTooLong];rw[show sizeLine=16777216 from rfl]at W;simp;intro _;first|omega|(unfold sizeLine;(show av (.k .L (.n (2^24))) .a (.k .L (.n 16777216)) W))
   ·have#[r',x']:=A9 (f:=λx=>x++ts.toArray) R e1 hl (hv.append O) (by simpa using hz) (by simp);apply#[.L _,_,q,.L _,r',x',rfl,rfl]
  ·show False.elim h
 |int a =>
  have#[t,rfl]:=va;have#[b,rfl,h]:=yj (v:=b) h;have#[u,rfl]:=z;rcases J with rfl|rfl
  ·show P.iadd_int (jr.here h (.int _ _) R)
  ·show P.isub_int (jr.here h (.int _ _) R)
 |_=>show False.elim h
def FI {C:Cal}{sc:Scope}{d:Nat}{op:Bop}{i:Nat}{e:Ex}{x:Str}{k:NameKind}{y:Expr}{pos U:Pos}(J:op=.add\/op=.sub)(he:gc G C sc d e y)(hi:sc.names[i]?=some (x,k))(hk:Own G x k)(hx:jh x=true) :
  yg G C sc d (.aug i op e) (.AugAssign (.Name x U) (binOp op) y pos):=λ_ _ _ _ _ _ _ c h=>by
 have#[v,hv,h]:=h;have I:isVar k=true:=by cases k<;>first|rfl|show Bool.noConfusion hk.1
 apply wpAny_AugAssign_Name (gV c.eo c.F (by rw[c.es];show hi) I hx hv λw vr=>?_);apply qc (he c h) λu σ₁ s₁ z q W r x=>?_;apply dj (BA J r (vr.mono x.frz) W q) (λw' s' l=>?_) λ_ _ x=>x;have#[v',σ',q',O,r',B]:=l;apply yz c.eo ((c.F.evo x.e).evo B.e) r' (by rw[c.es];show hi) hk O λs2 F2 R2 x2=>?_;apply#[.next,_,σ',.next,q',F2,R2,(x.trans B).wide.trans x2]
end
end MP
end
section
namespace MP
set_option genInjectivity false
open PySem PyProof.Rows
variable {own:List Addr}{σ σ':St}{env:Env}{ρ:Fr}{h h':Heap}{s s':Shared}{i:Nat}{t:Tg}{x:Expr}{pos:Pos}
def FR.but {G:Stc}(F:FR G σ env ρ h)(hk:∀b o,b∉own->h.get? b=some o->h'.get? b=some o)(z:jq h h')(J:∀b∈own,b∉envX env):FR G σ env ρ h':=by
 have#[m,#[o,es,ep,B,r],hm]:=F.ns;have W:=hk _ _ (λq=>J _ q (.head _)) B;apply#[#[m,#[o,es,ep,W,r],λi y e=>(hm i y e).mono z],λi y k e O=>?_,F.inj,F.loc,λag e=>?_,F.new,λp I=>?_]
 ·have#[c,w,h1,#[oc,U,hd],h3,h4,h5]:=F.cells i y k e O;apply#[c,w,h1,#[oc,hk _ _ (λq=>J _ q (.tail _ (fj.mpr #[(y,c),mem_of_lookup h1,rfl]))) U,hd],h3.mono z,h4,h5]
 ·rw[W]at e;cases e;show F.notfrz o B
 ·have#[o,e]:=F.allc p I;apply#[o,hk _ _ (λq=>J _ q (.tail _ (fj.mpr #[p,I,rfl]))) e]
def Evo.but {X:List Addr}{h₀:Heap}(x:Evo X σ h₀ σ' h)(hk:∀b o,b∉own->h.get? b=some o->h'.get? b=some o)(O:∀b∈own,h₀.get? b=none):Evo X σ h₀ σ' h':=by
 have U:∀b o,h₀.get? b=some o->b∉own:=λb o e q=>by rw[O b q]at e;cases e
 apply#[λb o e nd J=>hk b o (U b o e) (x.keep b o e nd J),λb o e f=>hk b o (U b o e) (x.frz b o e f),x.dom,λb o e=>by have#[W,e₁]:=x.there b o e;apply#[W,hk b W (U b o e) e₁]]
abbrev zZ (s s':Shared):Prop:=s'.gens=s.gens/\s'.os=s.os
def zZ.rfl {W:Drawn}{tk:Tok}:zZ s #[h,s.gens,W,tk,s.os]:=#[Eq.refl _,Eq.refl _]
def Go.but {X:List Addr}{s₀:Shared}(x:Go X σ s₀ σ' s)(hk:∀b o,b∉own->s.heap.get? b=some o->s'.heap.get? b=some o)(g:zZ s s')(W:∀b∈own,s₀.heap.get? b=none):Go X σ s₀ σ' s':=#[x.e.but hk W,g.1.trans x.g,g.2.trans x.o]
abbrev L4 (own:List Addr)(pos:Nat->Heap->Prop):Prop:=∀i h h',pos i h->(∀b∈own,∀o,h.get? b=some o->h'.get? b=some o)->jq h h'->pos i h'
abbrev N8 (own:List Addr)(pos:Nat->Heap->Prop):Prop:=∀i h,pos i h->∀b∈own,∃o,h.get? b=some o/\¬Frz o
abbrev KZ (G:Stc)(it:Addr)(pos:Nat->Heap->Prop):Prop:=∀(A:Around) (E:QqV) (s:Shared) (i:Nat) (Q:QqV),pos i s.heap->Q (.ref it) s->wpAny G.M A (pyIter (.ref it)) Q E s
abbrev y6 (own:List Addr)(s s':Shared):Prop:=(∀b o,b∉own->s.heap.get? b=some o->s'.heap.get? b=some o)/\zZ s s'
abbrev L2 (G:Stc)(it:Addr)(own:List Addr)(vs:List V)(Gd:St->Prop)(tup:Bool)(pos:Nat->Heap->Prop):Prop:=∀(A:Around) (E:QqV) (s:Shared) (σ:St) (i:Nat) (v:V) (target:Expr) (Q:QqV),A.handled=none->Rel G σ s.heap->Gd σ->pos i s.heap->vs[i]?=some v->(tup=true->∃es k p,target=.Tuple es k p) ->
  (∀w s',y6 own s s'->(jq s.heap s'.heap->VR G s'.heap v w/\pos (i+1) s'.heap)->Q w s') ->
  wpAny G.M A (pyNext (.ref it)) (λr s₁=>match r with|none=>False|some w=>wpAny G.M A (letOwnedTupleGo target (.ref it) w) (λ_ s₂=>Q w s₂) E s₁) E s
abbrev KY (G:Stc)(it:Addr)(own:List Addr)(vs:List V)(Gd:St->Prop)(pos:Nat->Heap->Prop):Prop:=∀(A:Around) (E:QqV) (s:Shared) (σ:St) (i:Nat) (Q:Option Value->Shared->Prop),A.handled=none->Rel G σ s.heap->Gd σ->pos i s.heap->vs[i]?=none ->
  (∀s',y6 own s s'->Q none s')->wpAny G.M A (pyNext (.ref it)) Q E s
structure Itr (G:Stc) where
 it:Addr
 own:List Addr
 vs:List V
 Gd:St->Prop
 tup:Bool
 pos:Nat->Heap->Prop
 keep:L4 own pos
 obj:N8 own pos
 self:KZ G it pos
 next:L2 G it own vs Gd tup pos
 stop:KY G it own vs Gd pos
def lF {it:Addr}(h:Heap.SameBut it s.heap s'.heap)(g:zZ s s'):y6 [it] s s':=#[λb o hb e=>by rw[h.2 b λq=>hb (q▸.head _)];show e,g]
def kN {it:Addr}(h:Heap.ExtBut it s.heap s'.heap)(W:it∈own)(g:zZ s s'):y6 own s s':=#[λb o hb e=>h b o (λq=>hb (q▸W)) e,g]
section
variable {G:Stc}{C:Cal}{sc:Scope}{d:Nat}
def Itr.there (I:Itr G)(W:I.pos i h){b:Addr}(hb:b∈I.own):∃o,h.get? b=some o:=by have#[o,e,_]:=I.obj i h W b hb;apply#[o,e]
def Itr.x6 (I:Itr G)(W:I.pos i h){b:Addr}(hb:b∈I.own){o:Obj}(e:h.get? b=some o):¬Frz o:=by have#[o',U,f]:=I.obj i h W b hb;have rfl:=ah (e.symm.trans U);show f
def Itr.frz (I:Itr G)(W:I.pos i h)(hk:∀b o,b∉I.own->h.get? b=some o->h'.get? b=some o):jq h h':=λb o e f=>hk b o (λhb=>I.x6 W hb e f) e
def Itr.rel (I:Itr G)(W:I.pos i h)(R:Rel G σ h)(hd:∀b∈I.own,¬σ.dom b)(hb:∀b∈I.own,G.hb.get? b=none)(hk:∀b o,b∉I.own->h.get? b=some o->h'.get? b=some o):Rel G σ h':=
 R.same (λb o e U=>hk b o (λq=>hd b q U) e) (λb o e f=>hk b o (λq=>I.x6 W q e f) e) λb o e=>hk b o (λq=>by rw[hb b q]at e;cases e) (R.base b o e)
inductive DT (G:Stc)(σ:St)(s:Shared)(tupled:Bool)(P:List V->(St->Prop)->St->Prop)(itv:Value)(s':Shared):Prop
 |mk (I:Itr G) (σ':St):itv=.ref I.it->(I.tup=true->tupled=true)->P I.vs I.Gd σ'->I.pos 0 s'.heap->Rel G σ' s'.heap->Go [] σ s σ' s'->(∀b∈I.own,s.heap.get? b=none)->(∀b∈I.own,¬σ'.dom b)->DT G σ s tupled P itv s'
abbrev fI (G:Stc)(C:Cal)(sc:Scope)(d:Nat)(tupled:Bool)(it:It)(x:Expr):Prop:=
 ∀⦃A E env ρ σ P s⦄,Cx G sc d A env ρ σ s->uB C it ρ σ P->wpAny G.M A (eval x env) (λv s₁=>wpAny G.M A (pyIter v) (DT G σ s tupled P) E s₁) E s
abbrev LX (G:Stc)(X:List Addr)(env:Env)(σ:St)(s:Shared)(K:Fr->Prop)(s':Shared):Prop:=∃ρ',K ρ'/\FR G σ env ρ' s'.heap/\Rel G σ s'.heap/\Go X σ s σ s'
abbrev y4 (G:Stc)(C:Cal)(sc:Scope)(d:Nat)(t:Tg)(x:Expr):Prop:=
 ∀⦃A E env ρ σ K s v w⦄,Cx G sc d A env ρ σ s->VR G s.heap v w->qi t v σ ρ K->wpAny G.M A (assign x env w) (λ_ s'=>LX G (envX env) env σ s K s') E s
abbrev isTup (x:Expr):Bool:=hV 25 x
abbrev gS (x:Expr):List Str:=bif hV 23 x then [mx x] else bif hV 25 x then wK (kids x) else []
abbrev we (G:Stc)(C:Cal)(sc:Scope)(d:Nat)(t:Tg)(x:Expr):Prop:=
 ∀⦃A E X env ρ σ K s v w⦄,env.locals∈X->(∀y∈gS x,∀c,env.cells.lookup y=some c->c∈X)->Cx G sc d A env ρ σ s->VR G s.heap v w->qi t v σ ρ K->wpAny G.M A (assign x env w) (λ_ s'=>LX G X env σ s K s') E s
def we.plain (h:we G C sc d t x):y4 G C sc d t x:=λ_ _ _ _ _ _ _ _ _ c vr q=>h (.head _) (λy _ c W=>.tail _ (fj.mpr #[(y,c),mem_of_lookup W,rfl])) c vr q
def EK {x:Str}{k:NameKind}(hi:sc.names[i]?=some (x,k))(hk:Own G x k):we G C sc d (.v i) (.Name x pos):=λ_ _ _ _ _ _ _ _ _ _ W U c vr h =>
 assign_Name (fX c.eo c.F c.R (by rw[c.es];show hi) hk vr W (U x (.head _)) λs' J O x=>#[_,h,J,O,x])
def EL {is:List Nat}{l:List Expr}{k:Nat}(U:zY G)(I:qB G.cap sc is=true):we G C sc d (.T is) (.Tuple (tc sc is l) k pos):=λ_ _ _ _ _ _ _ _ _ _ O J c vr h=>by
 have#[vs,e,hl,q]:=h;rw[assign_Tuple];apply ab (gw ?_);unfold unpack;rw[iN,fZ,hl];apply ab (dp (wd U c.ao.handled c.R vr e λws h' W z hk=>?_));apply jE c.es c.eo O is l I hl J (c.F.evo (Evo.keeps hk)) z W λs2 F2 B x2=>?_;apply#[_,q,F2,B,(Evo.keeps hk).trans x2.e,x2.g,x2.o]
inductive nF (I:Itr G)(env:Env)(σ:St)(s:Shared)(T:V->Fr->St->(Fr->St->Prop)->Prop)(K:Fr->St->Prop)(n:Nat)(s':Shared):Prop
 |mk (i:Nat) (σ':St) (ρ':Fr):n=I.vs.length-i->I.pos i s'.heap->FR G σ' env ρ' s'.heap->Rel G σ' s'.heap->Go (envX env) σ s σ' s'->(∀b∈I.own,¬σ'.dom b)->vI (I.vs.drop i) I.Gd T ρ' σ' K->nF I env σ s T K n s'
def nF.next {I:Itr G}{T:V->Fr->St->(Fr->St->Prop)->Prop}{K:Fr->St->Prop}{ρ':Fr}(lt:i<I.vs.length)(W:I.pos (i+1) s'.heap)(F:FR G σ' env ρ' s'.heap)(R:Rel G σ' s'.heap)(x:Go (envX env) σ s σ' s')(hd:∀b∈I.own,¬σ'.dom b)(q:vI (I.vs.drop (i+1)) I.Gd T ρ' σ' K) :
  ∃m,m<I.vs.length-i/\nF I env σ s T K m s':=#[_,by show fy .B .d (.e (.a .A .T) .D) .b8 (aa (av .S .a .B lt)) (aa (av .A .a .B lt)),i+1,σ',ρ',rfl,W,F,R,x,hd,q]
def Itr.AM {I:Itr G}{Y:List Addr}{W σb:St}{J hb:Heap}{j:Nat}(B:∀b∈I.own,b∉Y)(O:I.pos j J)(hd:∀c∈I.own,¬W.dom c)(x:Evo Y W J σb hb):I.pos j hb/\∀c∈I.own,¬σb.dom c:=
 #[I.keep _ _ _ O (λc U o e=>x.keep c o e (hd c U) (B c U)) x.frz,λc U z=>(x.dom c z).elim (hd c U) λq=>by have#[o,e]:=I.there O U;rw[e]at q;cases q]
def xX {l:List V}{v:V}(e:l[i]?=some v):i<l.length/\l.drop i=v::l.drop (i+1):=by
 have h:=cy.mp e;apply#[h.1,?_];rw[cg h.1,h.2]
def tG (h:isTup x=true):∃es k p,x=.Tuple es k p:=by
 cases x<;>first|refine⟨_,_,_,rfl⟩|show Bool.noConfusion h
def kL (F:FR G σ env ρ h)(O:∀b∈own,h.get? b=none):∀b∈own,b∉envX env:=λb hb U=>by
 rcases cz.mp U with rfl|U
 ·have#[m,#[o,I,ep,W,_],_]:=F.ns;rw[O _ hb]at W;cases W
 ·have#[p,J,rfl]:=fj.mp U;have#[o,W]:=F.allc p J;rw[O _ hb]at W;cases W
def zc (R:Rel G σ h)(W:∀b∈own,h.get? b=none):∀b∈own,G.hb.get? b=none:=λb hb=>by
 cases hq:G.hb.get? b with
 |none=>rfl
 |some o=>have:=R.base b o hq;rw[W b hb]at this;cases this
def zL {b:pq}{ys:List Stmt}(ht:y4 G C sc d t x)(hb:fH G C sc d b ys){A:Around}{E:QqV}{I:Itr G}{σ₀:St}{s₁:Shared}{K:Fl->Fr->St->Prop}{v:V}{w:Value}(c:Cx G sc d A env ρ σ s₁)
  (hX:∀b∈I.own,b∉envX env) (lt:i<I.vs.length) (x0:Go (envX env) σ₀ s σ s₁) (hp:I.pos (i+1) s₁.heap) (hd:∀b∈I.own,¬σ.dom b) (vr:VR G s₁.heap v w)
  (hf:qi t v σ ρ λρ=>gq C b ρ σ (wi (λρ σ=>vI (I.vs.drop (i+1)) I.Gd (λv ρ σ k=>qi t v σ ρ λρ=>gq C b ρ σ (wi k K)) ρ σ λρ σ=>K .next ρ σ) K))
  {Qp:Flow->Shared->Prop} (h1:∀s',(∃m,m<I.vs.length-i/\nF I env σ₀ s (λv ρ σ k=>qi t v σ ρ λρ=>gq C b ρ σ (wi k K)) (λρ σ=>K .next ρ σ) m s')->Qp .next s'/\Qp .cont s') (h2:∀s',qj G env σ₀ s K .next s'->Qp .brk s') (h3:∀w s',qj G env σ₀ s K (.ret w) s'->Qp (.ret w) s') :
  wpAny G.M A (assign x env w) (λ_ ai=>wpAny G.M A (execs ys env) Qp E ai) E s₁:=by
 apply dj (ht c vr hf) (λ_ ai l=>?_) λ_ _ x=>x;have#[bd,ao,bc,ay,ag]:=l;have#[be,ax]:=I.AM hX hp hd ag.e;apply dj (hb (c.at bc ay) ao) (λf bl l=>?_) λ_ _ x=>x;have#[fl,B,J,a,W,O,U,z]:=l;have#[ar,aj]:=I.AM hX be ax z.e;have x5:=(x0.trans ag).trans z;cases a with
 |next=>show(h1 _ (nF.next lt ar O U x5 aj W)).1
 |cont=>show(h1 _ (nF.next lt ar O U x5 aj W)).2
 |brk=>show h2 _ #[.next,B,J,.next,W,O,U,x5]
 |ret v=>show h3 _ _ #[_,B,J,.ret v,W,O,U,x5]
def AZ {it:It}{b:pq}{y:Expr}{ys:List Stmt}(ht:y4 G C sc d t x)(hi:fI G C sc d (isTup x) it y)(hb:fH G C sc d b ys)(hs:∀env v,foldedSetIterable y env v=pure v) :
  yg G C sc d (.each t it b) (.For x y ys [] pos):=λA E env ρ σ K s c h=>by
 apply wpAny_For (dj (hi c h) (λv s₁ h₁=>dj h₁ (λbd s₂ l=>?_) λ_ _ x=>x) λ_ _ x=>x) (hs env);have#[I,σ₁,rfl,ar,hf,hp,r,ai,O,ay]:=l;have ag:=zc c.R O;have hX:=kL c.F O;apply codeAny_forLoop_any (nF I env σ s (λv ρ σ k=>qi t v σ ρ λρ=>gq C b ρ σ (wi k K)) λρ σ=>K .next ρ σ) ?_ (I.vs.length-0)
  #[0,σ₁,ρ,rfl,hp,c.F.evo ai.e,r,ai.wide,ay,hf]
 intro n s' z;have#[i,σ',ρ',rfl,U,F',R',x',B,J]:=z;cases hq:I.vs[i]? with
 |none =>
  rw[List.drop_eq_nil_of_le (fA.mp hq)]at J;apply I.stop A _ s' σ' i _ c.ao.handled R' J.1 U hq λs2 g=>?_;have#[W,g2]:=g;show wpAny_execs_nil #[.next,ρ',σ',.next,J.2,F'.but W (I.frz U W) hX,I.rel U R' B ag W,x'.but W g2 O]
 |some v =>
  have#[bc,aj]:=xX hq;rw[aj]at J;apply dj (I.next A _ s' σ' i v x ?Q c.ao.handled R' J.1 U hq (λq=>tG (ar q)) ?k) (λr s₁ hr=>?m) λ_ _ x=>x
  case m =>
   cases r with
   |none=>show hr.elim
   |some w=>show hr
  case k =>
   intro w s2 g z;have#[W,g2]:=g;have#[vr,ax]:=z (I.frz U W);show zL ht hb (c.at (F'.but W (I.frz U W) hX) (I.rel U R' B ag W)) hX bc (x'.but W g2 O) ax B vr J.2 (λ_ q=>#[q,q]) (λ_ q=>q) λ_ _ q=>q
end
end MP
end
section
set_option tactic.hygienic true
namespace MP
open PySem PyProof.Rows
abbrev ownsTuple (n:String):Bool:=["enumerate","zip","dict_itemiterator","dict_reverseitemiterator","odict_iterator","itertools.zip_longest","itertools.pairwise"].contains n
section
variable {G:Stc}{A:Around}{E:QqV}{s:Shared}
def xt {it:Addr}{o:Obj}{n:String}{target:Expr}{w:Value}{Q:Unit->Shared->Prop}(W:s.heap.get? it=some o)(O:o.cls=.type n)(U:ownsTuple n=false)(h:Q () s):wpAny G.M A (letOwnedTupleGo target (.ref it) w) Q E s:=by
 have go:wpAny G.M A (do
   let (.ref r,.ref a):=(Value.ref it,w)|return
   let o←load r
   match o.cls,o.data with
   |.type n,.fields vs=>if (ownsTuple n&&vs[0]?==some (rawInt a))=true then do rule "for.unpacks-the-owned-tuple";updateField r 0 .none else pure ()
   |_,_=>pure ():Sem Unit) Q E s:=by
  cases w with
  |ref a =>
   apply ab (yh W ?_);rw[O];cases o.data with
   |fields vs =>
    show wpAny _ _ (if (ownsTuple n&&vs[0]?==some (rawInt a))=true then _ else _) _ _ _;rw[U,Bool.false_and,bb (by decide)];show af h
   |_=>show af h
  |_=>show af h
 cases target<;>first|show go|show af h
def oa {o:Obj}{n:String}{vs:Array Value}(W:o.cls=.type n)(hd:o.data=.fields vs)(O:n ≠ "builtin_function_or_method")(U:n ≠ "method-wrapper"):¬Frz o:=by
 rintro (⟨_,_,_,h⟩|⟨h|h,_⟩|⟨_,h⟩)
 ·rw[hd]at h;cases h
 ·rw[W]at h;injection h with h;show O h
 ·rw[W]at h;injection h with h;show U h
 ·rw[hd]at h;cases h
abbrev GJ (G:Stc)(it l:Addr)(hne:l≠it)(xs:List V):Itr G where
 it:=it
 own:=[it]
 vs:=xs
 Gd:=λτ=>τ.L l=some xs
 tup:=false
 pos:=λi h=>h.IsListIter it l i
 keep:=λi h h' zz3 hk _=>by have#[o,ho,r]:=zz3;apply#[o,hk it (.head _) o ho,r]
 obj:=λi h z b hb=>by have#[o,ho,hc,hd]:=z;have rfl:=ak.mp hb;apply#[o,ho,oa hc hd (by decide) (by decide)]
 self:=λA E s i Q hp q=>wpAny_pyIter_listiter hp q
 next:=λA E s σ i v target Q hh R hg hp hv htup k=>by
  have#[ws,n,hl,hvs]:=R.L l xs hg;have#[w,hw,vr]:=hvs.get hv;apply wpAny_pyNext_list_item hp hl.isList (by simpa using hw) λh' hp' hs=>?_;have#[o,ho,hc,hd]:=id hp';show xt ho hc (by decide) (k w _ (lF hs .rfl) λhf=>#[vr.mono hf,hp'])
 stop:=λA E s σ i Q hh R hg hp hv k=>by
  have#[ws,n,hl,hvs]:=R.L l xs hg;have hlen:=hvs.length;show wpAny_pyNext_list_end hh hp hl.isList (by simpa[<- hlen] using hv) λh' he=>k _ (kN he (.head _) .rfl)
end
end MP
end
section
namespace MP
open PySem PyProof.Rows
section
variable {G:Stc}{A:Around}{E:QqV}{s:Shared}
abbrev NA (h:Heap)(it a:Addr)(f:Value)(i n ep:Nat):Prop:=
 ∃o,h.get? it=some o/\o.cls=.type "set_iterator"/\o.data=.fields #v[f,.int i 0,.ref a,.int n 0,.int ep 0]
def NA.typeIs {it a f i n ep}(x:NA s.heap it a f i n ep):s.TypeIs (.ref it) "set_iterator":=by
 have#[o,W,U,_]:=x;apply#[o,W,U]
def uO {prog:Program}{w:World}{α:Type}{Q:α->Shared->Prop}(W:A.handled=none)
  (h:∀h' e,(∀b o,s.heap.get? b=some o->h'.get? b=some o)->(∃o,h'.get? e=some o/\o.cls=.type "StopIteration")->E (.ref e) {s with heap:=h'}):wpAny (model prog w) A (newExc (.type "StopIteration") []>>=raiseNew) Q E s:=by
 apply ab ?_;unfold newExc newTuple;apply ab (lu ?_ (by size_fits));apply ab (m:=firstArgMember _ _) (fo (a:=Value.none) (by first|rfl|(simp only[firstArgMember];rfl)) ?_);apply lu ?_ (by size_fits);unfold raiseNew;apply ab (wpAny_handled ?_);rw[W];show ab (af (wpAny_throw (h _ _ (λb o e=>ba _ (ba _ e)) #[_,eg _ rfl,rfl])))
section
variable {it a:Addr}{o:Obj}{es:Array (Int×Value)}{ep i:Nat}{t:SetTable}{Q:Option Value->Shared->Prop}
end
end
section
variable {G:Stc}{A:Around}{E:QqV}{s:Shared}{σ:St}
def mh {env:Env}{x:Str}{pos:Pos}{v:Value}{Q:QqV}(K:GOk G)(B:zr env)(R:Rel G σ s.heap)(hx:env.scope.names.lookup x=some .globalImplicit)(hn:jh x=true)(W:G.gl x=some v)(h:Q v s):wpAny G.M A (eval (.Name x pos) env) Q E s:=by
 have J:(x==("__debug__":Str))=false:=by simp only[jh,dw,gi]at hn;show hn.1
 apply Calls.Name_function_global B.kind hx ?_ J;have#[z,mb,hg,hb,e]:=K.names;rw[e]at W;have U:s.heap.Ns env.globals z:=by rw[B.globals];show hg.keeps R.base
 have I:s.heap.Ns env.builtins mb:=by rw[B.builtins];show hb.keeps R.base
 cases O:z x with
 |some u=>rw[O]at W;cases W;show Calls.loadGlobal_global U O h
 |none=>rw[O]at W;show Calls.loadGlobal_builtin U O I W h
end
variable {A:Around}{E:QqV}{σ:St}{x:Str}{p pos:Pos}{tupled:Bool}
abbrev CJ (G:Stc)(it:Addr)(a c:Int)(n:Nat)(xs:List V)(hl:xs.length=n)(hx:∀i,i<n->xs[i]?=some (.int (a+c*i))):Itr G where
 it:=it
 own:=[it]
 vs:=xs
 Gd:=λ_=>True
 tup:=false
 pos:=λi h=>i<=n/\IsRangeIter h it (a+c*i) (n-i) c
 keep:=λi h h' zz3 hk _=>by have#[hi,hp]:=zz3;apply#[hi,hk it (.head _) _ hp]
 obj:=λi h z b hb=>by have#[_,hp]:=z;have rfl:=ak.mp hb;apply#[_,hp,oa rfl rfl (by decide) (by decide)]
 self:=λA E s i Q hp q=>wpAny_pyIter_rangeiter hp.2 q
 next:=λA E s σ i v target Q hh R hg hp hv htup k=>by
  have#[hi,hp]:=hp;have hlt:i<n:=by rw[<- hl];show(cy.mp hv).1
  obtain rfl:v=.int (a+c*i):=ah (hv.symm.trans (hx i hlt));apply wpAny_pyNext_range_item hp (av (.il .O (.s .L .P)) .a .Y hlt) λh' hp' hs=>?_;have e:a+c*i+c=a+c*((i+1:Nat):Int):=by push_cast;rw[Int.mul_add];(show N2 (.ie (.a (.a .A .B) .C) (.a .A (.a .B (.r .C 1)))) .n)
  have e2:(n:Int)-i-1=n-((i+1:Nat):Int):=by(show my (.ie (.s (.s .L .P) .U) (.s .L (.t .P))) .n)
  rw[e,e2]at hp';show xt hp' rfl (by decide) (k _ _ (lF hs .rfl) λ_=>#[.int _ _,hlt,hp'])
 stop:=λA E s σ i Q hh R hg hp hv k=>by
  have#[hi,hp]:=hp;have hge:n<=i:=by rw[<- hl];show fA.mp hv
  show wpAny_pyNext_range_end hh hp (av (.ik (.s .L .P) .O) .a .A hge) λh' he=>k _ (kN he (.head _) .rfl)
def BH {a b c:Int}(ha:a.natAbs<2^40)(hb:b.natAbs<2^40)(I:0<c)(J:c<2^40):Builtin.Range.small a b c=true:=by
 have z:0<=Builtin.Range.rangeSize a b c/\Builtin.Range.rangeSize a b c<=2^42:=by
  unfold Builtin.Range.rangeSize;rw[cp I];split
  ·rename_i h;have h0:0<=b-a-1:=by(show sh (.ik .O (.s (.s .A .B) .U)) .a .b5 h)
   have h1:=Int.ediv_nonneg h0 (Int.le_of_lt I);have h2:=Int.ediv_le_self c h0;generalize (b-a-1)/c=X at h1 h2 ⊢;omega
  ·(show#[(zo (.ik .O .O) .h),(zo (.ik .O (.n (2^42))) .h)])
 unfold Builtin.Range.small Builtin.Range.rangeFitsLong;rw[cp I];simp only[dw,vt,fL];apply#[#[#[#[by show#[((Ar.nab _).elim (λW=>(kh .aB .a .a9 W.1)) λW=>(sg .aB .d .a1 .aN ha W.2)),((Ar.nab _).elim (λW=>(sg .aU .d .a1 .aG ha W.2)) λW=>(kh .aU .a .aP W.1))],by show#[((Ar.nab _).elim (λW=>(kh .aB .a .a9 W.1)) λW=>(sg .aB .d .a1 .aN hb W.2)),((Ar.nab _).elim (λW=>(sg .aU .d .a1 .aG hb W.2)) λW=>(kh .aU .a .aP W.1))]],by show#[(kh .aB .a .bL I),(kh .aU .a (.il .A (.n (2^40))) J)]],by show#[(kh .aB .a .a9 z.1),(kh .aU .a (.ik .A (.n (2^42))) z.2)]],.inr (#[((Ar.nab _).elim (λW=>(n4 (.ik (.g .M) .Q) .b (.il .O .B) .a9 I W.1)) λW=>(IP (.ik (.g .M) .Q) .s .a1 (.il .O .B) .aN hb I W.2)),((Ar.nab _).elim (λW=>(IP (.il .Q .M) .s .a1 (.il .B (.n (2^40))) .aG hb J W.2)) λW=>(n4 (.il .Q .M) .b (.il .B (.n (2^40))) .aP J W.1))])]
section
variable {G:Stc}{C:Cal}{sc:Scope}{d:Nat}
def wo {s:Shared}{env:Env}{ρ:Fr}{T:String}{es:Exs}{args:List Expr}{P:List V->St->Prop}{Q:QqV}(K:GOk G)(U:noStar args=true)(W:pe G C sc d es args)(O:sc.names.lookup x=some .globalImplicit)(I:jh x=true)(J:G.gl x=some (.type T))(c:Cx G sc d A env ρ σ s)(h:uv C es ρ σ P)
  (k:∀vs σ₁ s₁ ws,P vs σ₁->VRs G s₁.heap vs ws->Rel G σ₁ s₁.heap->Go [] σ s σ₁ s₁->wpAny G.M A (call (.type T) ws) Q E s₁) :
  wpAny G.M A (eval (.Call (.Name x p) args [] pos) env) Q E s:=
 Call_ (mh K c.eo c.R (by rw[c.es];show O) I J (eE (jy U pos env) (om (jy U pos env) (nP (W c h) k))))
def lA {s:Shared}{env:Env}{ρ:Fr}{id:String}{es:Exs}{args:List Expr}{P:List V->St->Prop}{Q:QqV}(K:GOk G)(J:noStar args=true)(W:pe G C sc d es args)(U:sc.names.lookup x=some .globalImplicit)(I:jh x=true)(O:G.gl x=some (.builtin id))(c:Cx G sc d A env ρ σ s)(h:uv C es ρ σ P)
  (k:∀vs σ₁ s₁ ws,P vs σ₁->VRs G s₁.heap vs ws->Rel G σ₁ s₁.heap->Go [] σ s σ₁ s₁->wpAny G.M A (call (.builtin id) ws) Q E s₁) :
  wpAny G.M A (eval (.Call (.Name x p) args [] pos) env) Q E s:=
 Call_ (mh K c.eo c.R (by rw[c.es];show U) I O (su J W c h k))
def lG {σ₀:St}{s₀:Shared}{a b c:Int}{t u v:Tok}{xs:List V}{n:Nat}{P:List V->(St->Prop)->St->Prop}{tk:Nat}{dr:Drawn}{s₁:Shared}(R:Rel G σ s₁.heap)(x:Go [] σ₀ s₀ σ s₁)(ha:a.natAbs<2^40)(hb:b.natAbs<2^40)(hc:0<c)(J:c<2^40)
  (O:Builtin.Range.rangeSize a b c=n) (hl:xs.length=n) (B:∀i,i<n->xs[i]?=some (.int (a+c*i))) (q:P xs (λ_=>True) σ) :
  wpAny G.M A (pyIter (.ref s₁.heap.objs.size)) (DT G σ₀ s₀ tupled P) E #[s₁.heap.push {cls:=.type "range",data:=.fields #v[.int a t,.int b u,.int c v]},s₁.gens,dr,tk,s₁.os]:=by
 apply wpAny_pyIter_range (IsRange.new ..) (BH ha hb hc J) ?_;have hk:∀z o,s₁.heap.get? z=some o->((s₁.heap.push {cls:=.type "range",data:=.fields #v[.int a t,.int b u,.int c v]}).push {cls:=.type "range_iterator",data:=.fields #v[rawInt a,rawInt (Builtin.Range.rangeSize a b c),rawInt c]}).get? z=some o:=λz o e=>ba _ (ba _ e);have U:(s₁.heap.push {cls:=.type "range",data:=.fields #v[.int a t,.int b u,.int c v]}).objs.size=s₁.heap.objs.size+1:=ic ..;have W:s₁.heap.get? (s₁.heap.objs.size+1)=none:=qu (nu (.k .A .M) .h);apply#[CJ G (s₁.heap.objs.size+1) a c n xs hl B,σ,by rw[<- U];rfl,λh=>(nomatch h),q,#[bq _,?_],R.keeps hk,x.to (Evo.keeps hk),λz hz=>?_,λz hz dm=>?_]
 ·rw[<- U];have:=eg (s₁.heap.push {cls:=.type "range",data:=.fields #v[.int a t,.int b u,.int c v]}) (o:={cls:=.type "range_iterator",data:=.fields #v[rawInt a,rawInt (Builtin.Range.rangeSize a b c),rawInt c]}) rfl;show IsRangeIter _ _ (a+c*((0:Nat):Int)) ((n:Int)-((0:Nat):Int)) c;rw[show a+c*((0:Nat):Int)=a by simp,show(n:Int)-((0:Nat):Int)=n by simp,<- O];show this
 ·have rfl:=ak.mp hz;show x.new W
 ·have I:=ak.mp hz;clear hz;have rfl:=I;have#[o,e]:=R.pn dm;rw[W]at e;cases e
def lV (a b:Int)(n:Nat)(W:n=(b-a).toNat):(rp a b).length=n/\∀i,i<n->(rp a b)[i]?=some (.int (a+1*i)):=by
 subst W;apply#[by simp[rp],λi hi=>?_];unfold rp;rw[dq,dC hi];simp
def GN {e:Ex}{y:Expr}(K:GOk G)(z:gc G C sc d e y)(U:noStar [y]=true)(J:sc.names.lookup x=some .globalImplicit)(B:jh x=true)(I:G.gl x=some (.type "range")) :
  fI G C sc d tupled (.rng1 e) (.Call (.Name x p) [y] [] pos):=λA E env ρ σ P s c h=>by
 have O:pe G C sc d %[e|0] [y]:=jx z nz (gm U).1;apply wo (P:=λvs σ=>on1 vs λv=>∃n:Int,v=.int n/\n.natAbs<2^40/\P (rp 0 n) (λ_=>True) σ) K U O J B I c h λvs σ₁ s₁ ws q vr r W=>?_;have#[v,rfl,n,rfl,hb,q]:=jI (vs:=vs) q;have#[w,rfl,t,rfl]:=vr.one;have#[g1,g2]:=lV 0 n _ rfl;show call_range_1 (lG r W (by decide) hb (by decide) (by decide) (by rw[rangeSize_nat]) g1 g2 q)
def GL {e f:Ex}{y z:Expr}(K:GOk G)(he:gc G C sc d e y)(hf:gc G C sc d f z)(W:noStar [y,z]=true)(J:sc.names.lookup x=some .globalImplicit)(B:jh x=true)(I:G.gl x=some (.type "range")) :
  fI G C sc d tupled (.rng2 e f) (.Call (.Name x p) [y,z] [] pos):=λA E env ρ σ P s c h=>by
 have O:pe G C sc d %[e,f|0] [y,z]:=jx he (jx hf nz (gm (gm W).2).1) (gm W).1;apply wo (P:=λvs σ=>on2 vs λv u=>∃m n:Int,v=.int m/\u=.int n/\m.natAbs<2^40/\n.natAbs<2^40/\P (rp m n) (λ_=>True) σ) K W O J B I c h λvs σ₁ s₁ ws q vr r U=>?_;have#[v,u,rfl,m,n,rfl,rfl,ha,hb,q]:=oK (vs:=vs) q;have#[w,w',rfl,#[t,rfl],#[t',rfl]]:=vr.two;have#[g1,g2]:=lV m n _ rfl;show call_range_2 (lG r U ha hb (by decide) (by decide) (by rw[rangeSize_nat]) g1 g2 q)
def VRs.three {h:Heap}{v u z:V}{ws:List Value}(x:VRs G h [v,u,z] ws):∃w U W,ws=[w,U,W]/\VR G h v w/\VR G h u U/\VR G h z W:=by
 have#[w,us,e,a,r]:=x;have#[U,W,O,b,c]:=VRs.two r;apply#[w,U,W,e.trans (di (w::·) O),a,b,c]
end
section
variable {G:Stc}
end
abbrev K6 (G:Stc)(it t:Addr)(xs:List V):Itr G where
 it:=it
 own:=[it]
 vs:=xs
 Gd:=λ_=>True
 tup:=false
 pos:=λi h=>IsTupIter h it t i/\t≠it/\∃ws n,IsT h t ws.toArray n/\VRs G h xs ws
 keep:=λi h h' zz3 hk hf=>by have#[#[o,ho,r],hne,ws,n,ht,vr]:=zz3;apply#[#[o,hk it (.head _) o ho,r],hne,ws,n,hf t _ (show h.get? t=some {cls:=.type "tuple",dict:=none,data:=.seq ws.toArray n,slots:=#v[]} from ht) (.inl #[show Value.type "tuple" ≠ .type "list" by decide,_,_,rfl]),vr.mono hf]
 obj:=λi h z b hb=>by have#[#[o,ho,hc,hd],_]:=z;have rfl:=ak.mp hb;apply#[o,ho,oa hc hd (by decide) (by decide)]
 self:=λA E s i Q hp q=>wpAny_pyIter_tupleiter hp.1 q
 next:=λA E s σ i v target Q hh R hg hp hv htup k=>by
  have#[hp,hne,ws,n,ht,vrs]:=hp;have#[w,hw,vr]:=vrs.get hv;apply next_tuple_item hp #[_,ht,rfl,n,rfl] (by simpa using hw) λh' hp' hs=>?_;have#[o,ho,hc,hd]:=id hp';show xt ho hc (by decide) (k w _ (lF hs .rfl) λhf=>#[vr.mono hf,hp',hne,ws,n,by rw[IsT,hs.2 _ hne];show ht,vrs.mono hf])
 stop:=λA E s σ i Q hh R hg hp hv k=>by
  have#[hp,hne,ws,n,ht,vrs]:=hp;have hlen:=vrs.length;show next_tuple_end hh hp #[_,ht,rfl,n,rfl] (by simpa[<- hlen] using hv) λh' he=>k _ (kN he (.head _) .rfl)
section
variable {G:Stc}{C:Cal}{sc:Scope}{d:Nat}
def K7 {tupled:Bool}{e:Ex}{y:Expr}(B:gc G C sc d e y):fI G C sc d tupled (.seq e) y:=λA E env ρ σ P s c h=>by
 apply qc (B c h) λv σ₁ s₁ w q vr r x=>?_;have W:s₁.heap.get? s₁.heap.objs.size=none:=none_at_size s₁.heap;have U:s.heap.get? s₁.heap.objs.size=none:=x.new W;have O:¬σ₁.dom s₁.heap.objs.size:=λdm=>by have#[o,e]:=r.pn dm;rw[W]at e;cases e
 cases v with
 |L a =>
  have rfl:=vr;have#[xs,e,q]:=q;have#[ws,n,hl,hv]:=r.L _ _ e;have J:=jt (ip hl);apply jT hl.isList ?_;apply#[GJ G s₁.heap.objs.size _ J xs,σ₁,rfl,λh=>(nomatch h),q,#[_,eg _ rfl,rfl,rfl],r.push _,x.to (Evo.push _ _ _ _),λz hz=>by have rfl:=ak.mp hz;show U,λz hz=>by have rfl:=ak.mp hz;show O]
 |T xs =>
  have#[a,ws,n,rfl,g,I]:=vr;have J:=jt (ip g);apply iter_tuple #[_,g,rfl,_,rfl] ?_;apply#[K6 G s₁.heap.objs.size _ _,σ₁,rfl,λh=>(nomatch h),q,#[#[_,eg _ rfl,rfl,rfl],J,_,_,g.push _,I.mono λ_ _ e _=>ba _ e],r.push _,x.to (Evo.push _ _ _ _),λz hz=>by have rfl:=ak.mp hz;show U,λz hz=>by have rfl:=ak.mp hz;show O]
 |_=>show False.elim q
end
abbrev GK (G:Stc)(e it l:Addr)(hle:l≠e)(hli:l≠it)(hei:e≠it)(xs:List V):Itr G where
 it:=e
 own:=[e,it]
 vs:=xs.zipIdx.map λp=>V.T [.int p.2,p.1]
 Gd:=λτ=>τ.L l=some xs
 tup:=true
 pos:=λi h=>(∃old,IsEnum h e it i old)/\h.IsListIter it l i
 keep:=λi h h' zz3 hk _=>by have#[#[old,he],#[o,ho,r]]:=zz3;apply#[#[old,hk e (.head _) _ he],#[o,hk it (.tail _ (.head _)) o ho,r]]
 obj:=λi h z b hb=>by
  have#[#[old,he],#[o,ho,hc,hd]]:=z;rcases cz.mp hb with rfl|hb
  ·apply#[_,he,oa rfl rfl (by decide) (by decide)]
  ·have rfl:=ak.mp hb;apply#[o,ho,oa hc hd (by decide) (by decide)]
 self:=λA E s i Q hp q=>by have#[#[old,he],_]:=hp;show wpAny_pyIter_enum he q
 next:=λA E s σ i v target Q hh R hg hp hv htup k=>by
  have#[#[old,he],hit]:=hp;have#[ws,n,hl,hvs]:=R.L l xs hg;rw[dq,List.getElem?_zipIdx]at hv;cases hxi:xs[i]? with
  |none=>rw[hxi]at hv;cases hv
  |some u =>
   rw[hxi]at hv;simp only[cX,gf,mj]at hv;subst hv;have#[w,hw,vr]:=hvs.get hxi;have#[es,kk,p,rfl]:=htup rfl;apply wpAny_pyNext_enum_item he hit hl.isList (by simpa using hw) hei λh' heo hit' htp hz hk=>?_;apply wpAny_letOwnedTupleGo_enum heo λh₂ he₂ hs₂=>?_;have old':∀b o,b∉[e,it]->s.heap.get? b=some o->h₂.get? b=some o:=λb o hb eb=>by
    have hbe:b≠e:=λq=>hb (q▸.head _);rw[hs₂.2 b hbe];show hk b o hbe (λq=>hb (q▸.tail _ (.head _))) eb
   have hne:s.heap.objs.size≠e:=λq=>je e (Nat.lt_of_lt_of_eq (ip he) q);have htp2:IsT h₂ s.heap.objs.size [Value.int i s.toks,w].toArray 0:=by
    show h₂.get? _=_;rw[hs₂.2 _ hne];show htp
   have#[o,ho,r]:=hit';show k _ _ #[old',.rfl] λhf=>#[.T htp2 %[.int _ _,vr.mono hf|0],#[_,by exact_mod_cast he₂],o,by rw[hs₂.2 _ hei.symm];show ho,r]
 stop:=λA E s σ i Q hh R hg hp hv k=>by
  have#[#[old,he],hit]:=hp;have#[ws,n,hl,hvs]:=R.L l xs hg;have hlen:=hvs.length;have hx:xs[i]?=none:=by
   rw[dq,List.getElem?_zipIdx]at hv;cases hxi:xs[i]? with
   |none=>rfl
   |some u=>rw[hxi]at hv;cases hv
  show wpAny_pyNext_enum_end hh he hit hl.isList (by simpa[<- hlen] using hx) λh' hx'=>k _ (kN hx' (.tail _ (.head _)) .rfl)
section
variable {G:Stc}{C:Cal}{sc:Scope}{d:Nat}
def GO {e:Ex}{x:Str}{y:Expr}{p pos:Pos}(K:GOk G)(he:gc G C sc d e y)(O:noStar [y]=true)(hx:sc.names.lookup x=some .globalImplicit)(hn:jh x=true)(hv:G.gl x=some (.type "enumerate")) :
  fI G C sc d true (.enum e) (.Call (.Name x p) [y] [] pos):=λA E env ρ σ P s c h=>by
 have I:pe G C sc d %[e|0] [y]:=jx he nz (gm O).1;apply wo (P:=λvs σ=>on1 vs λv=>∃(a:Addr) (xs:List V),v=.L a/\σ.L a=some xs/\P (xs.zipIdx.map λp:V×Nat=>V.T [.int p.2,p.1]) (λτ=>τ.L a=some xs) σ) K O I hx hn hv c h λvs σ₁ s₁ ws q vr r W=>?_;have#[v,rfl,a,xs,rfl,e1,q]:=jI (vs:=vs) q;have#[w,rfl,rfl]:=vr.one;have#[us,n,hl,ag]:=r.L _ _ e1;have J:=ip hl;apply call_enumerate_list hl.isList λh' B hI hz hk=>?_;apply wpAny_pyIter_enum B ?_;have fresh:∀z,s₁.heap.objs.size<=z->s₁.heap.get? z=none:=λz hz=>qu hz;apply#[GK G (s₁.heap.objs.size+1) s₁.heap.objs.size a (jt (yb J)) (jt J) (Nat.succ_ne_self _) xs,σ₁,rfl,λ_=>rfl,q,#[#[_,B],hI],r.keeps hk,W.to (Evo.keeps hk),λz hz=>?_,λz hz dm=>?_]
 ·have U:s₁.heap.objs.size<=z:=by
   rcases cz.mp hz with rfl|hz
   ·(show nu (.k .A .M) .h)
   ·have rfl:=ak.mp hz;(show nu (.k .A .A) .h)
  show W.new (fresh z U)
 ·have U:s₁.heap.objs.size<=z:=by
   rcases cz.mp hz with rfl|hz
   ·(show nu (.k .A .M) .h)
   ·have rfl:=ak.mp hz;(show nu (.k .A .A) .h)
  have#[o,e]:=r.pn dm;rw[fresh z U]at e;cases e
end
variable {α:Type}{x:Str}
def gz:∀(names:List (Str×NameKind)) (n:Nat) (acc:List (Str×Addr)),cellsFrom n names acc=cellsFrom n names []++acc
 | []=>λ_ _=>by simp[cellsFrom]
 |(x,k)::r=>λn acc=>by
  unfold cellsFrom;split
  ·rw[gz r (n+1) ((x,n)::acc),gz r (n+1) [(x,n)]];simp
  ·show gz r n acc
def yr:∀(names:List (Str×NameKind)) (n:Nat) (x:Str) (c:Addr),(x,c)∈cellsFrom n names []->(x,NameKind.cell)∈names
 | []=>λ_ _ _ h=>by simp[cellsFrom]at h
 |(y,k)::r=>λn x c h=>by
  unfold cellsFrom at h;split at h
  ·rename_i hk;rw[gz]at h;rcases cu.mp h with h|h
   ·show .tail _ (yr r _ x c h)
   ·have#[rfl,rfl]:=ke (ak.mp h);rw[dh]at hk;subst hk;show .head _
  ·show .tail _ (yr r _ x c h)
def vj:∀(names:List (Str×NameKind)) (n:Nat) (x:Str),(x,NameKind.cell)∈names->∃c,(x,c)∈cellsFrom n names []
 | []=>λ_ _ h=>by cases h
 |(y,k)::r=>λn x h=>by
  unfold cellsFrom;split
  ·rw[gz];rcases cz.mp h with e|h
   ·have#[rfl,_]:=ke e;apply#[n,dt _ (.head _)]
   ·have#[c,W]:=vj r (n+1) x h;apply#[c,dg _ W]
  ·rename_i hk;rcases cz.mp h with e|h
   ·have#[_,rfl]:=ke e;simp at hk
   ·show vj r n x h
def tn {l:List (Str×α)}{c:α}(h:(x,c)∈l):∃W,l.lookup x=some W:=by
 cases hq:l.lookup x with
 |some W=>refine#[W,rfl]
 |none=>rw[qo]at hq;have:=hq _ h;simp at this
def xq {l r:List (Str×α)}{c:α}(h:l.lookup x=some c):(l++r).lookup x=some c:=by
 rw[List.lookup_append,h];rfl
def eY {l r:List (Str×α)}(h:l.lookup x=none):(l++r).lookup x=r.lookup x:=by
 rw[List.lookup_append,h];rfl
def tD {names:List (Str×NameKind)}(nd:(names.map (·.1)).Nodup){k k':NameKind}(h:(x,k)∈names)(h':(x,k')∈names):k=k':=by
 have#[i,hi,e]:=fm.mp h;have#[j,O,J]:=fm.mp h';have U:names[i]?=some (x,k):=by rw[aq hi,e]
 have W:names[j]?=some (x,k'):=by rw[aq O,J]
 have:=hJ nd U W;subst this;rw[U]at W;cases W;rfl
structure DV (G:Stc)(σ:St)(h:Heap)(names:List (Str×NameKind))(cl:List (Str×Addr))(ρf:Fr):Prop where
 free:∀(i:Nat) (x:Str),names[i]?=some (x,.free)->∃c w,cl.lookup x=some c/\h.IsCell c w/\OV G h (ρf i) w/\¬σ.dom c/\(G.cap x=false->G.hb.get? c=none)
 inj:∀(i j:Nat) (x y:Str) (c:Addr),names[i]?=some (x,.free)->names[j]?=some (y,.free)->cl.lookup x=some c->cl.lookup y=some c->i=j
 all:∀p∈cl,∃o,h.get? p.2=some o
 other:∀(i:Nat) (x:Str) (k:NameKind),names[i]?=some (x,k)->k≠.free->ρf i=none
def lY {G:Stc}{σ:St}{h:Heap}{names:List (Str×NameKind)}{cl:List (Str×Addr)}{ρf:Fr}{env:Env}{T:String}(R:Rel G σ h)(nd:(names.map (·.1)).Nodup)(K:DV G σ h names cl ρf)
  (hl:env.locals=h.objs.size) (hc:env.cells=cellsFrom (h.objs.size+1) names cl) (hk:∀(i:Nat) (x:Str) (k':NameKind),env.scope.names[i]?=some (x,k')->∃k,names[i]?=some (x,k)/\(k'=k\/(k=.free/\k'=.cell))) :
  FR G σ env ρf (pushCells (h.push {cls:=.type T,data:=.dict #v[]}) names)/\(∀b o,h.get? b=some o->(pushCells (h.push {cls:=.type T,data:=.dict #v[]}) names).get? b=some o):=by
 have keep:∀b o,h.get? b=some o->(pushCells (h.push {cls:=.type T,data:=.dict #v[]}) names).get? b=some o:=λb o e=>pushCells_keeps _ _ b o (ba _ e);have frz:jq h (pushCells (h.push {cls:=.type T,data:=.dict #v[]}) names):=λb o e _=>keep b o e;have ok:=cellsFrom_ok names (h.push {cls:=.type T,data:=.dict #v[]}) (h.objs.size+1) [] #[λ_ _ hm=>(nomatch hm),List.Pairwise.nil] (by rw[ic];show au _);rw[ic]at ok;have O:∀c,h.objs.size<=c->¬σ.dom c:=λc hc d=>by have#[o,e]:=R.pn d;show absurd (ip e) (ru.mpr hc)
 have U:∀c,h.objs.size<=c->G.hb.get? c=none:=λc hc=>by
  cases hq:G.hb.get? c with
  |none=>rfl
  |some o=>show absurd (ip (R.base c o hq)) (ru.mpr hc)
 have J:(pushCells (h.push {cls:=.type T,data:=.dict #v[]}) names).get? h.objs.size=some {cls:=.type T,data:=.dict #v[]}:=pushCells_keeps _ _ _ _ (eg _ rfl);have cellAt:∀(i:Nat) (x:Str),names[i]?=some (x,.cell)->∃c,env.cells.lookup x=some c/\(x,c)∈cellsFrom (h.objs.size+1) names []:=λi x e=>by
  have#[c,hm]:=vj names (h.objs.size+1) x (fk e);have#[c',ag]:=tn hm;apply#[c',by rw[hc,gz];show xq ag,mem_of_lookup ag]
 have W:∀(i:Nat) (x:Str),names[i]?=some (x,.free)->env.cells.lookup x=cl.lookup x:=λi x e=>by
  rw[hc,gz];apply eY ?_;cases hq:(cellsFrom (h.objs.size+1) names []).lookup x with
  |none=>rfl
  |some c=>have:=tD nd (yr _ _ _ _ (mem_of_lookup hq)) (fk e);cases this
 apply#[#[#[_,by rewrite [hl];show(Heap.Ns.new h (.type T)).keeps (pushCells_keeps _ _),λi x e=>?_],λi x k' e bc=>?_,λi j x y k k' c ei ej ax ar lx ly=>?_,by rw[hl];show O _ (au _),λo e=>?_,by rw[hl];show U _ (au _),λp hp=>?_],keep]
 ·have#[k,e',B]:=hk i x _ e;have:ρf i=none:=K.other i x k e' (by rcases B with h|⟨_,h⟩;show h▸(by decide);cases h);rw[this];trivial
 ·have#[k,e',B]:=hk i x _ e;have z:k=.cell\/k=.free:=by rcases B with h|⟨h,_⟩;show h▸bc;show .inr h
  rcases z with rfl|rfl
  ·have#[c,ao,hm]:=cellAt i x e';have I:=ok.empty x c hm;apply#[c,none,ao,I.1,by rewrite [K.other i x _ e' (by decide)];trivial,O c (fP I.2),by rewrite [hl];show Nat.ne_of_gt (Nat.lt_of_succ_le I.2),λ_=>U c (fP I.2)]
  ·have#[c,w,h1,h2,h3,h4,h5]:=K.free i x e';apply#[c,w,by rw[W i x e'];show h1,h2.keeps keep,h3.mono frz,h4,?_,h5];rw[hl];show jt h2.lt
 ·have#[k1,e1,ay]:=hk i x _ ei;have#[k2,e2,z]:=hk j y _ ej;have aj:k1=.cell\/k1=.free:=by rcases ay with h|⟨h,_⟩;show h▸ax;show .inr h
  have ai:k2=.cell\/k2=.free:=by rcases z with h|⟨h,_⟩;show h▸ar;show .inr h
  have low:∀(i:Nat) (x:Str) (c:Addr),names[i]?=some (x,.free)->env.cells.lookup x=some c->c<h.objs.size:=λi x c e l=>by
   have#[c',w,h1,h2,_]:=K.free i x e;rw[W i x e,h1]at l;cases (l);show h2.lt
  have high:∀(i:Nat) (x:Str) (c:Addr),names[i]?=some (x,.cell)->env.cells.lookup x=some c->h.objs.size<c/\(x,c)∈cellsFrom (h.objs.size+1) names []:=λi x c e l=>by
   have#[c',h1,h2]:=cellAt i x e;rw[h1]at l;cases (l);apply#[(ok.empty x c h2).2,h2]
  rcases aj with rfl|rfl<;>rcases ai with rfl|rfl
  ·have#[_,m1]:=high i x c e1 lx;have#[_,m2]:=high j y c e2 ly;have:=name_of_addr ok.apart m1 m2;subst this;show hJ nd e1 e2
  ·have:=(high i x c e1 lx).1;have:=low j y c e2 ly;show absurd ‹c<h.objs.size› (ru.mpr (gy ‹h.objs.size<c›))
  ·have:=(high j y c e2 ly).1;have:=low i x c e1 lx;show absurd ‹c<h.objs.size› (ru.mpr (gy ‹h.objs.size<c›))
  ·show K.inj i j x y c e1 e2 (by rw[<- W i x e1];show lx) (by rw[<- W j y e2];show ly)
 ·rw[hl,J]at e;cases e;show qg rfl
 ·rw[hc,gz]at hp;rcases cu.mp hp with hp|hp
  ·have#[#[o,ho,_],_]:=ok.empty p.1 p.2 hp;apply#[o,ho]
  ·have#[o,ho]:=K.all p hp;apply#[o,keep _ _ ho]
section
variable {G:Stc}{A:Around}{E:QqV}
def pE {env:Env}{σ:St}{X:List Addr}(eo:zr env)(J:env.locals∈X)(hN:∀(i:Nat) x c,env.scope.names[i]?=some (x,.cell)->env.cells.lookup x=some c->c∈X/\G.hb.get? c=none)(f:Str×Value->PUnit->Sem (ForInStep PUnit))(hf:∀n v u,f (n,v) u=(do storeName env n v;pure (.yield #[]))) :
  ∀(j:Nat) (ns:List Str) (vs:List V) (ws:List Value) (ρ:Fr) (s:Shared) (Q:PUnit->Shared->Prop),ns.length=ws.length->(∀(i:Nat) (x:Str),ns[i]?=some x->∃k,env.scope.names[j+i]?=some (x,k)/\oN k=true) ->
   FR G σ env ρ s.heap->Rel G σ s.heap->VRs G s.heap vs ws ->
   (∀s' ρ',(∀i,ρ' i=if i<j then ρ i else if i<j+vs.length then vs[i-j]? else ρ i)->FR G σ env ρ' s'.heap->Rel G σ s'.heap->Go X σ s σ s'->Q #[] s') ->
   wpAny G.M A (forIn (ns.zip ws) #[] f) Q E s
 |j,[],vs,ws,ρ,s,Q,hl,I,F,R,vr,q=>by
  cases ws with
  |cons _ _=>simp at hl
  |nil =>
   cases vs with
   |cons _ _=>have#[_,_,e,_]:=vr;cases e
   |nil =>
    rw[List.zip_nil_left,oj];apply af (q s ρ (λi=>?_) F R .refl);by_cases h:i<j
    ·simp[h]
    ·simp[h]
 |j,x::ns,vs,ws,ρ,s,Q,hl,I,F,R,vr,q=>by
  cases vs with
  |nil=>have rfl:=vr;cases hl
  |cons v vs =>
   have#[w,ws,rfl,va,vr]:=vr;rw[List.zip_cons_cons,ow,hf];have#[k,hi,hk]:=I 0 x rfl;apply ab (ab (fW eo F R hi hk (λc hc e=>(hN _ _ c (e▸hi) hc).2) va J (λc hc e=>(hN _ _ c (e▸hi) hc).1) λs' F' R' x'=>af ?_));apply pE eo J hN f hf (j+1) ns vs ws _ s' Q (by simpa using hl) (λi y e=>?_) F' R' (vr.mono x'.frz) λs2 ρ' O F2 R2 x2=>?_
   ·have#[k,hi,hk]:=I (i+1) y (by simpa using e);apply#[k,by rw[show j+1+i=j+(i+1) by(show my (.e .a2 .a4) .n)];show hi,hk]
   ·apply q s2 ρ' (λi=>?_) F2 R2 (x'.trans x2);rw[O i];simp only[iq,yc];by_cases W:i<j
    ·rw[cp (av .aM .a .B W),cp W,fg (av (.u .A .B) [[-1,1]] .B W)]
    ·rw[bb W];by_cases h2:i=j
     ·clear q I O;subst h2;rw[cp (nu (.l .A .M) .h),cp (my (.l .A .a4) .h),cn];simp
     ·rw[bb ((ae h2).elim (λU=>(gj (.g .A .P) .c .bH .B W U)) λU=>(av (.g .A .P) .a .Y U))];by_cases z:i<j+1+vs.length
      ·rw[cp z,cp (fc (.l .A .aM) .a (.l .A (.a .P .C)) z),show i-j=(i-(j+1))+1 by(show Ar.sub _ _ (λU p1=>(fy .a7 .w .c6 (.e .aM .D) (aa (av .A .a (.g .B .A) W)) p1)) λU p1=>((ae h2).elim (λq2=>(mZ .a7 [[0,1,0,0,1],[1,0,1,1,0]] .bS .b1 (.k .C .a0) .V W (aa (av .A .a (.g .B .A) W)) U q2)) λq2=>(mZ .a7 [[1,-1,0,1,1],[1,1,1,0,0]] .c6 (.k .D .T) .aR .V (aa (av .A .a (.g .B .A) W)) U p1 q2)))];simp
      ·rw[bb z,bb (fc (.g .A .aM) .a (.g .A (.a .P .C)) z),fg h2]
end
variable {d n:Nat}{a:Addr}{vs dflt:List V}{ws:List Value}{sc:Scope}{body:List Stmt}{Q:V->St->Prop}{C:Cal}
abbrev sf:List Str->List (Str×NameKind)->Bool
 | [],_=>true
 |x::xs,(y,k)::r=>x==y&&oN k&&sf xs r
 |_::_,[]=>false
def jJ:∀{xs:List Str} {r:List (Str×NameKind)},sf xs r=true->∀(i:Nat) (x:Str),xs[i]?=some x->∃k,r[i]?=some (x,k)/\oN k=true
 | [],_,_,i,x,e=>by simp at e
 |_::_,[],h,_,_,_=>Bool.noConfusion (show false=true from h)
 |x::xs,(y,k)::r,h,0,z,e=>by
  dsimp only[sf]at h;simp only[dw,dh]at h;simp at e;subst e;apply#[k,by simp[h.1.1],h.1.2]
 |x::xs,(y,k)::r,h,i+1,z,e=>by
  dsimp only[sf]at h;simp only[dw]at h;simpa using jJ h.2 i z (by simpa using e)
structure FnAt (G:Stc)(a:Addr)(n:Nat)(dflt:List V)(sc:Scope)(body:List Stmt):Prop where
 lim:G.hb.NoLimit
 kind:sc.kind=.function
 co:sc.isCoroutine=false
 gen:sc.isGenerator=false
 nd:(sc.names.map (·.1)).Nodup
 qG:∀(i:Nat) (x:Str),sc.names[i]?≠some (x,.free)
 here:∃o fd,G.hb.get? a=some o/\o.data=.func fd/\fd.scope=sc/\fd.body=.stmts body/\fd.closure=[]/\fd.globals=mainGlobals/\fd.builtins=builtinsNs/\G.hb.CodeRec fd.code fd.qualname /\
  za fd.params=true/\sf (fd.params.args.map (·.arg)) sc.names=true/\fd.params.args.length=n /\
  ((fd.defaults=.none/\dflt=[])\/∃t ot ds m,fd.defaults=.ref t/\G.hb.get? t=some ot/\ot.data=.seq (ds.toArray) m/\VRs G G.hb dflt ds)/\dflt.length<=n
section
variable {G:Stc}{A:Around}{E:QqV}{s:Shared}{σ:St}
def AOk.deep (h:AOk A (d+1))(env:Env):AOk (A.deeper env) d:=
 #[h.handled,by have:=h.depth;show A.depth+1+3*d+20<_;(show fc (.l (.a (.a .M (.m 3 .B)) (.n 20)) .C) .a .bI this),by have:=h.units;show A.units+3+30*d+300<_;(show fc (.l (.a (.a (.a .A (.n 3)) (.m 30 .B)) .aV) .C) .a (.l (.a (.a .A (.m 30 .P)) .aV) .C) this)]
def mT {fd:FuncData}{run:Env->Code}{cl:List (Str×Addr)}{ρf ρ':Fr}{dv:List V}{ds:List Value}{R':Result->Shared->Prop}{o:Obj}(ho:G.hb.get? a=some o)(hd:o.data=.func fd)
  (lim:G.hb.NoLimit) (kind:fd.scope.kind=.function) (nd:(fd.scope.names.map (·.1)).Nodup) (bl:fd.closure=cl) (cc:fd.globals=mainGlobals) (cj:fd.builtins=builtinsNs) (ca:za fd.params=true) (ai:sf (fd.params.args.map (·.arg)) fd.scope.names=true) (hn:fd.params.args.length=n)
  (cd:∀(A:Around) (E:QqV) (Q:Option (Array Value)->Shared->Prop),(∀o,(o.getD #v[]).toList=ds->Q o s)->wpAny G.M A (seqItems? fd.defaults) Q E s) (bc:VRs G s.heap dv ds) (ch:dv.length<=n)
  (bd:(wpAny G.M A.in1 (bindArgs fd #[ws,[]]) (λao s₁ =>
   wpAny G.M A.in1 (newFunctionEnv fd.scope fd.globals fd.closure ao (fd.qualname ++ ".<locals>.") (some a) fd.code none fd.builtins)
    (λenv s₂=>s₂.heap.NoLimit/\codeAny G.M A (run env) R' s₂) (λe s'=>R' (.error e) s') s₁) (λe s'=>R' (.error e) s') s)->codeAny G.M A (.call (.ref a) #[ws,[]]) R' s)
  (clo:DV G σ s.heap fd.scope.names cl ρf) (R:Rel G σ s.heap) (vr:VRs G s.heap vs ws) (h1:vs.length<=n) (h2:n<=vs.length+dv.length)
  (bv:∀i,ρ' i=if i<n then (vs++dv.drop (dv.length-(n-vs.length)))[i]? else ρf i)
  (hb:∀env s' X,env.scope=fd.scope->env.code=fd.code->zr env->FR G σ env ρ' s'.heap->Rel G σ s'.heap->Go X σ s σ s'->(∀z∈X,s.heap.get? z=none)->(∀z∈X,z∈envX env)->(∀z∈envX env,z∈X\/∃p∈cl,p.2=z)->codeAny G.M A (run env) R' s'):codeAny G.M A (.call (.ref a) #[ws,[]]) R' s:=by
 have W:=vr.length;have U:=bc.length;have cb:(fd.params.args.map (·.arg)).Nodup:=by
  have hp:∀{xs:List Str} {r:List (Str×NameKind)},sf xs r=true->∃ys,r.map (·.1)=xs++ys:=by
   intro xs;induction xs with
   |nil=>intro r _;apply#[_,rfl]
   |cons x xs ih =>
    intro r h;cases r with
    |nil=>show Bool.noConfusion (show false=true from h)
    |cons p r =>
     dsimp only[sf]at h;simp only[dw,dh]at h;have#[ys,e]:=ih h.2;apply#[ys,by simp[e,h.1.1]]
  have#[ys,e]:=hp ai;rw[e]at nd;show(List.nodup_append.mp nd).1
 apply bd ?_;apply vZ (ds:=ds) ca (cd _ _) cb (by rw[hn,<- W];show h1) (by rw[hn,<- W,<- U];show h2) (by rw[hn,<- U];show ch) ?_;rw[hn,bl,cc,cj];simp only[newFunctionEnv,wh,fw,kn];apply ab (wpAny_alloc ?_);apply ab (wpAny_layCells _ (λname kind cells=>by cases hkc:kind==NameKind.cell<;>simp[hkc]) _ _ _ _ ?_);rw[show({s with heap:=s.heap.push {cls:=.type "frame",data:=.dict #v[]}}:Shared).heap.objs.size=s.heap.objs.size+1 from ic ..];have#[bt,ag]:=lY (T:="frame") (env:=newEnv fd.scope s.heap.objs.size mainGlobals (cellsFrom (s.heap.objs.size+1) fd.scope.names cl) (fd.qualname ++ ".<locals>.") (some a) fd.code none builtinsNs) R nd clo rfl rfl λi x k' e=>#[k',e,.inl rfl];have eo:zr (newEnv fd.scope s.heap.objs.size mainGlobals (cellsFrom (s.heap.objs.size+1) fd.scope.names cl) (fd.qualname ++ ".<locals>.") (some a) fd.code none builtinsNs):=#[kind,nd,rfl,rfl];have ar:Go [] σ s σ {s with heap:=pushCells (s.heap.push {cls:=.type "frame",data:=.dict #v[]}) fd.scope.names}:=Go.refl.to (Evo.keeps ag);have bn:VRs G s.heap (vs++dv.drop (dv.length-(n-vs.length))) (ws++ds.drop (ds.length-(n-ws.length))):=by
  rw[<- U,<- W];show vr.append (bc.drop _)
 have ok:=cellsFrom_ok fd.scope.names (s.heap.push {cls:=.type "frame",data:=.dict #v[]}) (s.heap.objs.size+1) [] #[λ_ _ hm=>(nomatch hm),List.Pairwise.nil] (by rw[ic];show au _);rw[ic]at ok;have hX:∀z∈s.heap.objs.size::(cellsFrom (s.heap.objs.size+1) fd.scope.names []).map (·.2),s.heap.get? z=none:=λz hz=>by
  rcases cz.mp hz with rfl|hz
  ·show none_at_size _
  ·have#[p,hp,rfl]:=fj.mp hz;show qu (fP (ok.empty p.1 p.2 hp).2)
 have hN:∀(i:Nat) x c,fd.scope.names[i]?=some (x,.cell)->(cellsFrom (s.heap.objs.size+1) fd.scope.names cl).lookup x=some c->c∈s.heap.objs.size::(cellsFrom (s.heap.objs.size+1) fd.scope.names []).map (·.2)/\G.hb.get? c=none:=λi x c e hc=>by
  have hm:c∈s.heap.objs.size::(cellsFrom (s.heap.objs.size+1) fd.scope.names []).map (·.2):=by
   have#[c1,hm]:=vj fd.scope.names (s.heap.objs.size+1) x (fk e);have#[c',be]:=tn hm;rw[gz,xq be]at hc;cases hc;show .tail _ (fj.mpr #[_,mem_of_lookup be,rfl])
  apply#[hm,?_];cases hq:G.hb.get? c with
  |none=>rfl
  |some o=>have:=R.base c o hq;rw[hX c hm]at this;cases this
 have aj:s.heap.objs.size∈s.heap.objs.size::(cellsFrom (s.heap.objs.size+1) fd.scope.names []).map (·.2):=.head _;have bp:∀p∈cellsFrom (s.heap.objs.size+1) fd.scope.names [],p.2∈s.heap.objs.size::(cellsFrom (s.heap.objs.size+1) fd.scope.names []).map (·.2):=λp hp=>.tail _ (fj.mpr #[p,hp,rfl]);have br:∀z∈s.heap.objs.size::(cellsFrom (s.heap.objs.size+1) fd.scope.names []).map (·.2),z∈s.heap.objs.size::(cellsFrom (s.heap.objs.size+1) fd.scope.names cl).map (·.2):=λz hz=>by
  rcases cz.mp hz with rfl|hz
  ·show .head _
  ·have#[p,hp,rfl]:=fj.mp hz;show .tail _ (fj.mpr #[p,by rw[gz];show dg _ hp,rfl])
 generalize s.heap.objs.size::(cellsFrom (s.heap.objs.size+1) fd.scope.names []).map (·.2)=X at hX hN aj bp br;apply ab (pE (X:=X) eo aj hN _ (λ_ _ _=>rfl) 0 (fd.params.args.map (·.arg)) (vs++dv.drop (dv.length-(n-vs.length))) _ ρf {s with heap:=pushCells (s.heap.push {cls:=.type "frame",data:=.dict #v[]}) fd.scope.names} _ ?_ (λi x e=>?_) bt (R.keeps ag) (bn.mono λb o e _=>ag b o e) λs' bu ax F' R' x'=>?_)
 ·rw[aw,bg,gh,hn];(show Ar.sub _ _ (λq1 p1=>(Ar.sub _ _ (λq2 p2=>(Ar.sub _ _ (λq3 J=>(zm .a5 [[1,1,-1,1],[1,-1,1,-1]] .b2 .c1 (.e (.a .G .B) .A) p1 p2 J)) λq3 J=>(MW .a5 [[1,1,-1,1,-1,0,1],[1,0,0,0,0,1,0]] (.k .D .A) (.e .D .B) (.e .aL .G) (.e (.a .F .H) .G) .A (.e .H .O) h1 W p1 p2 q3 J))) λq2 p2=>(Ar.sub _ _ (λq3 J=>(O7 .a5 [[1,0,0,0,1,1,0,1],[1,1,1,1,-1,0,1,0]] (.k .A .X) (.e .D .B) (.e .F .G) (.e (.a .C .H) .G) (.k .G .I) (.e .H .O) (.e (.a .I .B) .A) h2 W U p1 q2 p2 J)) λq3 J=>(O3 .a5 [[1,1,0,-1,0,1,1,0,1],[1,0,1,1,1,-1,0,1,0]] (.k .D .A) (.k .A .X) (.e .D .B) (.e .F .G) (.e (.a .C .H) .G) (.k .G .I) (.e .H .O) (.e .I .O) h1 h2 W U p1 q2 p2 J)))) λq1 p1=>(Ar.sub _ _ (λq2 p2=>(Ar.sub _ _ (λq3 J=>(MW .a5 [[1,1,-1,0,1,0,0],[1,0,0,1,0,1,-1]] (.k .D .A) (.e .D .B) (.k .F .G) .b6 (.e .aB .F) (.e (.a .H .B) .A) h1 W q1 p1 p2 J)) λq3 J=>(mZ .a5 [[1,1,-1,1,0],[1,0,0,0,1]] (.k .D .A) (.e .D .B) .b6 .A h1 W p1 q3))) λq2 p2=>(O8 .a5 [[1,1,0,-1,0,0,1,0],[1,0,1,1,1,1,0,1]] (.k .D .A) (.k .A .X) (.e .D .B) (.e .F .G) (.k .G .H) .b6 (.e .H .O) h1 h2 W U q1 p1 p2)))
 ·rw[mj];show jJ ai i x e
 ·apply af #[lim.keeps R'.base,?_];have ay:bu=ρ':=by
   funext i
   rw[ax i,bv i,bg,gh];simp only[ou,kn,mj,Nat.sub_zero];rw[show vs.length+(dv.length-(dv.length-(n-vs.length)))=n by(show Ar.sub _ _ (λq1 p1=>(Ar.sub _ _ (λq2 p2=>(Ar.sub _ _ (λq3 J=>(zm .T .p (.e .aJ .F) .c1 .aY p1 p2 J)) λq3 J=>(mY .T [[1,0,0,0,1,0],[1,1,1,-1,0,1]] .L (.e .aJ .F) .c1 .aX .c7 h1 p1 p2 q3 J))) λq2 p2=>(Ar.sub _ _ (λq3 J=>(mY .T [[1,1,-1,0,1,0],[1,0,1,1,0,1]] (.k .C .V) .bM (.k .D .G) .b7 .aY h2 p1 q2 p2 J)) λq3 J=>(KV .T [[1,0,1,-1,0,1,0],[1,1,0,1,1,0,1]] .L (.k .C .V) .bM (.k .D .G) .b7 .c7 h1 h2 p1 q2 p2 J)))) λq1 p1=>(Ar.sub _ _ (λq2 p2=>(Ar.sub _ _ (λq3 J=>(mY .T [[1,0,1,0,1,-1],[1,1,0,1,0,0]] .L .cD .aR (.e .a9 .D) .aY h1 q1 p1 p2 J)) λq3 J=>(oq .T [[1,0,0,1],[1,1,1,0]] .L .aR .aX h1 p1 q3))) λq2 p2=>(DM .T [[1,0,1,1,0,1],[1,1,0,0,1,0]] .L (.k .C .V) .cD .aR .b7 h1 h2 q1 p1 p2)))]
  subst ay;apply hb _ s' X rfl rfl eo F' R' ((ar.more (λ_ h=>nomatch h)).trans x') hX br λz hz=>?_;rcases cz.mp hz with rfl|hz
  ·show .inl aj
  ·have zz:=fj.mp hz;clear hz;have#[p,hp,rfl]:=zz;have hp:p∈cellsFrom (s.heap.objs.size+1) fd.scope.names cl:=hp;rw[gz]at hp;rcases cu.mp hp with hp|hp
   ·show .inl (bp p hp)
   ·show .inr #[p,hp,rfl]
def D6 {b:pq}{Q:QqV}(K:FnAt G a n dflt sc body)
  (hb:∀(A':Around) (E':QqV) (env:Env) (s':Shared),Cx G sc d A' env (frameOf #[n,dflt,b] vs) σ s'->(∀o fd,G.hb.get? a=some o->o.data=.func fd->env.code=fd.code)->Go (envX env) σ s σ s'->(∀z∈envX env,s.heap.get? z=none) ->
   wpAny G.M A' (execs body env) (λf s'=>Q (match f with|.ret v=>v|_=>.none) s') E' s')
  (ao:AOk A (d+1)) (R:Rel G σ s.heap) (vr:VRs G s.heap vs ws)
  (h1:vs.length<=n) (h2:n<=vs.length+dflt.length):codeAny G.M A (.call (.ref a) #[ws,[]]) (wants Q E) s:=by
 have#[o,fd,ho,hd,ar,J,ai,ay,bn,U,ax,ag,hn,be,bd]:=K.here;subst ar;have#[ds,bc,aj]:∃ds,(∀(A:Around) (E:QqV) (Q:Option (Array Value)->Shared->Prop),(∀o,(o.getD #v[]).toList=ds->Q o s)->wpAny G.M A (seqItems? fd.defaults) Q E s)/\VRs G s.heap dflt ds:=by
  rcases be with ⟨e1,e2⟩|⟨t,ot,ds,m,e1,e2,e3,e4⟩
  ·apply#[[],λA E Q q=>?_,by subst e2;show .nil];rw[e1];show wpAny G.M A (do notAStandIn .none;pure none) Q E s;show fo (by rfl) (q none rfl)
  ·apply#[ds,λA E Q q=>?_,e4.mono λb o e _=>R.base b o e];rw[e1];show wpAny G.M A (do match (← load t).data with|.seq xs _=>pure (some xs)|_=>pure none) Q E s;apply ab (yh (R.base _ _ e2) ?_);rw[e3];show af (q _ (by simp))
 apply mT (run:=λenv=>.func body env) (ρf:=λ_=>none) (ρ':=frameOf #[n,dflt,b] vs) ho hd K.lim K.kind K.nd ai ay bn ax ag hn bc aj bd (λh=>codeAny_call_function (by have:=ao.depth;(show fc .B .a (.l (.a (.a .A (.m 3 .T)) (.n 20)) .B) this)) (R.base _ _ ho) hd K.co K.gen J (U.keeps R.base) h)
  #[λi x e=>absurd e (K.qG i x),λi j x y c e=>absurd e (K.qG i x),λp hp=>(nomatch hp),λ_ _ _ _ _=>rfl] R vr h1 h2 (λi=>?_) λenv s' X e1 e2 eo F' R' x' hX bp bl=>?_
 ·split
  ·rfl
  ·unfold frameOf gI;dsimp only;rw[kg];rw[bg,gh];(rename_i z1;show Ar.sub _ _ (λq1 I=>(Ar.sub _ _ (λq2 p2=>(Ar.sub _ _ (λq3 W=>(HR .F [[1,1,1,-1,1]] .bS (.e .a3 .G) (.e (.a .F .H) .G) (.e (.a .H .A) .D) z1 I p2 W)) λq3 W=>(DL .F [[1,1,1,1,-1,1]] .aH .bS (.e .a3 .G) (.e (.a .F .H) .G) (.e .H .O) h1 z1 I p2 W))) λq2 p2=>(Ar.sub _ _ (λq3 W=>(HR .F .o .bS (.e .a3 .G) (.k .G .H) (.e (.a .H .A) .D) z1 I q2 W)) λq3 W=>(DL .F [[1,1,1,1,1,1]] .aH .bS (.e .a3 .G) (.k .G .H) (.e .H .O) h1 z1 I q2 W)))) λq1 I=>(mr .F .e .aH .bS .aR h1 z1 I))
 ·show codeAny_func (hb _ _ env s' #[ao.deep _,e1,eo,F',R'] (λo' br h1 h2=>by have rfl:=ah (ho.symm.trans h1);rw[hd]at h2;cases h2;show e2) (x'.more bp) λz hz=>(bl z hz).elim (hX z) λ⟨_,hp,_⟩=>nomatch hp)
def pA {b:pq}(K:FnAt G a n dflt sc body)
  (hb:∀(O:Around) (I:QqV) (env:Env) (s':Shared),Cx G sc d O env (frameOf #[n,dflt,b] vs) σ s'->wpAny G.M O (execs body env) (qj G env σ s' (uN Q)) I s')
  (ao:AOk A (d+1)) (R:Rel G σ s.heap) (vr:VRs G s.heap vs ws)
  (h1:vs.length<=n) (h2:n<=vs.length+dflt.length):codeAny G.M A (.call (.ref a) #[ws,[]]) (wants (jr G [] σ s Q) E) s:=by
 apply D6 (b:=b) K (λO I env s' c _ x' hX=>?_) ao R vr h1 h2;apply dj (hb O I env s' c) (λf s₂ l=>?_) λ_ _ x=>x;have#[fl,J,σ₂,fr,q,B,W,U]:=l;have x3:Go [] σ s σ₂ s₂:=(x'.trans U).less λz hz=>.inr (hX z hz);cases fr with
 |next=>refine#[.none,σ₂,q,.none,W,x3]
 |ret v=>refine#[_,σ₂,q,v,W,x3]
 |brk=>show q.elim
 |cont=>show q.elim
def pD {b:pq}(K:FnAt G a n dflt sc body)
  (hb:∀(W:Around) (I:QqV) (env:Env) (s':Shared),Cx G sc d W env (frameOf #[n,dflt,b] vs) σ s'->wpAny G.M W (execs body env) (qj G env σ s' (uN Q)) I s')
  (J:AOk A (d+1)) (R:Rel G σ s.heap) (vr:VRs G s.heap vs ws)
  (O:vs.length<=n) (U:n<=vs.length+dflt.length):wpAny G.M A (call (.ref a) ws) (jr G [] σ s Q) E s:=rg (pA K hb J R vr O U)
def HO {b:pq}(K:FnAt G a n dflt sc body)(hb:fH G C sc d b body)(O:AOk A (d+1))(R:Rel G σ s.heap)(vr:VRs G s.heap vs ws)
  (U:vs.length<=n) (W:n<=vs.length+dflt.length) (h:gq C b (frameOf #[n,dflt,b] vs) σ (uN Q)):wpAny G.M A (call (.ref a) ws) (jr G [] σ s Q) E s:=
 pD (b:=b) K (λI J env s' c=>hb c h) O R vr U W
abbrev e9 (G:Stc)(fa:Nat->Option Addr)(C:Cal)(d:Nat):Prop:=∀(k:Nat) (a:Addr),fa k=some a->(∃o fd,G.hb.get? a=some o/\o.data=.func fd)/\∀{A E vs ws σ Q s},AOk A d->Rel G σ s.heap->VRs G s.heap vs ws ->
 C k vs σ Q->wpAny G.M A (call (.ref a) ws) (jr G [] σ s Q) E s
def dJ {env:Env}{ρ:Fr}{f:Addr}{o:Obj}{fd:FuncData}{first:List Value}{es:Exs}{args:List Expr}{pos:Pos}{P:List V->St->Prop}{Q:QqV}(J:G.hb.get? f=some o)(W:o.data=.func fd)(O:noStar args=true)(U:pe G C sc d es args)
  (c:Cx G sc d A env ρ σ s) (h:uv C es ρ σ P)
  (k:∀vs σ₁ s₁ ws,P vs σ₁->VRs G s₁.heap vs ws->Rel G σ₁ s₁.heap->Go [] σ s σ₁ s₁->wpAny G.M A (call (.ref f) (first++ws)) Q E s₁) :
  wpAny G.M A (callWith pos (.ref f) first (backTo pos (starEach args env)) []) Q E s:=
 Calls.callWith_function (o:=o) (fd:=fd) (om (jy O pos env) (nP (U c h) λvs σ₁ s₁ ws q vr r x=>#[#[r.base _ _ J,W],k vs σ₁ s₁ ws q vr r x]))
def B7 {fa:Nat->Option Addr}{k:Nat}{f:Addr}{x:Str}{es:Exs}{args:List Expr}{p pos:Pos}(K:GOk G)(CO:e9 G fa C d)(hk:fa k=some f)(W:pe G C sc d es args)(J:noStar args=true)(U:sc.names.lookup x=some .globalImplicit)(B:jh x=true)(O:G.gl x=some (.ref f)) :
  gc G C sc d (.call k es) (.Call (.Name x p) args [] pos):=λ_ _ _ _ _ _ _ c h=>by
 have#[#[o,fd,I,hd],z]:=CO k f hk;show Call_ (mh K c.eo c.R (by rw[c.es];show U) B O (dJ I hd J W c h λvs σ₁ s₁ ws q vr r x=>x.back (z c.ao r vr q)))
structure IT (G:Stc)(a:Addr)(n:Nat)(cs:List V)(sc:Scope)(e:Expr):Prop where
 lim:G.hb.NoLimit
 kind:sc.kind=.function
 co:sc.isCoroutine=false
 gen:sc.isGenerator=false
 nd:(sc.names.map (·.1)).Nodup
 here:∃o fd,G.hb.get? a=some o/\o.data=.func fd/\fd.scope=sc/\fd.body=.expr e/\fd.globals=mainGlobals/\fd.builtins=builtinsNs/\G.hb.CodeRec fd.code fd.qualname /\
  za fd.params=true/\sf (fd.params.args.map (·.arg)) sc.names=true/\fd.params.args.length=n/\fd.defaults=.none /\
  (∀(i:Nat) (x:Str),sc.names[i]?=some (x,.free)->n<=i/\G.cap x=true/\∃c w v,fd.closure.lookup x=some c/\G.hb.IsCell c (some w)/\cs[i-n]?=some v/\VR G G.hb v w) /\
  (∀(i j:Nat) (x y:Str) (c:Addr),sc.names[i]?=some (x,.free)->sc.names[j]?=some (y,.free)->fd.closure.lookup x=some c->fd.closure.lookup y=some c->i=j) /\
  (∀p∈fd.closure,∃o,G.hb.get? p.2=some o)/\(∀(i:Nat) (x:Str) (k:NameKind),sc.names[i]?=some (x,k)->k≠.free->i<n)
def DB {cs:List V}{e:Expr}{b:Ex}(K:IT G a n cs sc e)(hb:gc G C sc d b e)(ao:AOk A (d+1))(R:Rel G σ s.heap)(vr:VRs G s.heap vs ws)(h1:vs.length=n)
  (h:wpE C b (λi=>(vs++cs)[i]?) σ Q):wpAny G.M A (call (.ref a) ws) (jr G [] σ s Q) E s:=by
 have#[o,fd,ho,hd,be,ai,bn,bt,J,bl,aj,hn,bp,O,ax,bc,ar]:=K.here;subst be;apply rg ?_;apply mT (run:=λenv=>.expr e env) (dv:=[]) (ds:=[]) (ρf:=λi=>if i<n then none else cs[i-n]?) (ρ':=λi=>(vs++cs)[i]?) ho hd K.lim K.kind K.nd rfl bn bt bl aj hn (λA E Q q=>?_) .nil (bq _)
  (λh=>PySem.W.kla_callFunE (by have:=ao.depth;(show fc .B .a (.l (.a (.a .A (.m 3 .T)) (.n 20)) .B) this)) (R.base _ _ ho) hd K.co K.gen ai (J.keeps R.base) h) #[λi x ex=>?_,ax,λp hp=>?_,λi x k ex hk=>cp (ar i x k ex hk)] R vr (Nat.le_of_eq h1) (by rw[List.length_nil];(show av .cN .y .cB h1)) (λi=>?_) λenv s' X e1 e2 eo F' R' x' hX bv bu=>?_
 ·rw[bp];show wpAny G.M A (do notAStandIn .none;pure none) Q E s;show fo (by rfl) (q none rfl)
 ·have#[h2,ay,c,w,v,hc,ag,hv,vv]:=O i x ex;have#[oc,U,br]:=ag;apply#[c,some w,hc,#[oc,R.base _ _ U,br],?_,λdm=>(by rw[R.new c dm]at U;cases U),λq=>(by rw[ay]at q;cases q)];rw[bb (av .bH .a .a4 h2),hv];show VR.mono (λb o e _=>R.base b o e) vv
 ·have#[o,ho]:=bc p hp;apply#[o,R.base _ _ ho]
 ·rw[List.drop_nil,dk];by_cases c:i<n
  ·rw[cp c,er (fb .B .k .bJ .I h1 c)]
  ·rw[bb c,bb c,bh (fb .A .b (.e .A .C) (.g .B .C) h1 c),h1]
 ·apply PySem.W.kla_codeExpr (dj (hb #[ao.deep env,e1,eo,F',R'] h) (λv s₂ l=>?_) λ_ _ x=>x);have#[u,σ',q,bd,R2,x2]:=l;apply#[u,σ',q,bd,R2,(x'.trans (x2.more λ_ h=>nomatch h)).less λz hz=>.inr (hX z hz)]
abbrev n7 (G:Stc)(C:Cal)(d:Nat):Prop:=∀(k:Nat) (cs:List V) (a:Addr),G.clo k cs a->(∃o fd,G.hb.get? a=some o/\o.data=.func fd)/\∀{A E vs ws σ Q s},AOk A d->Rel G σ s.heap->VRs G s.heap vs ws ->
 C (1000+k) (vs++cs) σ Q->wpAny G.M A (call (.ref a) ws) (jr G [] σ s Q) E s
end
variable {f:Addr}{d':Nat}
structure MethAt (G:Stc)(name:Str)(f:Addr):Prop where
 here:∃N mN of fd,ClsAt G.hb G.cS N mN/\mN "__getattribute__"=none/\mN "__getattr__"=none/\mN name=some (.ref f)/\G.hb.get? f=some of/\of.cls=.type "function"/\of.data=.func fd
 out:name∉G.attrs
 lk:∃y,typeLookup (.type "object") name=pure y
section
variable {G:Stc}{A:Around}{E:QqV}{s:Shared}{σ:St}{fa:Nat->Option Addr}{C:Cal}{sc:Scope}{d:Nat}
def sH {a:Addr}{name:Str}{pl:Sem Bool}{Q:Value×List Value->Shared->Prop}(M:MethAt G name f)(R:Rel G σ s.heap)(z:(σ.I a).isSome)(q:Q (.ref f,[.ref a]) s):wpAny G.M A (getMethod (.ref a) name pl) Q E s:=by
 have#[N,mN,of,fd,X,O,U,hf,J,B,_]:=M.here;have#[y,hB]:=M.lk;have#[#[dd,g],z]:=cq.mp z;have I:=R.I a dd g z;have#[m,hm,hv,W]:=I.ns;have#[hh,gg,dr,t,os]:=s;have#[nm,q',bs,sn,sub,ag,d2,k0,k1,k2,k3,k5,hC]:=(X.keeps R.base).obj;show method_of hC (X.keeps R.base).ns O U hf (R.base _ _ J) B hB (I.inst hm) (W name M.out) q
def AW {e:Ex}{k:Nat}{name:Str}{es:Exs}{o:Expr}{args:List Expr}{apos pos:Pos}(CO:e9 G fa C d)(hk:fa k=some f)(M:MethAt G name f)(ha:gc G C sc d e o)(B:pe G C sc d es args)(hb:tj o=true)(z:noStar args=true)(J:args.length<30)(W:(apos.endLine==pos.line)=true) :
  gc G C sc d (.meth e k es) (.Call (.Attribute o name apos) args [] pos):=λ_ _ _ _ _ _ _ c h=>by
 apply sv hb z J W (qc (ha c h) λv σ₁ s₁ w q vr r x pl=>?_);have#[a,rfl,hI,q]:=q;have rfl:=vr;have#[#[of,fd,ho,hd],hc]:=CO k f hk;show sH M r hI (dJ ho hd z B (c.go r x) q λvs σ₂ s₂ ws O I r₂ U=>(x.trans U).back (hc c.ao r₂ (.cons (.obj a) I) O))
structure nE (G:Stc)(f:Addr):Prop where
 here:∃N mN of,ClsAt G.hb G.cS N mN/\mN "__init__"=some (.ref f)/\G.hb.get? f=some of/\of.cls=.type "function"
def v7 (C:Addr)(ws:List Value):(Code.builtin "type.__call__" #[.ref C::ws,[]]).cUnits<=10:=by
 show 1+3*(Code.frames (.builtin "type.__call__" #[.ref C::ws,[]]))<=10;show bx rfl
def AOk.make (h:AOk A (d+1))(C:Addr)(ws:List Value):AOk (A.under (.builtin "type.__call__" #[.ref C::ws,[]])) d:=
 #[h.handled,by have:=h.depth;show A.depth+1+3*d+20<_;(show fc (.l (.a (.a .M (.m 3 .B)) (.n 20)) .C) .a .bI this),by have:=h.units;have:=v7 C ws;show A.units+(Code.cUnits _)+30*d+300<_;(rename_i W;show fy (.l (.a (.a .L (.m 30 .C)) .aV) .D) .b (.l (.a (.a .A (.m 30 .T)) .aV) .D) (.k .B (.n 10)) W this)]
def AOk.less (h:AOk A d)(hd:d'<=d):AOk A d':=#[h.handled,by have:=h.depth;(show fy (.l (.a (.a .A (.m 3 .B)) (.n 20)) .C) [[1,3,1]] .c2 (.l (.a (.a .A (.m 3 .D)) (.n 20)) .C) hd this),by have:=h.units;(show fy (.l (.a (.a .A (.m 30 .B)) .aV) .C) [[1,30,1]] .c2 (.l (.a (.a .A (.m 30 .D)) .aV) .C) hd this)]
def zR {Q:V->St->Prop}{vs:List V}{ws:List Value}(CO:e9 G fa C (d-1))(hd:1<=d)(hk:fa 0=some f)(M:nE G f)(ao:AOk A d)(q:∀a dd,σ.I a=none->C 0 (.obj a::vs) (σ.jn a dd λ_=>none) λv σ=>v=.none/\Q (.obj a) σ)(vr:VRs G s.heap vs ws)(r:Rel G σ s.heap):wpAny G.M A (call (.ref G.cS) ws) (jr G [] σ s Q) E s:=by
 have#[N,mN,of,X,hi,bc,bd]:=M.here;have#[_,hc]:=CO 0 f hk;have be:AOk A (d-1+1):=by rw[aa hd];show ao
 have#[nm,q',bs,sn,sub,bl,d2,k0,k1,k2,k3,k5,hC]:=(X.keeps r.base).obj;apply wpAny_call_obj_init PySem.F.objNew hC (X.keeps r.base).ns hi (r.base _ _ bc) bd λh' W dx made=>?_;have z:σ.I W=none:=by
  cases hq:σ.I W with
  |none=>rfl
  |some y=>have#[o,e]:=r.pn (.inr (.inr (.inr (.inl (by rw[hq];rfl)))));rw[made.newX]at e;cases e
 have hI:dY G h' W dx λ_=>none:=by
  have#[o,ho,aj,ay,hd]:=made.inst;have O:=made.dict o ho;rcases hd with ⟨ag,_⟩|⟨d',ai,ax,ar⟩
  ·rw[O]at ag;cases ag
  ·rw[O]at ai;cases ai;apply#[#[o,ho,aj,O,ay],#[_,ar,λ_ _ _=>trivial,λ_ _=>rfl],ax]
 have r':=r.JT made.newX made.newD hI.ne made.keeps hI;have x':Go [] σ s (σ.jn W dx λ_=>none) {s with heap:=h'}:=Go.refl.to (Evo.JT _ made.newX made.newD made.keeps);apply dj (hc (s:={s with heap:=h'}) (be.make _ _) r' (.cons (.obj W) (vr.mono x'.frz)) (q W dx z)) (λw s' l=>?_) λ_ _ x=>x;have#[v,σ₂,#[rfl,B],U,r₂,J]:=l;cases U;apply#[rfl,.obj W,σ₂,B,.obj W,r₂,x'.trans J]
def AV {x:Str}{es:Exs}{args:List Expr}{p pos:Pos}(K:GOk G)(z:e9 G fa C (d-1))(hd:1<=d)(hk:fa 0=some f)(M:nE G f)(U:pe G C sc d es args)(O:noStar args=true)(W:args≠[])(J:sc.names.lookup x=some .globalImplicit)(B:jh x=true)(I:G.gl x=some (.ref G.cS)) :
  gc G C sc d (.n es) (.Call (.Name x p) args [] pos):=λ_ _ _ _ _ _ _ c h=>by
 have#[N,mN,of,X,_]:=id M.here;apply Call_ (mh K c.eo c.R (by rw[c.es];show J) B I ?_);cases args with
 |nil=>show absurd rfl W
 |cons e rest =>
  show callWith_cls X (nP (U c h) λvs σ₁ s₁ ws q vr r x=>#[r.base,x.back (zR z hd hk M c.ao q vr r)]) ((gm O).1 _) (jy (gm O).2 pos _)
def e9.more (h:e9 G fa C d)(hd:d<=d'):e9 G fa C d':=λk a hk=>#[(h k a hk).1,λW=>(h k a hk).2 (W.less hd)]
def n7.more {C:Cal}{d:Nat}(h:n7 G C d)(hd:d<=d'):n7 G C d':=λk cs a hk=>#[(h k cs a hk).1,λW=>(h k cs a hk).2 (W.less hd)]
end
end MP
end
section
set_option tactic.hygienic true
namespace MP
open PySem PyProof.Rows
variable {T id nm:String}{name:Str}{o:Obj}{a:Addr}{Q:QqV}{expr:Bool}
def lC:Slot "method_descriptor" "__get__" "method_descriptor.__get__":=
 .of (owner:="method_descriptor") (n:="__get__") (by rw[gk,fe];kernel_rfl) (by decide +kernel) (by decide +kernel) (by decide +kernel)
  (by first|show .inl (by decide +kernel)|show .inr (by decide +kernel)) (by rw[lz];kernel_rfl)
def tP:entryFor table "method_descriptor.__get__"=some Builtin.«method_descriptor.__get__»:=dG (by kernel_rfl)
def w8 (a b c:Value):argsOk "method_descriptor.__get__" #[[a,b,c],[]]:=by unfold argsOk;kernel_rfl
def C8:typeLookup (.type "method_descriptor") "__set__"=pure none:=by rw[gk,fe];kernel_rfl
def C9:typeLookup (.type "method_descriptor") "__delete__"=pure none:=by rw[gk,fe];kernel_rfl
structure pJ (T:String)(name:Str)(id nm:String):Prop where
 lk:typeLookup (.type T) name=pure (some (.builtin id))
 ty:typeOf (.builtin id)=pure (.type "method_descriptor")
 own:(kfb_private% "ownerAndName") id=(T,nm)
 told:Manifest.toldItsClass.contains id=false
 sub:isSubtype (.type T) (.type T)=pure true
 nm1:(["__module__","__name__","__qualname__","__doc__","__annotations__"]:List Str).contains name=false
 tp1:(Value.type T==Value.type "module")=false
def DG:pJ "dict" "get" "dict.get" "get" where
 lk:=PySem.F.slot_dict_get.lookup
 ty:=PySem.F.type_dict_get
 own:=by first|decide +kernel|kernel_rfl
 told:=by first|decide +kernel|kernel_rfl
 sub:=by rw[lz];kernel_rfl
 nm1:=by decide +kernel
 tp1:=by decide +kernel
def DF:pJ "set" "__contains__" "set.__contains__" "__contains__" where
 lk:=by rw[gk,fe];kernel_rfl
 ty:=by show builtinType _=_;rw[builtinType_eq_fast];kernel_rfl
 own:=by first|decide +kernel|kernel_rfl
 told:=by first|decide +kernel|kernel_rfl
 sub:=by rw[lz];kernel_rfl
 nm1:=by decide +kernel
 tp1:=by decide +kernel
abbrev j4 (id:String)(a:Addr):Obj:={cls:=.type "builtin_function_or_method",data:=.fields #v[.builtin id,.ref a]}
section
variable {prog:Program}{w:World}{A:Around}{E:QqV}{s:Shared}
def yW {a:Addr}{P:Fin->Shared->Prop}(B:pJ T name id nm)(U:s.heap.get? a=some o)(O:o.cls=.type T)(h:P (.done (.ret (.ref s.heap.objs.size))) {s with heap:=s.heap.push (j4 id a)}) :
  wpAny (model prog w) A (Builtin.«method_descriptor.__get__» #[[.builtin id,.ref a,.type T],[]]) P E s:=by
 have J:s.TypeIs (.ref a) T:=#[_,U,O];unfold Builtin.«method_descriptor.__get__»;apply ab (fo (a:=(.builtin id,some (.ref a),some (.type T))) (by first|rfl|kernel_rfl) ?_);simp only[B.told];show wpAny _ _ (do
  (do
   let (owner,name):=(kfb_private% "ownerAndName") id
   if !(← isInstance (.ref a) (.type owner)) then
    rule "descr.get.wrong-instance"
    raiseError "TypeError" s!"descriptor '{(Str.ofString name).toString}' for '{← typeName (.type owner)}' objects doesn't apply to a '{← typeNameOf (.ref a)}' object":Sem Unit)
  ret (← newFields "builtin_function_or_method" [.builtin id,.ref a])) _ _ _
 rw[B.own];dsimp only;unfold isInstance;have W:=B.sub;apply ab (ab ?_);apply ab (gJ J ?_);apply fo B.sub ?_;apply af ?_;apply ab ?_;unfold newFields;show lu (af h)
def vW (B:pJ T name id nm)(W:s.heap.get? a=some o)(U:o.cls=.type T)(h:Q (.ref s.heap.objs.size) {s with heap:=s.heap.push (j4 id a)}) :
  wpAny (model prog w) A (call (.builtin "method_descriptor.__get__") [.builtin id,.ref a,.type T]) Q E s:=
 mu lC B.ty tP (yW B W U #[_,rfl,h]) (w8 _ _ _)
def BN {tk:Tok}{P:Fin->Shared->Prop}(B:pJ T name id nm)(W:s.heap.get? a=some o)(J:o.cls=.type T)(hd:o.dict=none)(O:∀c,o.data≠.cls c)(h:P (.done (.ret (.ref s.heap.objs.size))) {s with heap:=s.heap.push (j4 id a)}) :
  wpAny (model prog w) A (Builtin.«object.__getattribute__» #[[.ref a,.str name tk],[]]) P E s:=by
 have#[I,g,d,t,os]:=s;have hT:(#[I,g,d,t,os]:Shared).TypeIs (.ref a) T:=#[_,W,J];have z:(#[I,g,d,t,os]:Shared).TypeIs (.builtin id) "method_descriptor":=B.ty;have f4:=B.lk;have f5:=B.ty;have f6:=lC.lookup;have f7:=C8;have f8:=C9;have U:=B.nm1;unfold Builtin.«object.__getattribute__»
 repeat (any_goals (first|assumption|wp_step))
 split
 ·rename_i c e;show absurd e (O c)
 ·unfold instanceDict
  repeat (any_goals (first|assumption|(with_reducible refine qk W ?_;rw[J])|with_reducible refine wpAny_loadHead W ?_|wp_step))
  rw[hd]
  repeat (any_goals (first|assumption|wp_step))
  rw[bb (by rw[U];decide)];apply af ?_
  repeat (any_goals (first|assumption|((with_reducible show wpAny _ _ (call (Value.builtin "method_descriptor.__get__") _ _) _ _ _);apply vW B W J ?_)|wp_step))
def jN {U:String}(B:pJ T name id nm)(O:Slot T "__getattribute__" U)(en:entryFor table U=some Builtin.«object.__getattribute__»)(ar:∀x y,argsOk U #[[x,y],[]])
  (I:s.heap.get? a=some o) (hc:o.cls=.type T) (hd:o.dict=none) (W:∀c,o.data≠.cls c) (h:Q (.ref s.heap.objs.size) {s with heap:=s.heap.push (j4 id a),toks:=s.toks+1}) :
  wpAny (model prog w) A (getAttr (.ref a) name expr) Q E s:=by
 have#[z,g,d,t,os]:=s;have#[c,dct,ai,ag]:=o;simp only at hc hd W;subst hc;subst hd;have hT:∀J,(#[z,g,d,J,os]:Shared).TypeIs (.ref a) T:=λ_=>#[_,I,rfl];have f3:=O.lookup;have f4:=O.bind (.ref a);unfold getAttr getAttrBy
 repeat (any_goals (first|assumption|show hT _|((with_reducible show wpAny _ _ (call (Value.builtin U) _ _) _ _ _);apply mu O (hT _) en (BN B (s:=⟨z,g,d,t+1,os⟩) I rfl rfl W ⟨_,rfl,?_⟩) (ar _ _))|wp_step))
 have e:(expr&&onTheHeap (Value.builtin U))=false:=by cases expr<;>rfl
 rw[bb (by rw[e];decide)];unfold boundAndCalled;apply ab (fo f4 ?_);apply mu O (hT _) en (BN B (s:=#[z,g,d,t+1,os]) I rfl rfl W #[_,rfl,?_]) (ar _ _);show af h
def qO (U:s.heap.get? a=some o)(O:o.cls=.type "dict")(hd:o.dict=none)(W:∀c,o.data≠.cls c)(h:Q (.ref s.heap.objs.size) {s with heap:=s.heap.push (j4 "dict.get" a),toks:=s.toks+1}) :
  wpAny (model prog w) A (getAttr (.ref a) "get" expr) Q E s:=
 jN DG PySem.F.slot_dict_getattribute am_entry_dict_getattribute PySem.F.args_dict_getattribute_2 U O hd W h
def entry_set_ga:entryFor table "set.__getattribute__"=some Builtin.«object.__getattribute__»:=
 entryFor_alias (id':="object.__getattribute__") (by kernel_rfl) (by first|rfl|decide +kernel) (by decide +kernel) (by kernel_rfl)
def qN (U:s.heap.get? a=some o)(O:o.cls=.type "set")(hd:o.dict=none)(W:∀c,o.data≠.cls c)(h:Q (.ref s.heap.objs.size) {s with heap:=s.heap.push (j4 "set.__contains__" a),toks:=s.toks+1}) :
  wpAny (model prog w) A (getAttr (.ref a) "__contains__" expr) Q E s:=
 jN DF PySem.F.slot_set_getattribute entry_set_ga PySem.F.args_set_getattribute_2 U O hd W h
def rF {pos:Pos}{u:Addr}{first:List Value}{args:List (Bool×Sem Value)}(W:args.any (·.1)=false)(J:o.cls=.type "builtin_function_or_method")(O:o.data=.fields #v[.builtin id,.ref a])
  (h:wpAny (model prog w) A (evalArgs (.ref u) true args []) (λx s₁=>s₁.heap.get? u=some o/\wpAny (model prog w) A (call (.ref u) (first++x.pos) x.kw) Q E s₁) E s):wpAny (model prog w) A (callWith pos (.ref u) first args []) Q E s:=by
 unfold callWith;apply ab (dp (dj h (λx s₁ h₁=>ab (gw ?_)) λ_ _ x=>x));have#[I,U]:=h₁;simp -iota only[W,List.any_nil,gM];apply ab (m:=keeperOf (.ref u)) ?_;unfold keeperOf;apply ab (yh I ?_);simp -iota only[J,O,show(Value.type "builtin_function_or_method" != Value.type "method")=true by decide,show(Value.type "builtin_function_or_method" == Value.type "builtin_function_or_method" ||Value.type "builtin_function_or_method" == Value.type "method-wrapper")=true by decide,yv];apply af ?_;show ab (dj U (λr s₂ hr=>ab (dp (wpAny_point (af hr)))) λ_ _ x=>x)
def DC {u:Addr}{b:Builtin}{args:List Value}(B:s.heap.get? u=some o)(U:o.cls=.type "builtin_function_or_method")(W:o.data=.fields #v[.builtin id,.ref a])
  (O:∀(A:Around) (E:QqV) (Q:Unit->Shared->Prop),Q () s->wpAny (model prog w) A (checkBoundCall id #[.ref a::args,[]]) Q E s) (I:id.startsWith "lifetime."=false) (z:entryFor table id=some b)
  (h:∀A':Around,wpAny (model prog w) A' (b #[.ref a::args,[]]) (λfin s'=>∃v,fin=.done (.ret v)/\Q v s') E s):wpAny (model prog w) A (call (.ref u) args) Q E s:=by
 apply rg (ug ?_);show wpAny _ A.in1 (callAny (.ref u) #[args,[]]) _ _ s;simp -iota only[callAny];apply ab (yh B ?_);simp -iota only[U,W,show(Value.type "builtin_function_or_method" == Value.type "method" ||Value.type "builtin_function_or_method" == Value.type "builtin_function_or_method" ||Value.type "builtin_function_or_method" == Value.type "method-wrapper")=true by decide,yv];show wpAny _ _ (do checkBoundCall id #[.ref a::args,[]];again (.builtin id #[.ref a::args,[]])) _ _ s;apply ab (O _ _ _ (af #[iE _ I,ye z ?_]));apply dj (h _) (λfin s' h'=>?_) λ_ _ x=>x;have#[v,rfl,J]:=h';show J
def D9 (a b c:Value):(match Manifest.signature? "dict.get" with|some W=>Bind.checkArgs "dict.get" {W with full:=s!"{Bind.lastOf "dict"}.{Bind.lastOf "dict.get"}" } #[[a,b,c],[]]|none=>pure ())=pure ():=by
 rw[kC (id:="dict.get") (n:=['t','e','g']) (o:=['t','c','i','d']) (by kernel_rfl) PySem.F.owner_dict];kernel_rfl
def D8 (a b:Value):(match Manifest.signature? "set.__contains__" with|some W=>Bind.checkArgs "set.__contains__" {W with full:=s!"{Bind.lastOf "set"}.{Bind.lastOf "set.__contains__"}" } #[[a,b],[]]|none=>pure ())=pure ():=by
 rw[kC (id:="set.__contains__") (n:=['_','_','s','n','i','a','t','n','o','c','_','_']) (o:=['t','e','s']) (by kernel_rfl) PySem.F.owner_set];kernel_rfl
def u0 {rest:List Value}{Q:Unit->Shared->Prop}(B:s.heap.get? a=some o)(hc:o.cls=.type T)(O:∀c,o.data≠.cls c)(hk:builtinKind id=some .method)(hm:isSubtype (.type T) (.type "module")=pure false)(hv:Manifest.varargsMethods.contains id=false)
  (J:(match Manifest.signature? id with|some W=>Bind.checkArgs id {W with full:=s!"{Bind.lastOf T}.{Bind.lastOf id}" } #[.ref a::rest,[]]|none=>pure ())=pure ()) (h:Q () s):wpAny (model prog w) A (checkBoundCall id #[.ref a::rest,[]]) Q E s:=by
 have z:s.TypeIs (.ref a) T:=#[_,B,hc];unfold checkBoundCall;cases hsig:Manifest.signature? id with
 |none=>show af h
 |some W =>
  rw[hsig]at J;dsimp only at J ⊢;rw[hk];dsimp only;rw[bb (by decide)];unfold isInstance;apply ab (ab (gJ z ?_));apply fo hm ?_;rw[hv,bb (by decide)];have U:∀I:Bool->Shared->Prop,I false s->wpAny (model prog w) A (isType (.ref a)) I E s:=λI q=>by
   unfold isType loadHead;apply ab (i7 B (af ?_));split
   ·rename_i c e;show absurd e (O c)
   ·show q
  apply ab (U _ ?_);rw[bb (by decide)];apply ab (gJ z ?_);show fo J h
def zF:builtinKind "dict.get"=some .method:=by kernel_rfl
def zE:builtinKind "set.__contains__"=some .method:=by kernel_rfl
def J9:isSubtype (.type "dict") (.type "module")=pure false:=by rw[lz];kernel_rfl
def J8:isSubtype (.type "set") (.type "module")=pure false:=by rw[lz];kernel_rfl
def EC:Manifest.varargsMethods.contains "dict.get"=false:=by decide +kernel
def EB:Manifest.varargsMethods.contains "set.__contains__"=false:=by decide +kernel
def HK {x y:Value}{Q:Unit->Shared->Prop}(U:s.heap.get? a=some o)(O:o.cls=.type "dict")(W:∀c,o.data≠.cls c)(h:Q () s):wpAny (model prog w) A (checkBoundCall "dict.get" #[[.ref a,x,y],[]]) Q E s:=
 u0 U O W zF J9 EC (D9 _ _ _) h
def HJ {x:Value}{Q:Unit->Shared->Prop}(U:s.heap.get? a=some o)(O:o.cls=.type "set")(W:∀c,o.data≠.cls c)(h:Q () s):wpAny (model prog w) A (checkBoundCall "set.__contains__" #[[.ref a,x],[]]) Q E s:=
 u0 (T:="set") (id:="set.__contains__") (rest:=[x]) U O W zE J8 EB (D8 (.ref a) x) h
end
end MP
end
section
namespace MP
open PySem PyProof.Rows
def uS:plainId "dict.get"=true:=PySem.F.slot_dict_get.plain
def zA:("dict.get":String).startsWith "lifetime."=false:=by decide +kernel
def z9:("set.__contains__":String).startsWith "lifetime."=false:=by decide +kernel
section
variable {prog:Program}{w:World}{A:Around}{E:QqV}{s:Shared}
def zS {u a:Addr}{id:String}{o:Obj}{b:Builtin}{args:List Value}{S:PySem.Spec}{Q:QqV}(B:s.heap.get? u=some o)(U:o.cls=.type "builtin_function_or_method")(W:o.data=.fields #v[.builtin id,.ref a])
  (O:∀(A:Around) (E:QqV) (Q:Unit->Shared->Prop),Q () s->wpAny (model prog w) A (checkBoundCall id #[.ref a::args,[]]) Q E s) (J:id.startsWith "lifetime."=false) (z:entryFor table id=some b) (I:plainId id=true)
  (g:MeetsIn prog w (b #[.ref a::args,[]]) S) (h:S A (wants Q E) s):wpAny (model prog w) A (call (.ref u) args) Q E s:=by
 apply rg (ug ?_);show wpAny _ A.in1 (callAny (.ref u) #[args,[]]) _ _ s;simp -iota only[callAny];apply ab (yh B ?_);simp -iota only[U,W,show(Value.type "builtin_function_or_method" == Value.type "method" ||Value.type "builtin_function_or_method" == Value.type "builtin_function_or_method" ||Value.type "builtin_function_or_method" == Value.type "method-wrapper")=true by decide,yv];show wpAny _ _ (do checkBoundCall id #[.ref a::args,[]];again (.builtin id #[.ref a::args,[]])) _ _ s;apply ab (O _ _ _ (af #[iE _ J,ye z ?_]));rw[eJ I];show g A (wants Q E) s h
def nK {K:Type}[DecidableEq K]{knd:KeyKind prog w K}{a:Addr}{k:K}{key:Value}{S:K->Bool}{n:Nat}{Q:QqV}(W:knd.is k key=true)(U:key.scannable=true)(O:s.heap.SetOf knd a S n)
  (h:Q (.bool (S k)) {s with toks:=s.toks+1}):wpAny (model prog w) A (Builtin.«frozenset.__contains__» #[[.ref a,key],[]]) (λfin s'=>∃v,fin=.done (.ret v)/\Q v s') E s:=by
 unfold Builtin.«frozenset.__contains__» Builtin.Frozenset.oneOther;simp only[List.isEmpty_nil,bind_assoc];unfold Builtin.Frozenset.addrOf Builtin.Frozenset.withSetAsKey setContains;apply ab (af ?_)
 try dsimp only
 apply ab (af ?_)
 try dsimp only
 apply ab (wpAny_tryCatch ?_);apply dp ?_;apply ab (knd.pyHash W ?_);apply ab (wpAny_setFind_of (s:={s with toks:=s.toks+1}) W U O λr hr=>?_);apply af ?_;show wpAny _ _ (ret (Value.bool r.isSome)) _ _ _;rw[hr];show af #[_,rfl,h]
end
section
variable {pos:Pos}
variable {G:Stc}{C:Cal}{sc:Scope}{d:Nat}
def uH {e:Ex}{x:Expr}(B:gc G C sc d e x)(hb:tj x=true):gc G C sc d (.g e) (.Attribute x "get" pos):=λ_ _ _ _ _ _ _ c h =>
 Attribute_any_ (qc (B c h) λv σ₁ s₁ w q vr r x=>by
  have#[a,rfl,hD,q]:=q;have rfl:=vr;have#[ag,e]:=cq.mp hD;have#[ds,hd,_]:=r.D _ _ e;have U:=hd.mapOf.noDict a rfl;have#[o,ai,ep,I,z,O,_]:=id hd;have#[o',W,J]:=U;have rfl:=ah (I.symm.trans W);apply qO I z.1 J (λc q=>by rw[O]at q;cases q) ?_;apply#[.gF a,σ₁,q,.gF (eg _ rfl) rfl rfl,r.push _,x.to (Evo.push _ _ _ _)]) (by rw[arm_eval_Attribute,cO hb])
def uG {e:Ex}{x:Expr}(I:gc G C sc d e x)(hb:tj x=true):gc G C sc d (.h e) (.Attribute x "__contains__" pos):=λ_ _ _ _ _ _ _ c h =>
 Attribute_any_ (qc (I c h) λv σ₁ s₁ w q vr r x=>by
  have#[a,rfl,z,q]:=q;have rfl:=vr;have#[ag,e]:=cq.mp z;have hd:=r.S _ _ e;have#[o',W,O]:=hd.of.noDict a rfl;have#[o,ai,ep,t,J,B,U,_]:=id hd;have rfl:=ah (J.symm.trans W);apply qN J B.1 O (λc q=>by rw[U]at q;cases q) ?_;apply#[.gX a,σ₁,q,.gX (eg _ rfl) rfl rfl,r.push _,x.to (Evo.push _ _ _ _)]) (by rw[arm_eval_Attribute,cO hb])
def pC {A:Around}{E:QqV}{s:Shared}{σ:St}{env:Env}{ρ:Fr}{u a:Addr}{id:String}{o:Obj}{es:Exs}{args:List Expr}{P:List V->St->Prop}{Q:QqV}(B:s.heap.get? u=some o)(U:o.cls=.type "builtin_function_or_method")(W:o.data=.fields #v[.builtin id,.ref a])(I:noStar args=true)(O:pe G C sc d es args)
  (c:Cx G sc d A env ρ σ s) (h:uv C es ρ σ P)
  (k:∀vs σ₁ s₁ ws,P vs σ₁->VRs G s₁.heap vs ws->Rel G σ₁ s₁.heap->Go [] σ s σ₁ s₁->s₁.heap.get? u=some o->wpAny G.M A (call (.ref u) ws) Q E s₁) :
  wpAny G.M A (callWith pos (.ref u) [] (backTo pos (starEach args env)) []) Q E s:=
 rF (o:=o) (jy I pos env) U W (om (jy I pos env) (nP (O c h) λvs σ₁ s₁ ws q vr r x=>by
  have J:=x.frz _ _ B (.inr (.inl #[.inl U,_,W]));apply#[J,k vs σ₁ s₁ ws q vr r x J]))
def oB {f:Nat}{es:Exs}{x:Str}{kd:NameKind}{args:List Expr}{p:Pos}(K:GOk G)(LO:n7 G C d)(hi:sc.names[f]?=some (x,kd))(hk:isVar kd=true)(hx:jh x=true)(B:pe G C sc d es args)(hs:noStar args=true):gc G C sc d (.w f es) (.Call (.Name x p) args [] pos):=λA E env ρ σ Q s c h=>by
 have#[v,hv,h]:=h;have aj:(x==("__debug__":Str))=false:=by simp only[jh,dw,gi]at hx;show hx.1
 apply Call_ (wpAny_Name (gV c.eo c.F (by rw[c.es];show hi) hk hx hv λw vr=>?_) aj);have no:(∀vs σ,¬KW v vs C 1000 σ Q)->wpAny G.M A (callWith pos w [] (backTo pos (starEach args env)) []) (jr G [] σ s Q) E s:=λax=>by
  unfold callWith;show ab (dp (om (jy hs pos env) (nP (B c h) λvs σ₁ s₁ ws q vr r x=>(ax _ _ q).elim)))
 cases v with
 |gF a =>
  have#[q,o,rfl,ho,I,J]:=vr;apply pC ho I J hs B c h λvs σ₁ s₁ ws W z r O hu=>?_;have#[k,dd,rfl,bc,kk,e,U,W]:=oK (vs:=vs) W;have#[wa,wb,rfl,va,vb]:=z.two;have#[ds,hd,ar]:=r.D _ _ e;have#[od,ay,ep,ag,hcd,ai,_]:=id hd;have hl:=ar.look kk;apply zS hu I J (λA E Q q=>HK ag hcd.1 (λc q=>by rw[ai]at q;cases q) q) zA PySem.F.entry_dict_get uS (meets_dict_get_default G.kk _ (key_is U va) (kM K r (.inr (.inl (by rw[e];rfl)))) _) #[_,hd.mapOf,?_];apply#[_,σ₁,W,hl.getD vb,r,O.tok]
 |gX a =>
  have#[q,o,rfl,ho,I,J]:=vr;apply pC ho I J hs B c h λvs σ₁ s₁ ws W z r O hu=>?_;have#[k,rfl,ks,kk,e,U,W]:=jI (vs:=vs) W;have#[wa,rfl,va]:=z.one;have hS:=r.S _ _ e;have#[od,ay,ep,t,ag,hcd,ai,_]:=id hS;apply DC hu I J (λA E Q q=>HJ ag hcd.1 (λc q=>by rw[ai]at q;cases q) q) z9 PySem.entry_set_contains λA'=>?_;apply nK (key_is U va) (CH U va) hS.of ?_;apply#[_,σ₁,W,.bool _,r,O.tok]
 |clo k cs =>
  have#[a,_,rfl,hk,_]:=vr;have#[#[o,fd,ho,hd],hc]:=LO k cs a hk;show dJ ho hd hs B c h λvs σ₁ s₁ ws q vr r x=>x.back (hc c.ao r vr q)
 |_=>show no λ_ _ q=>q
end
end MP
end
section
namespace MP
open PySem PyProof.Rows
def At.grow {h h':Heap}{a:Addr}{o:Obj}(W:h.get? a=none)(hk:∀b o,h.get? b=some o->h'.get? b=some o)(U:h'.get? a=some o):At a h h':=
 #[λb o _ e=>hk b o e,#[_,U],λo e=>by rw[W]at e;cases e]
section
variable {G:Stc}{C:Cal}{sc:Scope}{d:Nat}
def z8 {X:List Addr}{σ σ₁:St}{s s₁:Shared}{W:Heap}{z:Drawn}{tk:Nat}{Q:V->St->Prop}{vs:List V}{ws:List Value}{a n:Nat}(r:Rel G σ₁ s₁.heap)(x:Go X σ s σ₁ s₁)(O:s₁.heap.get? a=none)(hk:∀b o,s₁.heap.get? b=some o->W.get? b=some o)(hl:IsL W a ws.toArray n)(J:VRs G s₁.heap vs ws)(hz:vs.length<=bz)
  (q:∀c,σ₁.L c=none->Q (.L c) (σ₁.ew c vs)):jr G X σ s Q (.ref a) #[W,s₁.gens,z,tk,s₁.os]:=by
 have U:At a s₁.heap W:=At.grow O hk hl;have B:σ₁.L a=none:=by
  cases hq:σ₁.L a with
  |none=>rfl
  |some ys=>have#[o,I,_]:=r.qZ hq;rw[O]at I;cases I
 apply#[.L _,_,q _ B,.L _,r.putL U (λ_=>O) hl J hz,x.to (Evo.putL U (λ_=>O) _)]
def F6 {e:Ex}{x:Str}{y:Expr}{p pos:Pos}(K:GOk G)(he:gc G C sc d e y)(J:noStar [y]=true)(hx:sc.names.lookup x=some .globalImplicit)(hn:jh x=true)(hv:G.gl x=some (.builtin "len")) :
  gc G C sc d (.bf .len %[e|0]) (.Call (.Name x p) [y] [] pos):=λ_ _ _ _ _ _ _ c h=>by
 apply lA K J (jx he nz (gm J).1) hx hn hv c h λvs σ₁ s₁ ws q vr r W=>?_;have#[v,rfl,q]:=jI (vs:=vs) q;have zz:=vr.one;clear vr;have#[w,rfl,I]:=zz;cases v with
 |L a =>
  have rfl:=I;have#[xs,e,q]:=q;have#[us,n,hl,O]:=r.L _ _ e;rw[O.length]at q;show PySem.Calls.call_len_list hl.isList (zB (nD r e O)) #[_,σ₁,q,.int _ _,r,W.tok]
 |T xs =>
  have#[a,us,n,rfl,g,z]:=I;have#[hz,q]:=q;rw[z.length]at q hz;show PyProof.Rows.len_tuple #[_,g,rfl,_,rfl] (zB hz) #[_,σ₁,q,.int _ _,r,W.tok]
 |ro ns =>
  have#[a,us,n,rfl,g,z]:=I;have#[hz,q]:=q;rw[<- z.length]at q hz;show PySem.Calls.call_len_list (IsL.isList (r.base _ _ g)) (zB hz) #[_,σ₁,q,.int _ _,r,W.tok]
 |dct a =>
  have rfl:=I;have#[ai,e,q]:=q;have#[ds,hd,ag]:=r.D _ _ e;have U:=ag.length;have hz:=r.Dl _ _ e;unfold bz at hz;apply call_len_dict (kM K r (.inr (.inl (by rw[e];rfl)))) hd (gj (.il .L .M) .k .cB (.k .B .Y) U hz) ?_;rw[U]at q;apply#[_,σ₁,q,.int _ _,r,W.tok]
 |_=>show False.elim q
def AQ {x:Str}{p pos:Pos}(K:GOk G)(O:sc.names.lookup x=some .globalImplicit)(I:jh x=true)(J:G.gl x=some (.type "set")) :
  gc G C sc d (.bf .set .nil) (.Call (.Name x p) [] [] pos):=λA E env ρ σ Q s c h=>by
 apply wo (P:=λvs σ=>A7 .set vs σ Q) K rfl nz O I J c h λvs σ₁ s₁ ws q vr r W=>?_;have#[rfl,q]:=wZ (vs:=vs) q;have rfl:=vr;have U:At s₁.heap.objs.size s₁.heap (s₁.heap.push (yV G)):=At.push s₁.heap;show rC #[.set _,_,q _ r.KD r.freshD,.set _,r.JM U (λ_=>none_at_size _) (yT s₁.heap),W.to (Evo.JM U (λ_=>none_at_size _) _)]
end
end MP
end
section
namespace MP
open PySem PyProof.Rows
variable {σ:St}{env:Env}{elt target iter:Expr}{gens:List Comprehension}{scope:Scope}{pos:Pos}{depth:Nat}{it acc:Value}{ifs:List Expr}
abbrev Tg.vars:Tg->List Nat
 |.v x=>[x]
 |.T xs=>xs
abbrev Gens.vars:Gens->List Nat
 |.elt _=>[]
 |.cons _ t _ more=>t.vars++more.vars
def lE:∀(xs:List Nat) (vs:List V) (ρ:Fr) (i:Nat),i∉xs->gr xs vs ρ i=ρ i
 | [],_,_,_,_=>rfl
 |_::_,[],_,_,_=>rfl
 |x::xs,v::vs,ρ,i,h=>by
  have h:=pK h;show(lE xs vs _ i h.2).trans (fg h.1)
def w4 {t:Tg}{v:V}{ρ:Fr}{K:Fr->Prop}(h:qi t v σ ρ K):qi t v σ ρ λρ'=>K ρ'/\∀i,i∉t.vars->ρ' i=ρ i:=by
 cases t with
 |v x=>refine#[h,λi hi=>fg (by simpa[Tg.vars] using hi)]
 |T xs =>
  have#[vs,e,hl,h]:=h;apply#[vs,e,hl,h,λi hi=>lE _ _ _ _ hi]
def Rel.KX {G:Stc}{h:Heap}{a:Addr}{xs:List V}{ws:List Value}{n:Nat}(R:Rel G σ h)(hd:¬σ.dom a)(hb:G.hb.get? a=none)(hl:IsL h a ws.toArray n)(U:VRs G h xs ws)(hz:xs.length<=bz):Rel G (σ.ew a xs) h:=by
 apply#[λb ys e=>?_,R.D,R.S,R.I,R.Z,λb ys e=>?_,R.Dl,R.inj,R.apart,R.sep,λb d=>?_,R.base]
 ·by_cases W:b=a
  ·subst W;simp only[St.ew,cn,gf]at e;subst e;apply#[ws,n,hl,U]
  ·simp only[St.ew,fg W]at e;show R.L b ys e
 ·by_cases W:b=a
  ·subst W;simp only[St.ew,cn,gf]at e;show e▸hz
  ·simp only[St.ew,fg W]at e;show R.Ll b ys e
 ·rcases zk d with d|rfl
  ·show R.new b d
  ·show hb
inductive y7 (G:Stc)(env:Env)(D:Addr)(X:List Addr)(tv:List Nat)(ρ:Fr)(σ:St)(s:Shared)(K:Fr->List V->St->Prop)(s':Shared):Prop
 |mk (ρ':Fr) (acc':List V) (σ':St) (ws:List Value) (n:Nat):K ρ' acc' σ'->FR G σ' env ρ' s'.heap->Rel G σ' s'.heap->IsL s'.heap D ws.toArray n->VRs G s'.heap acc' ws->acc'.length<=bz->¬σ'.dom D->Go (D::X) σ s σ' s'->(∀i,i∉tv->ρ' i=ρ i)->y7 G env D X tv ρ σ s K s'
structure dA (G:Stc)(env:Env)(D:Addr)(σ:St)(h:Heap)(acc:List V):Prop where
 here:∃ws n,IsL h D ws.toArray n/\VRs G h acc ws
 len:acc.length<=bz
 out:¬σ.dom D
 off:D∉envX env
 base:G.hb.get? D=none
def dA.evo {G:Stc}{D:Addr}{σ':St}{h h':Heap}{acc:List V}{X:List Addr}(a:dA G env D σ h acc)(x:Evo X σ h σ' h')(U:D∉X):dA G env D σ' h' acc:=by
 have#[ws,n,hl,W]:=a.here;apply#[#[ws,n,x.keep _ _ hl a.out U,W.mono x.frz],a.len,λd=>(x.dom D d).elim a.out λq=>(by rw[show h.get? D=_ from hl]at q;cases q),a.off,a.base]
abbrev vg (elt:Expr)(gens:List Comprehension)(scope:Scope)(pos:Pos)(depth:Nat)(acc:Value)(env:Env):Sem Unit:=
 match gens[depth+1]? with
 |some g'=>eval g'.iter env>>=λx=>standAt g'.iter.pos>>=λ_=>foldedSetIterable g'.iter env x>>=λx=>holding [x] (pyIter x)>>=λi =>
  runOwn (.compStart (.ListComp elt gens scope pos) (depth+1) i acc env) env>>=λ_=>pure ()
 |none=>eval elt env>>=λx=>call (.builtin "list.append") [acc,x]>>=λ_=>pure ()
abbrev tests (ifs:List Expr)(env:Env):Sem Bool:=forIn ifs true λc r=>if r=true then do let ok←isTrue c env (eval c env);pure (ForInStep.yield ok) else pure (ForInStep.yield r)
def tW (O:gens[depth]?=some #[target,iter,ifs,0])(U:∀W,gens[depth+1]?=some W->W.is_async=0) :
  compTurn (.ListComp elt gens scope pos) depth it acc env=(standAt iter.pos>>=λ_=>pyNext it>>=λr=>match r with
   |none=>pure (.done .next)
   |some v=>letOwnedTupleGo target it v>>=λ_=>assign target env v>>=λ_=>tests ifs env>>=λok =>
    if ok=true then vg elt gens scope pos depth acc env>>=λ_=>again (.compLoop (.ListComp elt gens scope pos) depth it acc env) else again (.compLoop (.ListComp elt gens scope pos) depth it acc env)):=by
 unfold compTurn;simp only[O];unfold vg tests;cases hq:gens[depth+1]? with
 |none=>first|rfl|simp
 |some W =>
  have:=U W hq;simp[this]
  congr 1
section
variable {prog:Program}{w:World}{A:Around}{R:Result->Shared->Prop}{s:Shared}
def i1 (U:gens[depth]?=some #[target,iter,ifs,0])
  (h0:codeAny (model prog w) A (.compLoop (.ListComp elt gens scope pos) depth it acc env) R s)
  (h:wpAny (model prog w) A (pyIter it) (λW s'=>codeAny (model prog w) A (.compLoop (.ListComp elt gens scope pos) depth W acc env) R s') (notedBy (model prog w) A env λx s'=>R (.error x) s') s) :
  codeAny (model prog w) A (.compStart (.ListComp elt gens scope pos) depth it acc env) R s:=by
 apply ug ?_;show wpAny _ A ((compStart (.ListComp elt gens scope pos) depth it acc env).onRaise (λx=>do noteFrame x env;standAt theWindowsPlace)) _ _ s;apply wpAny_notedAt ?_;unfold compStart;have e:clausesOf (.ListComp elt gens scope pos)=gens:=rfl;simp only[e,U];show wpAny _ A (ask>>=_) _ _ s;apply ab (nH (wpAny_ite ?_));split
 ·first
   |show ab (af (af (And.intro rfl h0)))
   |show af (And.intro rfl h0)
 ·show ab (rf (ab (gw (ab (dj h (λW s' h'=>af (And.intro rfl h')) λ_ _ x=>x)))))
def tX (hg:gens[depth]?=some #[target,iter,ifs,0])(aj:∀g',gens[depth+1]?=some g'->g'.is_async=0)(I:Nat->Shared->Prop)
  (z:∀n s,I n s->wpAny (model prog w) A (pyNext it) (λr s₁=>match r with
   |none=>R (.ok .next) s₁
   |some v=>wpAny (model prog w) A (letOwnedTupleGo target it v) (λ_ U=>wpAny (model prog w) A (assign target env v) (λ_ s₂ =>
     wpAny (model prog w) A (tests ifs env) (λok W=>if ok=true then wpAny (model prog w) A (vg elt gens scope pos depth acc env) (λ_ O=>∃m,m<n/\I m O) (notedBy (model prog w) A env λe s'=>R (.error e) s') W else ∃m,m<n/\I m W)
      (notedBy (model prog w) A env λe s'=>R (.error e) s') s₂) (notedBy (model prog w) A env λe s'=>R (.error e) s') U) (notedBy (model prog w) A env λe s'=>R (.error e) s') s₁) (notedBy (model prog w) A env λe s'=>R (.error e) s') s)
  (n:Nat) (h:I n s):codeAny (model prog w) A (.compLoop (.ListComp elt gens scope pos) depth it acc env) R s:=by
 apply codeAny_loop rfl I (λn s hI=>?_) n h;show wpAny _ A ((compTurn (.ListComp elt gens scope pos) depth it acc env).onRaise (λx=>do noteFrame x env;theTreesLotGoes x)) _ _ s;apply wpAny_noted ?_;rw[tW hg aj];apply ab (gw (ab (dj (z n s hI) (λr s₁ h₁=>?_) λ_ _ h'=>h')));cases r with
 |none=>show af h₁
 |some v =>
  apply ab (dj h₁ (λ_ U B=>ab (dj B (λ_ s₂ ai=>ab (dj ai (λok W J=>?_) λ_ _ h'=>h')) λ_ _ h'=>h')) λ_ _ h'=>h');cases ok with
  |false=>show af #[rfl,J]
  |true=>show ab (dj J (λ_ O ag=>af #[rfl,ag]) λ_ _ h'=>h')
end
section
variable {A:Around}{s s₀:Shared}{cs:Exs}{elt target:Expr}{gens:List Comprehension}{scope:Scope}{pos:Pos}{depth:Nat}{env:Env}{σ₀ σ:St}{D:Addr}{X:List Addr}{ρ:Fr}{K:Fr->List V->St->Prop}{acc:List V}{t:Tg}{more:Gens}{ifs:List Expr}
variable {G:Stc}{C:Cal}{sc:Scope}{d:Nat}
abbrev sq (G:Stc)(C:Cal)(sc:Scope)(d:Nat)(cs:Exs)(ifs:List Expr):Prop:=
 ∀⦃A E env ρ σ Q s⦄,Cx G sc d A env ρ σ s->yi C cs ρ σ Q->wpAny G.M A (tests ifs env) (lq G [] σ s Q) E s
def jD {E:QqV}{env:Env}{Q:Bool->Shared->Prop}(f:Expr->Bool->Sem (ForInStep Bool))(W:∀c,f c false=pure (.yield false))(h:Q false s):∀ifs:List Expr,wpAny G.M A (forIn ifs false f) Q E s
 | []=>by rw[oj];show af h
 |c::r=>by
  rw[ow,W];show ab (af (jD (env:=env) f W h r))
def zN:sq G C sc d .nil []:=λ_ _ _ _ _ _ _ c h=>by
 unfold tests;rw[oj];show af (lq.here h c.R)
def vS {c:Ex}{x:Expr}{xs:List Expr}(W:ua G C sc d c x)(hr:sq G C sc d cs xs):sq G C sc d (.cons c cs) (x::xs):=λA E env ρ σ Q s c h=>by
 unfold tests;rw[ow];rw[cp rfl];apply ab (ab (nQ (W c h) λb σ₁ s₁ q r x=>af ?_));cases b with
 |true=>show x.u5 (hr (c.go r x) q)
 |false=>show jD (env:=env) _ (λc=>by simp) (lq.back x (lq.here q r)) xs
structure XOk (env:Env)(X:List Addr)(gens:List Comprehension):Prop where
 loc:env.locals∈X
 cells:∀g∈gens,∀y∈gS g.target,∀c,env.cells.lookup y=some c->c∈X
 sub:∀b∈X,b∈envX env
abbrev ue (G:Stc)(C:Cal)(sc:Scope)(d:Nat)(more:Gens)(elt:Expr)(gens:List Comprehension)(scope:Scope)(pos:Pos)(depth:Nat):Prop:=
 ∀⦃A E env ρ σ acc K s D X⦄,XOk env X gens->Cx G sc d A env ρ σ s->dA G env D σ s.heap acc ->
  fT C more ρ acc σ K->wpAny G.M A (vg elt gens scope pos depth (.ref D) env) (λ_ s'=>y7 G env D X more.vars ρ σ s K s') E s
def zX {e:Ex}(he:gc G C sc d e elt)(hg:gens[depth+1]?=none):ue G C sc d (.elt e) elt gens scope pos depth:=λA E env ρ σ acc K s D X xo c a h=>by
 unfold vg;rw[hg];apply ab (qc (he c h) λv σ₁ s₁ w q vr r x=>?_);have W:=a.evo x.e (by simp);have#[ws,n,hl,z]:=W.here;have U:=z.length;have hz:=q.1;apply ab (i9 gK #[_,hl,rfl] PySem.F.entry_list_append (PySem.F.args_list_append_2 _ _) (list_append _ _ _ _ (by simp only[cw];rw[<- U];show nh (av .A .a .B q.1))) #[hl,af ?_]);have I:=hl.update (λx=>x.push w);have e2:ws.toArray.push w=(ws++[w]).toArray:=by simp
 rw[e2]at I;have J:Heap.SameBut D s₁.heap (s₁.heap.update D (Obj.mapSeq λx=>x.push w)):=xg ..;have O:jq s₁.heap (s₁.heap.update D (Obj.mapSeq λx=>x.push w)):=tw J λo eo=>by
  have rfl:=ah (eo.symm.trans hl);show yk rfl rfl
 have hk:∀b o,b∉[D]->s₁.heap.get? b=some o->(s₁.heap.update D (Obj.mapSeq λx=>x.push w)).get? b=some o:=λb o hb e=>by rw[J.2 b (λq=>hb (q▸.head _))];show e
 apply#[ρ,acc++[v],σ₁,ws++[w],_,q.2,(c.F.evo x.e).but hk O (λb hb=>by have rfl:=ak.mp hb;show a.off),r.frame (o':=default) J W.out a.base O,I,(z.mono O).append %[vr.mono O|0],by simp;(show av .S .a .B q.1),W.out,?_,λ_ _=>rfl];show(x.more λ_ h=>nomatch h).to (Evo.frame J I (.head _) O)
abbrev o8 (C:Cal)(t:Tg)(cs:Exs)(more:Gens)(v:V)(ρ:Fr)(acc:List V)(σ:St)(K:Fr->List V->St->Prop):Prop:=qi t v σ ρ λρ'=>yi C cs ρ' σ λok σ=>if ok then fT C more ρ' acc σ K else K ρ' acc σ
inductive jS (I:Itr G)(env:Env)(σ₀:St)(s₀:Shared)(D:Addr)(X:List Addr)(vs:List Nat)(ρ:Fr)(T:V->Fr->List V->St->(Fr->List V->St->Prop)->Prop)(K:Fr->List V->St->Prop)(n:Nat)(s':Shared):Prop
 |mk (i:Nat) (σ':St) (ρ':Fr) (acc':List V):n=I.vs.length-i->I.pos i s'.heap->FR G σ' env ρ' s'.heap->Rel G σ' s'.heap->dA G env D σ' s'.heap acc'->Go (D::X) σ₀ s₀ σ' s'->(∀b∈I.own,¬σ'.dom b)->(∀j,j∉vs->ρ' j=ρ j)->mF (I.vs.drop i) I.Gd T ρ' acc' σ' K->jS I env σ₀ s₀ D X vs ρ T K n s'
def jS.next {I:Itr G}{s':Shared}{vs:List Nat}{T:V->Fr->List V->St->(Fr->List V->St->Prop)->Prop}{i:Nat}{σ':St}{ρ':Fr}{W:List V}(lt:i<I.vs.length)(U:I.pos (i+1) s'.heap)(F:FR G σ' env ρ' s'.heap)(R:Rel G σ' s'.heap)(a:dA G env D σ' s'.heap W)(x:Go (D::X) σ₀ s₀ σ' s')(hd:∀b∈I.own,¬σ'.dom b)(O:∀j,j∉vs->ρ' j=ρ j)(q:mF (I.vs.drop (i+1)) I.Gd T ρ' W σ' K) :
  ∃m,m<I.vs.length-i/\jS I env σ₀ s₀ D X vs ρ T K m s':=#[_,by show fy .B .d (.e (.a .A .T) .D) .b8 (aa (av .S .a .B lt)) (aa (av .A .a .B lt)),i+1,σ',ρ',W,rfl,U,F,R,a,x,hd,O,q]
def dA.kept {h h':Heap}{own:List Addr}(a:dA G env D σ h acc)(U:D∉own)(hk:∀b o,b∉own->h.get? b=some o->h'.get? b=some o)(O:jq h h'):dA G env D σ h' acc:=by
 have#[ws,m,hl,W]:=a.here;apply#[#[ws,m,hk _ _ U hl,W.mono O],a.len,a.out,a.off,a.base]
def J5 (ht:we G C sc d t target)(dn:sq G C sc d cs ifs)(dr:ue G C sc d more elt gens scope pos depth)
  {E:QqV} {W:Fr} {i:Nat} {I:Itr G} {v:V} {w:Value} (xo:XOk env X gens) (bu:∀y∈gS target,∀c,env.cells.lookup y=some c->c∈X) (c:Cx G sc d A env ρ σ s)
  (hX:∀b∈I.own,b∉envX env) (hD:D∉I.own) (lt:i<I.vs.length) (a:dA G env D σ s.heap acc) (x0:Go (D::X) σ₀ s₀ σ s) (hp:I.pos (i+1) s.heap) (hd:∀b∈I.own,¬σ.dom b) (ag:∀j,j∉t.vars++more.vars->ρ j=W j) (vr:VR G s.heap v w)
  (hf:o8 C t cs more v ρ acc σ λρ acc σ=>mF (I.vs.drop (i+1)) I.Gd (o8 C t cs more) ρ acc σ K) :
  wpAny G.M A (assign target env w) (λ_ s₂=>wpAny G.M A (tests ifs env) (λok B=>if ok=true then wpAny G.M A (vg elt gens scope pos depth (.ref D) env) (λ_ J=>∃m,m<I.vs.length-i/\jS I env σ₀ s₀ D X (t.vars++more.vars) W (o8 C t cs more) K m J) E B
   else ∃m,m<I.vs.length-i/\jS I env σ₀ s₀ D X (t.vars++more.vars) W (o8 C t cs more) K m B) E s₂) E s:=by
 have ar:∀c∈I.own,c∉X:=λc hc q=>hX c hc (xo.sub c q);apply dj (ht xo.loc bu c vr (w4 hf)) (λ_ B l=>?_) λ_ _ x=>x;have#[be,#[ca,ai],bc,cl,O]:=l;have#[dm,ch]:=I.AM ar hp hd O.e;have a3:=a.evo O.e λq=>a.off (xo.sub D q);apply nQ (dn (c.at bc cl) ca) λok bd J ao ay U=>?_;have#[cc,ax]:=I.AM (λc _=>yt) dm ch U.e;have a4:=a3.evo U.e yt;have F4:=bc.evo U.e;have x5:Go (D::X) σ₀ s₀ bd J:=(x0.trans (O.more λb hb=>.tail _ hb)).trans (U.more λ_ h=>nomatch h);have cj:∀j,j∉t.vars++more.vars->be j=W j:=λj hj=>(ai j (λq=>hj (dg _ q))).trans (ag j hj);cases ok with
 |false =>
  rw[bb gx];show jS.next lt cc F4 ay a4 x5 ax cj ao
 |true =>
  rw[cp rfl];apply dj (dr xo (c.at F4 ay) a4 ao) (λ_ dv l=>?_) λ_ _ x=>x;have#[dc,cx,da,bl,cb,bv,ct,ck,br,bp,bn,bt,aj,z]:=l;have#[df,cd]:=I.AM (λc hc q=>(cz.mp q).elim (λe=>by rw[e]at hc;show hD hc) (ar c hc)) cc ax aj.e;show jS.next lt df ct ck #[#[bl,cb,br,bp],bn,bt,a.off,a.base] (x5.trans aj) cd (λj hj=>(z j (λq=>hj (dt _ q))).trans (cj j hj)) bv
def IG {iter:Expr}(ht:we G C sc d t target)(bl:sq G C sc d cs ifs)(bn:ue G C sc d more elt gens scope pos depth)(hg:gens[depth]?=some #[target,iter,ifs,0])(be:∀g',gens[depth+1]?=some g'->g'.is_async=0)
  {R:Result->Shared->Prop} (I:Itr G) (hI:I.tup=true->isTup target=true) (xo:XOk env X gens) (c:Cx G sc d A env ρ σ s) (a:dA G env D σ s.heap acc)
  (hp:I.pos 0 s.heap) (aj:Go (D::X) σ₀ s₀ σ s) (ag:∀b∈I.own,s₀.heap.get? b=none) (hX:∀b∈I.own,b∉envX env) (bc:∀b∈I.own,¬σ.dom b) (hD:D∉I.own) (B:∀b∈I.own,G.hb.get? b=none)
  (hf:mF I.vs I.Gd (o8 C t cs more) ρ acc σ K)
  (hR:∀s',y7 G env D X (t.vars++more.vars) ρ σ₀ s₀ K s'->R (.ok .next) s') :
  codeAny G.M A (.compLoop (.ListComp elt gens scope pos) depth (.ref I.it) (.ref D) env) R s:=by
 apply tX hg be (jS I env σ₀ s₀ D X (t.vars++more.vars) ρ (o8 C t cs more) K) ?_ (I.vs.length-0)
  #[0,σ,ρ,acc,rfl,hp,c.F,c.R,a,aj,bc,λ_ _=>rfl,hf]
 intro n s' zz;have#[i,σ',ρ',ax,rfl,U,F',R',a',x',J,ar,O]:=zz;cases hq:I.vs[i]? with
 |none =>
  rw[List.drop_eq_nil_of_le (fA.mp hq)]at O;apply I.stop A _ s' σ' i _ c.ao.handled R' O.1 U hq λs2 g=>?_;have#[W,g2]:=g;have fz:=I.frz U W;have#[ws,m,hl,hv]:=(a'.kept hD W fz).here;show hR _ #[ρ',ax,σ',ws,m,O.2,F'.but W fz hX,I.rel U R' J B W,hl,hv,a'.len,a'.out,x'.but W g2 ag,ar]
 |some v =>
  have#[bd,ai]:=xX hq;rw[ai]at O;apply dj (I.next A _ s' σ' i v target ?Q c.ao.handled R' O.1 U hq (λq=>tG (hI q)) ?k) (λr s₁ hr=>?m) λ_ _ x=>x
  case m =>
   cases r with
   |none=>show hr.elim
   |some w=>show hr
  case k =>
   intro w s2 g z;have#[W,g2]:=g;have fz:=I.frz U W;have#[vr,ay]:=z fz;show J5 ht bl bn xo (xo.cells _ (fk hg)) (c.at (F'.but W fz hX) (I.rel U R' J B W)) hX hD bd (a'.kept hD W fz) (x'.but W g2 ag) ay J ar vr O.2
def w9 {it:It}{iter:Expr}(hit:fI G C sc d (isTup target) it iter)(ht:we G C sc d t target)(ag:sq G C sc d cs ifs)(ai:ue G C sc d more elt gens scope pos (depth+1))
  (hg:gens[depth+1]?=some #[target,iter,ifs,0]) (z:∀g',gens[depth+1+1]?=some g'->g'.is_async=0) (hs:∀env v,foldedSetIterable iter env v=pure v):ue G C sc d (.cons it t cs more) elt gens scope pos depth:=λA E env ρ σ acc K s D X xo c a h=>by
 unfold vg;rw[hg];apply ab (dj (hit c h) (λv s₁ h₁=>?_) λ_ _ x=>x);apply ab (gw (ab (fo (hs env v) (ab (dp (dj h₁ (λitv s₂ l=>?_) λ_ _ x=>x))))));have#[I,σ₁,rfl,J,hf,hp,r,U,W,B]:=l;have hD:D∉I.own:=λq=>by
  have#[ws,n,hl,_]:=a.here;have:=W D q;rw[show s.heap.get? D=_ from hl]at this;cases this
 have O:Go (D::X) σ s σ₁ s₂:=U.more λ_ h=>nomatch h;have loop:∀{R':Result->Shared->Prop},(∀s',y7 G env D X (t.vars++more.vars) ρ σ s K s'->R' (.ok .next) s')->codeAny G.M A (.compLoop (.ListComp elt gens scope pos) (depth+1) (.ref I.it) (.ref D) env) R' s₂:=λhR =>
  IG ht ag ai hg z I J xo (c.go r U) (a.evo U.e (by simp)) hp O W (kL c.F W) B hD (zc c.R W) hf hR
 apply ab (wpAny_runOwn (i1 hg (loop λs' l=>af l) (I.self _ _ _ _ _ hp (loop λs' l=>af l))))
end
end MP
end
section
set_option tactic.hygienic true
namespace MP
open PySem PyProof.Rows
variable {env:Env}{scope:Scope}{fv:List (Nat×Nat)}{σ:St}{it:It}{t:Tg}{cs:Exs}{more:Gens}{elt target iter:Expr}{ifs:List Expr}{rest:List Comprehension}{pos:Pos}
abbrev nk (cells:List (Str×Addr)):List (Str×NameKind)->List (Str×Addr)->List (Str×Addr)
 | [],acc=>acc
 |(n,k)::r,acc=>if k==.free then nk cells r ((n,(cells.lookup n).getD 0)::acc) else nk cells r acc
def dU (f:Str×NameKind->List (Str×Addr)->Sem (ForInStep (List (Str×Addr))))
  (W:∀n k cs,f (n,k) cs=if k==.free then (do let c←cellOf env n;pure (.yield ((n,c)::cs))) else pure (.yield cs)) :
  ∀(names:List (Str×NameKind)) (acc:List (Str×Addr)),(∀n,(n,NameKind.free)∈names->(env.cells.lookup n).isSome=true)->forIn names acc f=pure (nk env.cells names acc)
 | []=>λacc _=>by rw[oj];rfl
 |(n,k)::r=>λacc h=>by
  have hr:=λacc=>dU f W r acc λm O=>h m (.tail _ O);rw[ow,W];dsimp only[nk];split
  ·rename_i hk;rw[dh]at hk;subst hk;have#[c,U]:=cq.mp (h n (.head _));have e:cellOf env n=pure c:=by unfold cellOf;rw[U]
   rw[e,U];show hr _
  ·show hr acc
def fG (h:∀n,(n,NameKind.free)∈scope.names->(env.cells.lookup n).isSome=true):closureFor scope env=pure (nk env.cells scope.names []):=by
 have e:closureFor scope env=(forIn scope.names [] (λ(x:Str×NameKind) (cs:List (Str×Addr))=>if x.2==.free then (do let c←cellOf env x.1;pure (ForInStep.yield ((x.1,c)::cs))) else pure (ForInStep.yield cs))>>=λcs=>pure cs):=by
  unfold closureFor
  first|rfl|simp
 rw[e,dU _ (λn k cs=>rfl) scope.names [] h];rfl
def zl (cells:List (Str×Addr)):∀(names:List (Str×NameKind)) (acc:List (Str×Addr)),nk cells names acc=nk cells names []++acc
 | []=>λ_=>rfl
 |(n,k)::r=>λacc=>by
  dsimp only[nk];split
  ·rw[zl cells r ((n,(cells.lookup n).getD 0)::acc),zl cells r [(n,(cells.lookup n).getD 0)]];simp
  ·show zl cells r acc
def rd (cells:List (Str×Addr)):∀(names:List (Str×NameKind)) (x:Str) (c:Addr),(x,c)∈nk cells names []->(x,NameKind.free)∈names/\c=(cells.lookup x).getD 0
 | []=>λ_ _ h=>nomatch h
 |(n,k)::r=>λx c h=>by
  dsimp only[nk]at h;split at h
  ·rename_i hk;rw[zl]at h;rcases cu.mp h with h|h
   ·apply#[.tail _ (rd cells r x c h).1,(rd cells r x c h).2]
   ·have#[rfl,rfl]:=ke (ak.mp h);rw[dh]at hk;subst hk;apply#[.head _,rfl]
  ·apply#[.tail _ (rd cells r x c h).1,(rd cells r x c h).2]
def j3 (cells:List (Str×Addr)):∀(names:List (Str×NameKind)) (x:Str),(x,NameKind.free)∈names->(x,(cells.lookup x).getD 0)∈nk cells names []
 | []=>λ_ h=>by cases h
 |(n,k)::r=>λx h=>by
  dsimp only[nk];split
  ·rw[zl];rcases cz.mp h with e|h
   ·have#[rfl,_]:=ke e;show dt _ (.head _)
   ·show dg _ (j3 cells r x h)
  ·rename_i hk;rcases cz.mp h with e|h
   ·have#[_,rfl]:=ke e;simp at hk
   ·show j3 cells r x h
def bO {cells:List (Str×Addr)}{names:List (Str×NameKind)}{x:Str}(h:(x,NameKind.free)∈names):(nk cells names []).lookup x=some ((cells.lookup x).getD 0):=by
 have#[c,W]:=tn (j3 cells names x h);rw[W];rw[(rd cells names x c (mem_of_lookup W)).2]
abbrev lp (scope sc:Scope):Scope:=
 {scope with names:=scope.names.map λ(n,k)=>if (k==.free&&sc.kind==.function&&sc.names.lookup n==some .cell) then (n,.cell) else (n,k)}
def sP:relabel scope env=lp scope env.scope:=rfl
abbrev qE (sc:Scope)(fv:List (Nat×Nat))(i:Nat):Str×NameKind->Bool
 |(x,.free)=>match fv.lookup i with
  |some j=>match sc.names[j]? with
   |some (y,k)=>x==y&&(k==.cell||k==.free)
   |none=>false
  |none=>false
 |(_,_)=>(fv.lookup i).isNone
abbrev lK (sc:Scope)(fv:List (Nat×Nat)):Nat->List (Str×NameKind)->Bool
 |_,[]=>true
 |i,p::r=>qE sc fv i p&&lK sc fv (i+1) r
def qD {sc:Scope}:∀{names:List (Str×NameKind)} {i:Nat},lK sc fv i names=true->∀(j:Nat) (p:Str×NameKind),names[j]?=some p->qE sc fv (i+j) p=true
 | [],_,_,j,p,e=>by simp at e
 |q::r,i,h,0,p,e=>by
  dsimp only[lK]at h;simp only[dw]at h;simp at e;subst e;show h.1
 |q::r,i,h,j+1,p,e=>by
  dsimp only[lK]at h;simp only[dw]at h;have:=qD h.2 j p (by simpa using e);rw[show i+(j+1)=i+1+j by(show my .bV .n)];show this
abbrev ownIn (scope:Scope)(y:Str):Bool:=match scope.names.lookup y with
 |some .local=>true
 |some .cell=>true
 |_=>false
abbrev qC (scope:Scope)(gens:List Comprehension):Bool:=gens.all λg=>(gS g.target).all (ownIn scope)
def Evo.adopt {X:List Addr}{σ':St}{h h':Heap}{D:Addr}(xs:List V)(x:Evo X σ h σ' h')(W:h.get? D=none):Evo X σ h (σ'.ew D xs) h':=
 #[x.keep,x.frz,λb d=>(zk d).elim (x.dom b) λe=>.inr (e▸W),x.there]
section
variable {G:Stc}{C:Cal}{sc:Scope}{d:Nat}
def rA {ρ:Fr}{h:Heap}(F:FR G σ env ρ h)(es:env.scope=sc)(nd:(scope.names.map (·.1)).Nodup)(W:lK sc fv 0 scope.names=true) :
  (∀n,(n,NameKind.free)∈scope.names->(env.cells.lookup n).isSome=true)/\DV G σ h scope.names (nk env.cells scope.names []) (dT fv ρ):=by
 have ag:∀(i:Nat) (x:Str),scope.names[i]?=some (x,.free)->∃j k,fv.lookup i=some j/\env.scope.names[j]?=some (x,k)/\(k=.cell\/k=.free):=λi x e=>by
  have:=qD W i _ e;rw[mj]at this;simp only[qE]at this;split at this
  ·rename_i j hj;split at this
   ·rename_i y k hy;simp only[dw,dh,vt]at this;apply#[j,k,hj,by rw[es,hy,this.1],this.2]
   ·cases this
  ·cases this
 have cellAt:∀(i:Nat) (x:Str),scope.names[i]?=some (x,.free)->∃j k c w,fv.lookup i=some j/\env.scope.names[j]?=some (x,k)/\(k=.cell\/k=.free)/\env.cells.lookup x=some c/\h.IsCell c w/\OV G h (ρ j) w/\¬σ.dom c/\c≠env.locals/\(G.cap x=false->G.hb.get? c=none):=λi x e=>by
  have#[j,k,h1,h2,z]:=ag i x e;have#[c,w,g1,g2,g3,g4,g5,g6]:=F.cells j x k h2 z;apply#[j,k,c,w,h1,h2,z,g1,g2,g3,g4,g5,g6]
 have idx:∀n,(n,NameKind.free)∈scope.names->∃i:Nat,scope.names[i]?=some (n,NameKind.free):=λn I=>zt I;apply#[λn I=>?_,#[λi x e=>?_,λi j x y c ei ej lx ly=>?_,λp hp=>?_,λi x k e hk=>?_]]
 ·have#[i,e]:=idx n I;have#[j,k,c,w,_,_,_,U,_]:=cellAt i n e;rw[U];rfl
 ·have#[j,k,c,w,h1,h2,z,g1,g2,g3,g4,g5,g6]:=cellAt i x e;apply#[c,w,by rw[bO (fk e),g1];rfl,g2,?_,g4,g6];unfold dT;rw[h1];show g3
 ·have#[a,ka,ca,wa,a1,a2,a3,a4,_]:=cellAt i x ei;have#[b,kb,cb,wb,b1,b2,b3,b4,_]:=cellAt j y ej;rw[bO (fk ei),a4]at lx;rw[bO (fk ej),b4]at ly;have J:ca=c:=by simpa using lx
  have O:cb=c:=by simpa using ly
  have B:=F.inj a b x y ka kb c a2 b2 a3 b3 (J▸a4) (O▸b4);subst B;rw[a2]at b2;have#[rfl,_]:=ke (ah b2);show hJ nd ei ej
 ·have#[hm,U]:=rd _ _ p.1 p.2 hp;have#[i,e]:=idx _ hm;have#[j,k,c,w,_,_,_,g1,#[o,ho,_],_]:=cellAt i _ e;rw[g1]at U;apply#[o,by rw[U];show ho]
 ·have:=qD W i _ e;rw[mj]at this;unfold dT;cases k<;>first|show absurd rfl hk|(simp only[qE,uq]at this;rw[this];rfl)
abbrev vf (scope:Scope)(env:Env)(cells:List (Str×Addr))(L:Addr):Env:=
 {scope:=relabel scope env,locals:=L,globals:=env.globals,cells:=cells,qual:=env.qual,func:=none,code:=env.code,frame:=env.frame,builtins:=env.builtins}
def tU {p0:Pos}{use:Option (Value->Sem Unit)}(hit:fI G C sc d (isTup target) it iter)(ht:we G C (lp scope sc) d t target)(dL:sq G C (lp scope sc) d cs ifs)
  (ea:ue G C (lp scope sc) d more elt (#[target,iter,ifs,0]::rest) scope pos 0) (hs:∀env v,foldedSetIterable iter env v=pure v) (be:scope.kind=.function) (nd:(scope.names.map (·.1)).Nodup) (ck:lK sc fv 0 scope.names=true) (dx:qC scope (#[target,iter,ifs,0]::rest)=true) (ct:∀g'∈rest,g'.is_async=0)
  {A:Around} {E:QqV} {env:Env} {ρ:Fr} {Q:V->St->Prop} {s:Shared} {P:QqV} (cx:Cx G sc d A env ρ σ s) (h:wpE C (.K fv it t cs more) ρ σ Q)
  (hP:∀(v:V) (σ':St) (s':Shared) (w:Value) (L:Addr),Q v σ'->VR G s'.heap v w->Rel G σ' s'.heap->Go [] σ s σ' s'->s.heap.get? L=none->¬σ'.dom L->(∃m,s'.heap.Ns L m)->compPost G.M A E use P w L (.ok .next) s') :
  wpAny G.M A (comprehension (.ListComp elt (#[target,iter,ifs,0]::rest) scope pos) scope env p0 (newList []) false (eval iter env) use) P E s:=by
 have#[J,_]:=rA cx.F cx.es nd ck;apply wpAny_comprehension_free rfl (hs env) (fG J) be (λx hx hl=>?_) (dj (hit cx h) (λv s₁ h₁=>dj h₁ (λitv s₂ l=>?_) λ_ _ x=>x) λ_ _ x=>x)
 ·have#[i,e]:=zt hx;have#[y,k]:=x;simp only at hl;subst hl;show ku nd e
 have#[I,σ₁,rfl,cd,hf,hp,r,aj,bc,dv]:=l;have dn:=cx.F.evo aj.e;apply lu (?_:wpAny G.M A _ _ E _) (by show([]:List Value).toArray.size<=sizeLine;simp);have df:FR G σ₁ env ρ (s₂.heap.push {cls:=.type "list",data:=.seq ([]:List Value).toArray}):=dn.evo (Evo.push [] σ₁ s₂.heap {cls:=.type "list",data:=.seq ([]:List Value).toArray});have r₂:=r.push {cls:=.type "list",data:=.seq ([]:List Value).toArray};have bu:(s₂.heap.push {cls:=.type "list",data:=.seq ([]:List Value).toArray}).get? s₂.heap.objs.size=some {cls:=.type "list",data:=.seq ([]:List Value).toArray}:=eg _ rfl;have cb:Go [] σ s σ₁ {s₂ with heap:=s₂.heap.push {cls:=.type "list",data:=.seq ([]:List Value).toArray}}:=aj.to (Evo.push _ _ _ _);have da:I.pos 0 (s₂.heap.push {cls:=.type "list",data:=.seq ([]:List Value).toArray}):=I.keep _ _ _ hp (λb _ o e=>ba _ e) λb o e _=>ba _ e;generalize ec:s₂.heap.push {cls:=.type "list",data:=.seq ([]:List Value).toArray}=H at *;have O:H.objs.size=s₂.heap.objs.size+1:=by rw[<- ec];show ic ..
 have#[_,clo]:=rA df cx.es nd ck;have ch:∀(i:Nat) (x:Str) (k':NameKind),(relabel scope env).names[i]?=some (x,k')->∃k,scope.names[i]?=some (x,k)/\(k'=k\/(k=.free/\k'=.cell)):=λi x k' e=>by
  simp only[relabel,dq]at e;cases hq:scope.names[i]? with
  |none=>rw[hq]at e;cases e
  |some p =>
   have#[y,k]:=p;rw[hq]at e;simp only[cX,gf]at e;split at e
   ·rename_i hc;have#[rfl,rfl]:=ke e;simp only[dw,dh]at hc;apply#[k,rfl,.inr #[hc.1.1,rfl]]
   ·have#[rfl,rfl]:=ke e;apply#[k,rfl,.inl rfl]
 have#[dc,keep]:=lY (T:="dict") (env:=vf scope env (cellsFrom (H.objs.size+1) scope.names (nk env.cells scope.names [])) H.objs.size) r₂ nd clo rfl rfl ch;have bv:zr (vf scope env (cellsFrom (H.objs.size+1) scope.names (nk env.cells scope.names [])) H.objs.size):=by
  apply#[be,?_,cx.eo.globals,cx.eo.builtins];have e:(relabel scope env).names.map (·.1)=scope.names.map (·.1):=by
   simp only[relabel,jk];apply dB λp _=>?_;have#[y,k]:=p;simp only[Function.comp];split<;>rfl
  show((relabel scope env).names.map (·.1)).Nodup;rw[e];show nd
 have ok:=cellsFrom_ok scope.names (H.push {cls:=.type "dict",data:=.dict #v[]}) (H.objs.size+1) [] #[λ_ _ hm=>(nomatch hm),List.Pairwise.nil] (by rw[ic];show au _);rw[ic]at ok;simp only[newFunctionEnv,Option.isSome_some,yv];apply ab (wpAny_alloc ?_);apply ab (wpAny_layCells _ (λname kind cells=>by cases hkc:kind==NameKind.cell<;>simp[hkc]) _ _ _ _ ?_);rw[show(H.push {cls:=.type "dict",data:=.dict #v[]}).objs.size=H.objs.size+1 from ic ..];rw[oj];apply ab (af (af ?_));generalize ei:pushCells (H.push {cls:=.type "dict",data:=.dict #v[]}) scope.names=H3 at *;have cc:=r₂.keeps keep;have fz:jq H H3:=λb o e _=>keep b o e;have ca:Go [] σ s σ₁ {s₂ with heap:=H3}:=cb.to (Evo.keeps keep);have br:I.pos 0 H3:=I.keep _ _ _ da (λb _ o e=>keep b o e) fz;have W:∀b,s₂.heap.objs.size<=b->s.heap.get? b=none:=λb hb=>aj.new (qu hb);have ar:∀b∈I.own,b<s₂.heap.objs.size:=λb hb=>by have#[o,e]:=I.there hp hb;show ip e
 have eb:∀b∈I.own,b∉envX (vf scope env (cellsFrom (H.objs.size+1) scope.names (nk env.cells scope.names [])) H.objs.size):=λb hb hm=>by
  have cj:=ar b hb;rcases cz.mp hm with rfl|hm
  ·show absurd cj (ru.mpr (by show s₂.heap.objs.size<=H.objs.size;(show av .A .y (.e .B .M) O)))
  ·have#[p,ag,rfl]:=fj.mp hm;have ax:p∈cellsFrom (H.objs.size+1) scope.names (nk env.cells scope.names []):=ag;rw[gz]at ax;rcases cu.mp ax with h1|h1
   ·have:=(ok.empty p.1 p.2 h1).2;show je _ (rv cj (by(show fb .A .k (.e .C .M) (.k .T .B) O this):s₂.heap.objs.size<=p.2))
   ·have#[bd,ai]:=rd _ _ p.1 p.2 h1;have#[c,hc]:=cq.mp (J _ bd);rw[hc]at ai;simp only[Option.getD_some]at ai;have#[o,ho]:=cx.F.allc (p.1,c) (mem_of_lookup hc);have:=bc p.2 hb;rw[ai]at this;rw[show s.heap.get? c=some o from ho]at this;cases this
 have ed:s₂.heap.objs.size∉envX (vf scope env (cellsFrom (H.objs.size+1) scope.names (nk env.cells scope.names [])) H.objs.size):=λhm=>by
  rcases cz.mp hm with e|hm
  ·have:s₂.heap.objs.size=H.objs.size:=e
   (show gj .ff [[0,-1,-1]] .a7 .cB O this)
  ·have#[p,ag,e]:=fj.mp hm;have ax:p∈cellsFrom (H.objs.size+1) scope.names (nk env.cells scope.names []):=ag;rw[gz]at ax;rcases cu.mp ax with h1|h1
   ·have:=(ok.empty p.1 p.2 h1).2;(show oq .ff [[0,-1,1,1]] .a7 (.e .C .B) (.k .M .C) O e this)
   ·have#[bd,ai]:=rd _ _ p.1 p.2 h1;have#[c,hc]:=cq.mp (J _ bd);rw[hc]at ai;have#[o,ho]:=cx.F.allc (p.1,c) (mem_of_lookup hc);have:=W c (by rw[<- show p.2=c from ai,e];show au _);rw[show s.heap.get? c=some o from ho]at this;cases this
 have U:∀b,s₂.heap.objs.size<=b->G.hb.get? b=none:=λb hb=>by
  cases hq:G.hb.get? b with
  |none=>rfl
  |some o=>show absurd (ip (r.base b o hq)) (ru.mpr hb)
 have bl:∀b,s₂.heap.objs.size<=b->¬σ₁.dom b:=λb hb dm=>by have#[o,e]:=r.pn dm;show absurd (ip e) (ru.mpr hb)
 have bp:dA G (vf scope env (cellsFrom (H.objs.size+1) scope.names (nk env.cells scope.names [])) H.objs.size) s₂.heap.objs.size σ₁ H3 []:=
  #[#[[],0,keep _ _ bu,.nil],bq _,bl _ (au _),ed,U _ (au _)]
 have xo:XOk (vf scope env (cellsFrom (H.objs.size+1) scope.names (nk env.cells scope.names [])) H.objs.size) (H.objs.size::(cellsFrom (H.objs.size+1) scope.names []).map (·.2)) (#[target,iter,ifs,0]::rest):=by
  apply#[.head _,λg hg y hy c hc=>?_,λb hb=>?_]
  ·have ay:=jo.mp (jo.mp dx g hg) y hy;have cl:(cellsFrom (H.objs.size+1) scope.names (nk env.cells scope.names [])).lookup y=some c:=hc;rw[gz]at cl;rcases cu.mp (mem_of_lookup cl) with h1|h1
   ·show .tail _ (fj.mpr #[_,h1,rfl])
   ·have#[bd,_]:=rd _ _ y c h1;have#[i,e]:=zt bd;have:=ku nd e;unfold ownIn at ay;rw[this]at ay;cases ay
  ·rcases cz.mp hb with rfl|hb
   ·show .head _
   ·have zz:=fj.mp hb;clear hb;have#[p,ag,rfl]:=zz;apply .tail _ (fj.mpr #[p,?_,rfl]);show p∈cellsFrom (H.objs.size+1) scope.names (nk env.cells scope.names []);rw[gz];show dg _ ag
 have dy:∀g',(#[target,iter,ifs,0]::rest:List Comprehension)[0+1]?=some g'->g'.is_async=0:=λg' e=>ct g' (fk (by simpa using e));have loop:codeAny G.M A (.compLoop (.ListComp elt (#[target,iter,ifs,0]::rest) scope pos) 0 (.ref I.it) (.ref s₂.heap.objs.size) (vf scope env (cellsFrom (H.objs.size+1) scope.names (nk env.cells scope.names [])) H.objs.size)) (compPost G.M A E use P (.ref s₂.heap.objs.size) H.objs.size) {s₂ with heap:=H3}:=by
  apply IG (s₀:=s) (σ₀:=σ) ht dL ea rfl dy I cd xo #[cx.ao,by show relabel scope env=_;rw[sP,cx.es],bv,dc,cc] bp br (ca.more λ_ h=>nomatch h) bc eb dv (λq=>absurd (ar _ q) (je _)) (zc cx.R bc) hf λs' l=>?_
  ·have#[ρ',acc',σ',ws,n,q,F',R',hl,hv,hz,hd,x',_]:=l;have dV:=U s₂.heap.objs.size (au _);have hL:σ'.L s₂.heap.objs.size=none:=by
    cases hq:σ'.L s₂.heap.objs.size with
    |none=>rfl
    |some y=>show absurd (.inl (by rw[hq];rfl)) hd
   have ef:=R'.KX hd dV hl hv hz;have bn:∀z∈(s₂.heap.objs.size::H.objs.size::(cellsFrom (H.objs.size+1) scope.names []).map (·.2)),s.heap.get? z=none:=λz hz=>by
    rcases cz.mp hz with rfl|hz
    ·show W _ (au _)
    rcases cz.mp hz with rfl|hz
    ·show W _ (av .A .y (.e .B .M) O)
    ·have#[p,ag,rfl]:=fj.mp hz;have:=(ok.empty p.1 p.2 ag).2;show W _ (fb .A .k (.e .C .M) (.k .T .B) O this)
   have dr:Go [] σ s (σ'.ew s₂.heap.objs.size acc') s':=Go.less #[x'.e.adopt acc' (W _ (au _)),x'.g,x'.o] λz hz=>.inr (bn z hz);have#[m,hm,_]:=F'.ns;have bt:¬(σ'.ew s₂.heap.objs.size acc').dom H.objs.size:=λdm=>by
    rcases zk dm with dm|e
    ·show F'.loc dm
    ·have e':H.objs.size=s₂.heap.objs.size:=e
     (show gj .ff [[0,-1,1]] .a7 .D O e)
   show hP (.L s₂.heap.objs.size) _ s' _ H.objs.size (q _ hL) (.L _) ef dr (W _ (av .A .y (.e .B .M) O)) bt #[m,hm]
 show i1 rfl loop (I.self _ _ _ _ _ br loop)
def sJ (hit:fI G C sc d (isTup target) it iter)(ht:we G C (lp scope sc) d t target)(ag:sq G C (lp scope sc) d cs ifs)
  (ai:ue G C (lp scope sc) d more elt (#[target,iter,ifs,0]::rest) scope pos 0) (hs:∀env v,foldedSetIterable iter env v=pure v) (U:scope.kind=.function) (nd:(scope.names.map (·.1)).Nodup) (B:lK sc fv 0 scope.names=true) (I:qC scope (#[target,iter,ifs,0]::rest)=true) (O:∀g'∈rest,g'.is_async=0) :
  gc G C sc d (.K fv it t cs more) (.ListComp elt (#[target,iter,ifs,0]::rest) scope pos):=λA E env ρ σ Q s c h=>by
 rw[eval_ListComp];apply tU (use:=none) hit ht ag ai hs U nd B I O c h λv σ' s' w L q vr R' x hL hd J=>?_;have#[m,J]:=J;apply#[m,J,λh2 W=>?_];have#[o,aj,ep,ho,z,_]:=id J;have hf:jq s'.heap h2:=tw W λo' e=>by have rfl:=ah (ho.symm.trans e);show qg z
 have hn:∀b∈[L],s.heap.get? b=none:=λb hb=>by have rfl:=ak.mp hb;show hL
 apply#[v,σ',q,vr.mono hf,R'.frame (o':=default) W hd (zc c.R hn L (.head _)) hf,x.but (own:=[L]) (λb o hb e=>by rw[W.2 b (λq=>hb (q▸.head _))];show e) .rfl hn]
def lB {i:Nat}{x:Str}{kd:NameKind}{J W:Pos}(hi:sc.names[i]?=some (x,kd))(hk:Own G x kd)(hit:fI G C sc d (isTup target) it iter)(ht:we G C (lp scope sc) d t target)(ay:sq G C (lp scope sc) d cs ifs)
  (bc:ue G C (lp scope sc) d more elt (#[target,iter,ifs,0]::rest) scope pos 0) (hs:∀env v,foldedSetIterable iter env v=pure v) (O:scope.kind=.function) (nd:(scope.names.map (·.1)).Nodup) (ar:lK sc fv 0 scope.names=true) (ao:qC scope (#[target,iter,ifs,0]::rest)=true) (I:∀g'∈rest,g'.is_async=0) :
  yg G C sc d (.a [.v i] (.K fv it t cs more)) (.Assign [.Name x J] (.ListComp elt (#[target,iter,ifs,0]::rest) scope pos) W):=λA E env ρ σ K s c h=>by
 have plain:gc G C sc d (.K fv it t cs more) (.ListComp elt (#[target,iter,ifs,0]::rest) scope pos):=sJ hit ht ay bc hs O nd ar ao I;by_cases ag:(env.blockKind==.function&&env.kindOf x==some .local&&J.line==pos.line&&!(scope.names.any λ(n,k)=>n==x&&(k==.local||k==.cell)))=true
 ·have U:swapsWith (.ListComp elt (#[target,iter,ifs,0]::rest) scope pos) (some (.Name x J)) W.line env=pure true:=by
   show(pure _:Sem Bool)=_;show di pure ag
  rw[exec_Assign_Name_used _ _ _ _ U];apply ab (gw (ab ?_));show wpAny G.M A (comprehension _ scope env _ (newList []) false (eval iter env) (some (assign (.Name x J) env))>>=λ_=>pure ()) _ E s;apply ab ?_;apply tU (use:=some (assign (.Name x J) env)) (Q:=λv σ=>iF C [.v i] v ρ σ λρ σ=>K .next ρ σ) hit ht ay bc hs O nd ar ao I c h λv σ' s' w L q vr R' x' hL hd hm=>?_;have#[m,hm]:=hm;show wpAny G.M A (assign (.Name x J) env w) _ E _;apply assign_Name (yz c.eo (c.F.evo x'.e) R' (by rw[c.es];show hi) hk vr λs2 F2 R2 x2=>?_);have hn:∀b∈[L],s.heap.get? b=none:=λb hb=>by have rfl:=ak.mp hb;show hL
  have hX:=kL c.F hn;have#[o,bd,ep,ho,ax,z]:=id hm;have ai:=x2.keep _ _ ho hd (hX L (.head _));apply#[m,#[o,bd,ep,ai,ax,z],λh3 B=>af (af ?_)];have hf:jq s2.heap h3:=tw B λo' e=>by have rfl:=ah (ai.symm.trans e);show qg ax
  have aj:∀b o,b∉[L]->s2.heap.get? b=some o->h3.get? b=some o:=λb o hb e=>by rw[B.2 b (λq=>hb (q▸.head _))];show e
  apply#[.next,_,σ',.next,q,F2.but aj hf hX,R2.frame (o':=default) B hd (zc c.R hn L (.head _)) hf,(x'.wide.trans x2).but aj .rfl hn]
 ·have U:swapsWith (.ListComp elt (#[target,iter,ifs,0]::rest) scope pos) (some (.Name x J)) W.line env=pure false:=by
   show(pure _:Sem Bool)=_;show di pure (Bool.eq_false_iff.mpr ag)
  rw[exec_Assign];apply ab (gw ?_);have e1:swapsWithSole [.Name x J] (.ListComp elt (#[target,iter,ifs,0]::rest) scope pos) W.line env=pure false:=U;rw[e1];apply ab (af ?_);rw[bb (by decide)];apply ab (qc (plain (Q:=λv σ=>iF C [.v i] v ρ σ λρ σ=>K .next ρ σ) c h) λv σ₁ s₁ w q vr r x=>?_);rw[pS (sc:=sc) (r:=none) rfl c.es (by unfold Env.blockKind;rw[c.eo.kind];rfl)];apply ab (af ?_);show wpAny G.M A (do assignAll w _;pure Flow.next) _ _ _;apply ab (dj (wQ (.cons (wJ hi hk) (λ_=>rfl) .nil) (c.go r x) vr q) (λ_ s' l=>af ?_) λ_ _ x=>x);have#[ρ',σ',q',F',R',x']:=l;apply#[.next,ρ',σ',.next,q',F',R',x.wide.trans x']
end
end MP
end
section
namespace MP
open PySem PyProof.Rows
variable {Q:Option Value->Shared->Prop}{it x:Addr}{ox:Obj}{xs:Array Value}{n:Nat}{ws:List Value}
abbrev eX (C N:Addr)(nm q:Str)(k0 k2 k3:Option Value):Obj:=
 {cls:=.type "type",dict:=none,data:=.cls {name:=nm,bases:=[.type "tuple"],mro:=[.ref C,.type "tuple",.type "object"],ns:=N,qualname:=q,hasDict:=false,slotNames:=[],subclasses:=[],abstract:=false,collection:=none,hasDel:=false},slots:=#v[k0,none,k2,k3,some .none,some (.bool false)]}
abbrev zf (C:Addr)(dd:Option Addr)(ws:List Value)(n:Nat):Obj:={cls:=.ref C,dict:=dd,data:=.seq ws.toArray n,slots:=#v[]}
def mro_tuple:mroOf (.type "tuple")=pure [.type "tuple",.type "object"]:=by kernel_rfl
section
variable {prog:Program}{w:World}{M:Model}{A:Around}{E:QqV}{h:Heap}{g:Array GenState}{d:Drawn}{t:Nat}{os:OsState}{C N:Addr}{nm q:Str}{k0 k2 k3:Option Value}{mN:Str->Option Value}{dd:Option Addr}
def jK {base:Value}{Q:Bool->Shared->Prop}(W:h.get? C=some (eX C N nm q k0 k2 k3))(U:Q ([Value.ref C,.type "tuple",.type "object"].contains base) #[h,g,d,t,os]):wpAny M A (isSubtype (.ref C) base) Q E #[h,g,d,t,os]:=by
 unfold eX at W;unfold isSubtype
 repeat (any_goals (first|assumption|wp_step))
def GB {Q:List Value->Shared->Prop}(W:h.get? C=some (eX C N nm q k0 k2 k3))(U:Q [.ref C,.type "tuple",.type "object"] #[h,g,d,t,os]):wpAny M A (mroOf (.ref C)) Q E #[h,g,d,t,os]:=by
 unfold eX at W;unfold mroOf
 repeat (any_goals (first|assumption|wp_step))
def v9 {name:Str}(O:h.get? C=some (eX C N nm q k0 k2 k3))(U:h.Ns N mN)(W:Q (mN name) #[h,g,d,t,os]):wpAny M A (classOwn (.ref C) name) Q E #[h,g,d,t,os]:=by
 unfold classOwn;apply ab ?_;unfold classData;apply ab (yh O (af (wpAny_nsGet U W)))
def wq {name:Str}{y:Option Value}(J:h.get? C=some (eX C N nm q k0 k2 k3))(B:h.Ns N mN)(I:typeLookup (.type "tuple") name=pure y)(U:Q ((mN name).or y) #[h,g,d,t,os]):wpAny M A (typeLookup (.ref C) name) Q E #[h,g,d,t,os]:=by
 have W:lookupAlong [.type "tuple",.type "object"] name=pure y:=by rw[typeLookup_eq,mro_tuple]at I;show I
 rw[typeLookup_eq];apply ab (GB J ?_);rw[lookupAlong_cons];apply ab (v9 J B ?_);cases O:mN name with
 |some v=>rw[O]at U;show af U
 |none=>rw[O]at U;show fo W U
def BL {x:Addr}{i:Nat}{v:Value}{s:Shared}(hit:IsTupIter s.heap it x i)(O:s.heap.get? x=some ox)(hd:ox.data=.seq xs n)(J:xs[i]?=some v)
  (B:∀h',IsTupIter h' it x (i+1)->Heap.SameBut it s.heap h'->Q (some v) {s with heap:=h'}):wpAny (model prog w) A (pyNext (.ref it)) Q E s:=by
 have#[o,U,I,W]:=id hit;unfold pyNext;apply ab (wpAny_attempt (nG (name:=Str.ofString "__next__") hit.typeIs pf (mu pf hit.typeIs rS ?_ (rR _))));show wpAny _ _ (field (.ref it) 0>>=_) _ _ s;apply ab (jU U W (x:=.ref x) rfl ?_);show wpAny _ _ (if (Value.ref x==Value.none)=true then _ else _) _ _ s;rw[bb (show ¬((Value.ref x==Value.none)=true) from gx)];show wpAny _ _ (field (.ref it) 1>>=_) _ _ s;apply ab (jU U W (x:=.int i 0) rfl ?_);show wpAny _ _ (seqItems? (.ref x)>>=_) _ _ s;apply ab (vp O hd ?_);dsimp only;rw[ph,J];show wpAny _ _ (setField (.ref it) 1 (rawInt (i+1))>>=_) _ _ _;apply ab (wpAny_setField U W (by simp) ?_);apply(af #[v,rfl,af (B _ #[_,dE _ U (Obj.isFreed_of_fields (Obj.data_mapFields W _)),(Obj.cls_mapFields ..).trans I,?_] (xg ..))]);rw[Obj.data_mapFields W];simp[rawInt]
def FL {x:Addr}{i:Nat}{s:Shared}(I:A.handled=none)(hit:IsTupIter s.heap it x i)(O:s.heap.get? x=some ox)(hd:ox.data=.seq xs n)(J:xs[i]?=none)
  (z:∀h',Heap.ExtBut it s.heap h'->Q none {s with heap:=h'}):wpAny (model prog w) A (pyNext (.ref it)) Q E s:=by
 have#[o,U,hc,W]:=id hit;unfold pyNext;apply ab (wpAny_attempt (nG (name:=Str.ofString "__next__") hit.typeIs pf (mu pf hit.typeIs rS ?_ (rR _))));show wpAny _ _ (field (.ref it) 0>>=_) _ _ s;apply ab (jU U W (x:=.ref x) rfl ?_);show wpAny _ _ (if (Value.ref x==Value.none)=true then _ else _) _ _ s;rw[bb (show ¬((Value.ref x==Value.none)=true) from gx)];show wpAny _ _ (field (.ref it) 1>>=_) _ _ s;apply ab (jU U W (x:=.int i 0) rfl ?_);show wpAny _ _ (seqItems? (.ref x)>>=_) _ _ s;apply ab (vp O hd ?_);dsimp only;rw[ph,J];show wpAny _ _ (rule _>>=λ_=>setField (.ref it) 0 .none>>=_) _ _ _;apply ab (rf (ab (wpAny_setField U W (by simp) ?_)));apply uO I λh' e hk B=>?_;apply ab (wpAny_isInstance (T:="StopIteration") (b:=true) B isSubtype_stop ?_);show af (z _ λb o n e=>hk b o ((xg ..).extBut b o n e))
def GD {id I:String}{rest:List Value}{Q:Unit->Shared->Prop}(z:h.get? C=some (eX C N nm q k0 k2 k3))(U:h.get? x=some (zf C dd ws n))(B:splitId id=some ("tuple",I))(hk:builtinKind id=some .slot\/builtinKind id=some .method)(O:argsOk id #[.ref x::rest,[]])(J:Q () #[h,g,d,t,os]) :
  wpAny M A (checkBuiltinCall id #[.ref x::rest,[]]) Q E #[h,g,d,t,os]:=by
 have inst:∀{R:Bool->Shared->Prop},R true #[h,g,d,t,os]->wpAny M A (isInstance (.ref x) (.type "tuple")) R E #[h,g,d,t,os]:=λ{R} hr=>by
  unfold isInstance;unfold zf at U
  repeat (first|(with_reducible refine qk U ?_)|(with_reducible refine jK z ?_)|wp_step)
  show hr
 rcases hk with hk|hk <;>
 ·simp only[checkBuiltinCall,hk,B];apply ab (inst ?_);simp only[yw,fw,kn];cases hsig:Manifest.signature? id with
  |none=>show af J
  |some W =>
   simp only[argsOk,hsig]at O;have h2:Bind.checkArgs id W #[.ref x::rest,[]]=pure ():=O;show wpAny M A (Bind.checkArgs id W #[.ref x::rest,[]]) Q E _;rw[h2];show af J
def vA {id W:String}{b:Builtin}{rest:List Value}{Q:QqV}(hC:h.get? C=some (eX C N nm q k0 k2 k3))(U:h.get? x=some (zf C dd ws n))(J:splitId id=some ("tuple",W))(hk:builtinKind id=some .slot\/builtinKind id=some .method)(I:plainId id=true)(B:entryFor table id=some b)(ha:argsOk id #[.ref x::rest,[]])
  (z:wpAny (model prog w) A.in1 (b #[.ref x::rest,[]]) (λfin s'=>∃v,fin=.done (.ret v)/\Q v s') E #[h,g,d,t,os]):wpAny (model prog w) A (call (.builtin id) (.ref x::rest)) Q E #[h,g,d,t,os]:=by
 apply rg (eD I B (GD hC U J hk ha (dj z (λfin s' h'=>?_) λ_ _ e=>e)));have#[v,rfl,O]:=h';show O
def sE:splitId "tuple.__iter__"=some ("tuple","__iter__"):=by kernel_rfl
def vB:builtinKind "tuple.__iter__"=some .slot:=by kernel_rfl
def K0 {Q:QqV}(O:h.get? C=some (eX C N nm q k0 k2 k3))(J:h.Ns N mN)(hi:mN "__iter__"=none)(U:h.get? x=some (zf C dd ws n))
  (I:Q (.ref h.objs.size) #[h.push {cls:=.type "tuple_iterator",data:=.fields #v[.ref x,.int 0 0]},g,d,t,os]):wpAny (model prog w) A (pyIter (.ref x)) Q E #[h,g,d,t,os]:=by
 have hl:=PySem.F.slot_tuple_iter.lookup;have hb:=PySem.F.slot_tuple_iter.bind (.ref x);have W:=U;unfold pyIter specialOf;unfold zf at U
 repeat (first|(with_reducible refine qk U ?_)|(with_reducible refine wq O J hl ?_;rw[hi])|wp_step)
 have go:∀(E:QqV) (R:Option (Value×List Value)->Shared->Prop),R (some (.builtin "tuple.__iter__",[.ref x])) #[h,g,d,t,os]->wpAny (model prog w) A (do let r←bindSpecial (Value.builtin "tuple.__iter__") (Value.ref x);pure (some r)) R E #[h,g,d,t,os]:=λE R hr=>ab (fo hb (af hr));have fin:wpAny (model prog w) A (call (.builtin "tuple.__iter__") [.ref x]) (λr s'=>∃y,r=.ref y/\y=h.objs.size/\s'=#[h.push {cls:=.type "tuple_iterator",data:=.fields #v[.ref x,.int 0 0]},g,d,t,os]) E #[h,g,d,t,os]:=by
  apply vA O W sE (.inl vB) PySem.F.slot_tuple_iter.plain PySem.F.entry_tuple_iter (PySem.F.args_tuple_iter_1 _) ?_;show wpAny _ _ (do ret (← newFields "tuple_iterator" [.ref x,rawInt 0])) _ _ _;show ab (lu (af #[_,rfl,_,rfl,rfl,rfl]))
 have tail:wpAny (model prog w) A (match (some (Value.builtin "tuple.__iter__",[Value.ref x]):Option (Value×List Value)) with
    |some (g,first)=>if (g==Value.none)=true then (do let r←(do rule "iter.none";raiseError "TypeError" s!"'{← typeNameOf (.ref x)}' object is not iterable":Sem Value);pure (some r)) else (do let r←call g first;pure (some r))
    |_=>pure none:Sem (Option Value)) (λa s'=>wpAny (model prog w) A (match a with
     |some it=>(do match←(do typeLookup (← typeOf it) "__next__":Sem (Option Value)) with
       |none=>(do rule "iter.non-iterator";raiseError "TypeError" s!"iter() returned non-iterator of type '{← typeNameOf it}'":Sem Value)
       |some _=>pure it)
     |none=>(do match←bindSpecialIfBound? (.ref x) "__getitem__" with
       |none=>(do rule "iter.not-iterable";raiseError "TypeError" s!"'{← typeNameOf (.ref x)}' object is not iterable":Sem Value)
       |some _=>(do rule "iter.getitem-fallback";newFields "iterator" [.ref x,<- mkInt 0]))) Q E s') E #[h,g,d,t,os]:=by
  dsimp only;rw[bb (show ¬((Value.builtin "tuple.__iter__" == Value.none)=true) from gx)];apply ab (dj fin (λr s' hr=>?_) λ_ _ e=>e);have#[y,rfl,rfl,rfl]:=hr;apply af ?_;dsimp only;apply ab (ab (gJ (T:="tuple_iterator") #[_,eg _ rfl,rfl] (fo pf.lookup ?_)));show af I
 apply nH ?_;split
 ·show go _ _ tail
 ·show wpAny_tryCatch (go _ _ tail)
def sO {k:Nat}(z:x≠it)(hd:ox.data=.seq xs k):∀(n i:Nat) (s:Shared) (Q:List Value->Shared->Prop),IsTupIter s.heap it x i->s.heap.get? x=some ox->i+n<=xs.size ->
  (∀h',IsTupIter h' it x (i+n)->Heap.SameBut it s.heap h'->Q ((xs.toList.drop i).take n) {s with heap:=h'})->wpAny (model prog w) A (draw (.ref it) n) Q E s
 |0=>λi s Q hit hx hn hQ=>by
  dsimp only[draw];show af (by simpa using hQ s.heap hit (.refl ..))
 |n+1=>λi s Q hit hx hn hQ=>by
  dsimp only[draw];have hv:xs[i]?=some xs[i]:=Array.getElem?_eq_getElem (fc .B .a .cP hn);apply ab (BL hit hx hd hv λh₁ O W=>?_);apply ab (dp (sO z hd n (i+1) _ _ O (by rw[W.2 x z];show hx) (fc .bF .a .K hn) λI U J=>af ?_));have ag:xs.toList.drop i=xs[i]::xs.toList.drop (i+1):=by
   rw[cg (by simpa using (by(show fc .B .a .cP hn):i<xs.size))];simp
  have:=hQ I (by rw[show i+(n+1)=i+1+n by(show my .bV .n)];show U) (W.trans J);rw[ag,List.take_succ_cons]at this;show this
end
structure tf (G:Stc):Prop where
 here:∃N mN nm q k0 k2 k3,G.hb.get? G.cM=some (eX G.cM N nm q k0 k2 k3)/\G.hb.Ns N mN/\mN "__iter__"=none/\mN "__lt__"=none/\mN "__len__"=none/\mN "__init__"=none
def NG {G:Stc}(K:tf G):zY G:=λA E s x ws n dd Q hh U hx hQ=>by
 have#[N,mN,nm,q,k0,k2,k3,hC,hN,hi,_]:=K.here;have ag:x≠s.heap.objs.size:=jt (ip hx);have#[h,g,d,t,os]:=s;have ao:=U _ _ hC;have aj:=hN.keeps U;have hl:=PySem.F.slot_tuple_iter.lookup;have ar:h.get? x=some (zf G.cM dd ws n):=hx;have z:h.get? x=some {cls:=.ref G.cM,dict:=dd,data:=.seq ws.toArray n,slots:=#v[]}:=hx;have ni:∀R:Bool->Shared->Prop,R false #[h,g,d,t,os]->wpAny G.M A (notIterableAtAll (.ref x)) R E #[h,g,d,t,os]:=λR hr=>by
  unfold notIterableAtAll specialOf
  repeat (first|(with_reducible refine qk z ?_)|(with_reducible refine wq ao aj hl ?_;rw[hi])|wp_step)
  show hr
 unfold unpackItems;apply ab (ni _ ?_);simp only[fw,kn];have hp:(h.push {cls:=.type "tuple_iterator",data:=.fields #v[.ref x,.int 0 0]}).get? x=some {cls:=.ref G.cM,dict:=dd,data:=.seq ws.toArray n,slots:=#v[]}:=ba _ z;apply ab (dp (K0 ao aj hi ar ?_));apply ab (dp (sO (xs:=ws.toArray) (k:=n) ag rfl ws.length 0 _ _ #[_,eg _ rfl,rfl,rfl] hp (by simp) λh₁ O W=>?_));have ai:List.take ws.length (List.drop 0 ws.toArray.toList)=ws:=by simp
 rw[ai,bb (by simp)];have J:h₁.get? x=some {cls:=.ref G.cM,dict:=dd,data:=.seq ws.toArray n,slots:=#v[]}:=by rw[W.2 x ag];show hp
 apply ab (dp (FL (xs:=ws.toArray) (n:=n) hh O J rfl (by simp) λB I=>?_));simp only[wh,fw,kn];show af (hQ B λb o hb e=>I b o hb (W.extBut b o hb (ba _ e)))
variable {x y:Addr}{ns ms:List Int}{n:Nat}
abbrev gC (ns ms:List Int):Option Fin×Unit:=if ns=ms then (none,()) else (some (.done (.ret (.bool (ju ns ms)))),())
def gA:∀ns:List Int,ju ns ns=false
 | []=>rfl
 |a::as=>(cp rfl).trans (gA as)
section
variable {prog:Program}{w:World}{M:Model}{A:Around}{E:QqV}{h:Heap}{g:Array GenState}{d:Drawn}{t:Nat}{os:OsState}{C N:Addr}{nm q:Str}{k0 k2 k3:Option Value}{mN:Str->Option Value}{dd de:Option Addr}
def GG {s:Shared}(f:Value×Value->Option Fin×Unit->Sem (ForInStep (Option Fin×Unit)))
  (hf:∀a b st,f (a,b) st=(do let r←eqBool a b;if (!r)=true then (do rule "tuple.compare.by-the-first-pair-that-differs";let v←richCompare .Lt a b;let z←ret v;pure (.done (some z,()))) else pure (.yield (none,())))) :
  ∀{ws us:List Value} {ns ms:List Int} {Q:Option Fin×Unit->Shared->Prop},IntsAre ws ns->IntsAre us ms->ns.length=ms.length->Q (gC ns ms) s->wpAny (model prog w) A (forIn (ws.zip us) (none,()) f) Q E s:=by
 intro ws us ns ms Q B;induction B generalizing us ms Q with
 |nil =>
  intro O hl U;cases O with
  |nil=>rw[List.zip_nil_left,oj];show af U
  |cons=>simp at hl
 | @cons a ta ws ns B ih =>
  intro O hl U;cases O with
  |nil=>simp at hl
  | @cons b tb us ms O =>
   rw[List.zip_cons_cons,ow,hf];apply ab (ab (wpAny_eqBool_int ?_));by_cases W:a=b
   ·subst W;simp -iota only[beq_self_eq_true,yw,fw,kn];apply af (ih O (by simpa using hl) ?_);have e:gC (a::ns) (a::ms)=gC ns ms:=by unfold gC;rw[show ju (a::ns) (a::ms)=ju ns ms from cp rfl];simp
    rw[e]at U;show U
   ·have J:(a==b)=false:=by simpa using W
    rw[J];simp -iota only[Bool.not_false,yv];have e:gC (a::ns) (b::ms)=(some (.done (.ret (.bool (decide (a<b))))),()):=by unfold gC;rw[show ju (a::ns) (b::ms)=decide (a<b) from bb W,bb λq=>W (List.cons.inj q).1]
    rw[e]at U;apply ab (rf (ab ?_));have I:∀R:Value->Shared->Prop,R (.bool (decide (a<b))) s->wpAny (model prog w) A (richCompare .Lt (.int a ta) (.int b tb)) R E s:=λR hr=>lt_int hr;show I _ (ab (af (af (af U))))
def GF {ox O:Obj}{ws us:List Value}{m:Nat}{P:Fin->Shared->Prop}(z:h.get? x=some ox)(dx:ox.data=.seq ws.toArray n)(B:h.get? y=some O)(dy:O.data=.seq us.toArray m)(I:IntsAre ws ns)(J:IntsAre us ms)(hl:ns.length=ms.length)
  (inst:∀R:Bool->Shared->Prop,R true #[h,g,d,t,os]->wpAny (model prog w) A (isInstance (.ref y) (.type "tuple")) R E #[h,g,d,t,os]) (U:P (.done (.ret (.bool (ju ns ms)))) #[h,g,d,t,os]):wpAny (model prog w) A (Builtin.«tuple.__lt__» #[[.ref x,.ref y],[]]) P E #[h,g,d,t,os]:=by
 unfold Builtin.«tuple.__lt__»;apply ab (fo (a:=(.ref x,[.ref y])) (by rfl) ?_);dsimp only;apply ab (inst _ ?_);simp -iota only[yw,fw,kn];apply ab (m:=Builtin.Tuple.tupleItemsOf (.ref x)) (ab (vp z dx (af ?_)));apply ab (m:=Builtin.Tuple.tupleItemsOf (.ref y)) (ab (vp B dy (af ?_)));apply ab (GG _ (λa b st=>by rfl) (ws:=ws) (us:=us) I J hl ?_);unfold gC;by_cases e:ns=ms
 ·rw[cp e];subst e;rw[gA]at U;have W:ws.toArray.size=us.toArray.size:=by simp[I.length,J.length]
  have e2:Builtin.Tuple.tupleCompareSizes .Lt ws.toArray.size us.toArray.size=.bool false:=by unfold Builtin.Tuple.tupleCompareSizes;rw[W];simp
  show wpAny _ _ (ret (Builtin.Tuple.tupleCompareSizes .Lt ws.toArray.size us.toArray.size)) _ _ _;rw[e2];show af U
 ·rw[bb e];show af U
def z7 {ws us:List Value}{m:Nat}{P:Fin->Shared->Prop}(J:h.get? C=some (eX C N nm q k0 k2 k3))(U:h.get? x=some (zf C dd ws n))(W:h.get? y=some (zf C de us m))(B:IntsAre ws ns)(I:IntsAre us ms)(hl:ns.length=ms.length)
  (O:P (.done (.ret (.bool (ju ns ms)))) #[h,g,d,t,os]):wpAny (model prog w) A (Builtin.«tuple.__lt__» #[[.ref x,.ref y],[]]) P E #[h,g,d,t,os]:=GF U rfl W rfl B I hl (λR hr=>by
  unfold isInstance;unfold zf at W
  repeat (first|(with_reducible refine qk W ?_)|(with_reducible refine jK J ?_)|wp_step)
  show hr) O
def yH:splitId "tuple.__lt__"=some ("tuple","__lt__"):=by kernel_rfl
def CG:builtinKind "tuple.__lt__"=some .slot:=by kernel_rfl
def GC {ws us:List Value}{m:Nat}{Q:Bool->Shared->Prop}(hu:A.units<cLine)(B:h.get? C=some (eX C N nm q k0 k2 k3))(hn:h.Ns N mN)(J:mN "__lt__"=none)(O:h.get? x=some (zf C dd ws n))(hy:h.get? y=some (zf C de us m))(h1:IntsAre ws ns)(h2:IntsAre us ms)(hl:ns.length=ms.length)
  (hQ:Q (ju ns ms) #[h,g,d,t,os]):wpAny (model prog w) A (keyLt' oneType' (.ref x) (.ref y)) Q E #[h,g,d,t,os]:=by
 rw[keyLt'_oneType,oneLt'_eq];simp -iota only[yv];apply ab (wpAny_cRoomFor hu ?_);have I:=PySem.F.slot_tuple_lt.lookup;have W:typeLookup (.type "tuple") "__lt__"=pure (some (.builtin "tuple.__lt__")):=I;have hb:=PySem.F.slot_tuple_lt.bind (.ref x);have U:h.get? x=some {cls:=.ref C,dict:=dd,data:=.seq ws.toArray n,slots:=#v[]}:=O;have fin:∀(E:QqV) (R:QqV),R (.bool (ju ns ms)) #[h,g,d,t,os]->wpAny (model prog w) A (call (.builtin "tuple.__lt__") [.ref x,.ref y]) R E #[h,g,d,t,os]:=λE R hr =>
  vA B O yH (.inl CG) PySem.F.slot_tuple_lt.plain PySem.F.entry_tuple_lt (PySem.F.args_tuple_lt_2 _ _) (z7 B O hy h1 h2 hl #[_,rfl,hr])
 have z:∀(R:Option (Value×List Value)->Shared->Prop),R (some (.builtin "tuple.__lt__",[.ref x])) #[h,g,d,t,os]->wpAny (model prog w) A (bindSpecialIfBound? (.ref x) "__lt__") R E #[h,g,d,t,os]:=λR hr=>by
  have go:∀(E:QqV),wpAny (model prog w) A (do let r←bindSpecial (Value.builtin "tuple.__lt__") (Value.ref x);pure (some r)) R E #[h,g,d,t,os]:=λE=>ab (fo hb (af hr));unfold bindSpecialIfBound? specialOf
  repeat (first|(with_reducible refine qk U ?_)|(with_reducible refine wq B hn W ?_;rw[J])|wp_step)
  apply nH ?_;split
  ·show go _
  ·show wpAny_tryCatch (go _)
 unfold callSpecialIfBound?;apply ab (dp (ab (z _ ?_)));apply ab (fin _ _ (af ?_));show uo hQ
end
end MP
end
section
set_option tactic.hygienic true
namespace MP
open PySem PyProof.Rows
variable {st:SortSt}
abbrev te:Bool->Keyed->Array Keyed->Nat->Nat->Nat->StateT SortSt Sem (Option Nat):=sortPriv% PySem.Builtin.gallop
abbrev Ora (M:Model)(A:Around)(s:Shared)(kd:SortKind)(n:Nat)(it:Nat->Keyed)(lt:Nat->Nat->Bool):Prop:=
 ∀i j (C:Bool->Shared->Prop),i<n->j<n->C (lt i j) s->wpAny M A (keyLt' kd (it i).1 (it j).1) C (λ_ _=>False) s
section
variable {prog:Program}{w:World}{A:Around}{E:QqV}{s:Shared}{kd:SortKind}{n:Nat}{it:Nat->Keyed}{lt:Nat->Nat->Bool}
def gO (O:Ora (model prog w) A s kd n it lt){i j:Nat}{Q:Option Bool->SortSt->Prop}(hk:kindOf st=kd)(hi:i<n)(W:j<n)(h:Q (some (lt i j)) st):PyProof.Rows.wpS (model prog w) A E s (lt' (it i) (it j)) Q st:=by
 rw[lt'_eq];apply cf (rQ ?_);rw[hk];apply cf (wpS_lift (wpAny_attempt (dj (O i j (λb s'=>b=lt i j/\s'=s) hi W #[rfl,rfl]) (λb s' hb=>?_) λ_ _ U=>U.elim)));have#[rfl,rfl]:=hb;apply#[rfl,cv h]
def jl {arr:Array Keyed}{i:Nat}{x:Keyed}{Q:Keyed->SortSt->Prop}(e:arr[i]?=some x)(h:Q x st):PyProof.Rows.wpS (model prog w) A E s (elem' arr i) Q st:=by
 rw[elem'_eq,e];show cv h
def uu (O:Ora (model prog w) A s kd n it lt){left:Bool}{key:Nat}{arr:Array Keyed}{p:Nat->Nat}{base m hint:Nat}{Q:Option Nat->SortSt->Prop}(ar:key<n)(hm:hint<m)
  (ay:∀i,i<m->p i<n/\arr[base+i]?=some (it (p i)))
  (B:Nat->Bool) (hB:∀i,i<m->B i=if left=true then lt (p i) key else !lt key (p i)) (mono:∀i j,i<=j->j<m->B j=true->B i=true)
  (hk:kindOf st=kd) (h:∀k,k<=m->(∀i,i<k->B i=true)->(∀i,k<=i->i<m->B i=false)->Q (some k) st) :
  PyProof.Rows.wpS (model prog w) A E s (te left (it key) arr base m hint) Q st:=by
 have ag:∀(i:Nat) (R:Option Bool->SortSt->Prop),i<m->R (some (B i)) st->PyProof.Rows.wpS (model prog w) A E s (do
   let x←elem' arr (base+i)
   if left=true then lt' x (it key) else do let r←lt' (it key) x;pure (r.map (!·))) R st:=λi R hi hR=>by
  have#[h1,h2]:=ay i hi;apply cf (jl h2 ?_);have hb:=hB i hi;cases left with
  |true=>show gO O hk h1 ar (by simpa[hb] using hR)
  |false=>show cf (gO O hk ar h1 (cv (by simpa[hb] using hR)))
 unfold te;apply cf ?_;apply lh (ag hint (λr z=>r=some (B hint)/\z=st) hm #[rfl,rfl]) λr z hr=>?_;have#[rfl,rfl]:=hr;have fin:∀(F:Nat->Option (Option Nat)×Nat×Nat->StateT SortSt Sem (ForInStep (Option (Option Nat)×Nat×Nat))) (T:Option (Option Nat)×Nat×Nat->StateT SortSt Sem (Option Nat)),
   (∀x lo hi (R:ForInStep (Option (Option Nat)×Nat×Nat)->SortSt->Prop),hi<=m->(lo>=hi->R (.done (none,lo,hi)) z)->(lo<hi->B (lo+(hi-lo)/2)=true->R (.yield (none,lo+(hi-lo)/2+1,hi)) z)->(lo<hi->B (lo+(hi-lo)/2)=false->R (.yield (none,lo,lo+(hi-lo)/2)) z)->PyProof.Rows.wpS (model prog w) A E s (F x (none,lo,hi)) R z) ->
   (∀k,Q (some k) z->PyProof.Rows.wpS (model prog w) A E s (T (none,k,k)) Q z)->∀(lo hi:Nat),lo<=hi->hi<=m->(∀i,i<lo->B i=true)->(∀i,hi<=i->i<m->B i=false)->PyProof.Rows.wpS (model prog w) A E s (forIn [:m] (none,lo,hi) F>>=T) Q z:=λF T hF hT lo hi h1 h2 h3 h4=>by
  apply cf (lh (kc (I:=λx c st=>st=z/\∃lo hi,c=(none,lo,hi)/\lo<=hi/\hi<=m/\hi-lo<=m-x/\(∀i,i<lo->B i=true)/\∀i,hi<=i->i<m->B i=false)
   (Q:=λc st=>st=z/\∃k,c=(none,k,k)/\k<=m/\(∀i,i<k->B i=true)/\∀i,k<=i->i<m->B i=false) ?_ ?_ #[rfl,lo,hi,rfl,h1,h2,by show ll .A .s .a0 (.e .aD .C) (.e (.a .B .O) .D) h2 (aa (av .A .a .A h1)) (aa (nu (.k .O .A) .h)),h3,h4]) ?_)
  ·intro x c st _ hx zz;have#[rfl,lo,hi,rfl,h1,h2,hd,h3,h4]:=zz;apply hF x lo hi _ h2 (λc=>?_) (λc hb=>?_) λc hb=>?_
   ·obtain rfl:lo=hi:=by(show gj .D .g .A .a4 h1 c)
    apply#[rfl,lo,rfl,h2,h3,h4]
   ·apply#[rfl,_,_,rfl,by show ll (.k .aH .C) [[2,1,1,1]] .I (.e (.a .aC .D) .F) (.e .aR .C) c (Ar.dF _ 2 (by decide)).2 (aa (av .A .a .A h1)),h2,by show Ar.sub _ _ (λq1 p1=>(MX .A [[1,1,-1,1,-1,1]] .a0 (.e .aL .G) (.e (.a .D .H) .I) (.e (.a .B (.a .H .U)) .I) (.e (.a .A (.a (.a .F .J) .U)) .G) hd (aa (av .A .a .A h1)) (aa (av .A .a .B hx)) (aa (av .S .a .B hx)) p1)) λq1 p1=>(av .A .a .N p1),λi ax=>mono i _ (fc (.k .A .Q) .a (.l .A (.a .Q .U)) ax) (xy .J [[2,2,1,1,1]] .bU (.l .A .D) .cK .cR h2 c (Ar.dF _ 2 (by decide)).2 (aa (av .A .a .A h1))) hb,h4]
   ·apply#[rfl,_,_,rfl,by show my .bQ .h,by show zm .F [[2,2,1,2]] .bU .cK .cR h2 (Ar.dF _ 2 (by decide)).2 (aa (av .A .a .A h1)),by show MX .A [[2,1,1,1,2,-1]] .a0 (.e (.a (.m 2 .F) .G) .C) (.e (.a .D .H) .I) (.e (.a .A .J) (.a .J .F)) (.e (.a .B (.a .H .U)) .I) hd (Ar.dF _ 2 (by decide)).2 (aa (av .A .a .B hx)) (aa (my .bQ .h)) (aa (av .S .a .B hx)),h3,λi ax ao=>?_];cases hq:B i with
    |false=>rfl
    |true=>rw[mono _ i ax ao hq]at hb;cases hb
  ·intro c st zz;have#[rfl,lo,hi,rfl,h1,h2,hd,h3,h4]:=zz;obtain rfl:lo=hi:=by simp at hd;(show fb .D .B .b6 .c9 hd (aa (av .A .a .A h1)))
   apply#[rfl,lo,rfl,h2,h3,h4]
  ·intro c st zz;have#[rfl,k,rfl,h2,h3,h4]:=zz;show hT k (h k h2 h3 h4)
 cases hh:B hint with
 |true =>
  apply cf (lh (kc (I:=λx c st=>st=z/\∃l o,c=(none,l,o)/\x<o/\l<o/\hint+l<m/\B (hint+l)=true)
   (Q:=λc st=>st=z/\∃l o,c=(none,l,o)/\l<o/\hint+l<m/\B (hint+l)=true/\(hint+o<m->B (hint+o)=false)) ?_ ?_ #[rfl,0,1,rfl,by show zo (.l .O .U) .h,by show zo (.l .O .U) .h,by show av (.l (.a .A .O) .B) .a .B hm,hh]) ?_)
  ·intro x c st _ hx zz;have#[rfl,l,o,rfl,aj,ai,hl,hb]:=zz;dsimp only;by_cases c:o>=m-hint
   ·rw[cp c];show cv #[rfl,l,o,rfl,ai,hl,hb,λq=>by show False.elim (mr .ff [[0,1,1,-1]] .A (.l .a8 .D) .c6 c q (aa (fc .A .a (.l .S .B) q)))]
   ·rw[bb c];apply cf (ag _ _ (fy .J .b (.j .D .B) .O c (aa (av .A .a .B hm))) ?_);cases hq:B (hint+o) with
    |true=>show cv #[rfl,_,_,rfl,by show av (.l .M .aU) [[1,2]] .B aj,by show nu (.l .A (.a (.m 2 .A) .U)) .h,by show fy .J .b (.j .D .B) .O c (aa (av .A .a .B hm)),hq]
    |false=>show cv #[rfl,l,o,rfl,ai,hl,hb,λ_=>hq]
  ·intro c st zz;have#[rfl,l,o,rfl,aj,ai,hl,hb]:=zz;apply#[rfl,l,o,rfl,ai,hl,hb,λq=>by simp at aj;(show False.elim (fb .ff .c .J .Q q aj))]
  ·intro c st zz;have#[rfl,l,o,rfl,ai,hl,hb,hz]:=zz;apply fin _ _ (λx lo hi R h2 r1 r2 r3=>?_) (λk q=>cv q) (hint+l+1) (hint+min o (m-hint)) ((Ar.iz _ _).2.2.elim (λq1=>(fy (.k .aH .S) .b .W .bU ai q1)) λq1=>(ll (.k .aH .S) .v (.l .L .D) (.e .aR .D) .aZ hl (aa (av .A .a .B hm)) q1)) (fy .F .b .c2 .O (Ar.iz _ _).2.1 (aa (av .A .a .B hm))) (λi hi=>mono i (hint+l) (fc (.k .A .Q) .a (.l .A (.a .Q .U)) hi) hl hb) λi hi ao=>?_
   ·dsimp only;by_cases c:lo>=hi
    ·rw[cp c];show cv (r1 c)
    ·rw[bb c];apply cf (ag _ _ (xy .J [[2,2,1,1,1]] .bU (.j .D .A) .cK .cR h2 c (Ar.dF _ 2 (by decide)).2 (aa (av .A .a (.j .B .A) c))) ?_);cases hb:B (lo+(hi-lo)/2) with
     |true=>show cv (r2 (av .B .a (.j .B .A) c) hb)
     |false=>show cv (r3 (av .B .a (.j .B .A) c) hb)
   ·cases hq:B i with
    |false=>rfl
    |true =>
     have:=hz ((Ar.iz _ _).2.2.elim (λq1=>(ll .J .e (.k .V .F) (.l .F .C) .c2 hi ao q1)) λq1=>(xy .J [[0,1,1,-1,1]] (.k .V .F) (.l .F .C) .aY (.k .G .D) hi ao (aa (av .A .a .B hm)) q1));rw[mono (hint+o) i ((Ar.iz _ _).2.2.elim (λq1=>(fy .F .b .bR .c2 hi q1)) λq1=>(xy .F [[0,1,1,-1,1]] .bR (.l .C .F) (.e (.a .G .A) .F) (.k .G .D) hi ao (aa (av .A .a .B hm)) q1)) ao hq]at this;cases this
 |false =>
  apply cf (lh (kc (I:=λx c st=>st=z/\∃l o,c=(none,l,o)/\x<o/\l<o/\l<=hint/\B (hint-l)=false)
   (Q:=λc st=>st=z/\∃l o,c=(none,l,o)/\l<o/\l<=hint/\B (hint-l)=false/\(o<=hint->B (hint-o)=true)) ?_ ?_ #[rfl,0,1,rfl,by show zo (.l .O .U) .h,by show zo (.l .O .U) .h,by show nu (.k .O .A) .h,hh]) ?_)
  ·intro x c st _ hx zz;have#[rfl,l,o,rfl,aj,ai,hl,hb]:=zz;dsimp only;by_cases c:o>=hint+1
   ·rw[cp c];show cv #[rfl,l,o,rfl,ai,hl,hb,λq=>by show False.elim (gj .ff .c .S .a4 c q)]
   ·rw[bb c];apply cf (ag _ _ (fy .B .b .Q .b1 hm (aa (av .A .a (.j .P .A) c))) ?_);cases hq:B (hint-o) with
    |false=>show cv #[rfl,_,_,rfl,by show av (.l .M .aU) [[1,2]] .B aj,by show nu (.l .A (.a (.m 2 .A) .U)) .h,by show av .A .a (.j .P .A) c,hq]
    |true=>show cv #[rfl,l,o,rfl,ai,hl,hb,λ_=>hq]
  ·intro c st zz;have#[rfl,l,o,rfl,aj,ai,hl,hb]:=zz;apply#[rfl,l,o,rfl,ai,hl,hb,λq=>by simp at aj;(show False.elim (oq .ff .j .B .aX .aQ hm q aj))]
  ·intro c st zz;have#[rfl,l,o,rfl,ai,hl,hb,hz]:=zz;apply fin _ _ (λx lo hi R h2 r1 r2 r3=>?_) (λk q=>cv q) (hint+1-min o (hint+1)) (hint-l) ((Ar.iz _ _).2.2.elim (λq1=>(xy .A [[1,1,1,-1,1]] .V (.e .aD .aF) (.e .Q .G) .cD ai (aa (av .R .a .R (Ar.iz _ _).2.1)) (aa (av .A .a .A hl)) q1)) λq1=>(fy .A .b (.e .S .a0) (.k .a0 .C) (aa (av .R .a .R (Ar.iz _ _).2.1)) q1)) (fy .A .b .Q .b1 hm (aa (av .A .a .A hl))) (λi hi=>?_) λi hi ao=>?_
   ·dsimp only;by_cases c:lo>=hi
    ·rw[cp c];show cv (r1 c)
    ·rw[bb c];apply cf (ag _ _ (xy .J [[2,2,1,1,1]] .bU (.j .D .A) .cK .cR h2 c (Ar.dF _ 2 (by decide)).2 (aa (av .A .a (.j .B .A) c))) ?_);cases hb:B (lo+(hi-lo)/2) with
     |true=>show cv (r2 (av .B .a (.j .B .A) c) hb)
     |false=>show cv (r3 (av .B .a (.j .B .A) c) hb)
   ·show mono i (hint-o) ((Ar.iz _ _).2.2.elim (λq1=>(Ar.sub _ _ (λq2 p2=>(xy .A [[1,1,1,1,-1]] .I (.e .R .a1) (.k .G .D) .c0 hi (aa (av .R .a .R (Ar.iz _ _).2.1)) q1 p2)) λq2 p2=>(xy .A .o .I (.e .R .a1) (.k .G .D) (.k .F .G) hi (aa (av .R .a .R (Ar.iz _ _).2.1)) q1 q2))) λq1=>(ll .A .e .I (.e .R .a1) (.k .a1 .D) hi (aa (av .R .a .R (Ar.iz _ _).2.1)) q1)) (fb .B .b .Q .L hm (mz _ _)) (hz ((Ar.iz _ _).2.2.elim (λq1=>(ll .A .e .V (.e .X .P) (.k .A .F) hi (aa (av .R .a .R (Ar.iz _ _).2.1)) q1)) λq1=>(ll .A .j .V (.e .X .P) (.k .P .F) hi (aa (av .R .a .R (Ar.iz _ _).2.1)) q1)))
   ·cases hq:B i with
    |false=>rfl
    |true=>rw[mono _ i hi ao hq]at hb;cases hb
end
end MP
end
section
set_option tactic.hygienic true
namespace MP
section
variable {xs ys all os:List Nat}
variable {lt:Nat->Nat->Bool}
abbrev Le (lt:Nat->Nat->Bool)(x:Nat)(ys:List Nat):Prop:=∀y∈ys,lt y x=false
abbrev Srt (lt:Nat->Nat->Bool)(xs:List Nat):Prop:=xs.Pairwise λx y=>lt y x=false
structure LtT (lt:Nat->Nat->Bool):Prop where
 asym:∀a b,lt a b=true->lt b a=false
 tr:∀a b c,lt b a=false->lt c b=false->lt c a=false
structure Mrg (lt:Nat->Nat->Bool)(all os xs ys:List Nat):Prop where
 perm:(os++(xs++ys)).Perm all
 so:Srt lt os
 sx:Srt lt xs
 sy:Srt lt ys
 ax:∀o∈os,Le lt o xs
 ay:∀o∈os,Le lt o ys
def Srt.app (U:Srt lt xs)(W:Srt lt ys)(h:∀x∈xs,Le lt x ys):Srt lt (xs++ys):=
 mq.mpr #[U,W,h]
def Srt.le (T:LtT lt){x:Nat}(h:Srt lt (x::xs)){z:Nat}(hz:lt x z=false):Le lt z (x::xs):=λy W=>by
 rcases cz.mp W with rfl|W
 ·show hz
 ·show T.tr _ _ _ hz ((og.mp h).1 y W)
def Mrg.left {zs:List Nat}(m:Mrg lt all os (zs++xs) ys)(h:∀z∈zs,Le lt z ys):Mrg lt all (os++zs) xs ys:=by
 have#[B,I,J]:=mq.mp m.sx;apply#[?_,m.so.app B λo W z hz=>m.ax o W z (dg _ hz),I,m.sy,λo W x O=>?_,λo W y U=>?_]
 ·have:=m.perm;simpa[az] using this
 ·rcases cu.mp W with W|W
  ·show m.ax o W x (dt _ O)
  ·show J o W x O
 ·rcases cu.mp W with W|W
  ·show m.ay o W y U
  ·show h o W y U
def Mrg.right {zs:List Nat}(m:Mrg lt all os xs (zs++ys))(h:∀z∈zs,Le lt z xs):Mrg lt all (os++zs) xs ys:=by
 have#[B,I,J]:=mq.mp m.sy;apply#[?_,m.so.app B λo W z hz=>m.ay o W z (dg _ hz),m.sx,I,λo W x O=>?_,λo W y U=>?_]
 ·apply List.Perm.trans ?_ m.perm;rw[az];apply kG _ ?_;rw[<- az,<- az];show List.Perm.append_right _ List.perm_append_comm
 ·rcases cu.mp W with W|W
  ·show m.ax o W x O
  ·show h o W x O
 ·rcases cu.mp W with W|W
  ·show m.ay o W y (dt _ U)
  ·show J o W y U
def Mrg.KP (m:Mrg lt all os xs []):(os++xs).Perm all/\Srt lt (os++xs):=
 #[by have:=m.perm;simpa using this,m.so.app m.sx m.ax]
def Mrg.HA (m:Mrg lt all os xs ys)(h:∀y∈ys,Le lt y xs):(os++ys++xs).Perm all/\Srt lt (os++ys++xs):=by
 have W:Mrg lt all os xs (ys++[]):=by rw[dk];show m
 show(W.right h).KP
end
end MP
end
section
set_option tactic.hygienic true
namespace MP
open PySem PyProof.Rows
abbrev t2:Array Keyed->Array Keyed->StateT SortSt Sem (Array Keyed):=sortPriv% PySem.Builtin.mergeLo
abbrev KA (it:Nat->Keyed)(xs:List Nat):Array Keyed:=(xs.map it).toArray
section
variable {it:Nat->Keyed}{lt:Nat->Nat->Bool}
def cU (xs:List Nat):(KA it xs).size=xs.length:=by simp[KA]
def rt (xs ys:List Nat):KA it xs++KA it ys=KA it (xs++ys):=by simp[KA]
def ym (xs:List Nat)(x:Nat):(KA it xs).push (it x)=KA it (xs++[x]):=by simp[KA]
def pz (xs:List Nat)(i j:Nat):(KA it xs).extract i j=KA it ((xs.take j).drop i):=by
 simp only[KA,List.extract_toArray];rw[List.extract_eq_drop_take',List.map_drop,gL]
def rh {xs:List Nat}{i:Nat}(h:i<xs.length):(KA it xs)[i]?=some (it xs[i]):=by simp[KA,h]
abbrev Gst (st st':SortSt):Prop:=∃g,st'=SortSt.mk' (kindOf st) (arrOf st) (pendingOf st) g (failedOf st)
def Gst.kind {st W:SortSt}(h:Gst st W):kindOf W=kindOf st:=by have#[g,rfl]:=h;rfl
def Gst.refl (st:SortSt):Gst st st:=#[gallopOf st,rfl]
def Gst.trans {a b c:SortSt}(h:Gst a b)(k:Gst b c):Gst a c:=by
 have#[g,rfl]:=h;have#[W,rfl]:=k;apply#[W,rfl]
structure MI (lt:Nat->Nat->Bool)(as bs os:List Nat)(ia ib:Nat):Prop where
 m:Mrg lt (as++bs) os (as.drop ia) (bs.drop ib)
 la:ia+1<as.length
 lb:ib<bs.length
def MI.AI {as bs os:List Nat}{ia ib:Nat}(T:LtT lt)(h:MI lt as bs os ia ib)(c:lt (bs[ib]'h.lb) (as[ia]'(ir h.la))=true) :
  Mrg lt (as++bs) (os++[bs[ib]'h.lb]) (as.drop ia) (bs.drop (ib+1)):=by
 have e:bs.drop ib=[bs[ib]'h.lb]++bs.drop (ib+1):=cg h.lb;have m:=h.m;rw[e]at m;apply m.right λz hz=>?_;have rfl:=ak.mp hz;have sx:=m.sx;rw[cg (ir h.la)]at sx ⊢;show sx.le T (T.asym _ _ c)
def MI.AJ {as bs os:List Nat}{ia ib:Nat}(T:LtT lt)(h:MI lt as bs os ia ib)(c:lt (bs[ib]'h.lb) (as[ia]'(ir h.la))=false) :
  Mrg lt (as++bs) (os++[as[ia]'(ir h.la)]) (as.drop (ia+1)) (bs.drop ib):=by
 have e:as.drop ia=[as[ia]'(ir h.la)]++as.drop (ia+1):=cg (ir h.la);have m:=h.m;rw[e]at m;apply m.left λz hz=>?_;have rfl:=ak.mp hz;have sy:=m.sy;rw[cg h.lb]at sy ⊢;show sy.le T c
end
section
variable {xs:List Nat}{i:Nat}
variable {prog:Program}{w:World}{A:Around}{E:QqV}{s:Shared}{kd:SortKind}{n:Nat}{it:Nat->Keyed}{lt:Nat->Nat->Bool}
def tQ (xs:List Nat)(i k:Nat):xs.drop i=(xs.take (i+k)).drop i++xs.drop (i+k):=by
 rw[List.drop_take,kq,<- List.drop_drop,dz]
def xC {k x:Nat}(h:x∈(xs.take (i+k)).drop i):∃j,j<k/\∃O:i+j<xs.length,x=xs[i+j]:=by
 have#[j,O,rfl]:=fm.mp h;rw[gh,eh]at O;apply#[j,by show Ar.sub _ _ (λz U=>(ll .B .e .I (.k .D .aI) (.e .aL .D) O (Ar.iz _ _).1 U)) λz U=>(fb .B .c .I .b6 O U),by show Ar.sub _ _ (λz U=>(ll .J .e .W .aZ (.e (.a .D .A) .F) O (Ar.iz _ _).2.1 U)) λz U=>(fy .J .c .W .bP O U),by simp]
def t5 {k x:Nat}(h:x∈xs.drop (i+k)):∃j,k<=j/\∃W:i+j<xs.length,x=xs[i+j]:=by
 have#[j,W,rfl]:=fm.mp h;rw[gh]at W;apply#[k+j,by show my .bQ .h,by show Ar.sub _ _ (λO U=>(oz (.l (.a .A .Q) .D) .b (.l .C .F) (.e (.a .F .L) .D) W U)) λO U=>(oz (.l (.a .A .Q) .D) .c (.l .C .F) .b7 W U),by simp[nt]]
def Srt.at (h:Srt lt xs){a b:Nat}(hi:i<=a)(W:a<b)(hb:b<xs.length):lt xs[b] (xs[a]'(Nat.lt_trans W hb))=false:=
 ur.mp h a b _ _ W
def A3 (O:Ora (model prog w) A s kd n it lt)(T:LtT lt){as bs os:List Nat}{ia ib:Nat}{Q:Option Nat->SortSt->Prop}{st:SortSt}(hk:kindOf st=kd)(hn:∀x∈as++bs,x<n)(sa:Srt lt as)
  (m:Mrg lt (as++bs) os (as.drop ia) (bs.drop ib)) (U:ia<as.length) (ao:ib<bs.length)
  (h:∀k,ia+k<=as.length->Mrg lt (as++bs) (os++(as.take (ia+k)).drop ia) (as.drop (ia+k)) (bs.drop ib)->Le lt bs[ib] (as.drop (ia+k))->Q (some k) st) :
  PyProof.Rows.wpS (model prog w) A E s (te false (it bs[ib]) (KA it as) ia (as.length-ia) 0) Q st:=by
 have ap:∀{i},(hi:i<as.length-ia)->as.getD (ia+i) 0=as[ia+i]'(by show fy .J .b .W .O hi (aa (av .A .a .B U))):=λ{i} hi=>by simp[List.getD,aq (show ia+i<as.length by show fy .J .b .W .O hi (aa (av .A .a .B U)))]
 apply uu O (p:=λi=>as.getD (ia+i) 0) (hn _ (dt _ (du _))) (by show fb .C .d .aQ .T U (aa (av .A .a .B U))) (λi hi=>?_) (λi=>!lt bs[ib] (as.getD (ia+i) 0)) (λi hi=>rfl) (λi j aj hj hb=>?_) hk λk ai h1 h2=>?_
 ·rw[ap hi];apply#[hn _ (dg _ (du _)),rh (by show fy .J .b .W .O hi (aa (av .A .a .B U)))]
 ·skip
  rw[ap hj]at hb;rw[ap (by show fb .B .b .L .Q aj hj)];have hb:lt bs[ib] (as[ia+j]'(by show fy .J .b .W .O hj (aa (av .A .a .B U))))=false:=by simpa using hb
  rcases jj aj with q|rfl
  ·rw[T.tr _ _ _ (sa.at (bq _) (show ia+i<ia+j by show fc (.l .L .S) .a .aQ q) (by show fy .J .b .W .O hj (aa (av .A .a .B U)))) hb];rfl
  ·rw[hb];rfl
 ·apply h k (by show fy .F .b .c2 .O ai (aa (av .A .a .B U))) ?_ λx hx=>?_
  ·have m':=m;rw[tQ as ia k]at m';apply m'.left λz hz=>?_;have#[j,hj,ag,rfl]:=xC hz;have:=h1 j hj;rw[ap (by show fb .B .b .H .I ai hj)]at this;have sy:=m.sy;rw[cg ao]at sy ⊢;show sy.le T (by simpa using this)
  ·have#[j,hj,ag,rfl]:=t5 hx;have:=h2 j hj (by show fy .B .d (.l .a7 .D) .b8 ag (aa (av .A .a .B U)));rw[ap (by show fy .B .d (.l .a7 .D) .b8 ag (aa (av .A .a .B U)))]at this;show T.asym _ _ (by simpa using this)
def A2 (O:Ora (model prog w) A s kd n it lt)(T:LtT lt){as bs os:List Nat}{ia ib:Nat}{Q:Option Nat->SortSt->Prop}{st:SortSt}(hk:kindOf st=kd)(hn:∀x∈as++bs,x<n)(sb:Srt lt bs)
  (m:Mrg lt (as++bs) os (as.drop ia) (bs.drop ib)) (ao:ia<as.length) (U:ib<bs.length)
  (h:∀k,ib+k<=bs.length->Mrg lt (as++bs) (os++(bs.take (ib+k)).drop ib) (as.drop ia) (bs.drop (ib+k))->Le lt as[ia] (bs.drop (ib+k))->Q (some k) st) :
  PyProof.Rows.wpS (model prog w) A E s (te true (it as[ia]) (KA it bs) ib (bs.length-ib) 0) Q st:=by
 have ap:∀{i},(hi:i<bs.length-ib)->bs.getD (ib+i) 0=bs[ib+i]'(by show fy .J .b .W .O hi (aa (av .A .a .B U))):=λ{i} hi=>by simp[List.getD,aq (show ib+i<bs.length by show fy .J .b .W .O hi (aa (av .A .a .B U)))]
 apply uu O (p:=λi=>bs.getD (ib+i) 0) (hn _ (dg _ (du _))) (by show fb .C .d .aQ .T U (aa (av .A .a .B U))) (λi hi=>?_) (λi=>lt (bs.getD (ib+i) 0) as[ia]) (λi hi=>rfl) (λi j aj hj hb=>?_) hk λk ai h1 h2=>?_
 ·rw[ap hi];apply#[hn _ (dt _ (du _)),rh (by show fy .J .b .W .O hi (aa (av .A .a .B U)))]
 ·skip
  rw[ap hj]at hb;rw[ap (by show fb .B .b .L .Q aj hj)];rcases jj aj with q|rfl
  ·cases e:lt (bs[ib+i]'(by show ll .J .e (.l .D .F) .W (.e .aR .C) hj q (aa (av .A .a .B U)))) as[ia] with
   |true=>rfl
   |false =>
    have:=T.tr _ _ _ e (sb.at (bq _) (show ib+i<ib+j by show fc (.l .L .S) .a .aQ q) (by show fy .J .b .W .O hj (aa (av .A .a .B U))));rw[hb]at this;cases this
  ·show hb
 ·apply h k (by show fy .F .b .c2 .O ai (aa (av .A .a .B U))) ?_ λx hx=>?_
  ·have m':=m;rw[tQ bs ib k]at m';apply m'.right λz hz=>?_;have#[j,hj,ag,rfl]:=xC hz;have:=h1 j hj;rw[ap (by show fb .B .b .H .I ai hj)]at this;have sx:=m.sx;rw[cg ao]at sx ⊢;show sx.le T (T.asym _ _ this)
  ·have#[j,hj,ag,rfl]:=t5 hx;have:=h2 j hj (by show fy .B .d (.l .a7 .D) .b8 ag (aa (av .A .a .B U)));rw[ap (by show fy .B .d (.l .a7 .D) .b8 ag (aa (av .A .a .B U)))]at this;show this
end
variable {st:SortSt}{as bs os:List Nat}{ia ib:Nat}
abbrev JG:Nat->StateT SortSt Sem Unit:=sortPriv% PySem.Builtin.setMinGallop
section
variable {prog:Program}{w:World}{A:Around}{E:QqV}{s:Shared}{kd:SortKind}{n:Nat}{it:Nat->Keyed}{lt:Nat->Nat->Bool}
def et {α:Type}{c:Prop}[Decidable c]{a b:StateT SortSt Sem α}{Q:α->SortSt->Prop}(h:c)(k:PyProof.Rows.wpS (model prog w) A E s a Q st):PyProof.Rows.wpS (model prog w) A E s (if c then a else b) Q st:=by rw[cp h];show k
def ek {α:Type}{c:Prop}[Decidable c]{a b:StateT SortSt Sem α}{Q:α->SortSt->Prop}(h:¬c)(k:PyProof.Rows.wpS (model prog w) A E s b Q st):PyProof.Rows.wpS (model prog w) A E s (if c then a else b) Q st:=by rw[bb h];show k
def rU {g:Nat}{Q:Unit->SortSt->Prop}(h:∀W,Gst st W->Q () W):PyProof.Rows.wpS (model prog w) A E s (JG g) Q st:=gN (h _ #[g,rfl])
abbrev oe (it:Nat->Keyed)(lt:Nat->Nat->Bool)(as bs:List Nat)(r:Array Keyed):Prop:=∃os,r=KA it os/\os.Perm (as++bs)/\Srt lt os
def oe.l (m:Mrg lt (as++bs) os (as.drop ia) (bs.drop ib))(e:ib=bs.length) :
  oe it lt as bs (KA it os++(KA it as).extract ia as.length++(KA it bs).extract ib bs.length):=by
 subst e;apply#[os++as.drop ia,?_,?_]
 ·rw[pz,pz,fx,fx,rt,rt,qt,dk]
 ·rw[qt]at m;show m.KP
def oe.r (m:Mrg lt (as++bs) os (as.drop ia) (bs.drop ib))(e:ia+1=as.length)(last:∀(h:ia<as.length),∀y∈bs,lt as[ia] y=false) :
  oe it lt as bs (KA it os++(KA it bs).extract ib bs.length++(KA it as).extract ia as.length):=by
 apply#[os++bs.drop ib++as.drop ia,?_,m.HA λy U x W=>?_]
 ·rw[pz,pz,fx,fx,rt,rt]
 ·have h:ia<as.length:=by(show av .B .a .aI e)
  rw[cg h,List.drop_of_length_le (by show av .R .y .bG e)]at W;have rfl:=ak.mp W;show last h y (pg U)
def oe.d (m:Mrg lt (as++bs) os (as.drop ia) (bs.drop ib))(e:ia=as.length) :
  oe it lt as bs (KA it os++(KA it as).extract ia as.length++(KA it bs).extract ib bs.length):=by
 subst e;rw[qt]at m;apply#[os++bs.drop ib,?_,?_]
 ·rw[pz,pz,fx,fx,rt,rt,qt,dk]
 ·have:=m.HA λy _ x W=>nomatch W;rw[dk]at this;show this
def rW (O:Ora (model prog w) A s kd n it lt)(T:LtT lt){Q:Array Keyed->SortSt->Prop}(hk:kindOf st=kd)(hn:∀x∈as++bs,x<n)
  (sa:Srt lt as) (sb:Srt lt bs) (la:0<as.length) (lb:0<bs.length) (first:lt bs[0] as[0]=true) (last:∀i (h:i<as.length),i+1=as.length->∀y∈bs,lt as[i] y=false)
  (h:∀r W,Gst st W->oe it lt as bs r->Q r W) :
  PyProof.Rows.wpS (model prog w) A E s (t2 (KA it as) (KA it bs)) Q st:=by
 unfold t2;apply cf (wpS_lift (rf #[rfl,?_]));apply cf (jl (rh lb) ?_);have m0:Mrg lt (as++bs) [bs[0]] (as.drop 0) (bs.drop 1):=by
  have e:bs=[bs[0]]++bs.drop 1:=by simpa using cg (l:=bs) (i:=0) lb
  have base:Mrg lt (as++bs) [] as ([bs[0]]++bs.drop 1):=by
   rw[<- e];show {perm:=by simp,so:=.nil,sx:=sa,sy:=sb,ax:=λo ho=>(nomatch ho),ay:=λo ho=>(nomatch ho)}
  apply base.right λz hz=>?_;have rfl:=ak.mp hz;have ch:=sa;rw[<- qq (l:=as),cg la]at ch ⊢;show ch.le T (T.asym _ _ first)
 have cj:(#v[it bs[0]]:Array Keyed)=KA it [bs[0]]:=rfl;rw[cj];dsimp -zeta only;rw[cU,cU]
 extract_lets total done lastOfA out ia0 ib0
 by_cases c1:(1==bs.length)=true
 ·rw[cp c1];show cv (h _ _ (.refl _) (oe.l m0 (dh.mp c1)))
 rw[bb c1];by_cases c2:(0+1==as.length)=true
 ·rw[cp c2];show cv (h _ _ (.refl _) (oe.r m0 (dh.mp c2) λhi=>last _ hi (dh.mp c2)))
 rw[bb c2];apply cf (rQ ?_);have ai:1≠bs.length:=λq=>c1 (dh.mpr q);have ao:0+1≠as.length:=λq=>c2 (dh.mpr q);have i0:MI lt as bs [bs[0]] 0 1:=#[m0,by show(ae ai).elim (λq1=>((ae ao).elim (λq2=>(fh (.l .a5 .A) .a (.l .a5 .A) q2)) λq2=>(nZ (.l .a5 .A) .c .C (.l .A .a5) la q2))) λq1=>(gj (.l .a5 .A) .c .U .c8 lb q1),by show(ae ai).elim (λq1=>(fh .a3 .a .a3 q1)) λq1=>(nZ .a3 .c .C .cF lb q1)];generalize gallopOf st=g0;apply cf (lh (kc (I:=λx c W=>Gst st W/\∃os ia ib g,c=(none,KA it os,ia,ib,g)/\MI lt as bs os ia ib/\x<ia+ib)
  (Q:=λc W=>Gst st W/\∃r,c.1=some r/\oe it lt as bs r) ?_ ?_ #[.refl _,_,_,_,_,rfl,i0,by omega]) ?_)
 ·intro x c br _ hx zz;have#[g1,os,ia,ib,g,rfl,I,bp]:=zz;apply cf (lh (kc (I:=λ_ c W=>W=br/\∃os ja jb ac bc,c=(none,KA it os,ja,jb,ac,bc)/\MI lt as bs os ja jb/\ia+ib<=ja+jb)
   (Q:=λc W=>W=br/\((∃r t,c=(some r,t)/\oe it lt as bs r)\/∃os ja jb ac bc,c=(none,KA it os,ja,jb,ac,bc)/\MI lt as bs os ja jb/\ia+ib<=ja+jb)) ?_ ?_ #[rfl,_,_,_,_,_,rfl,I,au _]) ?_)
  ·intro y c cd _ hy zz;have#[rfl,os,ja,jb,ac,bc,rfl,I,be]:=zz;have da:=ir I.la;have na:as[ja]<n:=hn _ (dg _ (du _));have nb:bs[jb]'I.lb<n:=hn _ (dt _ (du _));apply cf (jl (rh I.lb) ?_);apply cf (jl (rh da) ?_);apply cf (gO O (g1.kind.trans hk) nb na ?_);cases hc:lt (bs[jb]'I.lb) as[ja] with
   |true =>
    apply cf (jl (rh I.lb) ?_);have m:=I.AI T hc;rw[ym];dsimp only;by_cases e:(jb+1==bs.length)=true
    ·rw[cp e];show cv #[rfl,.inl #[_,_,rfl,oe.l m (dh.mp e)]]
    ·rw[bb e];have I2:MI lt as bs (os++[bs[jb]'I.lb]) ja (jb+1):=#[m,I.la,by have:=I.lb;have:jb+1≠bs.length:=λq=>e (dh.mpr q);(rename_i z1;show(ae ai).elim (λq1=>((ae ao).elim (λq2=>((ae this).elim (λq3=>(av .Z .a .Z q3)) λq3=>(gj .Z .c .B (.l .B .M) z1 q3))) λq2=>(fb .Z .c .X (.l .C .a5) la q2))) λq1=>(gj .Z .c .U .c8 lb q1))];split
     ·show cv #[rfl,.inr #[_,_,_,_,_,rfl,I2,by show kA (.k .L .aT) .a .bT be]]
     ·show cv #[rfl,_,_,_,_,_,rfl,I2,by show kA (.k .L .aT) .a .bT be]
   |false =>
    apply cf (jl (rh da) ?_);have m:=I.AJ T hc;rw[ym];dsimp only;by_cases e:(ja+1+1==as.length)=true
    ·rw[cp e];show cv #[rfl,.inl #[_,_,rfl,oe.r m (dh.mp e) λhi=>last _ hi (dh.mp e)]]
    ·rw[bb e];have I2:MI lt as bs (os++[as[ja]]) (ja+1) jb:=#[m,by have:=I.la;have:ja+1+1≠as.length:=λq=>e (dh.mpr q);(rename_i z1;show(ae ai).elim (λq1=>((ae ao).elim (λq2=>((ae this).elim (λq3=>(av .aD .a .aD q3)) λq3=>(gj .aD .c .Z (.l .B (.a .M .U)) z1 q3))) λq2=>(gj .aD .c .Z (.l .B .a5) z1 q2))) λq1=>(fb .aD .c .X (.l .C .U) lb q1)),I.lb];split
     ·show cv #[rfl,.inr #[_,_,_,_,_,rfl,I2,by show kA (.k .L (.a .T .D)) .a .bT be]]
     ·show cv #[rfl,_,_,_,_,_,rfl,I2,by show kA (.k .L (.a .T .D)) .a .bT be]
  ·intro c cd zz;have#[rfl,h2]:=zz;apply#[rfl,.inr h2]
  ·intro c cd zz;have#[rfl,h2]:=zz;rcases h2 with ⟨r,t,rfl,hr⟩|⟨dL,ja,jb,ac,bc,rfl,I2,be⟩
   ·show cv #[g1,r,rfl,hr]
   ·apply cf (wpS_lift (rf #[rfl,?_]));apply cf (lh (kc (I:=λx c W=>Gst st W/\∃os ja jb g ac bc,c=(none,KA it os,ja,jb,g,ac,bc)/\MI lt as bs os ja jb/\ia+ib+x<=ja+jb)
     (Q:=λc W=>Gst st W/\((∃r t,c=(some r,t)/\oe it lt as bs r)\/∃os ja jb g ac bc,c=(none,KA it os,ja,jb,g,ac,bc)/\MI lt as bs os ja jb/\ia+ib<ja+jb)) ?_ ?_ #[g1,_,_,_,_,_,_,rfl,I2,be]) ?_)
    ·intro y c cc _ hy zz;have#[g3,bt,pa,pb,mg,ac,bc,rfl,I3,hp]:=zz
     extract_lets s1 o1 s2 a1 s3 b1 s4 m1 s5 ac1 bc1 ib1 jp m2
     have key:∀g' (R:_->SortSt->Prop),(∀r t W,Gst st W->oe it lt as bs r->R (.done (some r,t)) W)->(∀os ja jb g ac bc W,Gst st W->MI lt as bs os ja jb->pa+pb<ja+jb->R (.done (none,KA it os,ja,jb,g,ac,bc)) W) ->
       (∀os ja jb g ac bc W,Gst st W->MI lt as bs os ja jb->pa+pb<ja+jb->R (.yield (none,KA it os,ja,jb,g,ac,bc)) W)->PyProof.Rows.wpS (model prog w) A E s (jp () g') R cc:=λg' R rE rD rY=>by
      apply cf (rU λbd q4=>?_);have g4:=g3.trans q4;have cx:=g4.kind.trans hk;have dn:=ir I3.la;apply cf (jl (rh I3.lb) ?_);have G:PyProof.Rows.wpS (model prog w) A E s (te false (it (bs[pb]'I3.lb)) (KA it as) pa (as.length-pa) 0) (λr W=>W=bd/\∃k,r=some k/\pa+k<=as.length/\Mrg lt (as++bs) (bt++(as.take (pa+k)).drop pa) (as.drop (pa+k)) (bs.drop pb)/\Le lt (bs[pb]'I3.lb) (as.drop (pa+k))) bd:=
       A3 O T cx hn sa I3.m dn I3.lb λk h1 h2 h3=>#[rfl,k,rfl,h1,h2,h3]
      apply cf (lh G ?_);intro _ dc zz;have#[e5,k,rfl,dv,mA,cl]:=zz;rw[e5];dsimp -zeta only
      extract_lets acount jp2 o2 a2
      have cb:∀bl ag,Mrg lt (as++bs) bl (as.drop ag) (bs.drop pb)->ag+1<as.length->Le lt (bs[pb]'I3.lb) (as.drop ag)->pa<=ag->PyProof.Rows.wpS (model prog w) A E s (jp2 () (KA it bl) ag) R bd:=λbl ag m' bn dm dy=>by
       apply cf (jl (rh I3.lb) ?_);rw[ym];have e:bs.drop pb=[bs[pb]'I3.lb]++bs.drop (pb+1):=cg I3.lb;have m2:=m';rw[e]at m2;have mB:=m2.right λz hz=>by have rfl:=ak.mp hz;show dm
       by_cases q1:(pb+1==bs.length)=true
       ·show et q1 (cv (rE _ _ _ g4 (oe.l mB (dh.mp q1))))
       ·apply ek q1 ?_;have bu:pb+1<bs.length:=by have:=I3.lb;have:pb+1≠bs.length:=λq=>q1 (dh.mpr q);(rename_i z1;show(ae ai).elim (λq1=>((ae ao).elim (λq2=>((ae this).elim (λq3=>(av .Z .a .Z q3)) λq3=>(gj .Z .c .B (.l .B .M) z1 q3))) λq2=>(fy .Z .c (.l .T .D) (.l .D .a5) bn q2))) λq1=>(gj .Z .c .U .c8 lb q1))
        have bv:=ir bn;apply cf (jl (rh bv) ?_);have G:PyProof.Rows.wpS (model prog w) A E s (te true (it as[ag]) (KA it bs) (pb+1) (bs.length-(pb+1)) 0) (λr W=>W=bd/\∃k,r=some k/\pb+1+k<=bs.length/\Mrg lt (as++bs) ((bl++[bs[pb]'I3.lb])++(bs.take (pb+1+k)).drop (pb+1)) (as.drop ag) (bs.drop (pb+1+k))/\Le lt as[ag] (bs.drop (pb+1+k))) bd:=
         A2 O T cx hn sb mB bv bu λk h1 h2 h3=>#[rfl,k,rfl,h1,h2,h3]
        apply cf (lh G ?_);intro _ dc zz;have#[e5,k2,rfl,dr,mC,ck]:=zz;rw[e5];dsimp -zeta only
        extract_lets bcount ib3 jp3 o3 b3
        have ca:∀ar aj,Mrg lt (as++bs) ar (as.drop ag) (bs.drop aj)->aj<bs.length->Le lt as[ag] (bs.drop aj)->pb<=aj->PyProof.Rows.wpS (model prog w) A E s (jp3 () (KA it ar) aj) R bd:=λar aj mD ct df dx=>by
         apply cf (jl (rh bv) ?_);rw[ym];have e:as.drop ag=[as[ag]]++as.drop (ag+1):=cg bv;rw[e]at mD;have mE:=mD.left λz hz=>by have rfl:=ak.mp hz;show df
         by_cases q2:(ag+1+1==as.length)=true
         ·show et q2 (cv (rE _ _ _ g4 (oe.r mE (dh.mp q2) λhi=>last _ hi (dh.mp q2))))
         ·apply ek q2 ?_;have I4:MI lt as bs (ar++[as[ag]]) (ag+1) aj:=#[mE,by have:ag+1+1≠as.length:=λq=>q2 (dh.mpr q);(show(ae ai).elim (λq1=>((ae ao).elim (λq2=>((ae this).elim (λq3=>(av .aD .a .aD q3)) λq3=>(gj .aD .c .Z (.l .B (.a .M .U)) bn q3))) λq2=>(gj .aD .c .Z (.l .B .a5) bn q2))) λq1=>(fy .aD .c (.l .T .D) (.l .D .U) bu q1)),ct];by_cases q3:(decide (acount<7)&&decide (bcount<7))=true
          ·show et q3 (cv (rD _ _ _ _ _ _ _ g4 I4 (by omega)))
          ·show ek q3 (cv (rY _ _ _ _ _ _ _ g4 I4 (by omega)))
        by_cases q4:k2>0
        ·apply et q4 ?_;have eo:o3=KA it (bl++[bs[pb]'I3.lb]++(bs.take (pb+1+k2)).drop (pb+1)):=by
          show KA it _++(KA it bs).extract (pb+1) (pb+1+k2)=_;rw[pz,rt]
         rw[eo];by_cases q5:(pb+1+k2==bs.length)=true
         ·show et q5 (cv (rE _ _ _ g4 (oe.l mC (dh.mp q5))))
         ·apply ek q5 (ca _ (pb+1+k2) mC (by have:pb+1+k2≠bs.length:=λq=>q5 (dh.mpr q);(show(ae ai).elim (λq1=>((ae ao).elim (λq2=>((ae this).elim (λq3=>(fc (.l .a2 .C) .a (.l .a2 .C) q3)) λq3=>(fb (.l .a2 .C) .c .bF (.l .C .a2) dr q3))) λq2=>(oz (.l .a2 .C) .c (.l .a0 .F) (.l .F .a5) bn q2))) λq1=>(fb (.l .a2 .C) .c (.l .M .C) (.l .C .U) bu q1))) ck (by show my (.k .A .a2) .h))
        ·apply ek q4 ?_;obtain rfl:k2=0:=by(show fh .N .t (.g .O .A) q4)
         show ca _ (pb+1) mB bu ck (by show nu (.k .A .M) .h)
      by_cases q4:k>0
      ·apply et q4 ?_;have eo:o2=KA it (bt++(as.take (pa+k)).drop pa):=by
        show KA it _++(KA it as).extract pa (pa+k)=_;rw[pz,rt]
       rw[eo];by_cases q5:(pa+k+1==as.length)=true
       ·show et q5 (cv (rE _ _ _ g4 (oe.r mA (dh.mp q5) λhi=>last _ hi (dh.mp q5))))
       ·apply ek q5 ?_;by_cases q6:(pa+k==as.length)=true
        ·show et q6 (cv (rE _ _ _ g4 (oe.d mA (dh.mp q6))))
        ·show ek q6 (cb _ (pa+k) mA (by have:pa+k+1≠as.length:=λq=>q5 (dh.mpr q);have:pa+k≠as.length:=λq=>q6 (dh.mpr q);(rename_i z1;show(ae ai).elim (λq1=>((ae ao).elim (λq2=>((ae z1).elim (λq3=>(fc (.l .aH .C) .a (.l .aH .C) q3)) λq3=>((ae this).elim (λq4=>(fb (.l .aH .C) .c (.l .C .aH) .J q3 q4)) λq4=>(fb (.l .aH .C) .c .F (.l .C .L) dv q4)))) λq2=>(fb (.l .aH .C) .c .X (.l .C .a5) la q2))) λq1=>(fy (.l .aH .C) .c (.l .O .D) (.l .D .U) lb q1))) cl (by show my .bQ .h))
      ·apply ek q4 ?_;obtain rfl:k=0:=by(show fh .N .t (.g .O .A) q4)
       show cb _ pa I3.m I3.la cl (au _)
     split
     ·apply key _ _ ?_ ?_ ?_
      ·intro r t W g hr;apply#[g,.inl #[r,t,rfl,hr]]
      ·intro os ja jb g ac bc W q I hl;apply#[q,.inr #[_,_,_,_,_,_,rfl,I,by show rJ (.l .L .R) .b (.k (.a .L .F) .aB) (.l .aB .R) hp hl]]
      ·intro os ja jb g ac bc W q I hl;apply#[q,_,_,_,_,_,_,rfl,I,by show rJ (.k (.a .L .T) .X) .b (.k (.a .L .C) .aB) (.l .aB .X) hp hl]
     ·apply key _ _ ?_ ?_ ?_
      ·intro r t W g hr;apply#[g,.inl #[r,t,rfl,hr]]
      ·intro os ja jb g ac bc W q I hl;apply#[q,.inr #[_,_,_,_,_,_,rfl,I,by show rJ (.l .L .R) .b (.k (.a .L .F) .aB) (.l .aB .R) hp hl]]
      ·intro os ja jb g ac bc W q I hl;apply#[q,_,_,_,_,_,_,rfl,I,by show rJ (.k (.a .L .T) .X) .b (.k (.a .L .C) .aB) (.l .aB .X) hp hl]
    ·intro c cc zz;have#[g3,bt,pa,pb,mg,ac,bc,rfl,I3,hp]:=zz;have:=I3.la;have:=I3.lb;simp at hp
     (rename_i z1;show#[(False.elim (zm .ff .j .Z .V (.k (.a .a9 .aJ) .S) z1 this hp)),(.inl (False.elim (zm .ff .j .Z .V (.k (.a .a9 .aJ) .S) z1 this hp)))])
    ·intro c cc zz;have#[g3,h3]:=zz;rcases h3 with ⟨r,t,rfl,hr⟩|⟨bt,pa,pb,mg,ac,bc,rfl,I3,hp⟩
     ·show cv #[g3,r,rfl,hr]
     ·apply cf (gN ?_);show cv #[g3.trans #[_,rfl],_,_,_,_,rfl,I3,by show x+1<pa+pb;(show oz (.l .M .Q) .b (.l .A .X) (.l .X .Q) bp hp)]
 ·intro c br zz;have#[g1,os,ia,ib,g,rfl,I,bp]:=zz;have:=I.la;have:=I.lb;simp at bp
  (rename_i z1;show#[(False.elim (mr .ff .j .Z .V (.l .aJ .S) z1 this bp)),(False.elim (mr .ff .j .Z .V (.l .aJ .S) z1 this bp))])
 ·rintro ⟨r0,c⟩ br ⟨g1,r,e,hr⟩;obtain rfl:r0=some r:=e;show cv (h _ _ g1 hr)
end
variable {xs as bs os:List Nat}{k na nb:Nat}
abbrev Rl (lt:Nat->Nat->Bool)(x y:Nat):Bool:=lt y x
section
variable {prog:Program}{w:World}{A:Around}{E:QqV}{s:Shared}{kd:SortKind}{n:Nat}{it:Nat->Keyed}{lt:Nat->Nat->Bool}
def LtT.rl (T:LtT lt):LtT (Rl lt):=#[λa b h=>T.asym b a h,λa b c h k=>T.tr c b a k h]
def Srt.rl (h:Srt (Rl lt) xs):Srt lt xs.reverse:=List.pairwise_reverse.mpr h
def Srt.J7 (h:Srt lt xs):Srt (Rl lt) xs.reverse:=List.pairwise_reverse.mpr h
def nC (xs:List Nat):(KA it xs).reverse=KA it xs.reverse:=by simp[KA]
def wW (xs:List Nat){i:Nat}(h:i<=k):(xs.take k).reverse=((xs.take k).drop i).reverse++(xs.take i).reverse:=by
 rw[<- List.reverse_append]
 congr 1
 have:=dz i (xs.take k);rw[List.take_take,cY h]at this;show this.symm
def zw (h0:0<k)(h:k<=xs.length):(xs.take k).reverse=[xs[k-1]'(by show fb .B .b .H .a8 h (aa (fh .G .a .C h0)))]++(xs.take (k-1)).reverse:=by
 have e:xs.take k=xs.take (k-1)++[xs[k-1]'(by show fb .B .b .H .a8 h (aa (fh .G .a .C h0)))]:=by
  have:=ee (l:=xs) (i:=k-1) (by show fb .B .b .H .a8 h (aa (fh .G .a .C h0)));rw[<- this,aa h0]
 rw[e,List.reverse_append];rfl
structure MJ (lt:Nat->Nat->Bool)(as bs os:List Nat)(na nb:Nat):Prop where
 m:Mrg (Rl lt) (as++bs) os (bs.take nb).reverse (as.take na).reverse
 ha:0<na
 hal:na<=as.length
 hb:1<nb
 hbl:nb<=bs.length
def MJ.a0 (h:MJ lt as bs os na nb):na-1<as.length:=by have:=h.ha;have:=h.hal;(rename_i W;show fb .B .b .H .a8 this (aa (fh .G .a .C W)))
def MJ.b0 (h:MJ lt as bs os na nb):nb-1<bs.length:=by have:=h.hb;have:=h.hbl;(rename_i W;show fb .B .b .H .a8 this (aa (fh .G .a .a3 W)))
def Mrg.tkA (m:Mrg (Rl lt) (as++bs) os (bs.take nb).reverse (as.take na).reverse)(h0:0<na)(h:na<=as.length)(le:Le (Rl lt) (as[na-1]'(by show fb .B .b .H .a8 h (aa (fh .G .a .C h0)))) (bs.take nb).reverse) :
  Mrg (Rl lt) (as++bs) (os++[as[na-1]'(by show fb .B .b .H .a8 h (aa (fh .G .a .C h0)))]) (bs.take nb).reverse (as.take (na-1)).reverse:=by
 rw[zw h0 h]at m;show m.right λz hz=>by have rfl:=ak.mp hz;show le
def Mrg.tkB (m:Mrg (Rl lt) (as++bs) os (bs.take nb).reverse (as.take na).reverse)(h0:0<nb)(h:nb<=bs.length)(le:Le (Rl lt) (bs[nb-1]'(by show fb .B .b .H .a8 h (aa (fh .G .a .C h0)))) (as.take na).reverse) :
  Mrg (Rl lt) (as++bs) (os++[bs[nb-1]'(by show fb .B .b .H .a8 h (aa (fh .G .a .C h0)))]) (bs.take (nb-1)).reverse (as.take na).reverse:=by
 rw[zw h0 h]at m;show m.left λz hz=>by have rfl:=ak.mp hz;show le
def MJ.AJ (T:LtT lt)(h:MJ lt as bs os na nb)(c:lt (bs[nb-1]'h.b0) (as[na-1]'h.a0)=true) :
  Mrg (Rl lt) (as++bs) (os++[as[na-1]'h.a0]) (bs.take nb).reverse (as.take (na-1)).reverse:=by
 apply h.m.tkA h.ha h.hal ?_;have sx:=h.m.sx;rw[zw (ir h.hb) h.hbl]at sx ⊢;show sx.le T.rl (T.asym _ _ c)
def MJ.AI (T:LtT lt)(h:MJ lt as bs os na nb)(c:lt (bs[nb-1]'h.b0) (as[na-1]'h.a0)=false) :
  Mrg (Rl lt) (as++bs) (os++[bs[nb-1]'h.b0]) (bs.take (nb-1)).reverse (as.take na).reverse:=by
 apply h.m.tkB (ir h.hb) h.hbl ?_;have sy:=h.m.sy;rw[zw h.ha h.hal]at sy ⊢;show sy.le T.rl c
def uZ {x:Nat}(h:x∈(xs.take k).reverse):∃j,j<k/\∃W:j<xs.length,x=xs[j]:=by
 have#[j,W,rfl]:=fm.mp (nv.mp h);rw[eh]at W;apply#[j,by show fb .B .b .I .H W (Ar.iz _ _).1,by show fb .B .b .I .H W (Ar.iz _ _).2.1,by simp]
def xB {i x:Nat}(h:x∈((xs.take k).drop i).reverse):∃j,i<=j/\j<k/\∃O:j<xs.length,x=xs[j]:=by
 have#[j,O,rfl]:=fm.mp (nv.mp h);rw[gh,eh]at O;apply#[i+j,by show my .bQ .h,by show Ar.sub _ _ (λI U=>(ll .J .e .W .aZ (.e (.a .D .A) .F) O (Ar.iz _ _).1 U)) λI U=>(fy .J .c .W .bP O U),by show Ar.sub _ _ (λI U=>(ll .J .e .W .aZ (.e (.a .D .A) .F) O (Ar.iz _ _).2.1 U)) λI U=>(fy .J .c .W .bP O U),by simp]
def yC (O:Ora (model prog w) A s kd n it lt)(T:LtT lt){Q:Option Nat->SortSt->Prop}{st:SortSt}(hk:kindOf st=kd)(hn:∀x∈as++bs,x<n)(sa:Srt lt as)
  (m:Mrg (Rl lt) (as++bs) os (bs.take nb).reverse (as.take na).reverse) (ha:0<na) (W:na<=as.length) (hb:0<nb) (J:nb<=bs.length)
  (h:∀k,k<=na->Mrg (Rl lt) (as++bs) (os++((as.take na).drop k).reverse) (bs.take nb).reverse (as.take k).reverse->Le (Rl lt) (bs[nb-1]'(by show fb .B .b .H .a8 J (aa (fh .G .a .C hb)))) (as.take k).reverse->Q (some k) st) :
  PyProof.Rows.wpS (model prog w) A E s (te false (it (bs[nb-1]'(by show fb .B .b .H .a8 J (aa (fh .G .a .C hb))))) (KA it as) 0 na (na-1)) Q st:=by
 have ar:nb-1<bs.length:=by(show fb .B .b .H .a8 J (aa (fh .G .a .C hb)))
 have ap:∀{i},(hi:i<na)->as.getD i 0=as[i]'(by show fb .B .b .H .I W hi):=λ{i} hi=>by simp[List.getD,aq (show i<as.length by show fb .B .b .H .I W hi)]
 apply uu O (p:=λi=>as.getD i 0) (hn _ (dt _ (du _))) (by show av .B .a .aI (aa (fh .G .a .C ha))) (λi hi=>?_) (λi=>!lt bs[nb-1] (as.getD i 0)) (λi hi=>rfl) (λi j aj U hb=>?_) hk λk ag h1 h2=>?_
 ·rw[ap hi];apply#[hn _ (dg _ (du _)),?_];rw[mj];show rh (by show fb .B .b .H .I W hi)
 ·rw[ap U]at hb;rw[ap (by show fb .B .b .L .Q aj U)];have hb:lt bs[nb-1] (as[j]'(by show fb .B .b .H .I W U))=false:=by simpa using hb
  rcases jj aj with q|rfl
  ·rw[T.tr _ _ _ (sa.at (bq _) q (by show fb .B .b .H .I W U)) hb];rfl
  ·rw[hb];rfl
 ·apply h k ag ?_ λx hx=>?_
  ·have m':=m;rw[wW as ag]at m';apply m'.right λz hz=>?_;have#[j,U,ai,ao,rfl]:=xB hz;have:=h2 j U ai;rw[ap ai]at this;have sx:=m.sx;rw[zw hb J]at sx ⊢;show sx.le T.rl (T.asym _ _ (by simpa using this))
  ·have#[j,U,ai,rfl]:=uZ hx;have:=h1 j U;rw[ap (by show fb .B .b .H .I ag U)]at this;show lt _ _=false;simpa using this
def yB (O:Ora (model prog w) A s kd n it lt)(T:LtT lt){Q:Option Nat->SortSt->Prop}{st:SortSt}(hk:kindOf st=kd)(hn:∀x∈as++bs,x<n)(sb:Srt lt bs)
  (m:Mrg (Rl lt) (as++bs) os (bs.take nb).reverse (as.take na).reverse) (ha:0<na) (J:na<=as.length) (hb:0<nb) (W:nb<=bs.length)
  (h:∀k,k<=nb->Mrg (Rl lt) (as++bs) (os++((bs.take nb).drop k).reverse) (bs.take k).reverse (as.take na).reverse->Le (Rl lt) (as[na-1]'(by show fb .B .b .H .a8 J (aa (fh .G .a .C ha)))) (bs.take k).reverse->Q (some k) st) :
  PyProof.Rows.wpS (model prog w) A E s (te true (it (as[na-1]'(by show fb .B .b .H .a8 J (aa (fh .G .a .C ha))))) (KA it bs) 0 nb (nb-1)) Q st:=by
 have ar:na-1<as.length:=by(show fb .B .b .H .a8 J (aa (fh .G .a .C ha)))
 have ap:∀{i},(hi:i<nb)->bs.getD i 0=bs[i]'(by show fb .B .b .H .I W hi):=λ{i} hi=>by simp[List.getD,aq (show i<bs.length by show fb .B .b .H .I W hi)]
 apply uu O (p:=λi=>bs.getD i 0) (hn _ (dg _ (du _))) (by show av .B .a .aI (aa (fh .G .a .C hb))) (λi hi=>?_) (λi=>lt (bs.getD i 0) as[na-1]) (λi hi=>rfl) (λi j aj U hb=>?_) hk λk ag h1 h2=>?_
 ·rw[ap hi];apply#[hn _ (dt _ (du _)),?_];rw[mj];show rh (by show fb .B .b .H .I W hi)
 ·rw[ap U]at hb;rw[ap (by show fb .B .b .L .Q aj U)];rcases jj aj with q|rfl
  ·cases e:lt (bs[i]'(by show mr .B .e .H .aH .bB W aj U)) as[na-1] with
   |true=>rfl
   |false =>
    have:=T.tr _ _ _ e (sb.at (bq _) q (by show fb .B .b .H .I W U));rw[hb]at this;cases this
  ·show hb
 ·apply h k ag ?_ λx hx=>?_
  ·have m':=m;rw[wW bs ag]at m';apply m'.left λz hz=>?_;have#[j,U,ai,ao,rfl]:=xB hz;have:=h2 j U ai;rw[ap ai]at this;have sy:=m.sy;rw[zw ha J]at sy ⊢;show sy.le T.rl this
  ·have#[j,U,ai,rfl]:=uZ hx;have:=h1 j U;rw[ap (by show fb .B .b .H .I ag U)]at this;show T.asym _ _ this
def oe.hl (m:Mrg (Rl lt) (as++bs) os (bs.take nb).reverse (as.take na).reverse)(e:na=0) :
  oe it lt as bs ((KA it as).extract 0 na++(KA it bs).extract 0 nb++(KA it os).reverse):=by
 subst e;apply#[bs.take nb++os.reverse,?_,?_]
 ·rw[pz,pz,nC,rt,rt];rfl
 ·have:=m.KP;have e:bs.take nb++os.reverse=(os++(bs.take nb).reverse).reverse:=by simp
  rw[e];apply#[(lg _).trans this.1,this.2.rl]
def oe.hd (m:Mrg (Rl lt) (as++bs) os (bs.take nb).reverse (as.take na).reverse)(e:nb=0) :
  oe it lt as bs ((KA it as).extract 0 na++(KA it bs).extract 0 nb++(KA it os).reverse):=by
 subst e;apply#[as.take na++os.reverse,?_,?_]
 ·rw[pz,pz,nC,rt,rt];simp
 ·have:=m.HA λy _ x W=>nomatch W;have e:as.take na++os.reverse=(os++(as.take na).reverse++(bs.take 0).reverse).reverse:=by simp
  rw[e];apply#[(lg _).trans this.1,this.2.rl]
def oe.hr (m:Mrg (Rl lt) (as++bs) os (bs.take nb).reverse (as.take na).reverse)(e:nb=1)(first:∀(h:0<bs.length),∀y∈as,lt y bs[0]=false) :
  oe it lt as bs ((KA it bs).extract 0 nb++(KA it as).extract 0 na++(KA it os).reverse):=by
 subst e;apply#[bs.take 1++as.take na++os.reverse,?_,?_]
 ·rw[pz,pz,nC,rt,rt];rfl
 ·have:=m.HA λy U x O=>by
   have#[j,J,W,rfl]:=uZ O;obtain rfl:j=0:=by(show fh .N .t .cF J)
   show first W y (jg (nv.mp U))
  have e:bs.take 1++as.take na++os.reverse=(os++(as.take na).reverse++(bs.take 1).reverse).reverse:=by simp
  rw[e];apply#[(lg _).trans this.1,this.2.rl]
end
abbrev t4:Array Keyed->Array Keyed->StateT SortSt Sem (Array Keyed):=sortPriv% PySem.Builtin.mergeHi
section
variable {prog:Program}{w:World}{A:Around}{E:QqV}{s:Shared}{kd:SortKind}{n:Nat}{it:Nat->Keyed}{lt:Nat->Nat->Bool}
def rX (O:Ora (model prog w) A s kd n it lt)(T:LtT lt){as bs:List Nat}{Q:Array Keyed->SortSt->Prop}{st:SortSt}(hk:kindOf st=kd)(hn:∀x∈as++bs,x<n)
  (sa:Srt lt as) (sb:Srt lt bs) (la:0<as.length) (lb:0<bs.length) (first:∀(h:0<bs.length),∀y∈as,lt y bs[0]=false) (last:lt (bs[bs.length-1]'(by show av .B .a .aI (aa (fh .G .a .C lb)))) (as[as.length-1]'(by show av .B .a .aI (aa (fh .G .a .C la))))=true)
  (h:∀r W,Gst st W->oe it lt as bs r->Q r W) :
  PyProof.Rows.wpS (model prog w) A E s (t4 (KA it as) (KA it bs)) Q st:=by
 unfold t4;apply cf (wpS_lift (rf #[rfl,?_]));rw[cU,cU];have cx:as.length-1<as.length:=by(show av .B .a .aI (aa (fh .G .a .C la)))
 apply cf (jl (rh cx) ?_);have m0:Mrg (Rl lt) (as++bs) [as[as.length-1]] (bs.take bs.length).reverse (as.take (as.length-1)).reverse:=by
  have base:Mrg (Rl lt) (as++bs) [] (bs.take bs.length).reverse (as.take as.length).reverse:=by
   rw[fx,fx];show {perm:=List.Perm.trans (List.perm_append_comm (l₁:=[]++bs.reverse)) (List.Perm.append (lg _) (lg _)),so:=.nil,sx:=sb.J7,sy:=sa.J7,ax:=λo ho=>(nomatch ho),ay:=λo ho=>(nomatch ho)}
  apply base.tkA la (au _) ?_;have sx:=base.sx;rw[zw lb (au _)]at sx ⊢;show sx.le T.rl (T.asym _ _ last)
 have dc:(#v[it as[as.length-1]]:Array Keyed)=KA it [as[as.length-1]]:=rfl;rw[dc];by_cases c1:(as.length-1==0)=true
 ·show et c1 (cv (h _ _ (.refl _) (oe.hl m0 (dh.mp c1))))
 apply ek c1 ?_;by_cases c2:(bs.length==1)=true
 ·show et c2 (cv (h _ _ (.refl _) (oe.hr m0 (dh.mp c2) first)))
 apply ek c2 ?_;apply cf (rQ ?_);have aj:as.length-1≠0:=λq=>c1 (dh.mpr q);have ar:bs.length≠1:=λq=>c2 (dh.mpr q);have i0:MJ lt as bs [as[as.length-1]] (as.length-1) bs.length:=#[m0,by show(ae aj).elim (λq1=>(fh .C .i .b9 q1)) λq1=>(fh .C .a .C q1),by show av .A .a .B cx,by show(ae aj).elim (λq1=>(av .a3 .i .cC q1)) λq1=>((ae ar).elim (λq2=>(nZ .a3 .c .C .cF lb q2)) λq2=>(fh .a3 .a .a3 q2)),au _];generalize gallopOf st=g0;apply cf (lh (kc (I:=λx c W=>Gst st W/\∃os ia ib g,c=(none,ia,ib,KA it os,g)/\MJ lt as bs os ia ib/\x+ia+ib<=as.length+bs.length)
  (Q:=λc W=>Gst st W/\∃r,c.1=some r/\oe it lt as bs r) ?_ ?_ #[.refl _,_,_,_,_,rfl,i0,by show fc (.k (.a (.a .O .A) .B) .a8) .a .I cx]) ?_)
 ·intro x c ca _ hx zz;have#[g1,os,ia,ib,g,rfl,I,ao]:=zz;apply cf (lh (kc (I:=λ_ c W=>W=ca/\∃os z J ac bc,c=(none,z,J,KA it os,ac,bc)/\MJ lt as bs os z J/\z+J<=ia+ib)
   (Q:=λc W=>W=ca/\((∃r t,c=(some r,t)/\oe it lt as bs r)\/∃os z J ac bc,c=(none,z,J,KA it os,ac,bc)/\MJ lt as bs os z J/\z+J<=ia+ib)) ?_ ?_ #[rfl,_,_,_,_,_,rfl,I,au _]) ?_)
  ·intro y c da _ hy zz;have#[rfl,os,z,J,ac,bc,rfl,I,bn]:=zz;have na:as[z-1]'I.a0<n:=hn _ (dg _ (du _));have nb:bs[J-1]'I.b0<n:=hn _ (dt _ (du _));apply cf (jl (rh I.b0) ?_);apply cf (jl (rh I.a0) ?_);apply cf (gO O (g1.kind.trans hk) nb na ?_);cases hc:lt (bs[J-1]'I.b0) (as[z-1]'I.a0) with
   |true =>
    apply cf (jl (rh I.a0) ?_);have m:=I.AJ T hc;rw[ym];by_cases e:(z-1==0)=true
    ·show et e (cv #[rfl,.inl #[_,_,rfl,oe.hl m (dh.mp e)]])
    ·apply ek e ?_;have I2:MJ lt as bs (os++[as[z-1]'I.a0]) (z-1) J:=#[m,by have:=I.ha;have:z-1≠0:=λq=>e (dh.mpr q);(rename_i z1;show(ae aj).elim (λq1=>(av .C .i .cC q1)) λq1=>((ae ar).elim (λq2=>(gj .C .c .U .c8 lb q2)) λq2=>((ae this).elim (λq3=>(fh .C .i .b9 q3)) λq3=>(fh .C .a .C q3)))),by have:=I.hal;(show fb .A .b .H .L this (mz _ _)),I.hb,I.hbl];split
     ·show cv #[rfl,.inr #[_,z-1,J,_,_,rfl,I2,by show oz .bT .b (.k .aI .R) (.k .A .F) bn (mz _ _)]]
     ·show cv #[rfl,_,z-1,J,_,_,rfl,I2,by show oz .bT .b (.k .aI .R) (.k .A .F) bn (mz _ _)]
   |false =>
    apply cf (jl (rh I.b0) ?_);have m:=I.AI T hc;rw[ym];by_cases e:(J-1==1)=true
    ·show et e (cv #[rfl,.inl #[_,_,rfl,oe.hr m (dh.mp e) first]])
    ·apply ek e ?_;have I2:MJ lt as bs (os++[bs[J-1]'I.b0]) z (J-1):=#[m,I.ha,I.hal,by have:=I.hb;have:J-1≠1:=λq=>e (dh.mpr q);(rename_i z1;show(ae aj).elim (λq1=>(av .a3 .i .cC q1)) λq1=>((ae ar).elim (λq2=>(gj .a3 .c .U .c8 lb q2)) λq2=>((ae this).elim (λq3=>(MZ .a3 [[0,1,-1,1]] (.l .U .B) .aI .cF z1 (aa (fh .G .a .a3 z1)) q3)) λq3=>(fh .a3 .a .a3 q3)))),by have:=I.hbl;(show fb .A .b .H .L this (mz _ _))];split
     ·show cv #[rfl,.inr #[_,z,J-1,_,_,rfl,I2,by show oz .bT .b (.k .aD .R) (.k .B .F) bn (mz _ _)]]
     ·show cv #[rfl,_,z,J-1,_,_,rfl,I2,by show oz .bT .b (.k .aD .R) (.k .B .F) bn (mz _ _)]
  ·intro c da zz;have#[rfl,h2]:=zz;apply#[rfl,.inr h2]
  ·intro c da zz;have#[rfl,h2]:=zz;rcases h2 with ⟨r,t,rfl,hr⟩|⟨dV,z,J,ac,bc,rfl,I2,bn⟩
   ·show cv #[g1,r,rfl,hr]
   ·apply cf (wpS_lift (rf #[rfl,?_]));apply cf (lh (kc (I:=λx c W=>Gst st W/\∃os z J g ac bc,c=(none,z,J,KA it os,g,ac,bc)/\MJ lt as bs os z J/\x+z+J<=ia+ib)
     (Q:=λc W=>Gst st W/\((∃r t,c=(some r,t)/\oe it lt as bs r)\/∃os z J g ac bc,c=(none,z,J,KA it os,g,ac,bc)/\MJ lt as bs os z J/\z+J<ia+ib)) ?_ ?_ #[g1,_,z,J,_,_,_,rfl,I2,by show kA (.k (.a (.a .O .A) .B) .R) .a .bT bn]) ?_)
    ·intro y c cj _ hy zz;have#[g3,cb,pa,pb,mg,ac,bc,rfl,I3,hp]:=zz
     extract_lets s1 a1 s2 b1 s3 o1 s4 m1 s5 ac1 bc1 nb1 jp m2
     have key:∀g' (R:_->SortSt->Prop),(∀r t W,Gst st W->oe it lt as bs r->R (.done (some r,t)) W)->(∀os z J g ac bc W,Gst st W->MJ lt as bs os z J->z+J<pa+pb->R (.done (none,z,J,KA it os,g,ac,bc)) W) ->
       (∀os z J g ac bc W,Gst st W->MJ lt as bs os z J->z+J<pa+pb->R (.yield (none,z,J,KA it os,g,ac,bc)) W)->PyProof.Rows.wpS (model prog w) A E s (jp () g') R cj:=λg' R rE rD rY=>by
      apply cf (rU λbe q4=>?_);have g4:=g3.trans q4;have dv:=g4.kind.trans hk;apply cf (jl (rh I3.b0) ?_);have bl:=ir I3.hb;have G:PyProof.Rows.wpS (model prog w) A E s (te false (it (bs[pb-1]'I3.b0)) (KA it as) 0 pa (pa-1)) (λr W=>W=be/\∃k,r=some k/\k<=pa/\Mrg (Rl lt) (as++bs) (cb++((as.take pa).drop k).reverse) (bs.take pb).reverse (as.take k).reverse/\Le (Rl lt) (bs[pb-1]'I3.b0) (as.take k).reverse) be:=
       yC O T dv hn sa I3.m I3.ha I3.hal bl I3.hbl λk h1 h2 h3=>#[rfl,k,rfl,h1,h2,h3]
      apply cf (lh G ?_);intro _ dx zz;have#[e5,k,rfl,cl,mA,dm]:=zz;rw[e5];dsimp -zeta only
      extract_lets kk acount jp2 o2 na2
      have cd:∀bp ag,Mrg (Rl lt) (as++bs) bp (bs.take pb).reverse (as.take ag).reverse->0<ag->ag<=pa->Le (Rl lt) (bs[pb-1]'I3.b0) (as.take ag).reverse->PyProof.Rows.wpS (model prog w) A E s (jp2 () ag (KA it bp)) R be:=λbp ag m' br bu dL=>by
       have bv:ag<=as.length:=nr bu I3.hal;apply cf (jl (rh I3.b0) ?_);rw[ym];have mB:=m'.tkB bl I3.hbl dL;by_cases q1:(pb-1==1)=true
       ·show et q1 (cv (rE _ _ _ g4 (oe.hr mB (dh.mp q1) first)))
       ·apply ek q1 ?_;have dr:1<pb-1:=by have:=I3.hb;have:pb-1≠1:=λq=>q1 (dh.mpr q);(rename_i z1;show(ae aj).elim (λq1=>(av .a3 .i .cC q1)) λq1=>((ae ar).elim (λq2=>(gj .a3 .c .U .c8 lb q2)) λq2=>((ae this).elim (λq3=>(MZ .a3 [[0,1,-1,1]] (.l .U .B) .aI .cF z1 (aa (fh .G .a .C bl)) q3)) λq3=>(fh .a3 .a .a3 q3))))
        have ch:pb-1<=bs.length:=by have:=I3.hbl;(show fb .A .b .H .a8 this (aa (fh .G .a .C bl)))
        have ct:ag-1<as.length:=by(show fb .B .b .H .a8 bv (aa (fh .G .a .C br)))
        apply cf (jl (rh ct) ?_);have G:PyProof.Rows.wpS (model prog w) A E s (te true (it as[ag-1]) (KA it bs) 0 (pb-1) (pb-1-1)) (λr W=>W=be/\∃k,r=some k/\k<=pb-1/\Mrg (Rl lt) (as++bs) ((bp++[bs[pb-1]'I3.b0])++((bs.take (pb-1)).drop k).reverse) (bs.take k).reverse (as.take ag).reverse/\Le (Rl lt) as[ag-1] (bs.take k).reverse) be:=
         yB O T dv hn sb mB br bv (ir dr) ch λk h1 h2 h3=>#[rfl,k,rfl,h1,h2,h3]
        apply cf (lh G ?_);intro _ dx zz;have#[e5,k2,rfl,ck,mC,df]:=zz;rw[e5];dsimp -zeta only
        extract_lets kk2 bcount na3 jp3 o3 b3
        have cc:∀bd ai,Mrg (Rl lt) (as++bs) bd (bs.take ai).reverse (as.take ag).reverse->1<ai->ai<=pb-1->Le (Rl lt) as[ag-1] (bs.take ai).reverse->PyProof.Rows.wpS (model prog w) A E s (jp3 () ai (KA it bd)) R be:=λbd ai mD dn bt dy=>by
         apply cf (jl (rh ct) ?_);rw[ym];have mE:=mD.tkA br bv dy;by_cases q2:(ag-1==0)=true
         ·show et q2 (cv (rE _ _ _ g4 (oe.hl mE (dh.mp q2))))
         ·apply ek q2 ?_;have I4:MJ lt as bs (bd++[as[ag-1]]) (ag-1) ai:=#[mE,by have:ag-1≠0:=λq=>q2 (dh.mpr q);(show(ae aj).elim (λq1=>(av .C .i .cC q1)) λq1=>((ae ar).elim (λq2=>(gj .C .c .U .c8 lb q2)) λq2=>((ae this).elim (λq3=>(fh .C .i .b9 q3)) λq3=>(fh .C .a .C q3)))),by show av .A .a .B ct,dn,by show fb .A .b .H .L ch bt];by_cases q3:(decide (acount<7)&&decide (bcount<7))=true
          ·show et q3 (cv (rD _ (ag-1) ai _ _ _ _ g4 I4 (by show xy (.l .L .R) .o .aZ (.k .B .G) (.e .aF .D) (.e .M .F) bu bt (aa (fh .G .a .C bl)) (aa (fh .G .a .C br)))))
          ·show ek q3 (cv (rY _ (ag-1) ai _ _ _ _ g4 I4 (by show xy (.l .L .R) .o .aZ (.k .B .G) (.e .aF .D) (.e .M .F) bu bt (aa (fh .G .a .C bl)) (aa (fh .G .a .C br)))))
        by_cases q4:pb-1-k2>0
        ·apply et q4 ?_;have eo:o3=KA it (bp++[bs[pb-1]'I3.b0]++((bs.take (pb-1)).drop k2).reverse):=by
          show KA it _++((KA it bs).extract k2 (pb-1)).reverse=_;rw[pz,nC,rt]
         rw[eo];by_cases q5:(k2==1)=true
         ·show et q5 (cv (rE _ _ _ g4 (oe.hr mC (dh.mp q5) first)))
         ·apply ek q5 ?_;by_cases q6:(k2==0)=true
          ·show et q6 (cv (rE _ _ _ g4 (oe.hd mC (dh.mp q6))))
          ·show ek q6 (cc _ k2 mC (by have:k2≠1:=λq=>q5 (dh.mpr q);have:k2≠0:=λq=>q6 (dh.mpr q);(rename_i z1;show(ae aj).elim (λq1=>(av .a3 .i .cC q1)) λq1=>((ae ar).elim (λq2=>(gj .a3 .c .U .c8 lb q2)) λq2=>((ae z1).elim (λq3=>((ae this).elim (λq4=>(fh .a3 .i .b9 q4)) λq4=>(nZ .a3 .c .cF .C q3 q4))) λq3=>(fh .a3 .a .a3 q3))))) ck df)
        ·apply ek q4 ?_;obtain rfl:k2=pb-1:=by(show oq .D [[1,0,1,-1],[1,1,0,0]] .A (.g .O .C) .c9 ck q4 (aa (av .A .a .A ck)))
         show cc _ (pb-1) mB dr (au _) df
      by_cases q4:pa-k>0
      ·apply et q4 ?_;have eo:o2=KA it (cb++((as.take pa).drop k).reverse):=by
        show KA it _++((KA it as).extract k pa).reverse=_;rw[pz,nC,rt]
       rw[eo];by_cases q5:(k==0)=true
       ·show et q5 (cv (rE _ _ _ g4 (oe.hl mA (dh.mp q5))))
       ·show ek q5 (cd _ k mA (by have:k≠0:=λq=>q5 (dh.mpr q);(show(ae aj).elim (λq1=>(av .C .i .cC q1)) λq1=>((ae ar).elim (λq2=>(gj .C .c .U .c8 lb q2)) λq2=>((ae this).elim (λq3=>(fh .C .i .b9 q3)) λq3=>(fh .C .a .C q3))))) cl dm)
      ·apply ek q4 ?_;obtain rfl:k=pa:=by(show oq .D [[1,0,1,-1],[1,1,0,0]] .A (.g .O .C) .c9 cl q4 (aa (av .A .a .A cl)))
       show cd _ k I3.m I3.ha (au _) dm
     split
     ·apply key _ _ ?_ ?_ ?_
      ·intro r t W g hr;apply#[g,.inl #[r,t,rfl,hr]]
      ·intro os z J g ac bc W q I hl;apply#[q,.inr #[_,_,_,_,_,_,rfl,I,by show rJ (.l .L .R) .b (.k (.a .a9 .H) .R) (.l .L .aB) hp hl]]
      ·intro os z J g ac bc W q I hl;apply#[q,_,_,_,_,_,_,rfl,I,by show rJ (.k (.a .a2 .C) .X) .b .cL (.l .Q .aB) hp hl]
     ·apply key _ _ ?_ ?_ ?_
      ·intro r t W g hr;apply#[g,.inl #[r,t,rfl,hr]]
      ·intro os z J g ac bc W q I hl;apply#[q,.inr #[_,_,_,_,_,_,rfl,I,by show rJ (.l .L .R) .b (.k (.a .a9 .H) .R) (.l .L .aB) hp hl]]
      ·intro os z J g ac bc W q I hl;apply#[q,_,_,_,_,_,_,rfl,I,by show rJ (.k (.a .a2 .C) .X) .b .cL (.l .Q .aB) hp hl]
    ·intro c cj zz;have#[g3,cb,pa,pb,mg,ac,bc,rfl,I3,hp]:=zz;have:=I3.ha;have:=I3.hb;have:=I.hal;have:=I.hbl;simp at hp
     (rename_i z2 z1;show#[(False.elim (DN .ff .j (.k (.a .L .C) .X) (.l .U .G) (.k (.a (.a .X .H) .G) .Q) ao z2 hp)),(.inl (False.elim (DN .ff .j (.k (.a .L .C) .X) (.l .U .G) (.k (.a (.a .X .H) .G) .Q) ao z2 hp)))])
    ·intro c cj zz;have#[g3,h3]:=zz;rcases h3 with ⟨r,t,rfl,hr⟩|⟨cb,pa,pb,mg,ac,bc,rfl,I3,hp⟩
     ·show cv #[g3,r,rfl,hr]
     ·apply cf (gN ?_);show cv #[g3.trans #[_,rfl],_,_,_,_,rfl,I3,by show x+1+pa+pb<=_;(show rJ (.k (.a .a2 .C) .X) .b .cL (.l .Q .aB) ao hp)]
 ·intro c ca zz;have#[g1,os,ia,ib,g,rfl,I,ao]:=zz;have:=I.ha;have:=I.hb;simp at ao
  (show#[(False.elim (fy .ff .c .a3 (.k (.a (.a .Q .D) .A) .Q) this ao)),(False.elim (fy .ff .c .a3 (.k (.a (.a .Q .D) .A) .Q) this ao))])
 ·rintro ⟨r0,c⟩ ca ⟨g1,r,e,hr⟩;obtain rfl:r0=some r:=e;show cv (h _ _ g1 hr)
end
variable {st:SortSt}{pend:Array (Nat×Nat×Nat)}
abbrev lO:Nat->StateT SortSt Sem Bool:=sortPriv% PySem.Builtin.mergeAt
section
variable {prog:Program}{w:World}{A:Around}{E:QqV}{s:Shared}{kd:SortKind}{n:Nat}{it:Nat->Keyed}{lt:Nat->Nat->Bool}
structure SI (kd:SortKind)(it:Nat->Keyed)(st:SortSt)(os:List Nat)(pend:Array (Nat×Nat×Nat)):Prop where
 k:kindOf st=kd
 a:arrOf st=KA it os
 p:pendingOf st=pend
 f:failedOf st=none
def wg (xs:List Nat)(i:Nat):(KA it xs)[i]?=xs[i]?.map it:=by simp[KA]
def sR (U:Nat):∀(ms:List Keyed) (k:Nat) (pre ys post:List Keyed),pre.length=U+k->ys.length=ms.length ->
  (ms.zipIdx k).foldl (λ(a:Array Keyed) (x:Keyed×Nat)=>match x with|(p,j)=>a.setIfInBounds (U+j) p) (pre++(ys++post)).toArray=(pre++(ms++post)).toArray
 | [],k,pre,ys,post,_,W=>by
  obtain rfl:ys=[]:=rk W;rfl
 |m::ms,k,pre,[],post,_,W=>by cases W
 |m::ms,k,pre,y::ys,post,O,W=>by
  rw[List.zipIdx_cons,List.foldl_cons];have e:(match (m,k) with|(p,j)=>(pre++(y::ys++post)).toArray.setIfInBounds (U+j) p)=((pre++[m])++(ys++post)).toArray:=by
   dsimp only;rw[<- O];simp
  rw[e,sR U ms (k+1) (pre++[m]) ys post (by simp[O];(show my (.e .aH .a4) .n)) (by simpa using W)];simp
def DY {W:SortSt}{Q:PUnit->SortSt->Prop}(h:Q #[] W):PyProof.Rows.wpS (model prog w) A E s (set W:StateT SortSt Sem PUnit) Q st:=by
 unfold PyProof.Rows.wpS;show af #[rfl,h]
def yA {os:List Nat}{U:Array (Nat×Nat×Nat)}{Q:PUnit->SortSt->Prop}(I:SI kd it st os pend)(h:∀W,SI kd it W os U->Q #[] W) :
  PyProof.Rows.wpS (model prog w) A E s (set (SortSt.mk' (kindOf st) (arrOf st) U (gallopOf st) (failedOf st)):StateT SortSt Sem PUnit) Q st:=DY (h _ #[I.k,I.a,rfl,I.f])
def Gst.si {W:SortSt}(g:Gst st W){os:List Nat}(I:SI kd it st os pend):SI kd it W os pend:=by
 have#[g,rfl]:=g;apply#[I.k,I.a,I.p,I.f]
def rZ (O:Ora (model prog w) A s kd n it lt)(T:LtT lt){pre as bs post:List Nat}{i pa pb:Nat}{Q:Bool->SortSt->Prop}(I:SI kd it st (pre++(as++(bs++post))) pend)
  (hn:∀x∈pre++(as++(bs++post)),x<n) (sa:Srt lt as) (sb:Srt lt bs) (la:0<as.length) (lb:0<bs.length)
  (h1:pend[i]?=some (pre.length,as.length,pa)) (h2:pend[i+1]?=some (pre.length+as.length,bs.length,pb))
  (h:∀cs ag,cs.Perm (as++bs)->Srt lt cs->SI kd it ag (pre++(cs++post)) ((pend.setIfInBounds i (pre.length,as.length+bs.length,pa)).eraseIdxIfInBounds (i+1))->Q true ag) :
  PyProof.Rows.wpS (model prog w) A E s (lO i) Q st:=by
 unfold lO;apply cf (rQ ?_);rw[show(sortPriv% PySem.Builtin.SortState.pending) st=pend from I.p,h1,h2];apply cf (yA I λao I1=>?_);rw[show(sortPriv% PySem.Builtin.SortState.a) st=KA it (pre++(as++(bs++post))) from I.a];generalize he:pre++(as++(bs++post))=os at hn I I1 ⊢;have atA:∀{j} (h:j<as.length),(KA it os)[pre.length+j]?=some (it as[j]):=λ{j} hj=>by
  subst he;rw[wg,bh (gv _ _),kq,er hj,aq hj];rfl
 have atB:∀{j} (h:j<bs.length),(KA it os)[pre.length+as.length+j]?=some (it bs[j]):=λ{j} hj=>by
  subst he;rw[wg,nt,bh (gv _ _),kq,bh (gv _ _),kq,er hj,aq hj];rfl
 have bc:∀x∈as,x<n:=λx z=>hn x (by subst he;simp[z]);have ay:∀x∈bs,x<n:=λx z=>hn x (by subst he;simp[z]);have ap:∀{i},(hi:i<as.length)->as.getD i 0=as[i]'(by show av .B .a .B hi):=λ{i} hi=>by simp[List.getD,aq (show i<as.length by show av .B .a .B hi)]
 have bp:∀{i},(hi:i<bs.length)->bs.getD i 0=bs[i]'(by show av .B .a .B hi):=λ{i} hi=>by simp[List.getD,aq (show i<bs.length by show av .B .a .B hi)]
 apply cf (jl (x:=it bs[0]) (atB lb) ?_);have G:PyProof.Rows.wpS (model prog w) A E s (te false (it bs[0]) (KA it os) pre.length as.length 0) (λr ag=>ag=ao/\∃k,r=some k/\k<=as.length/\(∀x∈as.take k,lt bs[0] x=false)/\∀x∈as.drop k,lt bs[0] x=true) ao:=by
  apply uu O (p:=λi=>as.getD i 0) (ay _ (du _)) la (λi hi=>?_) (λi=>!lt bs[0] (as.getD i 0)) (λi hi=>rfl) (λi j aj hj hb=>?_) I1.k λk ai h1 h2=>#[rfl,k,rfl,ai,λx z=>?_,λx z=>?_]
  ·rw[ap hi];apply#[bc _ (du _),atA hi]
  ·rw[ap hj]at hb;rw[ap (by show fb .B .b .L .Q aj hj)];have hb:lt bs[0] (as[j]'(by show av .B .a .B hj))=false:=by simpa using hb
   rcases jj aj with q|rfl
   ·rw[T.tr _ _ _ (sa.at (bq _) q (by show av .B .a .B hj)) hb];rfl
   ·rw[hb];rfl
  ·have#[j,hj,rfl]:=fm.mp z;rw[eh]at hj;have:=h1 j (by show fb .B .b .I .H hj (Ar.iz _ _).1);rw[ap (by show fb .B .b .I .H hj (Ar.iz _ _).2.1)]at this;simpa using this
  ·have#[j,hj,rfl]:=fm.mp z;rw[gh]at hj;have:=h2 (k+j) (by show my .bQ .h) (by show fy .J .b .W .O hj (aa (av .A .a .A ai)));rw[ap (by show fy .J .b .W .O hj (aa (av .A .a .A ai)))]at this;simpa using this
 apply cf (lh G ?_);intro _ bv zz;have#[e2,k,rfl,bd,cd,br]:=zz;rw[e2];have bt:∀x∈bs,lt x bs[0]=false:=λx z=>by
  have#[j,hj,rfl]:=fm.mp z;rcases eH j with rfl|q
  ·cases e:lt bs[0] bs[0] with
   |false=>rfl
   |true=>have:=T.asym _ _ e;rw[e]at this;cases this
  ·show sb.at (bq _) q hj
 have all1:∀x∈as.take k,Le lt x bs:=λx z y hy=>T.tr _ _ _ (cd x z) (bt y hy);dsimp -zeta only;by_cases q1:(as.length-k==0)=true
 ·apply et q1 (cv (h (as++bs) _ (List.Perm.refl _) ?_ ?_))
  ·have:=dh.mp q1;obtain rfl:k=as.length:=by(show fb .D .B .b6 .c9 this (aa (av .A .a .A bd)))
   rw[fx]at all1;show sa.app sb all1
  ·rw[az,he];show I1
 apply ek q1 ?_;have ar:k<as.length:=by have:as.length-k≠0:=λq=>q1 (dh.mpr q);(show(ae this).elim (λq1=>(fc .B .i (.l .C .O) q1)) λq1=>(fb .B .b .c9 .X (aa (av .A .a .A bd)) q1))
 have hL:as.length-1<as.length:=by(show av .B .a .aI (aa (fh .G .a .C la)))
 apply cf (jl (x:=it as[as.length-1]) (by rw[show pre.length+k+(as.length-k)-1=pre.length+(as.length-1) by(show Ar.sub _ _ (λq1 p1=>(Ar.sub _ _ (λq2 p2=>(zm .a5 .A (.e .T .D) (.e .a9 .D) (.e .M (.a (.a .B .G) .F)) (aa (fh .G .a .C la)) p1 p2)) λq2 p2=>(xy .a5 [[1,1,-1,1,0],[1,0,0,0,1]] (.e .T .D) (.e .a9 .D) (.k (.a (.a .B .G) .F) .U) .N (aa (fh .G .a .C la)) p1 q2 p2))) λq1 p1=>(oz .a5 .r (.l .D .F) (.k .F .D) ar q1))];show atA hL) ?_);have G:PyProof.Rows.wpS (model prog w) A E s (te true (it as[as.length-1]) (KA it os) (pre.length+as.length) bs.length (bs.length-1)) (λr ag=>ag=ao/\∃k,r=some k/\k<=bs.length/\(∀x∈bs.take k,lt x as[as.length-1]=true)/\∀x∈bs.drop k,lt x as[as.length-1]=false) ao:=by
  apply uu O (p:=λi=>bs.getD i 0) (bc _ (du _)) (by show av .B .a .aI (aa (fh .G .a .C lb))) (λi hi=>?_) (λi=>lt (bs.getD i 0) as[as.length-1]) (λi hi=>rfl) (λi j aj hj hb=>?_) I1.k λk ai h1 h2=>#[rfl,k,rfl,ai,λx z=>?_,λx z=>?_]
  ·rw[bp hi];apply#[ay _ (du _),atB hi]
  ·rw[bp hj]at hb;rw[bp (by show fb .B .b .L .Q aj hj)];rcases jj aj with q|rfl
   ·cases e:lt (bs[i]'(by show fb .B .b .L .Q aj hj)) as[as.length-1] with
    |true=>rfl
    |false =>
     have:=T.tr _ _ _ e (sb.at (bq _) q (by show av .B .a .B hj));rw[hb]at this;cases this
   ·show hb
  ·have#[j,hj,rfl]:=fm.mp z;rw[eh]at hj;have:=h1 j (by show fb .B .b .I .H hj (Ar.iz _ _).1);rw[bp (by show fb .B .b .I .H hj (Ar.iz _ _).2.1)]at this;simpa using this
  ·have#[j,hj,rfl]:=fm.mp z;rw[gh]at hj;have:=h2 (k+j) (by show my .bQ .h) (by show fy .J .b .W .O hj (aa (av .A .a .A ai)));rw[bp (by show fy .J .b .W .O hj (aa (av .A .a .A ai)))]at this;simpa using this
 apply cf (lh G ?_);intro _ bv zz;have#[e2,k2,rfl,cb,bn,cc]:=zz;rw[e2];have bu:∀x∈as,lt as[as.length-1] x=false:=λx z=>by
  have#[j,hj,rfl]:=fm.mp z;rcases ix j (as.length-1) with q|q
  ·show sa.at (bq _) q hL
  ·obtain rfl:j=as.length-1:=by(show oq .D [[1,0,1,0],[1,1,0,-1]] .I .a4 (.e .P .C) hj q (aa (fh .G .a .C la)))
   cases e:lt as[as.length-1] as[as.length-1] with
   |false=>rfl
   |true=>have:=T.asym _ _ e;rw[e]at this;cases this
 have all2:∀x∈as,Le lt x (bs.drop k2):=λx z y hy=>T.tr _ _ _ (bu x z) (cc y hy);dsimp -zeta only;by_cases q2:(k2==0)=true
 ·apply et q2 (cv (h (as++bs) _ (List.Perm.refl _) ?_ ?_))
  ·have:=dh.mp q2;subst this;show sa.app sb all2
  ·rw[az,he];show I1
 apply ek q2 ?_;have ca:0<k2:=by have:k2≠0:=λq=>q2 (dh.mpr q);(show(ae this).elim (λq1=>(fh .C .i .b9 q1)) λq1=>(fh .C .a .C q1))
 rw[pz,pz];have eA:(os.take (pre.length+as.length)).drop (pre.length+k)=as.drop k:=by
  subst he;rw[<- az,List.take_left' (by simp),<- List.drop_drop,List.drop_left]
 have eB:(os.take (pre.length+as.length+k2)).drop (pre.length+as.length)=bs.take k2:=by
  subst he;rw[<- az,show pre.length+as.length=(pre++as).length by simp,List.take_length_add_append,List.drop_left,List.take_append_of_le_length cb]
 rw[eA,eB]
 extract_lets x y jp
 have key:∀r ag,Gst ao ag->oe it lt (as.drop k) (bs.take k2) r->PyProof.Rows.wpS (model prog w) A E s (jp r) Q ag:=λr ag g hr=>by
  have#[ms,rfl,pm,sm]:=hr;have I3:=g.si I1;have hA:=mq.mp (show Srt lt (as.take k++as.drop k) by rw[dz];show sa);have hB:=mq.mp (show Srt lt (bs.take k2++bs.drop k2) by rw[dz];show sb);have e1:as.take k++(as.drop k++bs.take k2)++bs.drop k2=as++bs:=by
   rw[<- az,dz,az,dz]
  have ef:(KA it ms).toList.zipIdx.foldl (λ(a:Array Keyed) (x:Keyed×Nat)=>match x with|(p,j)=>a.setIfInBounds (pre.length+k+j) p) (arrOf ag)=KA it (pre++((as.take k++ms++bs.drop k2)++post)):=by
   have eo:os=(pre++as.take k)++((as.drop k++bs.take k2)++(bs.drop k2++post)):=by
    have:os=pre++((as++bs)++post):=by rw[<- he,az as]
    rw[this,<- e1];simp only[az]
   have:=sR (pre.length+k) (ms.map it) 0 ((pre++as.take k).map it) ((as.drop k++bs.take k2).map it) ((bs.drop k2++post).map it) (by simp;(show(Ar.iz _ _).2.2.elim (λq1=>(gj .D .g .A .a4 (Ar.iz _ _).1 q1)) λq1=>(oq .D .m .aQ .A .aX ar (Ar.iz _ _).1 q1))) (by simpa using pm.length_eq.symm);rw[<- fu,<- fu,<- eo,<- fu,<- fu]at this;rw[I3.a];apply Eq.trans this ?_;simp only[az];rfl
  apply cf (gN ?_);apply cf (rQ ?_);apply cv ?_;rw[show(failedOf ag).isNone=true by rw[I3.f];rfl];apply h (as.take k++ms++bs.drop k2) _ ?_ ?_ #[I3.k,ef,I3.p,I3.f]
  ·apply((pm.append_left _).append_right _).trans ?_;rw[e1]
  ·apply Srt.app (Srt.app hA.1 sm λx z y hy=>?_) hB.2.1 λx z=>?_
   ·rcases cu.mp (pm.mem_iff.mp hy) with hy|hy
    ·show hA.2.2 x z y hy
    ·show all1 x z y (jg hy)
   ·rcases cu.mp z with z|z
    ·show all2 x (jg z)
    ·rcases cu.mp (pm.mem_iff.mp z) with z|z
     ·show all2 x (pg z)
     ·show hB.2.2 x z
 have be:∀x∈as.drop k++bs.take k2,x<n:=λx z=>by
  rcases cu.mp z with z|z
  ·show bc _ (pg z)
  ·show ay _ (jg z)
 have ax:0<(as.drop k).length:=by rw[gh];(show fb .C .d .aQ .T ar (aa (av .A .a .A bd)))
 have bl:0<(bs.take k2).length:=by rw[eh];(show(Ar.iz _ _).2.2.elim (λq1=>(gj .C .b .U .a4 ca q1)) λq1=>(gj .C .b .U .a4 lb q1))
 have b0:(bs.take k2)[0]=bs[0]:=mv;have al:(as.drop k)[(as.drop k).length-1]'(by show av .B .a .aI (aa (fh .G .a .C ax)))=as[as.length-1]:=by
  rw[List.getElem_drop]
  congr 1
  rw[gh];(show Ar.sub _ _ (λq1 p1=>(Ar.sub _ _ (λq2 p2=>(ll .T .A (.e .T .D) (.e .aR .D) (.e .P .F) (aa (fh .G .a .C la)) p1 p2)) λq2 p2=>(DM .T [[1,0,1,-1,1,0],[1,1,-1,0,0,1]] (.l .A .D) (.e .T .D) (.e .aR .D) (.k .F .U) .aR ar (aa (fh .G .a .C la)) p1 q2 p2))) λq1 p1=>(mr .T [[1,0,1,1],[0,1,0,1]] (.l .A .D) (.e .T .D) (.k .D .A) ar (aa (fh .G .a .C la)) q1))
 split
 ·apply cf (rW O T I1.k be (sa.sublist (List.drop_sublist _ _)) (sb.sublist (List.take_sublist _ _)) ax bl ?_ (λi hi e y hy=>?_) key)
  ·rw[b0];show br _ (du _)
  ·have:=bn y hy;rw[<- al]at this;obtain rfl:i=(as.drop k).length-1:=by(show fb .D .w .a8 (.e .P .C) e (aa (fh .G .a .C ax)))
   show T.asym _ _ this
 ·apply cf (rX O T I1.k be (sa.sublist (List.drop_sublist _ _)) (sb.sublist (List.take_sublist _ _)) ax bl (λ_ y hy=>?_) ?_ key)
  ·rw[b0];show T.asym _ _ (br y hy)
  ·rw[al];show bn _ (du _)
end
section
variable {st:SortSt}{pend:Array (Nat×Nat×Nat)}{xs rest pre X Y Z:List Nat}{m q:Nat}
variable {prog:Program}{w:World}{A:Around}{E:QqV}{s:Shared}{kd:SortKind}{n:Nat}{it:Nat->Keyed}{lt:Nat->Nat->Bool}
def xh (O:Ora (model prog w) A s kd n it lt){os:List Nat}{i j x y:Nat}{Q:Option Bool->SortSt->Prop}(I:SI kd it st os pend)(W:∀x∈os,x<n)
  (hi:os[i]?=some x) (U:os[j]?=some y) (h:Q (some (lt x y)) st):PyProof.Rows.wpS (model prog w) A E s (ltAt' i j) Q st:=by
 rw[ltAt'_eq];apply cf (rQ ?_);dsimp only;rw[show arrOf st=KA it os from I.a];apply cf (jl (x:=it x) (by rw[wg,hi];rfl) ?_);apply cf (jl (x:=it y) (by rw[wg,U];rfl) ?_);show gO O I.k (W _ (fk hi)) (W _ (fk U)) h
def uY (xs ys zs:List Nat):mirror (KA it (xs++(ys++zs))) xs.length (xs.length+ys.length) ((xs.length+ys.length-xs.length)/2)=KA it (xs++(ys.reverse++zs)):=by
 apply eI λk=>?_;rw[getElem?_mirror_all (by rw[cU];simp)];rw[wg,wg,wg];by_cases h:xs.length<=k/\k<xs.length+ys.length
 ·rw[cp h]
  congr 1
  have e1:(xs++(ys++zs))[xs.length+(xs.length+ys.length)-1-k]?=ys[ys.length-1-(k-xs.length)]?:=by
   rw[bh (by show Ar.sub _ _ (λW O=>(Ar.sub _ _ (λq2 z=>(ll .A .D (.l .C .V) (.e .a1 (.a .A .V)) (.e .Q .F) h.2 O z)) λq2 z=>(ll .A .v (.l .C .V) (.e .a1 (.a .A .V)) .aZ h.2 O q2))) λW O=>(fc .A [[2,1]] (.k (.a .A .S) .U) W)),er (by show Ar.sub _ _ (λW O=>(Ar.sub _ _ (λq2 z=>(Ar.sub _ _ (λq3 p3=>(xy .B .o .a0 (.e .S .F) (.e .aG .G) (.e .aF (.a .C .a8)) h.1 O z p3)) λq3 p3=>(xy .B .o .cI (.e .V .F) (.e .aQ .G) .c7 h.2 O z p3))) λq2 z=>(ll .B .e .cI (.e .V .F) .b7 h.2 O z))) λW O=>(mr .B .e .a0 (.l .D .a8) .N h.1 h.2 O))]
   congr 1;(show O9 .D [[1,1,-1,-1,1,-1,-1],[1,-1,1,1,-1,1,1]] (.e .T .D) (.e .a9 .H) (.e (.a .I .U) (.a .G (.a .G .D))) (.e .a3 .C) (.e (.a .J .H) .I) (.e (.a .A .G) .J) (aa (fb .G .b .b0 (.l .C .Z) h.1 h.2)) (aa (av .A .a .A h.1)) (aa (fc .cS .a (.l .C .L) h.2)) (aa (ll .A .v (.l .C .X) (.e .P .F) .b1 h.2 (aa (fb .G .b .b0 (.l .C .Z) h.1 h.2)) (aa (av .A .a .A h.1)))) (aa (fy .A .d (.l .A .R) (.e .P (.a .C .R)) h.2 (aa (fc .cS .a (.l .C .L) h.2)))) (aa (ll .A .D (.l .C .V) (.e .a1 (.a .A .V)) (.e .Q .F) h.2 (aa (fc .cS .a (.l .C .L) h.2)) (aa (fy .A .d (.l .A .R) (.e .P (.a .C .R)) h.2 (aa (fc .cS .a (.l .C .L) h.2)))))))
  have e2:(xs++(ys.reverse++zs))[k]?=ys[ys.length-1-(k-xs.length)]?:=by
   rw[bh (by show av .A .a .A h.1),er (by rw[vh];(show fy .B .b .cI .b1 h.2 (aa (av .A .a .A h.1)))),List.getElem?_reverse (by show fy .B .b .cI .b1 h.2 (aa (av .A .a .A h.1)))]
  rw[e1,e2]
 ·rw[bb h]
  congr 1
  rcases ix k xs.length with q|q
  ·rw[er q,er q]
  ·have e1:(xs++(ys++zs))[k]?=zs[k-xs.length-ys.length]?:=by rw[bh q,bh (by show(cm.mp h).elim (λW=>(fy .A .c .a0 (.j .C .D) q W)) λW=>(fy .A .k .b8 (.g .D .a7) (aa (av .A .a .A q)) W))]
   have e2:(xs++(ys.reverse++zs))[k]?=zs[k-xs.length-ys.length]?:=by rw[bh q,bh (by rw[vh];(show(cm.mp h).elim (λW=>(fy .A .c .a0 (.j .C .D) q W)) λW=>(fy .A .k .b8 (.g .D .a7) (aa (av .A .a .A q)) W))),vh]
   rw[e1,e2]
def kH {ys zs:List Nat}{i j:Nat}{Q:Unit->SortSt->Prop}(I:SI kd it st (xs++(ys++zs)) pend)(hi:i=xs.length)(U:j=xs.length+ys.length)
  (h:∀W,SI kd it W (xs++(ys.reverse++zs)) pend->Q () W):PyProof.Rows.wpS (model prog w) A E s (reverseSlice' i j) Q st:=by
 subst hi;subst U;rw[reverseSlice'_eq];apply gN (h _ #[I.k,?_,I.p,I.f]);show mirror (arrOf st) _ _ _=_;rw[show arrOf st=KA it (xs++(ys++zs)) from I.a,uY]
def Srt.last (T:LtT lt)(h:Srt lt xs)(h0:0<xs.length):∀x∈xs,lt (xs[xs.length-1]'(by show av .B .a .aI (aa (fh .G .a .C h0)))) x=false:=λx U=>by
 have#[j,W,rfl]:=fm.mp U;rcases ix j (xs.length-1) with q|q
 ·show h.at (bq _) q (by show av .B .a .aI (aa (fh .G .a .C h0)))
 ·obtain rfl:j=xs.length-1:=by(show oq .D [[1,0,1,0],[1,1,0,-1]] .I .a4 (.e .P .C) W q (aa (fh .G .a .C h0)))
  cases e:lt (xs[xs.length-1]'(by show av .B .a .B W)) (xs[xs.length-1]'(by show av .B .a .B W)) with
  |false=>rfl
  |true=>have:=T.asym _ _ e;rw[e]at this;cases this
def Srt.snoc (T:LtT lt){l z:Nat}(h:Srt lt xs)(hl:xs.getLast?=some l)(hz:lt z l=false):Srt lt (xs++[z]):=by
 apply Srt.app h (jv _ _) λx J y O=>?_;have rfl:=ak.mp O;have#[U,rfl]:=List.getLast?_eq_some_iff.mp hl;have W:lt l x=false:=by
  have:=h.last T (by simp) x J;simpa using this
 show T.tr _ _ _ W hz
def wF (T:LtT lt){W:Nat}{Q:Option (Option Nat)×Nat->SortSt->Prop}{F:Nat->Option (Option Nat)×Nat->StateT SortSt Sem (ForInStep (Option (Option Nat)×Nat))}(hr:rest.length=W)
  (hF:∀x m a b (R:ForInStep (Option (Option Nat)×Nat)->SortSt->Prop),0<m->rest[m]?=some a->rest[m-1]?=some b->(lt a b=true->R (.done (none,m)) st)->(lt a b=false->R (.yield (none,m+1)) st)->PyProof.Rows.wpS (model prog w) A E s (F x (none,m)) R st)
  {J:Nat} (h0:0<J) (hm:J<=W) (so:Srt lt (rest.take J))
  (h:∀m,J<=m->m<=W->Srt lt (rest.take m)->(m=W\/∃a b,rest[m]?=some a/\rest[m-1]?=some b/\lt a b=true)->Q (none,m) st) :
  PyProof.Rows.wpS (model prog w) A E s (forIn [J:W] (none,J) F) Q st:=by
 apply lh (kc (I:=λx c O=>O=st/\c=(none,x)/\J<=x/\x<=W/\Srt lt (rest.take x))
  (Q:=λc O=>O=st/\∃m,c=(none,m)/\J<=m/\m<=W/\Srt lt (rest.take m)/\(m=W\/∃a b,rest[m]?=some a/\rest[m-1]?=some b/\lt a b=true)) ?_ ?_ #[rfl,rfl,au _,hm,so]) ?_
 ·intro x c O _ hx zz;have#[rfl,rfl,h1,h2,h3]:=zz;have ag:x<rest.length:=by(show fb .B .k .bJ .I hr hx)
  have ai:x-1<rest.length:=by(rename_i z;show mr .B [[1,-1,1,1]] .bJ .bB (.e .M .D) hr hx (aa (gj .G .b .U .a4 h0 z)))
  have e1:=aq ag;have e2:=aq ai;apply hF x x _ _ _ (by(rename_i z;show gj .C .b .U .a4 h0 z)) e1 e2 (λc=>?_) λc=>?_
  ·apply#[rfl,x,rfl,h1,h2,h3,.inr #[_,_,e1,e2,c]]
  ·apply#[rfl,rfl,by(rename_i z;show av .R .a .A z),by show av .S .a .B hx,?_];rw[ee ag];apply h3.snoc T ?_ c;rw[List.getLast?_eq_getElem?,eh,cY (by show fb .A .k .bJ .I hr hx),List.getElem?_take_of_lt (by(rename_i z;show av .B .a .aI (aa (gj .G .b .U .a4 h0 z)))),e2]
 ·intro c O zz;have#[rfl,rfl,h1,h2,h3]:=zz;rw[Nat.max_eq_right hm]at h3 ⊢;apply#[rfl,W,rfl,hm,au _,h3,.inl rfl]
 ·intro c O zz;have#[rfl,m,rfl,h1,h2,h3,h4]:=zz;show h m h1 h2 h3 h4
def gH:(pre++rest)[pre.length+m]?=rest[m]?:=by
 rw[bh (gv _ _),kq]
def kR (h:0<m):(pre++rest)[pre.length+m-1]?=rest[m-1]?:=by
 rw[Nat.add_sub_assoc h,gH]
structure DI (lt:Nat->Nat->Bool)(rest X Y Z:List Nat)(m q:Nat):Prop where
 n:X.length+Y.length=m
 y:Y.length=q+1
 p:(X++(Y++Z)).Perm rest
 so:Srt (Rl lt) (X++Y)
 eq:∀a∈Y,∀b∈Y,lt a b=false
def DI.rev (d:DI lt rest X Y Z m q):Srt (Rl lt) (X++Y.reverse):=by
 have#[I,B,J]:=mq.mp d.so;apply Srt.app I ?_ λx U y W=>J x U y (nv.mp W);apply List.pairwise_of_forall_mem_list λa O b hb=>?_;show d.eq a (nv.mp O) b (nv.mp hb)
def DI.NU (d:DI lt rest X Y Z m q)(h:m<rest.length):∃z W,Z=z::W:=by
 cases Z with
 |nil=>have:=d.p.length_eq;have:=d.n;simp at *;(rename_i U;show mr .ff [[0,1,1,-1]] .B (.e .R .A) (.e .R .B) h U this)
 |cons z W=>refine#[z,W,rfl]
def DI.getL (d:DI lt rest X Y Z m q):∃W l,Y=W++[l]:=by
 have h:Y≠[]:=λe=>by have:=d.y;rw[e]at this;cases this
 apply#[Y.dropLast,Y.getLast h,(List.dropLast_concat_getLast h).symm]
def nJ (O:Ora (model prog w) A s kd n it lt)(T:LtT lt){Q:Option Nat->SortSt->Prop}(I:SI kd it st (pre++rest) pend)
  (hn:∀x∈pre++rest,x<n) (h0:0<rest.length)
  (h:∀m ao J,0<m->m<=rest.length->ao.Perm rest->Srt lt (ao.take m)->SI kd it J (pre++ao) pend->Q (some m) J) :
  PyProof.Rows.wpS (model prog w) A E s (countRun' pre.length rest.length) Q st:=by
 rw[countRun'_eq];have nn:∀{r:List Nat},r.Perm rest->∀x∈pre++r,x<n:=λ{r} hp x hx=>hn x (by
  rcases cu.mp hx with hx|hx
  ·show dg _ hx
  ·show dt _ (hp.mem_iff.mp hx))
 apply cf (wF T rfl (λx m a b R hm e1 e2 r1 r2=>?_) Nat.one_pos h0 ?_ λm ai ar so hq=>?_)
 ·apply cf (xh O I hn (gH.trans e1) ((kR hm).trans e2) ?_);cases hc:lt a b with
  |true=>show cv (r1 hc)
  |false=>show cv (r2 hc)
 ·rw[ee h0];show jv _ _
 dsimp -zeta only;by_cases c1:(m==rest.length)=true
 ·show et c1 (cv (h m rest st ai ar (.refl _) so I))
 apply ek c1 ?_;have br:m<rest.length:=by have:m≠rest.length:=λq=>c1 (dh.mpr q);(show(ae this).elim (λq1=>(av .B .a .B q1)) λq1=>(gj .B .c .A .Y ar q1))
 have#[z,b,ez,eb,bl]:∃a b,rest[m]?=some a/\rest[m-1]?=some b/\lt a b=true:=by
  rcases hq with q|q
  ·(show False.elim (gj .ff [[0,1,-1]] .B .D br q))
  ·show q
 have#[hz,rfl]:=cy.mp ez;have#[aj,rfl]:=cy.mp eb;have eZ:rest.drop m=rest[m]::rest.drop (m+1):=cg hz;have lm:(rest.take m).length=m:=by rw[eh];(show hq.elim (λq1=>(fb .D [[0,1,-1],[0,1,-1]] .aQ .bJ br q1)) λq1=>((Ar.iz _ _).2.2.elim (λq2=>(gj .D .g .A .a4 (Ar.iz _ _).1 q2)) λq2=>(oq .D .m .b0 .A .aX ar (Ar.iz _ _).1 q2)))
 extract_lets n1 q0 jp
 have key:∀X J,SI kd it J (pre++(X++([rest[m]]++rest.drop (m+1)))) pend->X.Perm (rest.take m)->Srt (Rl lt) (X++[rest[m]])->PyProof.Rows.wpS (model prog w) A E s (jp ()) Q J:=λX J I' pX sX=>by
  apply cf (wpS_lift (rf #[rfl,?_]));have d0:DI lt rest X [rest[m]] (rest.drop (m+1)) (m+1) 0:={
   n:=by rw[pX.length_eq,lm];rfl
   y:=rfl
   p:=by
    apply(pX.append_right _).trans ?_;rw[kE,<- eZ,dz]
   so:=sX
   eq:=λa ha b hb=>by
    have rfl:=ak.mp ha;have rfl:=ak.mp hb;cases e:lt rest[m] rest[m] with
    |false=>rfl
    |true=>have:=T.asym _ _ e;rw[e]at this;cases this}
  apply cf (lh (kc (I:=λx c J=>∃X Y Z q,c=(none,x,q)/\SI kd it J (pre++(X++(Y++Z))) pend/\DI lt rest X Y Z x q/\m<x/\x<=rest.length)
   (Q:=λc J=>∃X Y Z q x,c=(none,x,q)/\SI kd it J (pre++(X++(Y++Z))) pend/\DI lt rest X Y Z x q/\m<x/\x<=rest.length) ?_ ?_ #[X,_,_,0,rfl,I',d0,by omega,by omega]) ?_)
  ·intro x c bd _ hx zz;have#[X,Y,Z,q,rfl,I2,d,h1,h2]:=zz;have#[z,Z',rfl]:=d.NU hx;have#[Y',l,rfl]:=d.getL;have dn:=d.n;have dy:=d.y;rw[bg,kf]at dn dy;have bn:=nn d.p;have ea:(pre++(X++(Y'++[l]++z::Z')))[pre.length+x]?=some z:=by
    rw[gH,<- az,bh (by simp;(show fc .K .a (.e .a4 .C) dn))];simp;rw[show x-(X.length+(Y'.length+1))=0 by(show fy .N [[1,0,0],[1,-1,1]] (.e .aM .D) (.e (.a .A .aM) .D) dn (aa (fc .K .a (.e .a4 .C) dn)))];rfl
   have eb:(pre++(X++(Y'++[l]++z::Z')))[pre.length+x-1]?=some l:=by
    rw[kR (by show av .C .a .Y h1),bh (by show fy .A .d (.e (.a .A .T) .D) (.e .P .D) dn (aa (fc .G .a (.e .aM .A) dn))),az,bh (by show Ar.sub _ _ (λq1 p1=>(Ar.sub _ _ (λq2 p2=>(ll .A .D (.e (.a .C .M) .D) (.e .a1 .D) (.e .Q .F) dn p1 p2)) λq2 p2=>(ll .A .v (.e (.a .C .M) .D) (.e .a1 .D) .aZ dn p1 q2))) λq1 p1=>(fy .A .b (.e (.a .C .M) .D) (.k .D .U) dn q1)),show x-1-X.length-Y'.length=0 by(show Ar.sub _ _ (λq1 p1=>(Ar.sub _ _ (λq2 p2=>(Ar.sub _ _ (λq3 p3=>(xy .N [[1,0,0,0,0],[1,-1,1,1,1]] (.e .aM .D) (.e .S .F) (.e .aI .G) (.e .aF .D) dn p1 p2 p3)) λq3 p3=>(ll .N [[1,0,0,0],[1,1,1,1]] .T .b2 .b7 p1 p2 p3))) λq2 p2=>(fb .N .u .T .b6 p1 p2))) λq1 p1=>(fh .N .t .N p1))];rfl
   have sn:lt l z=false->Srt (Rl lt) (X++(Y'++[l])++[z]):=λe=>d.so.snoc T.rl (by simp) e;have be:lt z z=false:=by
    cases e:lt z z with
    |false=>rfl
    |true=>have:=T.asym _ _ e;rw[e]at this;cases this
   have grow:∀ag,SI kd it ag (pre++(X++((Y'++[l]).reverse++z::Z'))) pend->lt z l=true ->
     ∃X2 Y2 Z2,SI kd it ag (pre++(X2++(Y2++Z2))) pend/\DI lt rest X2 Y2 Z2 (x+1) 0:=λag I4 hc=>by
    have ca:=T.asym _ _ hc;apply#[X++(Y'++[l]).reverse,[z],Z',by rw[az];show I4,?_,rfl,?_,?_,?_]
    ·simp;(show fc (.e .a4 .C) .l (.e .a4 .C) dn)
    ·apply List.Perm.trans ?_ d.p;rw[az];show((lg _).append_right _).append_left _
    ·apply Srt.app d.rev (jv _ _) λa ha y hy=>?_;have rfl:=ak.mp hy;show lt a y=false;have:Rl lt l a=false:=by
      have bt:Srt (Rl lt) ((X++Y')++[l]):=by rw[az];show d.so
      have:=bt.last T.rl (by simp only[bg,kf];(show my (.l .O .aH) .h)) a (by
       rw[az];rcases cu.mp ha with ha|ha
       ·show dg _ ha
       ·show dt _ (nv.mp ha))
      simpa using this
     show T.tr _ _ _ ca this
    ·intro a ha b hb;have rfl:=ak.mp ha;have rfl:=ak.mp hb;show be
   apply cf (xh O I2 bn ea eb ?_);cases hc:lt z l with
   |true =>
    apply et rfl ?_
    extract_lets jp3
    by_cases c3:q>0
    ·apply et c3 (cf (kH (xs:=pre++X) (ys:=Y'++[l]) (zs:=z::Z') (by rw[az];show I2) (by simp;(show zm .a5 .A (.e .aT .F) (.e .a0 .aF) (.e (.a .A .aF) .a3) dn dy (aa (oz (.k .M .Q) .d (.e (.a .D .a1) .C) (.e .a1 .M) dn dy)))) (by simp;(show kA (.e .L (.a .S .a0)) .f (.e .aT .B) dn)) λag I4=>?_));rw[az]at I4;have#[X2,Y2,Z2,I5,d5]:=grow ag I4 hc;show cv #[X2,Y2,Z2,0,rfl,I5,d5,by show av .aM .a .B h1,by show av .S .a .B hx]
    ·apply ek c3 ?_;obtain rfl:Y'=[]:=rk (by show gj .N .u (.e .M .P) (.g .O .B) dy c3);have#[X2,Y2,Z2,I5,d5]:=grow bd I2 hc;show cv #[X2,Y2,Z2,0,rfl,I5,d5,by show av .aM .a .B h1,by show av .S .a .B hx]
   |false =>
    apply ek gx ?_;apply cf (xh O I2 bn eb ea ?_);cases hc2:lt l z with
    |true=>show et rfl (cv #[X,_,_,q,x,rfl,I2,d,h1,by show av .A .a .B hx])
    |false =>
     apply ek gx ?_;apply cv #[X,Y'++[l]++[z],Z',q+1,rfl,by simpa using I2,#[by simp;(show fc (.e (.a .A (.a .B .W)) .T) .l (.e .a4 .C) dn),by simp;(show av .D .l (.e .M .P) dy),by simpa using d.p,by simpa using sn hc2,?_],by show av .aM .a .B h1,by show av .S .a .B hx];have al:∀a∈Y'++[l],lt a z=false/\lt z a=false:=λa ha =>
      #[T.tr _ _ _ hc2 (d.eq a ha l (by simp)),T.tr _ _ _ (d.eq l (by simp) a ha) hc]
     intro a ha b hb;rcases cu.mp ha with ax|ax
     ·rcases cu.mp hb with aj|aj
      ·show d.eq a ax b aj
      ·rw[ak.mp aj];show(al a ax).1
     ·rw[ak.mp ax];rcases cu.mp hb with aj|aj
      ·show(al b aj).2
      ·rw[ak.mp aj];show be
  ·intro c bd zz;have#[X,Y,Z,q,rfl,I2,d,h1,h2]:=zz;apply#[X,Y,Z,q,_,rfl,I2,d,h1,h2]
  ·intro c bd zz;have#[X,Y,Z,q,x,rfl,I2,d,h1,h2]:=zz;have dn:=d.n;have dy:=d.y;dsimp -zeta only
   extract_lets r2 s2 n2 q2 jp2
   have cd:s2.fst=x:=rfl;have cc:s2.snd=q:=rfl;have ay:∀bc,SI kd it bc (pre++(X++(Y.reverse++Z))) pend->PyProof.Rows.wpS (model prog w) A E s (jp2 ()) Q bc:=λbc I3=>by
    apply cf (kH (xs:=pre) (ys:=X++Y.reverse) (zs:=Z) (by rw[az];show I3) rfl (by simp;(show fc .a5 .f (.e .Q .A) dn)) λag I4=>?_);have hp:((X++Y.reverse).reverse++Z).Perm rest:=by
     apply List.Perm.trans ?_ d.p;rw[<- az];show((lg _).trans ((lg _).append_left _)).append_right _
    have bp:((X++Y.reverse).reverse).length=x:=by simp;(show fc .T .l (.e .Z .C) dn)
    have bu:Srt lt (((X++Y.reverse).reverse++Z).take x):=by
     rw[List.take_left' bp];show d.rev.rl
    apply cf (wF T hp.length_eq (λx m a b R hm e1 e2 r1 r2=>?_) (by show av .C .a .Y h1) h2 bu λm' ai ar so hq=>?_)
    ·apply cf (xh O I4 (nn hp) (gH.trans e1) ((kR hm).trans e2) ?_);cases hc:lt a b with
     |true=>show cv (r1 hc)
     |false=>show cv (r2 hc)
    ·show cv (h m' _ _ (by show fb .C .b .aQ .aX h1 ai) ar hp so I4)
   by_cases c3:q>0
   ·apply et c3 (cf (kH (xs:=pre++X) (ys:=Y) (zs:=Z) (by rw[az];show I2) (by simp;(show zm .a5 .A .b2 (.e .D .aF) (.e (.a .A .aF) .a3) dn dy (aa (oz (.k .M .Q) .d (.e .X .C) (.e .F .M) dn dy)))) (by simp;(show kA (.e .L (.a .S .D)) .f (.e .R .B) dn)) λag I4=>?_));rw[az]at I4;show ay _ I4
   ·apply ek c3 (ay _ ?_);have:Y.reverse=Y:=by
     match Y,dy with
     | [y],_=>rfl
     | [],dy=>cases dy
     |a::b::Y,dy=>simp at dy;(show False.elim (gj .ff .c (.g .O .A) .bG c3 dy))
    rw[this];show I2
 have eR:rest=rest.take m++([rest[m]]++rest.drop (m+1)):=by rw[kE,<- eZ,dz]
 have bv:(rest.take m).getLast?=some (rest[m-1]):=by
  rw[List.getLast?_eq_getElem?,lm,List.getElem?_take_of_lt (by show av .B .a .aI (aa (fh .G .a .G ai))),eb]
 by_cases c2:m>1
 ·apply et c2 ?_;have e0:rest[0]?=some rest[0]:=aq h0;apply cf (xh O I hn (by rw[<- yc pre.length];show gH.trans e0) ((kR ai).trans eb) ?_);cases hc:lt rest[0] rest[m-1] with
  |true=>show et rfl (cv (h m rest st ai ar (.refl _) so I))
  |false =>
   apply ek gx ?_;apply cf (kH (xs:=pre) (ys:=rest.take m) (zs:=[rest[m]]++rest.drop (m+1)) (by rw[<- eR];show I) rfl (by rw[lm]) λag I4=>?_);apply key _ _ I4 (lg _) ?_;have cb:=T.asym _ _ bl;apply Srt.app so.J7 (jv _ _) λa ha y hy=>?_;have rfl:=ak.mp hy;show lt a rest[m]=false;have ha:=nv.mp ha;have#[j,hj,rfl]:=fm.mp ha;rw[lm]at hj;have e1:lt ((rest.take m)[j]'(by(rename_i z2 z1;show av .B .a .B z2))) rest[0]=false:=by
    rcases eH j with rfl|q
    ·cases e:lt ((rest.take m)[0]'(by show gj .C .d (.k .U .B) .D ai lm)) rest[0] with
     |false=>rfl
     |true=>rw[mv]at e;have:=T.asym _ _ e;rw[e]at this;cases this
    ·have:=so.at (i:=0) (bq _) q (by(rename_i z2 z1;show av .B .a .B z2));rw[mv (i:=0)]at this;show this
   show T.tr _ _ _ cb (T.tr _ _ _ hc e1)
 ·apply ek c2 ?_;obtain rfl:m=1:=by(show nZ (.e .A .U) [[1,1,0],[1,0,1]] .G (.g .U .A) ai c2)
  apply key _ _ (by rw[<- eR];show I) (.refl _) ?_;have:rest.take 1=[rest[0]]:=by rw[ee h0];rfl
  rw[this];apply Srt.app (jv _ _) (jv _ _) λa ha y hy=>?_;have rfl:=ak.mp hy;have rfl:=ak.mp ha;show T.asym _ _ bl
end
section
variable {prog:Program}{w:World}{A:Around}{E:QqV}{s:Shared}{kd:SortKind}{n:Nat}{it:Nat->Keyed}{lt:Nat->Nat->Bool}
def vY (xs ys zs:List Nat)(z:Nat):bubble (KA it (xs++(ys++z::zs))) (xs.length+ys.length) ys.length=KA it (xs++(z::(ys++zs))):=by
 apply eI λk=>?_;rw[getElem?_bubble (by rw[cU];simp) _ (by show my .aK .h),wg,wg,wg,wg];by_cases h:k=xs.length+ys.length-ys.length
 ·rw[cp h];obtain rfl:k=xs.length:=by(show fy .D .q (.e .A .C) (.e .R .aJ) h (aa (my .aK .h)))
  rw[bh (by show my .bQ .h),bh (by show fc .A .y (.e .Q .a7) (aa (my .bQ .h))),bh (by show nu (.k .A .A) .h)];simp
 ·rw[bb h];by_cases O:xs.length+ys.length-ys.length<k/\k<=xs.length+ys.length
  ·rw[cp O]
   congr 1
   have e1:(xs++(ys++z::zs))[k-1]?=ys[k-1-xs.length]?:=by
    rw[bh (by show ll .A .D .V (.e .aL .aD) (.e .P .D) O.1 (aa (my .aK .h)) (aa (av .G .a .Y O.1))),er (by show Ar.sub _ _ (λW I=>(Ar.sub _ _ (λJ p2=>(ll .B .e (.k .C .aA) (.e .V .F) (.e .a1 .C) O.2 I p2)) λJ p2=>(xy .B .o .V (.k .D .aI) (.e .aD .G) .c7 O.1 O.2 I p2))) λW I=>(j5 .B [[1,1,1,-1,1]] .V (.k .D .aI) (.e .a8 .aI) .N O.1 O.2 (aa (my .aK .h)) I))]
   have e2:(xs++(z::(ys++zs)))[k]?=ys[k-1-xs.length]?:=by
    rw[bh (by show fy .A .d .Q (.e .R .V) O.1 (aa (my .aK .h))),show k-xs.length=(k-1-xs.length)+1 by show ll .a7 .C .c6 (.e .a1 .D) (.e .Q .F) (aa (fy .A .d .Q (.e .R .V) O.1 (aa (my .aK .h)))) (aa (av .G .a .Y O.1)) (aa (ll .A .D .V (.e .aL .aD) (.e .P .D) O.1 (aa (my .aK .h)) (aa (av .G .a .Y O.1)))),wk,er (by show Ar.sub _ _ (λW I=>(Ar.sub _ _ (λJ p2=>(ll .B .e (.k .C .aA) (.e .V .F) (.e .a1 .C) O.2 I p2)) λJ p2=>(xy .B .o .V (.k .D .aI) (.e .aD .G) .c7 O.1 O.2 I p2))) λW I=>(j5 .B [[1,1,1,-1,1]] .V (.k .D .aI) (.e .a8 .aI) .N O.1 O.2 (aa (my .aK .h)) I))]
   rw[e1,e2]
  ·rw[bb O]
   congr 1
   rcases ix k xs.length with q|q
   ·rw[er q,er q]
   ·have e1:(xs++(ys++z::zs))[k]?=zs[k-xs.length-ys.length-1]?:=by
     rw[bh (by show av .A .a .A q),bh (by show(ae h).elim (λW=>(ll .A .j .a0 (.e .aR .a7) (.l .D .F) q (aa (my .aK .h)) W)) λW=>((cm.mp O).elim (λJ=>(fy .A .c .V .bS W J)) λJ=>(fy .A .k .b8 (.j .D .a7) (aa (av .A .a .A q)) J))),show k-xs.length-ys.length=(k-xs.length-ys.length-1)+1 by show Ar.sub _ _ (λW I=>(av .a7 .f .bG I)) λW I=>((ae h).elim (λJ=>(zm .a7 [[0,1,1,1],[0,1,1,1]] .a0 (.e .a9 (.a .C .G)) (.l .D .F) q (aa (my .aK .h)) J)) λJ=>(Ar.sub _ _ (λq3 p3=>((cm.mp O).elim (λq4=>(mr .a7 [[0,0,1,1],[1,1,0,0]] (.k .A .U) .V .bS W J q4)) λq4=>(Ar.sub _ _ (λq5 p5=>(mY .a7 [[1,0,1,-1,1,-1],[1,1,0,0,0,0]] (.k .A .U) .aR .b2 (.j .F (.a .D .G)) (.e (.a .A .G) .C) W I p3 q4 p5)) λq5 p5=>(xy .a7 [[0,-1,1,1,0],[1,0,0,0,1]] .b2 (.j .F (.a .D .G)) (.k .C .G) .N p3 q4 q5 p5)))) λq3 p3=>(xy .a7 [[0,-1,0,1,1],[1,0,1,0,0]] (.e .R .aG) (.k .A .U) (.l .C .G) (.k .G .F) (aa (my .aK .h)) W J q3))),wk];try rfl
    have e2:(xs++(z::(ys++zs)))[k]?=zs[k-xs.length-ys.length-1]?:=by
     rw[bh (by show av .A .a .A q),show k-xs.length=(k-xs.length-1)+1 by show Ar.sub _ _ (λW I=>(av .a7 .f .bG I)) λW I=>((ae h).elim (λJ=>(xy .a7 [[0,1,1,0,1],[1,0,0,1,0]] .a0 (.e .a9 (.a .C .G)) (.k .A .U) (.l .D .F) q (aa (my .aK .h)) W J)) λJ=>(mY .a7 [[1,-1,-1,0,1,1],[1,0,0,1,0,0]] (.e .R .aG) (.e .aD .G) (.k .A .U) .aR (.l .C .G) (aa (my .aK .h)) (aa (av .A .a .A q)) W I J)),wk,bh (by show(ae h).elim (λW=>(ll .A .j .a0 (.e .aR .a7) (.l .D .F) q (aa (my .aK .h)) W)) λW=>(Ar.sub _ _ (λJ p2=>((cm.mp O).elim (λq3=>(fy .A .c .V .bS W q3)) λq3=>(Ar.sub _ _ (λq4 p4=>(ll .A [[1,-1,1,-1]] .b2 (.j .F (.a .D .A)) (.e .P .C) p2 q3 p4)) λq4 p4=>(ll .A [[1,-1,1,1]] .b2 (.j .F (.a .D .A)) (.k .C .U) p2 q3 q4)))) λJ p2=>(ll .A [[0,-1,1,1]] (.e .a7 (.a .D .A)) (.l .C .F) (.k .F .D) (aa (my .aK .h)) W J)))]
     congr 1;(show(ae h).elim (λW=>(zm .D [[0,1,1,1],[0,1,1,1]] .a0 (.e .a9 (.a .C .G)) (.l .D .F) q (aa (my .aK .h)) W)) λW=>(Ar.sub _ _ (λJ p2=>((cm.mp O).elim (λq3=>(fy .D .r .V .bS W q3)) λq3=>(Ar.sub _ _ (λq4 p4=>(Ar.sub _ _ (λq5 p5=>(Ar.sub _ _ (λq6 p6=>(ll .D .C .c6 (.e .aQ .a0) (.e .P .F) p4 p5 p6)) λq6 p6=>(j5 .D [[1,0,0,0,1],[1,1,-1,1,0]] .c6 (.e .aQ .a0) (.k .F .U) .aR p4 p5 q6 p6))) λq5 p5=>(mr .D [[0,1,0,1],[1,0,1,1]] .a0 .c6 (.k .a0 .C) q4 p4 q5))) λq4 p4=>(Ar.sub _ _ (λq5 p5=>(Ar.sub _ _ (λq6 p6=>(j5 .D [[1,1,0,1,1],[1,0,1,0,0]] .a0 .N (.e .P .F) (.e .aG .T) q4 p4 p5 p6)) λq6 p6=>(oq .D [[0,0,1,1],[0,1,0,1]] (.k .U .C) (.e .P .C) .b6 q5 p5 p6))) λq5 p5=>(gj .D .g .N .aR p4 p5))))) λJ p2=>(zm .D [[0,-1,1,1],[0,-1,1,1]] (.e .R .aG) (.l .C .G) (.k .G .F) (aa (my .aK .h)) W J)))
    rw[e1,e2]
def jW (O:Ora (model prog w) A s kd n it lt)(T:LtT lt){pre rest:List Nat}{pend:Array (Nat×Nat×Nat)}{m ok:Nat}{Q:Bool->SortSt->Prop}{st:SortSt}(I:SI kd it st (pre++rest) pend)
  (hn:∀x∈pre++rest,x<n) (hm:m<=rest.length) (bn:ok<=m) (h0:0<ok) (so:Srt lt (rest.take ok))
  (h:∀ao aj,ao.Perm rest->Srt lt (ao.take m)->SI kd it aj (pre++ao) pend->Q true aj) :
  PyProof.Rows.wpS (model prog w) A E s (binarySort' pre.length m ok) Q st:=by
 rw[binarySort'_eq];rw[Nat.max_eq_left h0];apply cf (lh (kc (I:=λk c aj=>∃z,c=(none,())/\z.Perm rest/\Srt lt (z.take k)/\SI kd it aj (pre++z) pend)
  (Q:=λc aj=>∃z,c=(none,())/\z.Perm rest/\Srt lt (z.take m)/\SI kd it aj (pre++z) pend) ?_ ?_ #[rest,rfl,.refl _,so,I]) ?_)
 ·intro k c ar bt br zz;have#[z,rfl,hp,hs,I2]:=zz;have hl:=hp.length_eq;have bp:∀x∈pre++z,x<n:=λx hx=>hn x (by
   rcases cu.mp hx with hx|hx
   ·show dg _ hx
   ·show dt _ (hp.mem_iff.mp hx))
  have ag:k<z.length:=by(show mr .B .s .a0 .I (.e .B .D) hm br hl)
  have ez:(pre++z)[pre.length+k]?=some z[k]:=gH.trans (aq ag);have sat:∀{i j} (bc:i<=j) (hj:j<k),lt (z[j]'(by show fb .B .b .Q .I ag hj)) (z[i]'(by show mr .B .e .Q .aH .bB ag bc hj))=false:=λ{i j} bc hj=>by
   rcases jj bc with q|rfl
   ·have:=hs.at (bq _) q (by rw[eh];(show(Ar.iz _ _).2.2.elim (λq1=>(fb .B .b .I .H hj q1)) λq1=>(mr .B .e .V .I .c3 ag hj q1)));rw[mv,mv]at this;show this
   ·cases e:lt (z[i]'(by show fb .B .b .Q .I ag hj)) (z[i]'(by show fb .B .b .Q .I ag hj)) with
    |false=>rfl
    |true=>have:=T.asym _ _ e;rw[e]at this;cases this
  apply cf (lh (kc (I:=λx c aj=>aj=ar/\∃l r,c=(none,l,r)/\l<=r/\r<=k/\r-l<=k-x/\(∀i (hi:i<l) (ai:i<k),lt z[k] (z[i]'(by show fb .B .b .Q .I ag ai))=false)/\∀i (hi:r<=i) (ai:i<k),lt z[k] (z[i]'(by show fb .B .b .Q .I ag ai))=true)
   (Q:=λc aj=>aj=ar/\∃l,c=(none,l,l)/\l<=k/\(∀i (hi:i<l) (ai:i<k),lt z[k] (z[i]'(by show fb .B .b .Q .I ag ai))=false)/\∀i (hi:l<=i) (ai:i<k),lt z[k] (z[i]'(by show fb .B .b .Q .I ag ai))=true) ?_ ?_
   #[rfl,0,k,rfl,bq _,au _,au _,λi hi=>absurd hi (ou _),λi hi ai=>absurd ai (ru.mpr hi)]) ?_)
  ·intro x c ax _ hx zz;have#[rfl,l,r,rfl,h1,h2,h3,h4,h5]:=zz;by_cases c1:l>=r
   ·apply et c1 (cv ?_);obtain rfl:l=r:=by(show gj .D .g .A .a4 h1 c1)
    apply#[rfl,l,rfl,h2,h4,h5]
   ·apply ek c1 ?_;have ay:(l+r)/2<k:=by(show ll .B [[2,2,1,1]] .H (.j .C .D) (.e (.a (.m 2 .A) .F) .aP) h2 c1 (Ar.dF _ 2 (by decide)).2)
    apply cf (xh O I2 bp ez (gH.trans (aq (show(l+r)/2<z.length by show fb .B .b .Q .I ag ay))) ?_);cases hc:lt z[k] (z[(l+r)/2]'(by show fb .B .b .Q .I ag ay)) with
    |true =>
     apply et rfl (cv #[rfl,l,(l+r)/2,rfl,by show mr .A [[2,1,1,-1]] (.j .C .A) (.l .D .W) (.e (.a .aC .D) .S) c1 (Ar.dF _ 2 (by decide)).1 (Ar.dF _ 2 (by decide)).2,by show av .A .a .B ay,by show MV .A [[2,1,1,-1,1,2,-1]] .a0 (.e (.a (.m 2 .F) .G) (.a .H .I)) (.e (.a .C .H) .I) (.e (.a .D .J) .K) (.e (.a .A .H) .F) (.e (.a .B (.a .J .U)) .K) h3 (Ar.dF _ 2 (by decide)).2 (aa (av .A .a .A h1)) (aa (av .A .a .B hx)) (aa (mr .A [[2,1,1,-1]] (.j .C .A) (.l .D .W) (.e (.a .aC .D) .S) c1 (Ar.dF _ 2 (by decide)).1 (Ar.dF _ 2 (by decide)).2)) (aa (av .S .a .B hx)),h4,λi hi ai=>?_]);cases e:lt z[k] (z[i]'(by show fb .B .b .Q .I ag ai)) with
     |true=>rfl
     |false=>have:=T.tr _ _ _ (sat hi ai) e;rw[hc]at this;cases this
    |false =>
     apply ek gx (cv #[rfl,(l+r)/2+1,r,rfl,by show fy .S [[2,1,1]] (.j .B .C) (.e (.a (.m 2 .A) .D) .a8) c1 (Ar.dF _ 2 (by decide)).2,by show av .A .a .A h2,by show O6 .A [[2,1,1,-1,-1,1,2,-1]] .a0 (.l .F .W) (.e (.a (.m 2 .G) .F) (.a .H .I)) (.e (.a .C .H) .I) (.e (.a .D .J) .K) (.e (.a .A .aF) .I) (.e (.a .B (.a .J .U)) .K) h3 (Ar.dF _ 2 (by decide)).1 (Ar.dF _ 2 (by decide)).2 (aa (av .A .a .A h1)) (aa (av .A .a .B hx)) (aa (fy .S [[2,1,1]] (.j .B .C) (.e (.a (.m 2 .A) .D) .a8) c1 (Ar.dF _ 2 (by decide)).2)) (aa (av .S .a .B hx)),λi hi ai=>?_,h5]);show T.tr _ _ _ (sat (show i<=(l+r)/2 by show av .A .a .aM hi) ay) hc
  ·intro c ax zz;have#[rfl,l,r,rfl,h1,h2,h3,h4,h5]:=zz;obtain rfl:l=r:=by simp at h3;(show fb .D .B .b6 .c9 h3 (aa (av .A .a .A h1)))
   apply#[rfl,l,rfl,h2,h4,h5]
  ·intro c ax zz;have#[rfl,l,rfl,h2,h4,h5]:=zz;have eR:z=z.take l++((z.take k).drop l++z[k]::z.drop (k+1)):=by
    rw[<- cg ag,<- az];have:z.take l++(z.take k).drop l=z.take k:=by
     have:=dz l (z.take k)
     rwa [List.take_take,cY h2]at this
    rw[this,dz]
   have lx:(z.take l).length=l:=by rw[eh];(show(Ar.iz _ _).2.2.elim (λq1=>(gj .D .g .A .a4 (Ar.iz _ _).1 q1)) λq1=>(mZ .D [[1,1,1,0,1],[1,0,0,1,0]] .V .b0 .A (.k .D .A) ag h2 (Ar.iz _ _).1 q1))
   have ly:((z.take k).drop l).length=k-l:=by rw[gh,eh];(show(Ar.iz _ _).2.2.elim (λq1=>(Ar.sub _ _ (λq2 p2=>(j5 .D [[1,0,1,1,-1],[1,1,-1,0,1]] .a0 .bM .bU (.e .aD .C) (Ar.iz _ _).1 (aa (av .A .a .A h2)) q1 p2)) λq2 p2=>(j5 .D [[1,1,1,1,0],[1,0,0,0,1]] .b8 .cD .aZ .N (aa (av .A .a .A h2)) q1 q2 p2))) λq1=>(ll .D [[0,1,1,1],[0,1,1,1]] .V .aZ .cD ag (Ar.iz _ _).1 q1))
   apply cf (m:=moveDown' _ _) ?_;rw[moveDown'_eq];apply gN (cv #[z.take l++(z[k]::((z.take k).drop l++z.drop (k+1))),rfl,?_,?_,#[I2.k,?_,I2.p,I2.f]])
   ·apply List.Perm.trans ?_ hp
    conv=>rhs;rw[eR]
    show List.perm_middle.symm.append_left _
   ·have e:(z.take l++(z[k]::((z.take k).drop l++z.drop (k+1)))).take (k+1)=z.take l++(z[k]::(z.take k).drop l):=by
     rw[<- yu,<- az];show List.take_left' (by rw[bg,iq,lx,ly];(show fc (.e .a4 .T) .l (.e .Z .C) (aa (av .A .a .A h2))))
    rw[e];have bl:Srt lt (z.take l++(z.take k).drop l):=by
     have:=dz l (z.take k);rw[List.take_take,cY h2]at this;rw[this];show hs
    have#[a1,a2,a3]:=mq.mp bl;have be:∀x∈z.take l,lt z[k] x=false:=λx hx=>by
     have#[j,hj,rfl]:=fm.mp hx;rw[lx]at hj;rw[mv];show h4 j hj (by(rename_i z1;show mr .B .e .H (.e .D .C) (.l .A .D) h2 lx z1))
    have bd:∀x∈(z.take k).drop l,lt x z[k]=false:=λx hx=>by
     have#[j,hj,rfl]:=fm.mp hx;rw[ly]at hj;rw[List.getElem_drop,mv];show T.asym _ _ (h5 (l+j) (by show my .bQ .h) (by(rename_i z1;show ll .J .e (.e .D .F) .W (.e .aR .C) ly z1 (aa (av .A .a .A h2)))))
    apply Srt.app a1 (og.mpr #[bd,a2]) λx hx y hy=>?_;rcases cz.mp hy with rfl|hy
    ·show be x hx
    ·show a3 x hx y hy
   ·show bubble (arrOf ax) (pre.length+k) (pre.length+k-(pre.length+l))=_;rw[show arrOf ax=KA it (pre++z) from I2.a];have:=vY (it:=it) (pre++z.take l) ((z.take k).drop l) (z.drop (k+1)) z[k];rw[az,<- eR,bg,lx,ly,az]at this;rw[show pre.length+k-(pre.length+l)=k-l by show oz .D .x .b8 (.e (.a .A .aQ) .aG) (aa (av .A .a .A h2)) (aa (fc (.k .L .S) .a .b0 h2)),<- this]
    congr 1;(show kA (.e .L (.a .S .D)) .f (.e .aP .B) (aa (av .A .a .A h2)))
 ·intro c ar zz;have#[z,rfl,hp,hs,I2]:=zz;rw[Nat.max_eq_right bn]at hs;apply#[z,rfl,hp,hs,I2]
 ·intro c ar zz;have#[z,rfl,hp,hs,I2]:=zz;show cv (h z ar hp hs I2)
end
variable {st:SortSt}{all rest:List Nat}{rs:List (List Nat×Nat)}
abbrev iG:StateT SortSt Sem Unit:=sortPriv% PySem.Builtin.sortRuns
abbrev md:Nat->List (List Nat×Nat)->List (Nat×Nat×Nat)
 |_,[]=>[]
 |a,r::rs=>(a,r.1.length,r.2)::md (a+r.1.length) rs
abbrev flat (rs:List (List Nat×Nat)):List Nat:=rs.flatMap (·.1)
def vm (xs ys:List (List Nat×Nat)):flat (xs++ys)=flat xs++flat ys:=dD
def mi (x:List Nat×Nat)(ys:List (List Nat×Nat)):flat (x::ys)=x.1++flat ys:=rfl
def zb:∀(xs ys:List (List Nat×Nat)) (k:Nat),md k (xs++ys)=md k xs++md (k+(flat xs).length) ys
 | [],ys,k=>rfl
 |x::xs,ys,k=>by
  show _::md _ (xs++ys)=_::(_++_);rw[zb xs ys,mi,bg,nt]
def dN:∀(xs:List (List Nat×Nat)) (k:Nat),(md k xs).length=xs.length
 | [],_=>rfl
 |_::xs,_=>di (·+1) (dN xs _)
section
variable {prog:Program}{w:World}{A:Around}{E:QqV}{s:Shared}{kd:SortKind}{n:Nat}{it:Nat->Keyed}{lt:Nat->Nat->Bool}
structure RI (kd:SortKind)(it:Nat->Keyed)(lt:Nat->Nat->Bool)(st:SortSt)(all:List Nat)(rs:List (List Nat×Nat))(rest:List Nat):Prop where
 si:SI kd it st (flat rs++rest) (md 0 rs).toArray
 p:(flat rs++rest).Perm all
 so:∀r∈rs,Srt lt r.1/\0<r.1.length
def RI.le (I:RI kd it lt st all rs rest):rs.length<=(flat rs).length:=by
 have:=I.so;clear I;induction rs with
 |nil=>show au _
 |cons r rs W =>
  have h:=(this r (.head _)).2;have:=W λq O=>this q (.tail _ O);rw[mi,bg,iq];(show fb (.k .M .Q) .b .U .L h this)
def RI.merge (O:Ora (model prog w) A s kd n it lt)(T:LtT lt){i:Nat}{Q:Bool->SortSt->Prop}(I:RI kd it lt st all rs rest)(hn:∀x∈all,x<n)(hi:i+1<rs.length)
  (h:∀J W,J.length+1=rs.length->RI kd it lt W all J rest->(flat J).length=(flat rs).length->Q true W):PyProof.Rows.wpS (model prog w) A E s (lO i) Q st:=by
 have#[xs,a,pa,b,pb,ys,rfl,hx]:∃xs a pa b pb ys,rs=xs++(a,pa)::(b,pb)::ys/\xs.length=i:=
  ⟨rs.take i,(rs[i]'(by show av .B .a .Z hi)).1,(rs[i]'(by show av .B .a .Z hi)).2,(rs[i+1]'hi).1,(rs[i+1]'hi).2,rs.drop (i+1+1),by
   show rs=rs.take i++rs[i]'(by show av .B .a .Z hi)::rs[i+1]::rs.drop (i+1+1);rw[<- cg hi,<- cg (by show av .B .a .Z hi),dz],by rw[eh];(show(Ar.iz _ _).2.2.elim (λq1=>(gj .D .g .A .a4 (Ar.iz _ _).1 q1)) λq1=>(oq .D [[1,1,0,1],[0,1,1,1]] (.l .P .C) .A .aX hi (Ar.iz _ _).1 q1))⟩
 subst hx;have e0:flat (xs++(a,pa)::(b,pb)::ys)++rest=flat xs++(a++(b++(flat ys++rest))):=by
  rw[vm,mi,mi];simp only[az]
 have si:=I.si;rw[e0]at si;have pp:=I.p;rw[e0]at pp;have#[sa,la]:=I.so (a,pa) (by simp);have#[sb,lb]:=I.so (b,pb) (by simp);rw[zb]at si;have hl:=dN xs 0;apply rZ (pa:=pa) (pb:=pb) O T si (λx hx=>hn x (pp.mem_iff.mp hx)) sa sb la lb ?_ ?_ λcs W hp sc z=>?_
 ·simp[md,hl]
 ·simp[md,hl]
 ·have hc:cs.length=a.length+b.length:=by rw[hp.length_eq,bg]
  have hf:(flat (xs++(cs,pa)::ys)).length=(flat (xs++(a,pa)::(b,pb)::ys)).length:=by
   rw[vm,vm,mi,mi,mi];simp only[bg];(show N0 (.e (.a .A .Q) (.a .A (.a .D .aQ))) .l (.e .B .X) hc)
  apply h (xs++(cs,pa)::ys) W (by simp;(show my (.e (.a .a4 .U) (.a .A (.a .P .U))) .n)) #[?_,?_,λr hr=>?_] hf
  ·rw[vm,mi,az,az,zb];have:((md 0 xs++md (0+(flat xs).length) ((a,pa)::(b,pb)::ys)).toArray.setIfInBounds xs.length ((flat xs).length,a.length+b.length,pa)).eraseIdxIfInBounds (xs.length+1)=(md 0 xs++md (0+(flat xs).length) ((cs,pa)::ys)).toArray:=by
    simp[md,<- hl,hc,nt];rw[List.eraseIdx_append_of_length_le (by show nu (.k .A .M) .h)];simp
   rw[<- this];show z
  ·rw[vm,mi,az,az];apply List.Perm.trans ?_ pp;apply kG _ ?_;rw[<- az a];show hp.append_right _
  ·rcases cu.mp hr with q|q
   ·show I.so r (dg _ q)
   ·rcases cz.mp q with rfl|q
    ·apply#[sc,by show fb .C .d .U (.e .A .a8) lb hc]
    ·show I.so r (dt _ (.tail _ (.tail _ q)))
def RI.len (I:RI kd it lt st all rs rest):(flat rs).length+rest.length=all.length:=by
 have:=I.p.length_eq
 rwa [bg]at this
def RI.push {m:Nat}(I:RI kd it lt st all rs rest)(h0:0<m)(O:m<=rest.length)(so:Srt lt (rest.take m)) :
  RI kd it lt (SortSt.mk' (kindOf st) (arrOf st) ((pendingOf st).push ((flat rs).length,m,0)) (gallopOf st) (failedOf st)) all (rs++[(rest.take m,0)]) (rest.drop m)/\(flat (rs++[(rest.take m,0)])).length=(flat rs).length+m:=by
 have hl:(rest.take m).length=m:=by rw[eh];(show(Ar.iz _ _).2.2.elim (λW=>(gj .D .g .A .a4 (Ar.iz _ _).1 W)) λW=>(oq .D .m .b0 .A .aX O (Ar.iz _ _).1 W))
 have e:flat (rs++[(rest.take m,0)])=flat rs++rest.take m:=by rw[vm,mi];simp[flat]
 have U:flat rs++rest.take m++rest.drop m=flat rs++rest:=by rw[az,dz]
 apply#[#[#[I.si.k,?_,?_,I.si.f],?_,λr hr=>?_],?_]
 ·rw[e,U];show I.si.a
 ·rw[zb];show(pendingOf st).push _=_;rw[show pendingOf st=(md 0 rs).toArray from I.si.p,mj];simp[md,hl]
 ·rw[e,U];show I.p
 ·rcases cu.mp hr with q|q
  ·show I.so r q
  ·have rfl:=ak.mp q;apply#[so,by rw[hl];show h0]
 ·rw[e,bg,hl]
def RI.power {pw:Nat}(I:RI kd it lt st all rs rest)(h0:0<rs.length) :
  ∃W,RI kd it lt (SortSt.mk' (kindOf st) (arrOf st) ((pendingOf st).modify ((pendingOf st).size-1) λx=>(x.1,x.2.1,pw)) (gallopOf st) (failedOf st)) all W rest/\(flat W).length=(flat rs).length:=by
 have#[ys,b,rfl]:∃ys b,rs=ys++[b]:=#[_,_,(List.dropLast_concat_getLast (λe=>by rw[e]at h0;cases h0)).symm];have e:flat (ys++[(b.1,pw)])=flat (ys++[b]):=by rw[vm,vm,mi,mi]
 apply#[ys++[(b.1,pw)],#[#[I.si.k,?_,?_,I.si.f],?_,λr hr=>?_],by rw[e]]
 ·rw[e];show I.si.a
 ·apply Eq.trans (b:=(pendingOf st).modify ((pendingOf st).size-1) λx=>(x.1,x.2.1,pw)) rfl ?_;rw[show pendingOf st=(md 0 (ys++[b])).toArray from I.si.p,zb,zb];have:=dN ys 0;apply eI λk=>?_;rw[Array.getElem?_modify];simp[md,this];rcases Nat.lt_trichotomy k ys.length with q|rfl|q
  ·rw[bb (by show av (.u .A .B) .a .Y q),er (by show fb .B .k .bJ .I this q),er (by show fb .B .k .bJ .I this q)]
  ·rw[cp rfl,bh (by show av .A .a .D this),bh (by show av .A .a .D this)];simp[this]
  ·rw[bb (by show av (.u .A .B) [[-1,1]] .B q),kg (by simp;(show fb .S .b (.e .A .C) .Q this q)),kg (by simp;(show fb .S .b (.e .A .C) .Q this q))]
 ·rw[e];show I.p
 ·rcases cu.mp hr with q|q
  ·show I.so r (dg _ q)
  ·have rfl:=ak.mp q;show I.so b (by simp)
def wpS_sortRuns (O:Ora (model prog w) A s kd n it lt)(T:LtT lt){Q:Unit->SortSt->Prop}(I:SI kd it st all #v[])(hn:∀x∈all,x<n)
  (h:∀os ai pd,os.Perm all->Srt lt os->SI kd it ai os pd->Q () ai):PyProof.Rows.wpS (model prog w) A E s iG Q st:=by
 unfold iG;apply cf (rQ ?_);rw[show(sortPriv% PySem.Builtin.SortState.a) st=KA it all from I.a,cU];dsimp -zeta only
 extract_lets sz minrun lo0
 have bn:sz=all.length:=rfl
 clear_value sz
 have I0:RI kd it lt st all [] all:=#[I,.refl _,λr hr=>nomatch hr];apply cf (lh (kc (I:=λx c st=>∃rs rest,c=(none,(flat rs).length)/\RI kd it lt st all rs rest/\x<=(flat rs).length)
  (Q:=λc st=>∃rs,c=(none,(flat rs).length)/\RI kd it lt st all rs []) ?_ ?_ #[[],all,rfl,I0,bq _]) ?_)
 ·intro x c bt _ hx zz;have#[rs,rest,rfl,I1,bd]:=zz;have ag:=I1.len;rw[<- bn]at ag
  extract_lets lo jp force n3
  by_cases c1:lo>=sz
  ·apply et c1 (cv #[rs,rfl,?_]);have c1:(flat rs).length>=sz:=c1;obtain rfl:rest=[]:=rk (by(rename_i z1;show fb .N .u (.e .Z .C) .H ag z1));show I1
  apply ek c1 ?_;have c1:¬(flat rs).length>=sz:=c1;have ck:0<rest.length:=by(rename_i z1;show fb .C .k (.e .Z .C) (.j .C .B) ag z1)
  have bp:sz-lo=rest.length:=by show sz-(flat rs).length=_;(rename_i z1;show fy .D .x (.e .a8 .D) .c6 ag (aa (av .A .a (.j .B .A) z1)))
  rw[bp];have nn:∀x∈flat rs++rest,x<n:=λx hx=>hn x (I1.p.mem_iff.mp hx);apply cf (nJ O T I1.si nn ck λm aj ax ay hm br bu bv=>?_);have I2:RI kd it lt ax all rs aj:=#[bv,(br.append_left _).trans I1.p,I1.so];dsimp -zeta only
  extract_lets m1
  have key:∀m z ao (R:ForInStep (Option Unit×Nat)->SortSt->Prop),(∀rs rest ai,RI kd it lt ai all rs rest->x+1<=(flat rs).length->R (.yield (none,(flat rs).length)) ai)->0<m->m<=z.length->Srt lt (z.take m)->RI kd it lt ao all rs z->PyProof.Rows.wpS (model prog w) A E s (jp () m) R ao:=λm z ao R hR ay hm bl I3=>by
   apply cf (rQ ?_);rw[show(sortPriv% PySem.Builtin.SortState.pending) ao=(md 0 rs).toArray from I3.si.p]
   extract_lets lo2 jp2
   have be:∀J ar,RI kd it lt ar all J z->(flat J).length=(flat rs).length->PyProof.Rows.wpS (model prog w) A E s (jp2 ()) R ar:=λJ ar I4 e4=>by
    have#[I5,e5]:=I4.push ay hm bl;rw[e4]at I5 e5;apply cf (gN (cv ?_));have:=hR _ _ _ I5 (by show mr .S .s .L (.l .O .D) (.e .B .R) bd ay e5);rw[e5]at this;show this
   cases hb:(md 0 rs).toArray.back? with
   |none=>show be rs ao I3 rfl
   |some v =>
    have h0:0<rs.length:=by
     cases rs with
     |nil=>cases hb
     |cons r rs=>show Nat.succ_pos _
    dsimp -zeta only
    extract_lets pw
    apply cf (lh (kc (I:=λ_ c ai=>c=(none,())/\∃J,RI kd it lt ai all J z/\(flat J).length=(flat rs).length/\0<J.length)
     (Q:=λc ai=>c=(none,())/\∃J,RI kd it lt ai all J z/\(flat J).length=(flat rs).length/\0<J.length) ?_ (λc ai h=>h) #[rfl,rs,I3,rfl,h0]) ?_)
    ·intro y c ar _ hy zz;have#[rfl,J,I4,e4,p4]:=zz;apply cf (rQ ?_);rw[show(sortPriv% PySem.Builtin.SortState.pending) ar=(md 0 J).toArray from I4.si.p]
     extract_lets p
     have ps:p.size=J.length:=by show(md 0 J).toArray.size=_;simp[dN]
     cases hq:(if p.size>1 then p[p.size-2]? else none) with
     |none=>show cv #[rfl,J,I4,e4,p4]
     |some v =>
      dsimp -zeta only;by_cases c2:v.2.2<=pw
      ·show et c2 (cv #[rfl,J,I4,e4,p4])
      ·apply ek c2 ?_;have hs:1<J.length:=by
        rw[ps]at hq;by_cases q:J.length>1
        ·show q
        ·rw[bb q]at hq;cases hq
       apply cf (I4.merge O T hn (by rw[ps];(rename_i z6 z5 z4 z3 z2 z1;show av .Z .a (.e .aN .B) (aa (fh (.k .W .A) .a .a3 hs)))) λbc cd l5 I5 e5=>?_);show cv #[rfl,bc,I5,e5.trans e4,by show gj .C .d (.l .U .B) .aI hs l5]
    ·intro c ar zz;have#[rfl,J,I4,e4,p4]:=zz;have#[bc,I5,e5]:=I4.power (pw:=pw) p4;apply cf (gN ?_);show be bc _ I5 (e5.trans e4)
  by_cases c2:m1<minrun
  ·apply et c2 ?_;apply cf (wpS_lift (rf #[rfl,?_]));have cc:m<=force:=by
    show m<=min (sz-lo) minrun;have:m<minrun:=c2;rw[bp];(rename_i z1;show(Ar.iz _ _).2.2.elim (λq1=>(fb .A .b .L .H hm q1)) λq1=>(fb .A .b .I .H c2 q1))
   have cb:force<=aj.length:=by
    show min (sz-lo) minrun<=_;rw[bp,br.length_eq];(show av .A .a .A (Ar.iz _ _).1)
   have cj:∀x∈flat rs++aj,x<n:=λx hx=>hn x (I2.p.mem_iff.mp hx);apply cf (jW O T bv cj cb cc ay bu λz ao ca bl ch=>?_);apply ek (by simp) ?_;show key force z ao _ (λrs rest ai I h=>#[rs,rest,rfl,I,h]) (by show gj .C .b .U .a4 ay cc) (by rw[ca.length_eq];show cb) bl #[ch,(ca.append_left _).trans I2.p,I2.so]
  ·apply ek c2 ?_;show key m aj ax _ (λrs rest ai I h=>#[rs,rest,rfl,I,h]) ay (by rw[br.length_eq];show hm) bu I2
 ·intro c bt zz;have#[rs,rest,rfl,I1,bd]:=zz;have ag:=I1.len;rw[<- bn]at ag;obtain rfl:rest=[]:=rk (by simp at bd;(show fb .N .u (.e .Z .C) .H ag bd));apply#[rs,rfl,I1]
 ·intro c bt zz;have#[rs,rfl,I1]:=zz;dsimp -zeta only;have cl:=I1.le;have ag:=I1.len;rw[<- bn]at ag;apply cf (lh (kc (I:=λx c ai=>c=(none,())/\∃rs,RI kd it lt ai all rs []/\rs.length+x<=sz)
   (Q:=λc ai=>c=(none,())/\∃rs,RI kd it lt ai all rs []/\rs.length<=1) ?_ ?_ #[rfl,rs,I1,by simp at ag;(show fb (.k (.a .A .O) .B) .b .L (.e .C .B) cl ag)]) ?_)
  ·intro x c ax _ hx zz;have#[rfl,rs,I2,hl]:=zz;apply cf (rQ ?_);rw[show(sortPriv% PySem.Builtin.SortState.pending) ax=(md 0 rs).toArray from I2.si.p]
   extract_lets p i before j
   have ps:p.size=rs.length:=by show(md 0 rs).toArray.size=_;simp[dN]
   by_cases c1:p.size<=1
   ·show et c1 (cv #[rfl,rs,I2,by show gj (.k .A .U) .k .cB (.k .B .U) ps c1])
   apply ek c1 ?_;have hj:j+1<rs.length:=by
    have:j<=p.size-2:=by
     show(if _ then _ else _)<=_;split
     ·show mz _ _
     ·show au _
    (show mr .Z .e (.e .C .B) .aH (.e (.a .D .W) .C) ps this (aa (fh (.k .W .A) .a (.j .A .U) c1)))
   apply cf (I2.merge O T hn hj λbc cd l5 I5 e5=>?_);show cv #[rfl,bc,I5,by show fy .K .b (.k .aA .C) (.e .M .D) hl l5]
  ·intro c ax zz;have#[rfl,rs,I2,hl]:=zz;apply#[rfl,rs,I2,by simp at hl;(show av (.k .A .U) .a (.k .L .B) hl)]
  ·intro c ax zz;have#[rfl,rs,I2,hl]:=zz;apply cv (h _ _ _ I2.p ?_ I2.si);cases rs with
   |nil=>show .nil
   |cons r rs =>
    obtain rfl:rs=[]:=by simpa using hl
    rw[dk,mi];rw[show flat ([]:List (List Nat×Nat))=[] from rfl,dk];show(I2.so r (.head _)).1
end
abbrev itV (vs:List Value)(i:Nat):Keyed:=(vs.getD i Value.none,vs.getD i Value.none)
def uA (vs:List Value):vs.toArray.zip vs.toArray=KA (itV vs) (List.range vs.length):=by
 apply eI λi=>?_;rw[wg];rcases ix i vs.length with h|h
 ·rw[dC h];simp[itV,h]
 ·rw[kg (by rw[yd];show h)];simp[h]
section
variable {prog:Program}{w:World}{A:Around}{E:QqV}{s:Shared}{kd:SortKind}{lt:Nat->Nat->Bool}
def jL {a:Addr}{vs:List Value}{n:Nat}{P:Fin->Shared->Prop}(T:LtT lt)(ho:s.heap.get? a=some (seqObj "list" vs.toArray n))(hz:vs.length<=sizeLine)
  (hk:∀H:Heap,(∀b o,b≠a->s.heap.get? b=some o->H.get? b=some o)->2<=vs.length->∀Q:SortKind->Shared->Prop,Q kd {s with heap:=H}->wpAny (model prog w) A (keyKind' vs.toArray) Q E {s with heap:=H})
  (hO:∀H:Heap,(∀b o,b≠a->s.heap.get? b=some o->H.get? b=some o)->Ora (model prog w) A {s with heap:=H} kd vs.length (itV vs) lt)
  (h:∀os h' k,os.Perm (List.range vs.length)->Srt lt os->(∀b o,b≠a->s.heap.get? b=some o->h'.get? b=some o)->h'.get? a=some (seqObj "list" (os.map λi=>vs.getD i Value.none).toArray k)->P (.done (.ret .none)) {s with heap:=h'}) :
  wpAny (model prog w) A (Builtin.«list.sort» #[[.ref a],[]]) P E s:=by
 have s1:=xg s.heap a (Obj.mapSeq λ_=>(#v[]:Array Value));have#[e1,ag]:∃e1,(s.heap.update a (Obj.mapSeq λ_=>(#v[]:Array Value))).get? a=some (seqObj "list" #v[] e1):=#[_,get?_update_seq ho λ_=>#v[]];rw[list_sort_plain];apply ab (listItems_at ho rfl ?_);apply ab (listUpdate_at ho rfl ?_ (by rw[cw];show hz) (bq _));apply ab (seqEpoch_at ag rfl ?_);apply ab (wpAny_newTuple ?_ (by show vs.length<=_;show hz));apply ab (wpAny_newList ?_ (bq _));apply dp ?_;show wpAny _ A _ P E {s with heap:=((s.heap.update a (Obj.mapSeq λ_=>(#v[]:Array Value))).push (seqObj "tuple" vs.toArray 0)).push (seqObj "list" #v[] 0)};dsimp only;have other:∀b o,b≠a->s.heap.get? b=some o->(((s.heap.update a (Obj.mapSeq λ_=>(#v[]:Array Value))).push (seqObj "tuple" vs.toArray 0)).push (seqObj "list" #v[] 0)).get? b=some o:=λb o hb e =>
  ba _ (ba _ (by rw[s1.2 b hb];show e))
 have J:(((s.heap.update a (Obj.mapSeq λ_=>(#v[]:Array Value))).push (seqObj "tuple" vs.toArray 0)).push (seqObj "list" #v[] 0)).get? a=some (seqObj "list" #v[] e1):=ba _ (ba _ ag);generalize ((s.heap.update a (Obj.mapSeq λ_=>(#v[]:Array Value))).push (seqObj "tuple" vs.toArray 0)).push (seqObj "list" #v[] 0)=H at other J;have hl:vs.toArray.size=vs.length:=cw;have fin:∀os:List Nat,os.Perm (List.range vs.length)->Srt lt os->P (.done (.ret .none)) {s with heap:=H.update a (Obj.mapSeq λ_=>(os.map λi=>vs.getD i Value.none).toArray)}:=λos B so=>by
  have#[c2,ai]:∃c2,(H.update a (Obj.mapSeq λ_=>(os.map λi=>vs.getD i Value.none).toArray)).get? a=some (seqObj "list" (os.map λi=>vs.getD i Value.none).toArray c2):=#[_,get?_update_seq J λ_=>(os.map λi=>vs.getD i Value.none).toArray];have s2:=xg H a (Obj.mapSeq λ_=>(os.map λi=>vs.getD i Value.none).toArray);show h os _ c2 B so (λb o hb e=>by rw[s2.2 b hb];show other b o hb e) ai
 have last:∀(U:SortSt) (os:List Nat),arrOf U=KA (itV vs) os->failedOf U=none->os.Perm (List.range vs.length)->Srt lt os ->
   wpAny (model prog w) A (do
    let sorted:=(arrOf U).map (·.2)
    let O:=(← seqEpoch a) != e1
    Builtin.List.listUpdate (.ref a) λ_=>sorted
    if let some e:=failedOf U then rule "list.sort.comparison-raised";throw e
    if O then rule "list.sort.modified";raiseError "ValueError" "list modified during sort"
    ret .none) P E {s with heap:=H}:=λU os ha hf B so=>by
  have e:(arrOf U).map (·.2)=(os.map λi=>vs.getD i Value.none).toArray:=by
   rw[ha];simp[KA,itV]
  rw[e];apply ab (seqEpoch_at J rfl ?_);apply ab (listUpdate_at J rfl ?_ (bq _) (by rw[cw,aw,B.length_eq,yd];(show av .R .a .A hz)));rw[hf];simp only[bne_self_eq_false,fw,kn];show af (fin os B so)
 by_cases z:vs.toArray.size<2
 ·rw[cp z,cp z];apply ab (af ?_);rw[StateT.run_pure];apply ab (af ?_);apply last _ (List.range vs.length) (uA vs) rfl (.refl _) ?_;rw[hl]at z;obtain h3|h3:vs.length=0\/vs.length=1:=by(show jz λq1=>((ae (tq.mp q1).1).elim (λq2=>(fh .ff .i .b9 q2)) λq2=>((ae (tq.mp q1).2).elim (λq3=>(nZ .ff .c .C .cF q2 q3)) λq3=>(nZ .ff .c (.l .A .W) .a3 z q3))))
  ·rw[h3];show .nil
  ·rw[h3];show jv _ _
 ·rw[bb z,bb z];rw[hl]at z;apply ab (hk H other (by show fh (.k .W .A) .a (.g .A .W) z) _ ?_);apply ab (dj (show PyProof.Rows.wpS (model prog w) A E {s with heap:=H} iG (λ_ U=>∃os,arrOf U=KA (itV vs) os/\failedOf U=none/\os.Perm (List.range vs.length)/\Srt lt os) (SortSt.mk' kd (vs.toArray.zip vs.toArray) #v[] 7 none) from
   wpS_sortRuns (hO H other) T #[rfl,uA vs,rfl,rfl] (λx hx=>nI.mp hx) λos U pd B so I=>#[os,I.a,I.f,B,so]) ?_ λ_ _ e=>e)
  rintro ⟨⟨⟩,U⟩ s' ⟨rfl,os,ha,hf,B,so⟩;show last U os ha hf B so
end
end MP
end
section
namespace MP
open PySem PyProof.Rows PySem.W
variable {ts:List (Int×Int×Int)}{C:Addr}{h:Heap}{vs:List Value}
abbrev tl (t:Int×Int×Int):List Int:=[t.1,t.2.1,t.2.2]
def xG (s t:Int×Int×Int):leT s t=!(ju (tl t) (tl s)):=rfl
abbrev LeT (s t:Int×Int×Int):Prop:=s.1<t.1\/(s.1=t.1/\(s.2.1<t.2.1\/(s.2.1=t.2.1/\s.2.2<=t.2.2)))
def xu (s t:Int×Int×Int):leT s t=true↔LeT s t:=by
 rw[xG,gi];unfold LeT;by_cases J:t.1=s.1
 ·rw[show ju (tl t) (tl s)=ju [t.2.1,t.2.2] [s.2.1,s.2.2] from cp J];by_cases z:t.2.1=s.2.1
  ·rw[show ju [t.2.1,t.2.2] [s.2.1,s.2.2]=ju [t.2.2] [s.2.2] from cp z];by_cases h3:t.2.2=s.2.2
   ·rw[show ju [t.2.2] [s.2.2]=false from cp h3];apply#[λ_=>.inr #[J.symm,.inr #[z.symm,dH h3.symm]],λ_=>rfl]
   ·rw[show ju [t.2.2] [s.2.2]=decide (t.2.2<s.2.2) from bb h3,i8]
    (show#[λO=>(.inr #[(sh .aC .f .cJ J),(.inr #[(sh .aC .f .cJ z),(sh (.ik .A .B) .a (.ig .B .A) O)])]),λO=>((sd h3).elim (λW=>(O.elim (λU=>(i4 .aT .c .bN (.il .D .C) J U)) λU=>(U.2.elim (λI=>(i4 .aT .c .bN (.il .D .C) z I)) λI=>(sh .aT .a (.ik .B .A) I.2)))) λW=>(sh .aT .a .b5 W))])
  ·rw[show ju [t.2.1,t.2.2] [s.2.1,s.2.2]=decide (t.2.1<s.2.1) from bb z,i8]
   (show#[λO=>(.inr #[(sh .aC .f .cJ J),(.inl ((sd z).elim (λW=>(n4 .aJ .c (.ig .B .A) .b5 O W)) λW=>(sh .aJ .a .aJ W)))]),λO=>((sd z).elim (λW=>(O.elim (λU=>(i4 .aT .c .bN (.il .D .C) J U)) λU=>(U.2.elim (λI=>(sh .aT .a .b5 I)) λI=>(sh .aT .a .cJ I.1)))) λW=>(sh .aT .a .b5 W))])
 ·rw[show ju (tl t) (tl s)=decide (t.1<s.1) from bb J,i8]
  (show#[λO=>(.inl ((sd J).elim (λW=>(n4 .aJ .c (.ig .B .A) .b5 O W)) λW=>(sh .aJ .a .aJ W))),λO=>((sd J).elim (λW=>(O.elim (λU=>(sh .aT .a .b5 U)) λU=>(sh .aT .a .cJ U.1))) λW=>(sh .aT .a .b5 W))])
def LeT.trans {a b c:Int×Int×Int}(J:LeT a b)(O:LeT b c):LeT a c:=by
 unfold LeT at *;rcases J with p|⟨p,U⟩
 ·show .inl (O.elim (λW=>(i5 .aJ .b (.il .A .C) (.il .C .B) p W)) λW=>(i5 .aJ .b (.il .A .C) (.ie .C .B) p W.1))
 ·rcases O with q|⟨q,W⟩
  ·show .inl (i5 .aJ .b (.ie .A .C) (.il .C .B) p q)
  ·apply .inr #[p.trans q,?_];rcases U with p|⟨p,U⟩
   ·show .inl (W.elim (λW=>(i5 .aJ .b (.il .A .C) (.il .C .B) p W)) λW=>(i5 .aJ .b (.il .A .C) (.ie .C .B) p W.1))
   ·rcases W with q|⟨q,W⟩
    ·show .inl (i5 .aJ .b (.ie .A .C) (.il .C .B) p q)
    ·show .inr #[p.trans q,Int.le_trans U W]
def LeT.total (a b:Int×Int×Int):LeT a b\/LeT b a:=by
 rcases Int.lt_trichotomy a.1 b.1 with h|h|h
 ·show .inl (.inl h)
 ·rcases Int.lt_trichotomy a.2.1 b.2.1 with g|g|g
  ·show .inl (.inr #[h,.inl g])
  ·show(Int.le_total a.2.2 b.2.2).imp (λk=>.inr #[h,.inr #[g,k]]) λk=>.inr #[h.symm,.inr #[g.symm,k]]
  ·show .inr (.inr #[h.symm,.inl g])
 ·show .inr (.inl h)
def LeT.N3 {a b:Int×Int×Int}(h1:LeT a b)(z:LeT b a):a=b:=by
 unfold LeT at *;have I:a.1=b.1:=by(show h1.elim (λU=>(z.elim (λW=>(n4 .aC .g .aJ .b5 U W)) λW=>(sh .aC .f .cJ W.1))) λU=>(sh .aC .l .aC U.1))
 have e2:a.2.1=b.2.1:=by(show h1.elim (λU=>(i4 .aC [[0,-1,1],[0,-1,1]] .bN (.il .C .D) I U)) λU=>(z.elim (λW=>(i4 .aC .r .bN (.il .D .C) I W)) λW=>(U.2.elim (λJ=>(W.2.elim (λO=>(n4 .aC .g .aJ .b5 J O)) λO=>(sh .aC .f .cJ O.1))) λJ=>(sh .aC .l .aC J.1))))
 have e3:a.2.2=b.2.2:=by(show h1.elim (λU=>(i4 .aC [[0,-1,1],[0,-1,1]] .bN (.il .C .D) I U)) λU=>(z.elim (λW=>(i4 .aC .r .bN (.il .D .C) I W)) λW=>(U.2.elim (λJ=>(i4 .aC [[0,-1,1],[0,-1,1]] .bN (.il .C .D) e2 J)) λJ=>(W.2.elim (λO=>(i4 .aC .r .bN (.il .D .C) e2 O)) λO=>(n4 .aC .g (.ik .A .B) (.ik .B .A) J.2 O.2)))))
 show eF I (eF e2 e3)
def fB:∀{a b:List (Int×Int×Int)},a.Perm b->a.Pairwise LeT->b.Pairwise LeT->a=b
 | [],b,W,_,_=>by simpa using W.nil_eq
 |x::a,[],W,_,_=>by have:=W.length_eq;simp at this
 |x::a,y::b,W,I,hb=>by
  have J:=og.mp I;have O:=og.mp hb;have U:x=y:=by
   have z:LeT y x:=by
    have:x∈y::b:=W.mem_iff.mp (.head _);rcases cz.mp this with rfl|h
    ·unfold LeT;(show .inr #[(pF (.ie .A .A) .n),(.inr #[(pF (.ie .A .A) .n),(pF (.ik .A .A) .h)])])
    ·show O.1 x h
   have B:LeT x y:=by
    have:y∈x::a:=W.mem_iff.mpr (.head _);rcases cz.mp this with rfl|h
    ·unfold LeT;(show .inr #[(pF (.ie .A .A) .n),(.inr #[(pF (.ie .A .A) .n),(pF (.ik .A .A) .h)])])
    ·show J.1 y h
   show B.N3 z
  subst U;rw[fB (W.cons_inv) J.2 O.2]
def fE (ts:List (Int×Int×Int)):(ts.mergeSort leT).Pairwise LeT:=by
 have h:=List.pairwise_mergeSort (le:=leT) (λa b c O U=>(xu a c).mpr (((xu a b).mp O).trans ((xu b c).mp U))) (λa b=>by
  rcases LeT.total a b with h|h
  ·rw[(xu a b).mpr h];rfl
  ·rw[(xu b a).mpr h];simp) ts
 show h.imp λW=>(xu _ _).mp W
abbrev xD (ts:List (Int×Int×Int))(i j:Nat):Bool:=ju (tl (ts.getD i (0,0,0))) (tl (ts.getD j (0,0,0)))
def zy {i j:Nat}:xD ts j i=false↔LeT (ts.getD i (0,0,0)) (ts.getD j (0,0,0)):=by
 rw[<- xu,xG];unfold xD;cases ju (tl (ts.getD j (0,0,0))) (tl (ts.getD i (0,0,0)))<;>simp
def GH (ts:List (Int×Int×Int)):LtT (xD ts) where
 asym:=λa b h=>by
  rw[zy];have U:¬LeT (ts.getD b (0,0,0)) (ts.getD a (0,0,0)):=λhl=>by rw[<- zy]at hl;rw[h]at hl;cases hl
  rcases LeT.total (ts.getD a (0,0,0)) (ts.getD b (0,0,0)) with W|W
  ·show W
  ·show absurd W U
 tr:=λa b c U W=>by
  rw[zy]at *;show U.trans W
def sN {os:List Nat}(J:os.Perm (List.range ts.length))(O:Srt (xD ts) os):os.map (λi=>ts.getD i (0,0,0))=ts.mergeSort leT:=by
 apply fB ?_ ?_ (fE ts)
 ·have W:=J.map λi=>ts.getD i (0,0,0);have U:((List.range ts.length).map λi=>ts.getD i (0,0,0))=ts:=by
   apply List.ext_getElem ?_ ?_
   ·simp
   ·intro i W U;simp at W;simp[List.getD,W]
  rw[U]at W;show W.trans (List.mergeSort_perm ts leT).symm
 ·show fR.mpr (O.imp λh=>zy.mp h)
abbrev Mts (C:Addr)(h:Heap):List (Int×Int×Int)->List Value->Prop
 | []=>λvs=>vs=[]
 |t::ts=>λvs=>∃x dd ws n us,vs=.ref x::us/\h.get? x=some (zf C dd ws n)/\IntsAre ws (tl t)/\Mts C h ts us
def Mts.length:{ts:List (Int×Int×Int)}->{vs:List Value}->Mts C h ts vs->ts.length=vs.length
 | []=>λe=>e▸rfl
 |_::_=>λW=>by have#[_,_,_,_,_,e,_,_,r]:=W;show e▸di (·+1) r.length
def Mts.at (m:Mts C h ts vs)(i:Nat)(hi:i<ts.length):∃x dd ws n,vs.getD i Value.none=.ref x/\h.get? x=some (zf C dd ws n)/\IntsAre ws (tl (ts.getD i (0,0,0))):=by
 induction ts generalizing vs i with
 |nil=>show absurd hi (ou i)
 |cons t ts W =>
  have#[x,dd,ws,n,us,e,g,q,r]:=m;subst e;cases i with
  |zero=>refine#[x,dd,ws,n,rfl,g,q]
  |succ i=>show W r i (Nat.lt_of_succ_lt_succ hi)
def Mts.mono {h':Heap}(hk:jq h h'):{ts:List (Int×Int×Int)}->{vs:List Value}->Mts C h ts vs->Mts C h' ts vs
 | []=>λe=>e
 |_::_=>λW=>by have#[x,dd,ws,n,us,e,g,q,r]:=W;apply#[x,dd,ws,n,us,e,hk _ _ g (.inl #[λq=>(nomatch q),_,_,rfl]),q,r.mono hk]
def Mts.of {G:Stc}:{ts:List (Int×Int×Int)}->{vs:List Value}->VRs G h (ts.map mtV) vs->Mts G.cM h ts vs
 | []=>λe=>e
 |t::_=>λW=>by have#[_,us,e,#[a,ws,n,dd,U,g,r],rest]:=W;apply#[a,dd,ws,n,us,U▸e,g,tu (ns:=tl t) r,Mts.of rest]
def Mts.vr {G:Stc}:{ts:List (Int×Int×Int)}->{vs:List Value}->Mts G.cM h ts vs->VRs G h (ts.map mtV) vs
 | []=>λe=>e
 |t::_=>λW=>by have#[x,_,_,_,us,e,g,q,r]:=W;apply#[.ref x,us,e,.mt g (VRs.ints (ns:=tl t) q),r.vr]
def Mts.pick (m:Mts C h ts vs):(l:List Nat)->(∀i∈l,i<ts.length)->Mts C h (l.map λi=>ts.getD i (0,0,0)) (l.map λi=>vs.getD i Value.none)
 | []=>λ_=>rfl
 |i::l=>λhl=>by
  have#[x,dd,ws,n,e,g,hi]:=m.at i (hl i (.head _));apply#[x,dd,ws,n,l.map λi=>vs.getD i Value.none,di (·::_) e,g,hi,m.pick l λj W=>hl j (.tail _ W)]
section
variable {G:Stc}{A:Around}{E:QqV}{s:Shared}{σ:St}
def t7 (K:tf G){a:Addr}{n:Nat}{P:Fin->Shared->Prop}(hu:A.units<cLine)(U:∀b o,G.hb.get? b=some o->s.heap.get? b=some o)(ag:G.hb.get? a=none)(ho:IsL s.heap a vs.toArray n)(m:Mts G.cM s.heap ts vs)(hz:ts.length<=sizeLine)
  (h:∀h' J k,At a s.heap h'->IsL h' a J.toArray k->Mts G.cM s.heap (ts.mergeSort leT) J->P (.done (.ret .none)) {s with heap:=h'}):wpAny G.M A (Builtin.«list.sort» #[[.ref a],[]]) P E s:=by
 have#[N,mN,nm,q,k0,k2,k3,hC,hN,hi,ai,_]:=K.here;have W:=m.length;have frz:∀{H:Heap},(∀b o,b≠a->s.heap.get? b=some o->H.get? b=some o)->jq s.heap H:=λ{H} other b o e f=>other b o (λq=>by subst q;rw[show s.heap.get? b=_ from ho]at e;cases e;show yk rfl rfl f) e;apply jL (kd:=oneType') (GH ts) ho (by rw[<- W];show hz) (λH other h2 Q' hq=>?_) (λH other i j C hi hj hc=>?_) λos h' k hp so keep z=>?_
 ·have mH:=m.mono (frz other);apply kas_kind (T:=.ref G.cM) h2 (λv hv=>?_) (by rfl) (by simp) hq;have#[i,hi,rfl]:=fm.mp hv;have#[x,dd,ws,k,e,g,_]:=mH.at i (fb .B .k .bJ .I W hi);have e':vs[i]=.ref x:=by rw[<- e];simp[List.getD,hi]
  rw[e'];intro A Q E s' hk hq;unfold typeOf;apply ab (i7 (hk _ _ g) ?_);show af hq
 ·have mH:=m.mono (frz other);have ao:H.get? G.cM=some (eX G.cM N nm q k0 k2 k3):=other _ _ (λq=>by subst q;rw[ag]at hC;cases hC) (U _ _ hC);have aj:H.Ns N mN:=by
   have#[o,es,ep,O,r]:=hN;apply#[o,es,ep,other _ _ (λq=>by subst q;rw[ag]at O;cases O) (U _ _ O),r]
  have#[x,dd,ws,k,e,g,hx]:=mH.at i (fb .B .k .bJ .I W hi);have#[y,de,us,k',e',g',hy]:=mH.at j (fb .B .k .bJ .I W hj);show wpAny _ _ (keyLt' oneType' (vs.getD i Value.none) (vs.getD j Value.none)) _ _ _;rw[e,e'];show GC hu ao aj ai g g' hx hy rfl hc
 ·apply h h' _ k #[keep,#[_,z],λo e=>by have rfl:=ah (e.symm.trans ho);show yk rfl rfl] z ?_;rw[<- sN (by rw[W];show hp) so];apply m.pick os λi hi=>?_;have:=nI.mp (hp.mem_iff.mp hi)
  (show fb .B .k .bJ .I W this)
def AO {C:Cal}{sc:Scope}{d:Nat}{a:Ex}{o:Expr}{apos pos:Pos}(K:tf G)(ha:gc G C sc d a o)(hb:tj o=true)(J:(apos.endLine==pos.line)=true) :
  gc G C sc d (.bm .sort a .nil) (.Call (.Attribute o "sort" apos) [] [] pos):=λA E env ρ σ Q s c h =>
 sv hb rfl (by decide) J (qc (ha c h) λv σ₁ s₁ w q vr r x pl =>
  oA (k:=.sort) r vr q.1 (su rfl nz (c.go r x) q.2 λvs σ₂ s₂ ws I ag r₂ U=>by
   have O:=vr.mono U.frz;have#[b,rfl,W]:=ud (v:=v) I;have#[rfl,ts,e,W]:=wZ (vs:=vs) W;have rfl:=ag;have rfl:=O;have#[us,n,hl,hv]:=r₂.L _ _ e;have ai:=r₂.new b (.inl (by rw[e];rfl));apply mu PySem.F.slot_list_sort #[_,hl,rfl] PyProof.Rows.entry_list_sort (t7 K (by have:=c.ao.units;show A.units+1<_;(show fc .Z .a (.l (.a (.a .A (.m 30 .C)) .aV) .B) this)) r₂.base ai hl (Mts.of hv) (nh (by have:=r₂.Ll _ _ e;rwa [aw]at this)) λh' ar k z aj m'=>#[_,rfl,?_]) (PyProof.Rows.args_list_sort _);have hz:((ts.mergeSort leT).map mtV).length<=bz:=by
    have:=(List.mergeSort_perm ts leT).length_eq;have h2:=r₂.Ll _ _ e;rw[aw]at h2 ⊢;rw[this];show h2
   have R':=r₂.putL z (λq=>by rw[e]at q;cases q) aj m'.vr hz;apply#[.none,_,W,.none,R',x.trans (U.to (Evo.putL z (λq=>by rw[e]at q;cases q) _))]))
end
structure pv (G:Stc)(fN fM:Addr):Prop where
 made:Looks G.M G.hb (Bind.madeBy (.ref G.cM)) none
 here:Looks G.M G.hb (Bind.madeHere "tuple.__new__" (.ref G.cM)) ()
 chk:∀x,Looks G.M G.hb (checkBuiltinCall "tuple.__new__" #[[.ref G.cM,x],[]]) ()
 mro:Looks G.M G.hb (mroOf (.ref G.cM)) [.ref G.cM,.type "tuple",.type "object"]
 self:Looks G.M G.hb (isSubtype (.ref G.cM) (.ref G.cM)) true
 tup:Looks G.M G.hb (isSubtype (.ref G.cM) (.type "tuple")) true
 init:Looks G.M G.hb (typeLookup (.ref G.cM) "__init__") (some (.builtin "object.__init__"))
 call:Looks G.M G.hb (specialOf (.ref G.cM) "__call__") (some (.builtin "type.__call__"))
 typ:Looks G.M G.hb (isInstance (.ref G.cM) (.type "type")) true
 isT:Looks G.M G.hb (isType (.ref G.cM)) true
 del:Looks G.M G.hb (classHasDel G.cM) false
 new:∀(A:Around) (E:QqV) (s:Shared) (Q:QqV),(∀b o,G.hb.get? b=some o->s.heap.get? b=some o)->Q (.ref fN) {s with toks:=s.toks+1}->wpAny G.M A (getAttr (.ref G.cM) "__new__") Q E s
 make:∀(A:Around) (E:QqV) (s:Shared) (expr:Bool) (Q:QqV),(∀b o,G.hb.get? b=some o->s.heap.get? b=some o)->Q (.ref s.heap.objs.size) {s with heap:=s.heap.push {cls:=.type "method",data:=.fields #v[.ref fM,.ref G.cM]},toks:=s.toks+1}->wpAny G.M A (getAttr (.ref G.cM) "_make" expr) Q E s
 typNew:∀(A:Around) (E:QqV) (s:Shared) (expr:Bool) (Q:QqV),Q (.builtin "tuple.__new__") {s with toks:=s.toks+1}->wpAny G.M A (getAttr (.type "tuple") "__new__" expr) Q E s
def uR:plainId "tuple.__new__"=true:=by decide +kernel
def vM:entryFor table "tuple.__new__"=some Builtin.«tuple.__new__»:=dG (by kernel_rfl)
section
variable {G:Stc}{A:Around}{E:QqV}{s:Shared}{fN fM:Addr}
public abbrev cV (G:Stc)(h:Heap):Prop:=∀b o,G.hb.get? b=some o->h.get? b=some o
def yG (K:pv G fN fM){x:Addr}{ws:List Value}{n:Nat}{Q:QqV}(hb:cV G s.heap)(O:IsT s.heap x ws.toArray n)(hz:ws.length<=bz)
  (h:∀h' y dd,(∀b o,s.heap.get? b=some o->h'.get? b=some o)->s.heap.get? y=none->h'.get? y=some (zf G.cM dd ws 0)->Q (.ref y) {s with heap:=h'}) :
  wpAny G.M A (call (.builtin "tuple.__new__") [.ref G.cM,.ref x]) Q E s:=by
 apply rg (eD uR vM ((K.chk (.ref x)) _ _ _ _ hb ?_));unfold Builtin.«tuple.__new__»;dsimp only;apply ab (K.isT _ _ _ _ hb ?_);simp -iota only[yw,fw,kn];apply ab (K.tup _ _ _ _ hb ?_);simp -iota only[yw,fw,kn];apply ab (K.here _ _ _ _ hb ?_);apply ab (K.init _ _ _ _ hb ?_);rw[cp (by decide)];have U:ws.toArray.size<=sizeLine:=by rw[cw];show nh hz
 apply ab (fo (a:=()) rfl ?_);apply ab (fo (a:=()) rfl ?_);apply ab ?_;apply wpAny_collect_seq x (.inr rfl) O rfl rfl (λh₁ W=>ab (af ?_)) U;apply ab (wpAny_alloc ?_);unfold newObj newObjAsIs;dsimp only;rw[bb (by simp only[cw]at U ⊢;(show av .bH .a .a4 U))];apply ab (ab (wpAny_alloc ?_));have hk:∀b o,s.heap.get? b=some o->((h₁.push {cls:=.type "dict",data:=.dict #v[]}).push (zf G.cM (some h₁.objs.size) ws 0)).get? b=some o:=λb o e=>ba _ (ba _ (W b o e));have e:ws.toArray.toList.toArray=ws.toArray:=by simp
 apply ab (K.del _ _ _ _ (λb o e=>hk b o (hb b o e)) ?_);simp -iota only[fw,kn];apply af (af ?_);have J:(h₁.push {cls:=.type "dict",data:=.dict #v[]}).objs.size=h₁.objs.size+1:=ic ..;show Q (.ref (h₁.push {cls:=.type "dict",data:=.dict #v[]}).objs.size) _;apply h _ _ (some h₁.objs.size) hk ?_ (eg _ rfl);rw[J];cases hq:s.heap.get? (h₁.objs.size+1) with
 |none=>rfl
 |some o=>show absurd (ip (W _ _ hq)) (ru.mpr (fO _))
abbrev qH (p0 p1 p2 p3 p4 p5 p6 p7 p8 p9 p10:Pos)(doc:Str)(c0 c1:Nat):List Stmt:=
 [.Expr (.Constant (.str doc) c0 p0) p1,.Return (some (.Call (.Attribute (.Name "tuple" p2) "__new__" p3) [.Name "_cls" p4,.Tuple [.Name "a" p5,.Name "b" p6,.Name "size" p7] c1 p8] [] p9)) p10]
abbrev ze (more:List (Str×Const)):Scope:=
 {kind:=.function,names:=[("_cls",.local),("a",.local),("b",.local),("size",.local),("tuple",.globalImplicit)],isGenerator:=false,isCoroutine:=false,more:=more}
def pW {C:Cal}{sc:Scope}{d:Nat}{x:Str}{k:Nat}{p pos:Pos}:yg G C sc d .pass (.Expr (.Constant (.str x) k p) pos):=λA E env ρ σ K s c h =>
 wpAny_Expr (by
  show wpAny _ _ (mkText x) _ _ s;apply wpAny_mkText ?_;show qj.here .next h c.F c.R) (by unfold interactive;rw[c.eo.kind];rfl) (dI rfl _ _ _)
def zJ (K:pv G fN fM){W:Sem Bool}{Q:Value×List Value->Shared->Prop}(h:Q (.builtin "tuple.__new__",[]) {s with toks:=s.toks+1}):wpAny G.M A (getMethod (.type "tuple") "__new__" W) Q E s:=by
 unfold getMethod specialOf;have U:typeOf (.type "tuple")=pure (.type "type"):=by first|rfl|kernel_rfl
 apply ab (ab (fo U (fo KF.slot_tga.lookup ?_)));dsimp only;rw[cp canon_tga];show ab (K.typNew _ _ _ _ _ (af h))
variable {σ:St}
def oT {C:Cal}{sc:Scope}{d:Nat}{env:Env}{ρ:Fr}{c e:Ex}{B I:Expr}{p apos pos:Pos}{vs:List V}{τ:St->Prop}{Q:QqV}(Kg:GOk G)(K:pv G fN fM)(hc:gc G C sc d c B)(he:gc G C sc d e I)(W:noStar [B,I]=true)(U:(apos.endLine==pos.line)=true)
  (hx:sc.names.lookup ("tuple":Str)=some .globalImplicit) (hg:G.gl "tuple"=some (.type "tuple")) (z:Cx G sc d A env ρ σ s)
  (hw:wpE C c ρ σ λv σ'=>wpE C e ρ σ' λu O=>v=.obj G.cM/\u=.T vs/\vs.length<=bz/\τ O)
  (k:∀σ₁ s₁ y,τ σ₁->VR G s₁.heap (.mt vs) (.ref y)->Rel G σ₁ s₁.heap->Go [] σ s σ₁ s₁->Q (.ref y) s₁) :
  wpAny G.M A (eval (.Call (.Attribute (.Name "tuple" p) "__new__" apos) [B,I] [] pos) env) Q E s:=by
 apply sv rfl W (by simp) U (mh Kg z.eo z.R (by rw[z.es];show hx) (by decide) hg λpl=>?_);apply zJ K ?_;have ag:pe G C sc d %[c,e|0] [B,I]:=jx hc (jx he nz (gm (gm W).2).1) (gm W).1;apply su (P:=λus σ=>on2 us λv u=>v=.obj G.cM/\u=.T vs/\vs.length<=bz/\τ σ) W ag (z.at (s₁:={s with toks:=s.toks+1}) z.F z.R) hw λus σ₁ s₁ ws q vr r J=>?_;have#[v,u,rfl,rfl,rfl,hz,q]:=oK (vs:=us) q;have#[w1,w2,rfl,rfl,a,us,n,rfl,g,rr]:=vr.two;apply yG K r.base g (by rw[<- rr.length];show hz) λh' y dd hk hy hm=>?_;show k σ₁ _ y q (.mt hm (rr.mono λb o e _=>hk b o e)) (r.keeps hk) ((Go.refl.tok.trans J).to (Evo.keeps hk))
def zi {n:Nat}{dflt:List V}{b:pq}{vs:List V}{i:Nat}{v:V}(h:vs[i]?=some v):frameOf #[n,dflt,b] vs i=some v:=by
 unfold frameOf gI;rw[er (cy.mp h).1];show h
def nV {d:Nat}{p0 p1 p2 p3 p4 p5 p6 p7 p8 p9 O:Pos}{doc:Str}{c0 c1:Nat}{more:List (Str×Const)}{x y z:V}{wx wy wz:Value}{Q:V->St->Prop}(Kg:GOk G)(K:pv G fN fM)(Kf:FnAt G fN 4 [] (ze more) (qH p0 p1 p2 p3 p4 p5 p6 p7 p8 p9 O doc c0 c1))(U:(p3.endLine==p9.line)=true)(hg:G.gl "tuple"=some (.type "tuple"))
  (ao:AOk A (d+1)) (R:Rel G σ s.heap) (vx:VR G s.heap x wx) (vy:VR G s.heap y wy) (vz:VR G s.heap z wz) (h:Q (.mt [x,y,z]) σ):wpAny G.M A (call (.ref fN) [.ref G.cM,wx,wy,wz]) (jr G [] σ s Q) E s:=by
 apply pD (b:=.nil) (vs:=[.obj G.cM,x,y,z]) (d:=d) Kf (λA' E' env s' c=>?_) ao R %[.obj _,vx,vy,vz|0] (by simp) (by simp);have B:Cal:=λ_ _ _ _=>False;have l:∀(i:Nat) (nm:Str) (p:Pos),(ze more).names[i]?=some (nm,.local)->jh nm=true->gc G B (ze more) d (.l i) (.Name nm p):=λi nm p hi hn=>kI hi rfl hn;apply sr (dj (pW (C:=B) (K:=λfl ρ' σ'=>fl=.next/\ρ'=frameOf #[4,[],.nil] [.obj G.cM,x,y,z]/\σ'=σ) c #[rfl,rfl,rfl]) (λf ag lf=>?_) λ_ _ x=>x);have#[fl,ρ',σ',fr,#[rfl,rfl,J],I,R2,x2]:=lf;rw[J]at I R2 x2;cases fr;apply sr (wpAny_Return_some ?_);have ht:gc G B (ze more) d (.T %[.l 1,.l 2,.l 3|0]) (.Tuple [.Name "a" p5,.Name "b" p6,.Name "size" p7] c1 p8):=
  wM (jx (l 1 _ _ rfl (by decide)) (jx (l 2 _ _ rfl (by decide)) (jx (l 3 _ _ rfl (by decide)) nz λ_=>rfl) λ_=>rfl) λ_=>rfl)
 apply oT (vs:=[x,y,z]) (τ:=λσ'=>σ'=σ) Kg K (l 0 _ _ rfl (by decide)) ht rfl U rfl hg (c.at I R2) ?_ λσ₁ s₁ yy q vr r W=>?_
 ·apply#[.obj G.cM,zi rfl,x,zi rfl,y,zi rfl,z,zi rfl,bx rfl,rfl,rfl,bx rfl,rfl]
 ·rw[q]at r W;apply#[.ret (.mt [x,y,z]),_,σ,.ret vr,h,I.evo W.e,r,x2.trans W.wide]
end
variable {y:Addr}{dd:Option Addr}{ws:List Value}{n:Nat}
def lL:Slot "object" "__init__" "object.__init__":=
 Slot.of (owner:="object") (n:="__init__") (by rw[gk,fe];kernel_rfl) (by decide +kernel) (by decide +kernel) (by decide +kernel) (.inl (by decide +kernel)) (by rw[lz];kernel_rfl)
def sV:entryFor table "object.__init__"=some Builtin.«object.__init__»:=dG (by kernel_rfl)
def uU:builtinKind "object.__init__"=some .slot:=by kernel_rfl
def sU:splitId "object.__init__"=some ("object","__init__"):=by kernel_rfl
def uV (a:Value)(rest:List Value):argsOk "object.__init__" #[a::rest,[]]:=by unfold argsOk;kernel_rfl
section
variable {G:Stc}{A:Around}{E:QqV}{s:Shared}{fN fM:Addr}{σ:St}
def lR (K:pv G fN fM){h:Heap}{base:Value}{r:Bool}(hb:cV G h)(W:h.get? y=some (zf G.cM dd ws n))(U:Looks G.M G.hb (isSubtype (.ref G.cM) base) r):Looks G.M h (isInstance (.ref y) base) r:=λA Q E s hk O=>by
 unfold isInstance typeOf;apply ab (ab (i7 (hk _ _ W) (af ?_)));show U _ _ _ _ (λb o e=>hk _ _ (hb _ _ e)) O
def zH (K:pv G fN fM){rest:List Value}{P:Fin->Shared->Prop}(hb:cV G s.heap)(O:s.heap.get? y=some (zf G.cM dd ws n))(U:P (.done (.ret .none)) s) :
  wpAny G.M A (Builtin.«object.__init__» #[.ref y::rest,[]]) P E s:=by
 have W:∀{R:QqV},R (.ref G.cM) s->wpAny G.M A (typeOf (.ref y)) R E s:=λ{R} hr=>by
  unfold typeOf;show ab (i7 O (af hr))
 unfold Builtin.«object.__init__»;dsimp only;by_cases hr:(!rest.isEmpty||!([]:List (Str×Value)).isEmpty)=true
 ·rw[cp hr];apply ab (W (ab (K.init _ _ _ _ hb (ab (K.made _ _ _ _ hb ?_)))));have I:(some (Value.builtin "object.__init__") != some (Value.builtin "object.__init__"))=false:=bne_self_eq_false _;have J:((none:Option String) != some "object.__new__")=true:=rfl;rw[I,J];show af U
 ·rw[bb hr];show af U
def zI (K:pv G fN fM)(W:Looks G.M G.hb (isSubtype (.ref G.cM) (.type "object")) true){n:Nat}{rest:List Value}{Q:QqV}(hb:cV G s.heap)(U:s.heap.get? y=some (zf G.cM dd ws n))(O:Q .none s) :
  wpAny G.M A (call (.builtin "object.__init__") (.ref y::rest)) Q E s:=by
 have J:∀(A:Around) (E:QqV) (R:Unit->Shared->Prop),R () s->wpAny G.M A (checkBuiltinCall "object.__init__" #[.ref y::rest,[]]) R E s:=λA E R hr =>
  check_slot (M:=G.M) (i:="object.__init__") (owner:="object") (n:="__init__") (self:=.ref y) (rest:=rest) (kw:=[]) uU sU (lR K hb U W) (uV (.ref y) rest) hr
 apply rg ?_;apply eD (id:="object.__init__") (b:=Builtin.«object.__init__») lL.plain sV ?_;apply J _ _ _ ?_;show zH K hb U O
def pT (K:pv G fN fM)(W:Looks G.M G.hb (isSubtype (.ref G.cM) (.type "object")) true){rest:List Value}{Q:Option Value->Shared->Prop}(hb:cV G s.heap)(J:s.heap.get? y=some (zf G.cM dd ws n))(I:Q (some .none) s) :
  wpAny G.M A (callSpecial? (.ref y) "__init__" rest []) Q E s:=by
 have U:∀{R:QqV},R (.ref G.cM) s->wpAny G.M A (typeOf (.ref y)) R E s:=λ{R} hr=>by
  unfold typeOf;show ab (i7 J (af hr))
 have O:∀{R:Option Value->Shared->Prop},R (some (.builtin "object.__init__")) s->wpAny G.M A (specialOf (.ref y) "__init__") R E s:=λ{R} hr=>by
  unfold specialOf;show ab (U (K.init _ _ _ _ hb hr))
 unfold callSpecial?;apply ab (O ?_);dsimp only;apply dp ?_;apply ab (fo (lL.bind (.ref y)) ?_);apply ab ?_;show zI K W hb J (af I)
structure pH (G:Stc)(fN:Addr):Prop where
 fn:∃p0 p1 p2 p3 p4 p5 p6 p7 p8 p9 p10 doc c0 c1 more,FnAt G fN 4 [] (ze more) (qH p0 p1 p2 p3 p4 p5 p6 p7 p8 p9 p10 doc c0 c1)/\(p3.endLine==p9.line)=true
 tup:G.gl "tuple"=some (.type "tuple")
 obj:Looks G.M G.hb (isSubtype (.ref G.cM) (.type "object")) true
def kU {d:Nat}{x y z:V}{wx wy B:Value}{Q:V->St->Prop}{P:Fin->Shared->Prop}(Kg:GOk G)(K:pv G fN fM)(J:pH G fN)(ao:AOk A (d+1))(R:Rel G σ s.heap)(vx:VR G s.heap x wx)(vy:VR G s.heap y wy)(vz:VR G s.heap z B)(h:Q (.mt [x,y,z]) σ)
  (hP:∀w s',jr G [] σ s Q w s'->P (.done (.ret w)) s'):wpAny G.M A (Builtin.«type.__call__» #[[.ref G.cM,wx,wy,B],[]]) P E s:=by
 have#[p0,p1,p2,p3,p4,p5,p6,p7,p8,p9,ag,doc,c0,c1,more,Kf,W]:=J.fn;have hb:cV G s.heap:=R.base;unfold Builtin.«type.__call__»;dsimp only;rw[bb (show ¬((Value.ref G.cM==Value.type "type")=true) from gx)];apply ab (K.mro _ _ _ _ hb ?_);rw[bb (by simp)];apply ab (K.made _ _ _ _ hb ?_);dsimp only;apply ab (K.new _ _ _ _ hb ?_);apply ab (dp ?_);apply dj (nV (Q:=λv σ'=>v=.mt [x,y,z]/\σ'=σ) Kg K Kf W J.tup ao R vx vy vz #[rfl,rfl]) (λw s' l=>?_) λ_ _ e=>e;have#[v,σ',#[rfl,O],vr,r,I]:=l;rw[O]at r I;have#[yy,ws,n,dd,rfl,g,rr]:=vr;have U:cV G s'.heap:=r.base;apply ab ((lR K U g K.self) _ _ _ s' (λ_ _ e=>e) ?_);simp only[yw,fw,kn];apply ab (dp (pT K J.obj U g ?_));simp only[bne_self_eq_false,fw,kn];show af (hP _ _ #[_,σ,h,.mt g rr,r,Go.refl.tok.trans I])
def vX {d:Nat}{x y z:V}{O U W:Value}{Q:V->St->Prop}(Kg:GOk G)(K:pv G fN fM)(Kn:pH G fN)(Km:tf G)(ao:AOk A (d+2))(R:Rel G σ s.heap)(vx:VR G s.heap x O)(B:VR G s.heap y U)(I:VR G s.heap z W)(h:Q (.mt [x,y,z]) σ) :
  wpAny G.M A (call (.ref G.cM) [O,U,W]) (jr G [] σ s Q) E s:=by
 have#[N,mN,nm,q,k0,k2,k3,hC,hN,_]:=Km.here;have J:=R.base _ _ hC;apply rg (ug ?_);show wpAny _ A.in1 (callAny (.ref G.cM) #[[O,U,W],[]]) _ _ s;unfold callAny;apply ab (yh J ?_);show wpAny _ _ (callAny.viaDunder (.ref G.cM) #[[O,U,W],[]]) _ _ s;unfold callAny.viaDunder;apply ab (K.call _ _ _ _ R.base ?_);dsimp only;apply ab (fo (tc_bind (.ref G.cM)) ?_);dsimp only;apply ab (fo (a:=true) (by rfl) ?_);rw[cp rfl];apply af #[rfl,?_];apply codeAny_call_builtin_at (iE _ (by decide +kernel)) entry_typeCall ?_;apply check_slot (M:=G.M) (i:="type.__call__") (owner:="type") (n:="__call__") tc_kind tc_split (K.typ.keeps R.base) (tc_args _ _ _) ?_;apply kU (d:=d) Kg K Kn (ao.make _ _) R vx B I h λw s' l=>?_;show l
end
end MP
end
section
namespace MP
open PySem PyProof.Rows PySem.W
section
variable {G:Stc}{A:Around}{E:QqV}{s:Shared}{fN fM:Addr}{σ:St}
def mX (K:pv G fN fM)(J:tf G){pos:Pos}{args:List (Bool×Sem Value)}{Q:QqV}(W:args.any (·.1)=false)
  (h:wpAny G.M A (evalArgs (.ref G.cM) true args []) (λx s₁=>cV G s₁.heap/\wpAny G.M A (call (.ref G.cM) x.pos x.kw) Q E s₁) E s):wpAny G.M A (callWith pos (.ref G.cM) [] args []) Q E s:=by
 have#[N,mN,nm,q,k0,k2,k3,O,I,_]:=J.here;unfold callWith;apply ab (dp (dj h (λx s₁ h₁=>ab (gw ?_)) λ_ _ x=>x));have#[hb,U]:=h₁;simp -iota only[W,List.any_nil,gM];apply ab (m:=keeperOf (.ref G.cM)) ?_;unfold keeperOf;apply ab (yh (hb _ _ O) ?_);apply ab (K.call _ _ _ _ hb ?_);rw[cp (by decide)];apply af ?_;show ab (dj U (λr s₂ hr=>ab (dp (wpAny_point (af hr)))) λ_ _ x=>x)
def pU {C:Cal}{sc:Scope}{d:Nat}{a b c:Ex}{x:Str}{I J O:Expr}{p pos:Pos}(Kg:GOk G)(K:pv G fN fM)(Kn:pH G fN)(Km:tf G)(hd:2<=d)(ha:gc G C sc d a I)(hb:gc G C sc d b J)(hc:gc G C sc d c O)(W:noStar [I,J,O]=true)
  (hx:sc.names.lookup x=some .globalImplicit) (hn:jh x=true) (hv:G.gl x=some (.ref G.cM)):gc G C sc d (.N a b c) (.Call (.Name x p) [I,J,O] [] pos):=λA E env ρ σ Q s z h=>by
 have B:pe G C sc d %[a,b,c|0] [I,J,O]:=jx ha (jx hb (jx hc nz (gm (gm (gm W).2).2).1) (gm (gm W).2).1) (gm W).1;have ag:AOk A (d-2+2):=by rw[aa hd];show z.ao
 apply Call_ (mh Kg z.eo z.R (by rw[z.es];show hx) hn hv (mX K Km (jy W pos env) (om (jy W pos env) (nP (P:=λvs σ=>on3 vs λx y z=>Q (.mt [x,y,z]) σ) (B z h) λvs σ₁ s₁ ws q vr r U=>#[r.base,?_]))));have#[u1,u2,u3,rfl,q]:=LQ q;have#[w1,w2,w3,rfl,va,vb,vc]:=vr.three;show U.back (vX Kg K Kn Km ag r va vb vc q)
def uE:splitId "tuple.__len__"=some ("tuple","__len__"):=by kernel_rfl
def zD:builtinKind "tuple.__len__"=some .slot:=by kernel_rfl
end
section
variable {prog:Program}{w:World}{A:Around}{E:QqV}{h:Heap}{g:Array GenState}{d:Drawn}{t:Nat}{os:OsState}{C N:Addr}{nm q:Str}{k0 k2 k3:Option Value}{mN:Str->Option Value}{dd:Option Addr}
def LZ {x:Addr}{ws:List Value}{n:Nat}{Q:QqV}(J:h.get? C=some (eX C N nm q k0 k2 k3))(I:h.Ns N mN)(hl:mN "__len__"=none)(O:h.get? x=some (zf C dd ws n))(hz:ws.length<=bz)
  (B:∀u tk,Q (.int ws.length u) #[h,g,d,tk,os]):wpAny (model prog w) A (call (.builtin "len") [.ref x]) Q E #[h,g,d,t,os]:=by
 apply Calls.call_function_entry kind_len plain_len entry_len (args_len1 _) ?_;unfold Builtin.«len»;have U:=PySem.F.slot_tuple_len.lookup;have W:h.get? x=some {cls:=.ref C,dict:=dd,data:=.seq ws.toArray n,slots:=#v[]}:=O;unfold bz at hz
 repeat (first|(with_reducible refine qk W ?_)|(with_reducible refine wq J I U ?_;rw[hl])|wp_step)
 apply fo (PySem.F.slot_tuple_len.bind (.ref x)) ?_;dsimp only;apply ab (vA J O uE (.inl zD) PySem.F.slot_tuple_len.plain PySem.F.entry_tuple_len (PySem.F.args_tuple_len_1 _) ?_);unfold Builtin.«tuple.__len__»;apply ab (fo (a:=(.ref x,[])) (by rfl) ?_);dsimp only;apply ab (m:=Builtin.Tuple.tupleItemsOf (.ref x)) (ab (vp W rfl (af ?_)));apply ab (wpAny_mkInt (af #[_,rfl,af ?_]));dsimp only;apply ab (dp ?_);apply fo (a:=((ws.toArray.size:Nat):Int)) (by rfl) ?_;apply ab (wpAny_letGo ?_);rw[bb (by simp),bb (by simp only[cw];(show fh (.ij .M .L) .a .b3 hz))];apply ab (wpAny_mkInt (af #[_,rfl,?_]));simpa using B _ _
end
section
variable {G:Stc}{A:Around}{E:QqV}{s:Shared}{fN fM:Addr}{σ:St}
abbrev lP (p:Fin 20->Pos)(doc:Str)(c0 c1:Nat)(rest:List Stmt):List Stmt:=
 [.Expr (.Constant (.str doc) c0 (p 0)) (p 1),.Assign [.Name "result" (p 2)] (.Call (.Attribute (.Name "tuple" (p 3)) "__new__" (p 4)) [.Name "cls" (p 5),.Name "iterable" (p 6)] [] (p 7)) (p 8),
  .If (.Compare (.Call (.Name "len" (p 9)) [.Name "result" (p 10)] [] (p 11)) [.NotEq] [.Constant (.int 3) c1 (p 12)] (p 13)) rest [] (p 14),.Return (some (.Name "result" (p 15))) (p 16)]
abbrev pk (ns:List (Str×NameKind))(more:List (Str×Const)):Scope:=
 {kind:=.function,names:=("cls",.local)::("iterable",.local)::("result",.local)::ns,isGenerator:=false,isCoroutine:=false,more:=more}
def zP {d:Nat}{p:Fin 20->Pos}{doc:Str}{c0 c1:Nat}{rest:List Stmt}{ns:List (Str×NameKind)}{more:List (Str×Const)}{x y z:V}{w:Value}{Q:V->St->Prop}(Kg:GOk G)(K:pv G fN fM)(Km:tf G)(Kf:FnAt G fM 2 [] (pk ns more) (lP p doc c0 c1 rest))(J:((p 4).endLine==(p 7).line)=true)(hg:G.gl "tuple"=some (.type "tuple"))(ag:G.gl "len"=some (.builtin "len"))
  (ht:(pk ns more).names.lookup ("tuple":Str)=some .globalImplicit) (hl:(pk ns more).names.lookup ("len":Str)=some .globalImplicit)
  (ao:AOk A (d+1)) (R:Rel G σ s.heap) (vx:VR G s.heap (.T [x,y,z]) w) (h:Q (.mt [x,y,z]) σ):codeAny G.M A (.call (.ref fM) #[[.ref G.cM,w],[]]) (wants (jr G [] σ s Q) E) s:=by
 have#[N,mN,nm,q,k0,k2,k3,hC,hN,_,_,bd,_]:=Km.here;apply pA (b:=.nil) (vs:=[.obj G.cM,.T [x,y,z]]) (d:=d) Kf (λA' E' env s' c=>?_) ao R %[.obj _,vx|0] (by simp) (by simp);have C0:Cal:=λ_ _ _ _=>False;have l:∀(i:Nat) (nm:Str) (p:Pos),(pk ns more).names[i]?=some (nm,.local)->jh nm=true->gc G C0 (pk ns more) d (.l i) (.Name nm p):=λi nm p hi hn=>kI hi rfl hn;apply sr (dj (pW (C:=C0) (K:=λfl ρ' σ'=>fl=.next/\ρ'=frameOf #[2,[],.nil] [.obj G.cM,.T [x,y,z]]/\σ'=σ) c #[rfl,rfl,rfl]) (λf bp lf=>?_) λ_ _ x=>x);have#[fl,ρ',σ',fr,#[rfl,rfl,bc],F2,R2,x2]:=lf;rw[bc]at F2 R2 x2;cases fr;apply sr ?_;rw[exec_Assign];apply ab (gw ?_);rw[wc rfl];apply ab (af ?_);rw[bb (by decide)];apply ab (oT (vs:=[x,y,z]) (τ:=λσ'=>σ'=σ) Kg K (l 0 _ _ rfl (by decide)) (l 1 _ _ rfl (by decide)) rfl J ht hg (c.at F2 R2) #[.obj G.cM,zi rfl,.T [x,y,z],zi rfl,rfl,rfl,bx rfl,rfl] λσ₁ s₁ yy I vr r U=>?_);rw[I]at r U;rw[pS (sc:=pk ns more) (r:=none) rfl c.es (by unfold Env.blockKind;rw[c.eo.kind];rfl)];apply ab (af ?_);show wpAny G.M A' (do assignAll (.ref yy) [assign (.Name "result" (p 2)) env];pure Flow.next) _ _ _;apply ab ?_;show wpAny G.M A' (assign (.Name "result" (p 2)) env (.ref yy)) _ _ _;apply assign_Name (fW (X:=envX env) (i:=2) (k:=.local) c.eo (F2.evo U.e) r (by rw[c.es];rfl) rfl (λ_ _ e=>nomatch e) vr (.head _) (λ_ _ e=>nomatch e) λW F3 R3 x3=>af ?_);dsimp only;have#[_,ws,n,dd,ey,g,rr]:=vr.mono x3.frz;cases ey;have br:=rr.length;have B:upd (frameOf #[2,[],.nil] [.obj G.cM,.T [x,y,z]]) 2 (V.mt [x,y,z]) 2=some (.mt [x,y,z]):=cn _ _ _;apply sr (wpAny_If ?_);apply d6 ?_ rfl;have aj:cV G W.heap:=R3.base;have ai:∀(E:QqV) (Q:QqV) (tk:Nat) (pp:Pos),(∀w,VR G W.heap (.mt [x,y,z]) w->Q w {W with toks:=tk})->wpAny G.M A' (eval (.Name "result" pp) env) Q E {W with toks:=tk}:=λE Q tk pp hq =>
  wpAny_Name (gV (s:={W with toks:=tk}) (i:=2) (k:=.local) c.eo F3 (by rw[c.es];rfl) rfl (by decide) B hq) (by decide)
 apply Call_ (mh Kg c.eo R3 (by rw[c.es];show hl) (by decide) ag ?_);apply Calls.callWith_builtin rfl (Calls.evalArgs_plain (Calls.spliced_cons (ai _ _ _ _ λw ar=>jV ?_)));have#[be,bl,n',bt,rfl,g',ay]:=ar;have O:=ay.length;apply LZ (aj _ _ hC) (hN.keeps aj) bd g' (by rw[<- O];simp[bz]) λu bn=>?_;apply wpAny_Constant_int ?_;rw[<- O];apply ne_int (uo ?_);have e:((([x,y,z]:List V).length:Int) != 3)=false:=rfl;rw[e];apply wpAny_execs_nil ?_;dsimp only;apply sr (wpAny_Return_some (ai _ _ _ _ λw2 ax=>?_));apply#[.ret (.mt [x,y,z]),_,σ,.ret ax,h,F3,R3,x2.trans (U.wide.trans x3.tok)]
end
end MP
end
section
namespace MP
open PySem PyProof.Rows PySem.W
def oH:Manifest.owners.lookup (String.ofList ['p','a','m'].reverse)=some Manifest.sig_map:=by kernel_rfl
def yo:Slot "map" "__next__" "map.__next__":=
 .of (owner:="map") (n:="__next__") (by rw[gk,fe];kernel_rfl) (by decide +kernel) (by decide +kernel) (by decide +kernel)
  (by first|show .inl (by decide +kernel)|show .inr (by decide +kernel)) (by rw[lz];kernel_rfl)
def fC:Slot "map" "__iter__" "map.__iter__":=
 .of (owner:="map") (n:="__iter__") (by rw[gk,fe];kernel_rfl) (by decide +kernel) (by decide +kernel) (by decide +kernel)
  (by first|show .inl (by decide +kernel)|show .inr (by decide +kernel)) (by rw[lz];kernel_rfl)
def nN:Slot "map" "__init__" "object.__init__":=
 .of (owner:="object") (n:="__init__") (by rw[gk,fe];kernel_rfl) (by decide +kernel) (by decide +kernel) (by decide +kernel)
  (by first|show .inl (by decide +kernel)|show .inr (by decide +kernel)) (by rw[lz];kernel_rfl)
def mO:entryFor table "map.__next__"=some Builtin.«map.__next__»:=dG (by kernel_rfl)
def nT:entryFor table "map.__new__"=some Builtin.«map.__new__»:=dG (by kernel_rfl)
def mP:entryFor table "map.__iter__"=some Builtin.«dict_keyiterator.__iter__»:=
 entryFor_alias (id':="dict_keyiterator.__iter__") (by kernel_rfl) (by first|rfl|decide +kernel|(unfold String.splitOn;simp +decide [String.splitOnAux])) (by decide +kernel) (by kernel_rfl)
def nX (a:Value):argsOk "map.__next__" #[[a],[]]:=by
 unfold argsOk;rw[kC (id:="map.__next__") (n:=['_','_','t','x','e','n','_','_']) (o:=['p','a','m']) (by kernel_rfl) oH];kernel_rfl
def nY (a:Value):argsOk "map.__iter__" #[[a],[]]:=by
 unfold argsOk;rw[kC (id:="map.__iter__") (n:=['_','_','r','e','t','i','_','_']) (o:=['p','a','m']) (by kernel_rfl) oH];kernel_rfl
def u6 (a b c:Value):argsOk "object.__init__" #[[a,b,c],[]]:=by
 unfold argsOk;rw[kC (id:="object.__init__") (n:=['_','_','t','i','n','i','_','_']) (o:=['t','c','e','j','b','o']) (by kernel_rfl) F.owner_object];kernel_rfl
def x9:mroOf (.type "map")=pure [.type "map",.type "object"]:=by rw[mroOf_type];kernel_rfl
def lQ:typeLookup (.type "map") "__new__"=pure (some (.builtin "map.__new__")):=by rw[gk,fe];kernel_rfl
def vV:TypeCalled "map" "map.__new__" "object.__init__":=
 #[by decide +kernel,by decide +kernel,#[_,_,x9],madeBy_type x9 lQ (by decide +kernel),by decide +kernel,by rw[lz];kernel_rfl,nN]
def pO (a b:Value):checkTypeCall "map" #[[a,b],[]]=pure ():=by kernel_rfl
def sY (a b:Value):checkBuiltinCall "map.__new__" #[[.type "map",a,b],[]]=pure ():=by kernel_rfl
def v5:typeLookup (.type "map") "__len__"=pure none:=by rw[gk,fe];kernel_rfl
def t6:typeLookup (.type "map") "__length_hint__"=pure none:=by rw[gk,fe];kernel_rfl
def ES:isSubtype (.type "map") (.type "map")=pure true:=by rw[lz];kernel_rfl
variable {f:Value}
public abbrev jR (h:Heap)(m t it:Addr)(f:Value):Prop:=h.get? m=some {cls:=.type "map",data:=.fields #v[.ref t,f]}/\h.get? t=some {cls:=.type "tuple",data:=.seq #v[.ref it]}
section
variable {prog:Program}{w:World}{A:Around}{E:QqV}{s:Shared}
def GA (f:Value)(l:Addr)(items:Array Value) :
  Meets (Builtin.«map.__new__» #[[.type "map",f,.ref l],[]]) (λ_ R s=>s.heap.IsList l items /\
   R (.ok (.ret (.ref (s.heap.objs.size+2)))) {s with heap:=((s.heap.push {cls:=.type "list_iterator",data:=.fields #v[.ref l,.int 0 0]}).push {cls:=.type "tuple",data:=.seq #v[.ref s.heap.objs.size]}).push {cls:=.type "map",data:=.fields #v[.ref (s.heap.objs.size+1),f]}}):=
 .of_wp λprog w A R s h=>by
  have#[U,h]:=h;have W:(s.heap.push {cls:=.type "list_iterator",data:=.fields #v[.ref l,.int 0 0]}).objs.size=s.heap.objs.size+1:=ic ..;unfold Builtin.«map.__new__» Builtin.SmallTypes.newClass;apply ab ?_;dsimp only;apply ab (fo (a:=true) (by rfl) ?_);rw[bb (by decide)];apply ab (fo (a:=true) ES ?_);rw[bb (by decide)];apply af ?_;dsimp only;apply ab (fo (a:=()) (by rfl) ?_);rw[bb (by simp)];unfold Builtin.SmallTypes.iterAll;apply ab ?_;simp only[List.drop_succ_cons,qq,ow,oj];apply ab (ab (ab (dp (jT U (af ?_)))));dsimp only;apply af (af ?_);show wpAny _ _ (newTuple [Value.ref s.heap.objs.size]>>=_) _ _ _;apply ab (m:=newTuple _) (lu ?_ (by first|size_fits|rfl));apply ab ?_;show wpAny _ _ (newObj (.type "map") (.fields [_,_].toArray)) _ _ _;apply lu ?_ (by first|size_fits|rfl);apply af #[_,rfl,?_];have O:((s.heap.push {cls:=.type "list_iterator",data:=.fields #v[.ref l,.int 0 0]}).push {cls:=.type "tuple",data:=.seq #v[.ref s.heap.objs.size]}).objs.size=s.heap.objs.size+2:=by rw[ic,W]
  simp only[Array.toList_push,List.nil_append,W,O,List.headD];show h
def DA {l:Addr}{items:Array Value}{Q:QqV}(I:s.heap.IsList l items)
  (h:∀h',jR h' (s.heap.objs.size+2) (s.heap.objs.size+1) s.heap.objs.size f->h'.IsListIter s.heap.objs.size l 0->h'.objs.size=s.heap.objs.size+3->(∀b o,s.heap.get? b=some o->h'.get? b=some o)->Q (.ref (s.heap.objs.size+2)) {s with heap:=h'}) :
  wpAny (model prog w) A (call (.type "map") [f,.ref l]) Q E s:=by
 apply callType_new vV (by decide) (pO _ _) (sY _ _) (λobj=>u6 obj _ _) nT (GA f l items) #[I,?_];have J:(s.heap.push {cls:=.type "list_iterator",data:=.fields #v[.ref l,.int 0 0]}).objs.size=s.heap.objs.size+1:=ic ..;have O:((s.heap.push {cls:=.type "list_iterator",data:=.fields #v[.ref l,.int 0 0]}).push {cls:=.type "tuple",data:=.seq #v[.ref s.heap.objs.size]}).objs.size=s.heap.objs.size+2:=by rw[ic,J]
 have W:=eg ((s.heap.push {cls:=.type "list_iterator",data:=.fields #v[.ref l,.int 0 0]}).push {cls:=.type "tuple",data:=.seq #v[.ref s.heap.objs.size]}) (o:={cls:=.type "map",data:=.fields #v[.ref (s.heap.objs.size+1),f]}) rfl;have U:=eg (s.heap.push {cls:=.type "list_iterator",data:=.fields #v[.ref l,.int 0 0]}) (o:={cls:=.type "tuple",data:=.seq #v[.ref s.heap.objs.size]}) rfl;rw[O]at W;rw[J]at U;apply#[#[_,W,rfl],h _ #[W,ba _ U] #[_,ba _ (ba _ (eg _ rfl)),rfl,rfl] (by rw[ic,O]) λb o x=>ba _ (ba _ (ba _ x))]
def tZ {W f:Addr}{v:Value}{args:List Value}{R:Result->Shared->Prop}(U:s.heap.get? W=some {cls:=.type "method",data:=.fields #v[.ref f,v]})(h:codeAny (model prog w) A (.call (.ref f) #[v::args,[]]) R s):codeAny (model prog w) A (.call (.ref W) #[args,[]]) R s:=by
 apply ug ?_;show wpAny _ _ (callAny (.ref W) #[args,[]]) _ _ _;unfold callAny;apply ab (yh U ?_);dsimp only;rw[cp (by decide)];show af #[rfl,h]
def uP {m t it:Addr}{Q:QqV}(U:jR s.heap m t it f)(h:Q (.ref m) s):wpAny (model prog w) A (pyIter (.ref m)) Q E s:=by
 have W:s.TypeIs (.ref m) "map":=#[_,U.1,rfl];apply wpAny_pyIter_slot W fC (mu fC W mP ?_ (nY _));show wpAny _ _ (ret (.ref m)) _ _ s;show af #[_,rfl,"map",_,W,yo.lookup,h]
def lH {m t it:Addr}{Q:Option Value->Shared->Prop}(O:jR s.heap m t it f)
  (h:wpAny (model prog w) A.in1 (Builtin.SmallTypes.nextOf (.ref it)) (λx s₁=>jR s₁.heap m t it f/\wpAny (model prog w) A.in1 (call f [x]) (λv s'=>Q (some v) s') (λ_ _=>False) s₁) (λe s'=>s'.TypeIs e "StopIteration"/\Q none s') s):wpAny (model prog w) A (pyNext (.ref m)) Q E s:=by
 have J:s.TypeIs (.ref m) "map":=#[_,O.1,rfl];unfold pyNext;apply ab (wpAny_attempt (nG (name:=Str.ofString "__next__") J yo (mu yo J mO ?_ (nX _))));show wpAny _ _ (field (.ref m) 0>>=_) _ _ s;apply ab (jU O.1 rfl (x:=.ref t) rfl ?_);apply ab (vp O.2 rfl ?_);dsimp only;apply ab ?_;simp only[List.forIn_toArray,ow,oj];apply ab (ab (dp (dj h (λx s₁ h₁=>af ?_) λe s₁ h₁=>?_)))
 ·dsimp only;apply af ?_;have#[W,h₁]:=h₁;apply ab (jU W.1 rfl (x:=f) rfl ?_);apply ab (dp (dj h₁ (λv s₂ U=>?_) λ_ _ x=>x.elim));show ab (wpAny_letGo (af #[_,rfl,af U]))
 ·show ab (wpAny_isInstance (T:="StopIteration") (b:=true) h₁.1 isSubtype_stop (af h₁.2))
end
end MP
end
section
namespace MP
open PySem PyProof.Rows PySem.W
structure n6 (G:Stc)(fM:Addr):Prop where
 here:∃(p:Fin 20->Pos) (doc:Str) (c0 c1:Nat) (rest:List Stmt) (ns:List (Str×NameKind)) (more:List (Str×Const)),FnAt G fM 2 [] (pk ns more) (lP p doc c0 c1 rest)/\((p 4).endLine==(p 7).line)=true /\
  (pk ns more).names.lookup ("tuple":Str)=some .globalImplicit/\(pk ns more).names.lookup ("len":Str)=some .globalImplicit
 tup:G.gl "tuple"=some (.type "tuple")
 len:G.gl "len"=some (.builtin "len")
def xi (σ:St)(a:Addr)(xs ys:List V):(σ.ew a xs).ew a ys=σ.ew a ys:=by
 unfold St.ew
 congr 1
 funext j
 simp only[upd];split<;>rfl
def AOk.ins {A:Around}{d k:Nat}(h:AOk A (d+1))(hk:k<=30):AOk {A with units:=A.units+k} d:=#[h.handled,by have:=h.depth;dsimp only;(show fc (.l (.a (.a .A (.m 3 .B)) (.n 20)) .C) .a .bI this),by have:=h.units;dsimp only;(show fy (.l (.a (.a .L (.m 30 .C)) .aV) .D) .b (.k .B (.n 30)) (.l (.a (.a .A (.m 30 .T)) .aV) .D) hk this)]
def wX {G:Stc}{σ:St}{h h':Heap}{it:Addr}(R:Rel G σ h)(hd:¬σ.dom it)(hb:G.hb.get? it=none)(W:∀o,h.get? it=some o->¬Frz o)(hk:∀b o,b≠it->h.get? b=some o->h'.get? b=some o):Rel G σ h':=
 R.same (λb o e U=>hk b o (λq=>hd (q▸U)) e) (λb o e f=>hk b o (λq=>W o (q▸e) f) e) λb o e=>hk b o (λq=>by rw[q,hb]at e;cases e) (R.base b o e)
section
variable {G:Stc}{A:Around}{E:QqV}{s:Shared}{fN fM:Addr}{σ₀ σ:St}
def uC {α:Type}{l:List α}(h:l.length=2):∃a b,l=[a,b]:=by
 have#[a,r,rfl]:=uk h;have#[b,r,rfl]:=uk (mn h);have rfl:=List.length_eq_zero_iff.mp (mn (mn h));apply#[a,b,rfl]
def AD {α:Type}{l:List α}(h:l.length=3):∃a b c,l=[a,b,c]:=by
 have#[a,r,rfl]:=uk h;have#[b,c,rfl]:=uC (mn h);apply#[a,b,c,rfl]
def yZ {d:Nat}{l S it m t q:Addr}{ts:List (List V)}{res:Value}{R:Result->Shared->Prop}(Kg:GOk G)(K:pv G fN fM)(Km:tf G)(Mk:n6 G fM)(ao:AOk A (d+2))(da:∀t∈ts,t.length=3)(dL:l≠S)(ct:σ.L l=some (ts.map V.T))(hz:ts.length<=bz)
  (own:∀b∈[it,m,t,q],s.heap.get? b=none/\¬σ.dom b/\b≠S/\G.hb.get? b=none) (dx:m≠it) (df:t≠it) (dn:q≠it)
  (hR:∀s',Rel G (σ.ew S (ts.map V.mt)) s'.heap->Go [] σ₀ s (σ.ew S (ts.map V.mt)) s'->R (.ok (.ret res)) s') :
  ∀(k i:Nat) (s':Shared),ts.length-i=k->i<=ts.length->Rel G (σ.ew S ((ts.take i).map V.mt)) s'.heap->Go [] σ₀ s (σ.ew S ((ts.take i).map V.mt)) s'->jR s'.heap m t it (.ref q)->s'.heap.get? q=some {cls:=.type "method",data:=.fields #v[.ref fM,.ref G.cM]}->s'.heap.IsListIter it l i ->
   codeAny G.M A (.builtin "list.extend.loop" #[[.ref S,.ref m,res],[]]) R s':=by
 have#[p,doc,c0,c1,rest,ns,more,Kf,cb,cj,dy]:=Mk.here;have nd:∀(xs:List V),∀b∈[it,m,t,q],¬(σ.ew S xs).dom b:=λxs b hb dm=>(zk dm).elim (own b hb).2.1 (own b hb).2.2.1;have ag:it∈[it,m,t,q]:=.head _;have mm:m∈[it,m,t,q]:=.tail _ (.head _);have tm:t∈[it,m,t,q]:=.tail _ (.tail _ (.head _));have qm:q∈[it,m,t,q]:=.tail _ (.tail _ (.tail _ (.head _)));have nf:∀{h:Heap} {i:Nat},h.IsListIter it l i->∀o,h.get? it=some o->¬Frz o:=λ{h i} cl o e=>by
  have#[o',dv,ec,eb]:=cl;have rfl:=ah (dv.symm.trans e);show oa ec eb (by decide) (by decide)
 have hL:∀(xs:List V),(σ.ew S xs).L l=some (ts.map V.T):=λxs=>by simp only[St.ew,fg dL];show ct
 have ch:∀b∈[it],s.heap.get? b=none:=λb hb=>by have rfl:=ak.mp hb;show(own _ ag).1
 intro k;induction k with
 |zero =>
  intro i s' hk hi Rr x hm hq hit;have dV:i=ts.length:=by(show fb .D .B .b6 .c9 hk (aa (av .A .a .A hi)))
  subst dV;apply ye F.entry_extend_loop ?_;rw[eJ F.plain_extend_loop _];show wpAny _ A.in1 (pyNext (.ref m)>>=_) _ _ _;have#[ws,n,hl,bv]:=Rr.L l _ (hL _);have bn:=bv.length;apply ab (lH hm (wpAny_nextOf_list_end (A:=A.in1.in1) ao.handled hit hl.isList (by rw[kF,<- fA.symm];simp at bn;(show av .A .y .cB bn)) λh' e he cx=>#[cx,?_]));have J:∀b o,b≠it->s'.heap.get? b=some o->h'.get? b=some o:=he;have R':=wX Rr (nd _ _ ag) (own _ ag).2.2.2 (nf hit) J;have x':=x.but (s':={s' with heap:=h'}) (λb o hb e=>J b o (λq=>hb (q▸.head _)) e) .rfl ch;rw[fx]at R' x';show af (hR _ R' x')
 |succ k ih =>
  intro i s' hk hi Rr x hm hq hit;have aj:i<ts.length:=by(show fy .B .k (.e .C .a0) .c9 hk (aa (av .A .a .A hi)))
  apply ye F.entry_extend_loop ?_;rw[eJ F.plain_extend_loop _];show wpAny _ A.in1 (pyNext (.ref m)>>=_) _ _ _;have#[ws,n,hl,bv]:=Rr.L l _ (hL _);have#[w,hw,vr]:=bv.get (i:=i) (v:=.T ts[i]) (by simp[aj]);apply ab (lH hm (wpAny_nextOf_list_item hit hl.isList (by simpa using hw) λh₁ bd ca=>?_));have J:∀b o,b≠it->s'.heap.get? b=some o->h₁.get? b=some o:=λb o hb e=>by rw[ca.2 b hb];show e
  have ck:=wX Rr (nd _ _ ag) (own _ ag).2.2.2 (nf hit) J;have cc:=x.but (s':={s' with heap:=h₁}) (λb o hb e=>J b o (λq=>hb (q▸.head _)) e) .rfl ch;have ai:jR h₁ m t it (.ref q):=#[J _ _ dx hm.1,J _ _ df hm.2];have ax:=J _ _ dn hq;apply#[ai,rg (tZ ax ?_)];have hf:jq s'.heap h₁:=λb o e f=>J b o (λq=>nf hit o (q▸e) f) e;have h3:=da ts[i] (du aj);have#[a,b,c,bp]:=AD h3;rw[bp]at vr;apply codeAny_mono (zP (s:={s' with heap:=h₁}) (A:=A.in1.in1) (d:=d) (Q:=λv σ'=>v=.mt [a,b,c]/\σ'=σ.ew S ((ts.take i).map V.mt)) (E:=λ_ _=>False) Kg K Km Kf cb Mk.tup Mk.len cj dy (ao.ins (k:=2) (zo (.k .W (.n 30)) .h)) ck (vr.mono hf) #[rfl,rfl]) λr s₂ hr=>?_;cases r with
  |error e=>show hr.elim
  |ok fl =>
   cases fl with
   |ret w' =>
    have#[v,σ',#[rfl,rfl],bu,bt,bl]:=hr;have O:∀b∈[it,m,t,q],∀o,h₁.get? b=some o->s₂.heap.get? b=some o:=λb hb o e=>bl.keep b o e (nd _ b hb) (λh=>nomatch h);have hS:(σ.ew S ((ts.take i).map V.mt)).L S=some ((ts.take i).map V.mt):=cn _ _ _;have#[us,n',ay,ar]:=bt.L S _ hS;have bc:=ar.length;have ea:us.length=i:=by rw[<- bc];simp;(show(Ar.iz _ _).2.2.elim (λq1=>(gj .D .g .A .a4 (Ar.iz _ _).1 q1)) λq1=>(oq .D .m .b0 .A .aX hi (Ar.iz _ _).1 q1))
    have dc:(ts.take (i+1)).map V.mt=(ts.take i).map V.mt++[.mt [a,b,c]]:=by rw[ee aj,bp];simp
    have cd:us.length+1<=sizeLine:=by rw[ea];show nh (fb .S .b .H .I hz aj)
    have#[br,be]:=A9 (f:=λx=>x.push w') bt hS ay (ar.append %[bu|0]) (by simp;(show mr .S .e .H .bB .aH hz aj (Ar.iz _ _).1)) (by simp);rw[xi,<- dc]at br be;show wpAny _ A.in1 (updateSeq S (·.push w')>>=_) _ _ _;have ne:∀z∈[it,m,t,q],S≠z:=λz hz e=>(own z hz).2.2.1 e.symm;have U:∀z∈[it,m,t,q],∀o,s₂.heap.get? z=some o->(s₂.heap.update S (Obj.mapSeq (·.push w'))).get? z=some o:=λz hz o e=>(ub _ _ (ne z hz)).trans e;apply ab (wpAny_updateSeq ay rfl (af #[plainId_quiet F.plain_extend_loop _,?_]) (by simp only[cw];(show av .A .a .S cd)) (by simp only[Array.size_push,cw];(show av .aS .a .S cd)));have#[o1,dr,r1]:=bd;show ih (i+1) _ (ll .D .p (.e .C .P) .b2 (.e (.a .A .a0) .F) hk (aa (av .A .a .A hi)) (aa (av .S .a .B aj))) (av .S .a .B aj) br ((cc.trans bl).to be) #[U _ mm _ (O _ mm _ ai.1),U _ tm _ (O _ tm _ ai.2)] (U _ qm _ (O _ qm _ ax)) #[o1,U _ ag _ (O _ ag _ dr),r1]
   |_=>show hr.elim
end
section
variable {prog:Program}{w:World}{A:Around}{E:QqV}{s:Shared}
def nW {m t it:Addr}{f:Value}{Q:QqV}(hm:jR s.heap m t it f)
  (h:∀h' n',(∀b o,s.heap.get? b=some o->h'.get? b=some o)->IsL h' s.heap.objs.size #v[] n'->codeAny (model prog w) A.in1 (.builtin "list.extend.loop" #[[.ref s.heap.objs.size,.ref m,.none],[]]) (wants (λr s₂=>r=.none/\Q (.ref s.heap.objs.size) s₂) E) {s with heap:=h'}) :
  wpAny (model prog w) A (call (.type "list") [.ref m]) Q E s:=by
 apply callType_codes (Q₁:=λobj s₁=>obj=.ref s.heap.objs.size/\s₁={s with heap:=s.heap.push {cls:=.type "list",data:=.seq #v[]}}) F.called_list (F.typeCall_list_1 _) F.entry_list_init
  (code_list_new _ #[rfl,rfl]) λobj s₁ h₁=>?_
 have#[rfl,rfl]:=h₁;have B:(s.heap.push {cls:=.type "list",data:=.seq #v[]}).get? s.heap.objs.size=some {cls:=.type "list",data:=.seq #v[]}:=eg _ rfl;apply#[#[_,B,rfl],F.args_list_init_2 _ _,?_];generalize ag:s.heap.objs.size=S at B h;have lt:∀{b:Addr} {o:Obj},s.heap.get? b=some o->S≠b:=λ{b o} e q=>by have:=ip e;rw[ag,q]at this;show je _ this
 have z:S≠m:=lt hm.1;show wpAny _ _ (do let old←Builtin.List.listItems (.ref S);Builtin.List.listUpdate (.ref S) (λ_=>#v[]);letGo old.toList.reverse;Builtin.List.listExtendWith (.ref S) (.ref m) .none) _ _ _;apply ab ?_;unfold Builtin.List.listItems;apply ab (vp B rfl (af ?_));show wpAny _ _ (updateSeq S (λ_=>#v[])>>=λ_=>letGo (#v[]:Array Value).toList.reverse>>=λ_=>Builtin.List.listExtendWith (.ref S) (.ref m) .none) _ _ _;apply ab (wpAny_updateSeq B rfl ?_);have O:=dE (Obj.mapSeq (λ_=>(#v[]:Array Value))) B rfl;apply ab (wpAny_letGo ?_);have J:∀b o,s.heap.get? b=some o->((s.heap.push {cls:=.type "list",data:=.seq #v[]}).update S (Obj.mapSeq (λ_=>(#v[]:Array Value)))).get? b=some o:=
  λb o e=>(ub _ _ (lt e)).trans (ba _ e)
 have W:jR ((s.heap.push {cls:=.type "list",data:=.seq #v[]}).update S (Obj.mapSeq (λ_=>(#v[]:Array Value)))) m t it f:=#[J _ _ hm.1,J _ _ hm.2];unfold Builtin.List.listExtendWith;apply ab (gJ (T:="map") #[_,W.1,rfl] ?_);have h1:Builtin.List.listSameRef (.ref S) (.ref m)=false:=by simp[Builtin.List.listSameRef,z]
 have h2:(Value.type "map" == Value.type "list")=false:=by decide
 have h3:(Value.type "map" == Value.type "tuple")=false:=by decide
 simp only[h1,h2,h3,gM,fw,kn];apply ab (uP W ?_);apply ab (dp ?_);unfold Builtin.List.listLengthHint;apply ab (f9 (T:="map") #[_,W.1,rfl] v5 ?_);show wpAny _ _ (specialOf (Value.ref m) (Str.ofString "__length_hint__")>>=_) _ _ _;apply ab (f9 (T:="map") #[_,W.1,rfl] t6 ?_);apply af ?_;show wpAny _ _ (rule "list.extend.makes-room" >>= λ_=>Builtin.List.listTouch (.ref S)>>=λ_=>again (.builtin "list.extend.loop" #[[.ref S,.ref m,.none],[]])) _ _ _;apply ab (rf ?_);apply ab ?_;show wpAny _ _ (updateSeq S (·.push .none)>>=λ_=>updateSeq S (·.pop)) _ _ _;apply ab (wpAny_updateSeq O rfl ?_);have U:=dE (Obj.mapSeq (·.push Value.none)) O rfl;apply wpAny_updateSeq (hz:=by seq_fits) U rfl ?_;have I:=dE (Obj.mapSeq (·.pop)) U rfl;apply af #[plainId_quiet F.plain_extend_loop _,h _ _ (λb o e=>?_) I];have hb:S≠b:=lt e;show(ub _ _ hb).trans ((ub _ _ hb).trans (J b o e))
end
end MP
end
section
namespace MP
open PySem PyProof.Rows PySem.W
section
variable {G:Stc}{fN fM:Addr}{C:Cal}{sc:Scope}{d:Nat}
def nM {e:Ex}{xl xm xM:Str}{y:Expr}{p p' bc ap pos z:Pos}(Kg:GOk G)(K:pv G fN fM)(Km:tf G)(Mk:n6 G fM)(hd:3<=d)(he:gc G C sc d e y)(br:noStar [y]=true)
  (hl:sc.names.lookup xl=some .globalImplicit) (df:jh xl=true) (dc:G.gl xl=some (.type "list"))
  (hm:sc.names.lookup xm=some .globalImplicit) (da:jh xm=true) (cx:G.gl xm=some (.type "map"))
  (hM:sc.names.lookup xM=some .globalImplicit) (dv:jh xM=true) (dr:G.gl xM=some (.ref G.cM)) :
  gc G C sc d (.M e) (.Call (.Name xl p) [.Call (.Name xm p') [.Attribute (.Name xM bc) "_make" ap,y] [] z] [] pos):=λA E env ρ σ Q s c h=>by
 have R:=c.R;have be:noStar [.Attribute (.Name xM bc) "_make" ap,y]=true:=br;apply Call_ (mh Kg c.eo R (by rw[c.es];show hl) df dc (eE (jy (args:=[.Call (.Name xm p') [.Attribute (.Name xM bc) "_make" ap,y] [] z]) rfl pos env) (om (jy (args:=[.Call (.Name xm p') [.Attribute (.Name xM bc) "_make" ap,y] [] z]) rfl pos env) (spliced_more ?_ rfl))));apply Call_ (mh Kg c.eo R (by rw[c.es];show hm) da cx (eE (jy be z env) (om (jy be z env) (spliced_more ?_ rfl))));apply Attribute_name (mh Kg c.eo R (by rw[c.es];show hM) dv dr (K.make _ _ _ _ _ R.base ?_));have R0:=R.push {cls:=.type "method",data:=.fields #v[.ref fM,.ref G.cM]};have x0:Go [] σ s σ {s with heap:=s.heap.push {cls:=.type "method",data:=.fields #v[.ref fM,.ref G.cM]},toks:=s.toks+1}:=Go.refl.to (Evo.push _ _ _ _);apply spliced_more (qc (he (c.go R0 x0) h) λv σ₁ s₁ w q vr r ai=>?_) ((gm br).1 env);have#[l,ts,rfl,aj,h3,q]:=q;have rfl:=vr;apply jV ?_;have#[us,n,hL,dx]:=r.L _ _ aj;have hz:=r.Ll _ _ aj;simp only[aw]at hz;have ar:s.heap.get? s.heap.objs.size=none:=none_at_size _;have bu:¬σ.dom s.heap.objs.size:=λdm=>by have#[o,e]:=R.pn dm;rw[ar]at e;cases e
 have ca:(s.heap.push {cls:=.type "method",data:=.fields #v[.ref fM,.ref G.cM]}).get? s.heap.objs.size=some {cls:=.type "method",data:=.fields #v[.ref fM,.ref G.cM]}:=eg _ rfl;have bv:=ai.keep _ _ ca bu (λh=>nomatch h);have bt:¬σ₁.dom s.heap.objs.size:=λdm=>(ai.dom _ dm).elim bu λe=>by rw[ca]at e;cases e
 apply DA hL.isList λW ax hit ag hk=>?_;have r₂:=r.keeps hk;have bp:Go [] σ s σ₁ {s₁ with heap:=W}:=(x0.trans ai).to (Evo.keeps hk);apply jV ?_;apply nW ax λbd n' O ay=>?_;have hS:W.get? W.objs.size=none:=none_at_size _;have cd:At W.objs.size W bd:=At.grow hS O ay;have cc:σ₁.L W.objs.size=none:=by
  cases hq:σ₁.L W.objs.size with
  |none=>rfl
  |some ys=>have#[o,ho,_]:=r₂.qZ hq;rw[hS]at ho;cases ho
 have ch:=r₂.putL (ws:=[]) (xs:=[]) cd (λ_=>hS) ay .nil (bx rfl);have bn:Evo [] σ₁ W (σ₁.ew W.objs.size []) bd:=Evo.putL cd (λ_=>hS) [];have old:∀b,s₁.heap.objs.size<=b->s.heap.get? b=none/\¬σ₁.dom b/\G.hb.get? b=none:=λb hb=>by
  have e1:s₁.heap.get? b=none:=qu hb;apply#[(x0.trans ai).new e1,λdm=>?_,?_]
  ·have#[o,e]:=r.pn dm;rw[e1]at e;cases e
  ·cases hq:G.hb.get? b with
   |none=>rfl
   |some o=>have:=r.base _ _ hq;rw[e1]at this;cases this
 have bl:s.heap.objs.size<s₁.heap.objs.size:=ip bv;have own:∀b∈[s₁.heap.objs.size,s₁.heap.objs.size+2,s₁.heap.objs.size+1,s.heap.objs.size],s.heap.get? b=none/\¬σ₁.dom b/\b≠W.objs.size/\G.hb.get? b=none:=λb hb=>by
  have cb:b<W.objs.size:=by
   simp only[cz,yt,or_false]at hb;rcases hb with rfl|rfl|rfl|rfl<;>(first|show av .B .y .aV ag Ar.y|show av (.l .aN .B) .y .aV ag Ar.y|show av .Z .y .aV ag Ar.y|show fb .B .k (.e .B (.a .C (.n 3))) .I ag bl Ar.y|omega)
  by_cases J:s₁.heap.objs.size<=b
  ·have#[o1,o2,o3]:=old b J;apply#[o1,o2,jt cb,o3]
  ·simp only[cz,yt,or_false]at hb;rcases hb with rfl|rfl|rfl|rfl
   ·(show#[(False.elim (fh .ff .i (.j .A .A) J)),#[(λq1=>(fh .ff .i (.j .A .A) J)),#[(av (.u .A .B) [[-1,-1]] .aV ag),(False.elim (fh .ff .i (.j .A .A) J))]]])
   ·(show#[(False.elim (fh .ff .i (.j .A .aN) J)),#[(λq1=>(fh .ff .i (.j .A .aN) J)),#[(av (.u .aN .B) [[-1,-1]] .aV ag),(False.elim (fh .ff .i (.j .A .aN) J))]]])
   ·(show#[(False.elim (fh .ff .i (.j .A .M) J)),#[(λq1=>(fh .ff .i (.j .A .M) J)),#[(av (.u .M .B) [[-1,-1]] .aV ag),(False.elim (fh .ff .i (.j .A .M) J))]]])
   ·apply#[ar,bt,jt cb,?_];cases hq:G.hb.get? s.heap.objs.size with
    |none=>rfl
    |some o=>have:=R.base _ _ hq;rw[ar]at this;cases this
 have dn:l≠W.objs.size:=λe=>by rw[e,cc]at aj;cases aj
 have#[oi,ct,ri]:=hit;have cl:(s₁.heap.objs.size+2:Nat)≠s₁.heap.objs.size:=by(show nu (.u .aN .A) .h)
 have ck:(s₁.heap.objs.size+1:Nat)≠s₁.heap.objs.size:=by(show nu (.u .M .A) .h)
 have cj:(s.heap.objs.size:Nat)≠s₁.heap.objs.size:=by(show av (.u .A .B) [[-1,1]] .B bl)
 apply yZ (it:=s₁.heap.objs.size) (m:=s₁.heap.objs.size+2) (t:=s₁.heap.objs.size+1) (q:=s.heap.objs.size) (S:=W.objs.size) (l:=l) (σ₀:=σ) (σ:=σ₁) (s:=s) (d:=d-3) (A:=A.in1) Kg K Km Mk ((AOk.less c.ao (d':=d-3+2+1) (av (.k (.a .aN .U) .B) .a (.e (.a .A (.n 3)) .B) (aa (fh (.k (.n 3) .A) .a (.k (.n 3) .A) hd)))).ins (k:=1) (zo (.k .U (.n 30)) .h)) h3 dn aj hz own cl ck cj
  (λs' R' x'=>#[rfl,_,_,q _ cc,.L _,R',x']) ts.length 0 _ rfl (bq _) (by simpa using ch) (by simpa using bp.to bn) #[O _ _ ax.1,O _ _ ax.2] (O _ _ (hk _ _ bv)) #[oi,O _ _ ct,ri]
end
variable {k:Nat}{ts:List (List Int)}
def CC {a b:List Int}(h:ju a b=true):ju b a=false:=by
 induction a generalizing b with
 |nil=>cases h
 |cons x a W =>
  cases b with
  |nil=>rfl
  |cons y b =>
   have h:(if x=y then ju a b else decide (x<y))=true:=h;show(if y=x then ju b a else decide (y<x))=false;by_cases c:x=y
   ·rw[cp c]at h;rw[cp c.symm];show W h
   ·rw[bb c]at h;rw[bb λq=>c q.symm];have h:=bw h;show fp (sh .aT .a .b5 h)
def K5 {a b c:List Int}(J:a.length=b.length)(h2:b.length=c.length)(g1:ju b a=false)(g2:ju c b=false):ju c a=false:=by
 induction a generalizing b c with
 |nil=>cases c<;>rfl
 |cons x a I =>
  cases b with
  |nil=>cases J
  |cons y b =>
   cases c with
   |nil=>rfl
   |cons z c =>
    have g1:(if y=x then ju b a else decide (y<x))=false:=g1;have g2:(if z=y then ju c b else decide (z<y))=false:=g2;show(if z=x then ju c a else decide (z<x))=false;by_cases U:y=x
    ·subst U;rw[cp rfl]at g1;by_cases W:z=y
     ·rw[cp W]at g2 ⊢;show I (mn J) (mn h2) g1 g2
     ·rw[bb W]at g2 ⊢;show g2
    ·rw[bb U]at g1;have g1:=of_decide_eq_false g1;by_cases W:z=y
     ·subst W;rw[bb U];show fp g1
     ·rw[bb W]at g2;have g2:=of_decide_eq_false g2;rw[bb ((sd U).elim (λO=>(i5 (.iu .A .B) .c (.ig .C .B) (.il .C .B) g1 O)) λO=>(i5 (.iu .A .B) .b (.ig .A .C) (.il .B .C) g2 O))];show fp (i5 .aT .b (.ig .C .B) (.ig .A .C) g1 g2)
abbrev itT (k:Nat)(ts:List (List Int))(i:Nat):List Int:=ts.getD i (List.replicate k 0)
abbrev ltT (k:Nat)(ts:List (List Int))(i j:Nat):Bool:=ju (itT k ts i) (itT k ts j)
def eP (h:∀t∈ts,t.length=k)(i:Nat):(itT k ts i).length=k:=by
 unfold itT;rw[oh];rcases ix i ts.length with q|q
 ·rw[aq q];show h _ (du _)
 ·rw[kg q];show List.length_replicate
def K1 (h:∀t∈ts,t.length=k):LtT (ltT k ts):=
 #[λa b=>CC,λa b c=>K5 ((eP h _).trans (eP h _).symm) ((eP h _).trans (eP h _).symm)]
abbrev TpI (h:Heap)(v:Value)(ns:List Int):Prop:=∃a ws n,v=.ref a/\IsT h a ws.toArray n/\IntsAre ws ns
section
variable {prog:Program}{w:World}{A:Around}{E:QqV}{s:Shared}
def K4 {Q:Bool->Shared->Prop}{ns ms:List Int}{ws us:List Value}(J:IntsAre ws ns)(i:Nat)(O:IntsAre us ms)(hl:ns.length=ms.length)(U:Q (ju ns ms) s):KatLex prog w A true false Q (ws.zip us) i s:=by
 induction J generalizing us ms i with
 |nil =>
  cases O with
  |nil=>show kat_nil U
  |cons=>cases hl
 | @cons a z ws ns J I =>
  cases O with
  |nil=>cases hl
  | @cons b B us ms O =>
   have U:Q (if a=b then ju ns ms else decide (a<b)) s:=U;apply kat_cons (wpAny_eqBool_int ?_);by_cases W:a=b
   ·rw[cp W]at U;rw[show(a==b)=true from dh.mpr W];show kat_yes (I (i+1) O (mn hl) U)
   ·rw[bb W]at U;rw[show(a==b)=false from qb.mpr W];apply kat_no ?_;cases i with
    |zero=>show oneLt_int U
    |succ i=>show kat_one _ _ (lt_int U)
def kat_tups {h:Heap}{vs:List Value}(hl:vs.length=ts.length)(J:∀(i:Nat) v t,vs[i]?=some v->ts[i]?=some t->TpI h v t/\t≠[]):∃U,KatTups h vs U/\U.length=vs.length/\∀v∈U,∃n t,v=Value.int n t:=by
 induction vs generalizing ts with
 |nil=>refine#[[],.nil,rfl,λv W=>nomatch W]
 |cons v vs B =>
  cases ts with
  |nil=>cases hl
  |cons t ts =>
   have#[U,h1,h2,z]:=B (mn hl) λi v t e1 e2=>J (i+1) v t e1 e2;have#[#[a,ws,n,rfl,g,hi],O]:=J 0 _ _ rfl rfl;cases hi with
   |nil=>show(O rfl).elim
   | @cons x I ws ns hi =>
    apply#[.int x I::U,.cons g rfl rfl rfl h1,di (·+1) h2,λv W=>?_];rcases cz.mp W with rfl|W
    ·apply#[_,_,rfl]
    ·show z v W
def sF {l:Addr}{ws:List Value}{Q:QqV}(hl:s.heap.IsList l ws.toArray)(hz:ws.length<=sizeLine)(O:ws.length=ts.length)(hk:∀t∈ts,t.length=k)(k0:k≠0)(ht:∀(i:Nat) v t,ws[i]?=some v->ts[i]?=some t->TpI s.heap v t)
  (h:∀os h' c e,os.Perm (List.range ts.length)->Srt (ltT k ts) os->(∀b o,s.heap.get? b=some o->h'.get? b=some o)->s.heap.get? c=none->h'.get? c=some (seqObj "list" (os.map λi=>ws.getD i Value.none).toArray e)->Q (.ref c) {s with heap:=h'}) :
  wpAny (model prog w) A (call (.builtin "sorted") [.ref l]) Q E s:=by
 apply Calls.call_function_entry kind_sorted plain_sorted entry_sorted (args_sorted1 _) ?_;unfold Builtin.«sorted»;apply ab (m:=checkCount "sorted" 1 1 _) (af ?_);apply ab (collect_list hl ?_ (by simpa using hz));apply ab (wpAny_newList ?_ (by simpa using hz));have J:((s.heap.push (seqObj "list" #v[] 0)).update s.heap.objs.size (Obj.mapSeq (·++ws.toArray))).objs.size=s.heap.objs.size+1:=by
  rw[Heap.size_update,size_push']
 have ag:(((s.heap.push (seqObj "list" #v[] 0)).update s.heap.objs.size (Obj.mapSeq (·++ws.toArray))).push (seqObj "list" ws.toArray 0)).get? (s.heap.objs.size+1)=some (seqObj "list" ws.toArray 0):=by
  rw[<- J];show eg _ rfl
 have keep:∀b o,s.heap.get? b=some o->(((s.heap.push (seqObj "list" #v[] 0)).update s.heap.objs.size (Obj.mapSeq (·++ws.toArray))).push (seqObj "list" ws.toArray 0)).get? b=some o:=λb o q=>by
  have z:b<s.heap.objs.size:=ip q;rw[Heap.get?_push_ne _ _ _ (by rw[J];show jt (yb z)),Heap.get?_update_ne _ _ _ _ (jt z),Heap.get?_push_ne _ _ _ (jt z)];show q
 show wpAny _ _ _ _ _ {s with heap:=((s.heap.push (seqObj "list" #v[] 0)).update s.heap.objs.size (Obj.mapSeq (·++ws.toArray))).push (seqObj "list" ws.toArray 0)};rw[J];have U:s.heap.get? (s.heap.objs.size+1)=none:=qu (fO _);have old:∀{H:Heap},(∀b o,b≠s.heap.objs.size+1->(((s.heap.push (seqObj "list" #v[] 0)).update s.heap.objs.size (Obj.mapSeq (·++ws.toArray))).push (seqObj "list" ws.toArray 0)).get? b=some o->H.get? b=some o)->∀b o,s.heap.get? b=some o->H.get? b=some o:=λhH b o e =>
  hH b o (λq=>by rw[q,U]at e;cases e) (keep b o e)
 apply ab (dp (mu slot_list_sort #[_,ag,rfl] entry_list_sort ?body (args_list_sort _)))
 case body =>
  apply jL (s:={s with heap:=((s.heap.push (seqObj "list" #v[] 0)).update s.heap.objs.size (Obj.mapSeq (·++ws.toArray))).push (seqObj "list" ws.toArray 0)}) (kd:=tuples' true) (K1 hk) ag hz (λH hH h2 Q' hq=>?_) (λH hH i j C hi hj hc=>?_) λos h' e hp so hH ar=>?_
  ·have o:=old hH;have#[fs,f1,f2,f3]:=kat_tups (h:=H) O λi v t e1 e2=>by
    have#[a,us,n,rfl,g,hi]:=ht i v t e1 e2;apply#[#[a,us,n,rfl,o _ _ g,hi],λq=>?_];have:=hk t (fk e2);rw[q]at this;show k0 this.symm
   apply kat_kind (T:=.type "int") f1 (gj .C .d (.k .W .B) .D h2 f2) (λv hv=>?_) (by decide +kernel) ?_
   ·have#[n,t,rfl]:=f3 v hv;show Looks.of_pure rfl
   ·rw[show(Value.type "int" != Value.type "tuple")=true by decide +kernel];show hq
  ·have o:=old hH;have aj:∀{i},i<ws.length->TpI H (ws.getD i Value.none) (itT k ts i):=λ{i} hi=>by
    have e1:=aq hi;have e2:=aq (show i<ts.length by show fb .B .b (.e .C .B) .I O hi);have#[a,us,n,e,g,ao]:=ht i _ _ e1 e2;unfold itT;rw[oh,oh,e1,e2];apply#[a,us,n,e,o _ _ g,ao]
   have#[a,us,n,ea,ga,ia]:=aj hi;have#[b,zs,m,eb,gb,ib]:=aj hj;show wpAny _ _ (keyLt' (tuples' true) (ws.getD i Value.none) (ws.getD j Value.none)) _ _ _;rw[ea,eb];apply kat_lt ga rfl gb rfl ?_;have ai:(itT k ts i).length=(itT k ts j).length:=(eP hk _).trans (eP hk _).symm;have hd:decide (us.toArray.size<zs.toArray.size)=false:=fp (by rw[cw,cw,ia.length,ib.length,ai];show je _);rw[hd];show K4 ia 0 ib ai hc
  ·apply#[_,rfl,af #[_,rfl,h os h' _ e (by rw[<- O];show hp) so (old hH) U ar]]
end
end MP
end
section
namespace MP
open PySem PyProof.Rows
section
variable {G:Stc}{C:Cal}{sc:Scope}{d:Nat}
def F9 {k:BF}{id:String}{e:Ex}{x:Str}{y:Expr}{p pos:Pos}{W:Addr->St->(V->St->Prop)->Prop}(K:GOk G)(z:gc G C sc d e y)(O:noStar [y]=true)(J:sc.names.lookup x=some .globalImplicit)(B:jh x=true)(I:G.gl x=some (.builtin id))
  (hk:∀vs σ Q,A7 k vs σ Q->on1 vs λv=>cZ v λa=>W a σ Q)
  (hc:∀{A E σ s a Q},AOk A d->Rel G σ s.heap->W a σ Q->wpAny G.M A (call (.builtin id) [.ref a]) (jr G [] σ s Q) E s) :
  gc G C sc d (.bf k %[e|0]) (.Call (.Name x p) [y] [] pos):=λA E env ρ σ Q s c h=>by
 apply lA (P:=λvs σ=>A7 k vs σ Q) K O (jx z nz (gm O).1) J B I c h λvs σ₁ s₁ ws q vr r U=>?_;have#[v,rfl,q]:=jI (vs:=vs) (hk vs σ₁ Q q);have#[a,rfl,q]:=ud (v:=v) q;have#[w,rfl,rfl]:=vr.one;show U.back (hc c.ao r q)
def VRs.pick {h:Heap}{f:Nat->V}{g:Nat->Value}:(l:List Nat)->(∀i∈l,VR G h (f i) (g i))->VRs G h (l.map f) (l.map g)
 | []=>λ_=>.nil
 |i::l=>λhl=>.cons (hl i (.head _)) (VRs.pick l λj W=>hl j (.tail _ W))
def uF {e:Ex}{x:Str}{y:Expr}{p pos:Pos}(K:GOk G)(he:gc G C sc d e y)(ag:noStar [y]=true)(hx:sc.names.lookup x=some .globalImplicit)(hn:jh x=true)(hv:G.gl x=some (.builtin "sorted")) :
  gc G C sc d (.bf .sorted %[e|0]) (.Call (.Name x p) [y] [] pos):=F9 (k:=.sorted) (W:=λa σ Q=>∃(ts:List (List Int)) (k:Nat),k≠0/\σ.L a=some (ts.map iT)/\(∀t∈ts,t.length=k)/\∀J:List (List Int),J.Perm ts->J.Pairwise (λx y=>ju y x=false)->∀c,σ.L c=Option.none->Q (.L c) (σ.ew c (J.map iT))) K he ag hx hn hv (λ_ _ _ q=>q) @λA E σ s a Q ao R q=>by
 have#[ts,k,k0,e,hk,q]:=q;have#[ws,n,hl,O]:=R.L _ _ e;have U:ws.length=ts.length:=by have:=O.length;simpa using this.symm
 have hz:=R.Ll _ _ e;have B:ts.length<=bz:=by rwa [aw]at hz
 apply sF hl.isList (by rw[U];show nh B) U hk k0 (λi v t hv ht=>?_) λos h' c e' hp so keep I hc=>?_
 ·have#[w,hw,vr]:=O.get (i:=i) (v:=iT t) (by rw[dq,ht];rfl);rw[hv]at hw;cases hw;have#[a,us,n,rfl,g,r]:=vr;apply#[a,us,n,rfl,g,tu (ns:=t) r]
 ·have hm:∀i∈os,i<ts.length:=λi hi=>nI.mp (hp.mem_iff.mp hi);have z:(os.map (itT k ts)).Perm ts:=by
   have h1:=hp.map (itT k ts);have h2:(List.range ts.length).map (itT k ts)=ts:=by
    apply List.ext_getElem ?_ ?_
    ·simp
    ·intro i h1 h2;simp at h1;simp[itT,List.getD,h1]
   rwa [h2]at h1
  apply z8 (vs:=(os.map (itT k ts)).map iT) (ws:=os.map λi=>ws.getD i Value.none) (n:=e') R .refl I keep hc ?_ ?_ (q _ z (fR.mpr so))
  ·rw[jk];apply VRs.pick os λi hi=>?_;have e1:=aq (hm i hi);have#[w,hw,vr]:=O.get (i:=i) (v:=iT (ts[i]'(hm i hi))) (by rw[dq,e1];rfl);show VR G _ (iT (itT k ts i)) (ws.getD i Value.none);unfold itT;rw[oh,oh,e1,hw];show vr
  ·rw[aw,z.length_eq];show B
end
section
variable {G:Stc}{C:Cal}{sc:Scope}{d:Nat}
end
section
variable {G:Stc}{C:Cal}{sc:Scope}{d:Nat}
end
end MP
end
section
set_option genInjectivity false
set_option genSizeOf false
set_option backward.match.sparseCases false
namespace MP
open PySem PyProof.Rows PySem.W
section
variable {pos:Pos}{b:Ex}{y:Expr}
variable {G:Stc}{C:Cal}{sc:Scope}{d:Nat}
def B4:gc G C sc d .dct0 (.Dict [] [] pos):=λ_ _ _ _ _ _ _ c h =>
 wpAny_Dict_empty #[.dct _,_,h _ c.R.freshD,.dct _,c.R.putD (At.push _) (λ_=>none_at_size _) (λb f e=>c.R.x7 (none_at_size _) e rfl) (Heap.DictOf.new _) .nil (by simp[bz]),Go.refl.to (Evo.putD (At.push _) (λ_=>none_at_size _) _)]
def EX {op:BoolOp}(h:gc G C sc d b y):gc G C sc d b (.BoolOp op [y] pos):=λ_ _ _ _ _ _ _ c q=>BoolOp_one (h c q)
def yP (h:ua G C sc d b y):ua G C sc d b (.BoolOp .And [y] pos):=λ_ _ _ _ _ _ _ c q =>
 isTrue_and (nQ (h c q) λt σ₁ s₁ q r x=>by
  cases t with
  |true=>show isTrue_and_nil (lq.back x (lq.here q r))
  |false=>show lq.back x (lq.here q r))
def yO (h:ua G C sc d b y):ua G C sc d b (.BoolOp .Or [y] pos):=λ_ _ _ _ _ _ _ c q =>
 isTrue_or (nQ (h c q) λt σ₁ s₁ q r x=>by
  cases t with
  |false=>show isTrue_or_nil (lq.back x (lq.here q r))
  |true=>show lq.back x (lq.here q r))
end
structure Tab where
 cap:Str->Bool
 gl:List (Str×Value)
 attrs:List Str
 meths:List (Nat×Str)
 fns:List (Nat×Addr)
 cM:Addr
 cS:Addr
structure TabOk (G:Stc)(T:Tab)(C:Cal)(d:Nat):Prop where
 g:GOk G
 gl:∀x v,T.gl.lookup x=some v->G.gl x=some v
 attrs:G.attrs=T.attrs
 cap:G.cap=T.cap
 cal:e9 G (λk=>T.fns.lookup k) C (d-1)
 lam:n7 G C (d-1)
 meth:∀k name,T.meths.lookup k=some name->∃f,T.fns.lookup k=some f/\MethAt G name f
 init:∃f,T.fns.lookup 0=some f/\nE G f
 cM:G.cM=T.cM
 cS:G.cS=T.cS
 mt:∃fN fM,pv G fN fM/\pH G fN/\n6 G fM
 ma:tf G
 unp:zY G
 d3:3<=d
abbrev eQ (i:Nat)(x:Expr):Option Expr:=match i with|0=>(vw x).b.1|_=>(vw x).b.2
abbrev gu (x:Expr):List Comprehension×Scope:=(vw x).g
abbrev hdG:List Comprehension->Expr×Expr×List Expr
 |g::_=>(g.target,g.iter,g.ifs)
 | []=>(default,default,[])
abbrev K9 (x:Expr):Bool:=hV 0 x&&!(kids x).isEmpty
abbrev fF (x:Expr):BoolOp×List Expr×Pos:=((vw x).op,kids x,x.pos)
def MM {x:Expr}(h:K9 x=true):∃z r,(fF x).2.1=z::r/\x=.BoolOp (fF x).1 (z::r) (fF x).2.2:=by
 cases x
 case BoolOp =>
  cases values with
  |nil=>cases h
  |cons z r=>refine#[z,r,rfl,rfl]
 all_goals show Bool.noConfusion (show false=true from h)
abbrev many (x:Expr):Bool:=!(kids x).tail.tail.isEmpty
abbrev bo (op:BoolOp)(a b:Expr)(p:Pos)(m:Bool):Expr:=.BoolOp op (a::bif m then (fF b).2.1 else [b]) p
abbrev C4 (op:BoolOp)(b:Expr)(p:Pos)(m:Bool):Bool:=!m||(K9 b&&(decide ((fF b).1=op)&&decide ((fF b).2.2=p)))
abbrev hint (op:BoolOp)(x:Expr):Expr:=bif many x then .BoolOp op (kids x).tail x.pos else kid 1 x
def u4 {op:BoolOp}{b:Expr}{p:Pos}:(m:Bool)->C4 op b p m=true->m=false\/∃z r,b=.BoolOp op (z::r) p/\∀a,bo op a b p m=.BoolOp op (a::z::r) p
 |false,_=>.inl rfl
 |true,h=>by
  have#[h0,W]:=band (show(K9 b&&(decide ((fF b).1=op)&&decide ((fF b).2.2=p)))=true from h);have#[W,O]:=band W;have U:=bw W;clear W;have rfl:=U;have rfl:=bw O;have#[z,r,e,J]:=MM h0;show .inr #[z,r,J,λa=>di (λl=>Expr.BoolOp (fF b).1 (a::l) (fF b).2.2) e]
abbrev glob (T:Tab)(sc:Scope)(x:Str)(v:Value):Bool:=decide (sc.names.lookup x=some .globalImplicit)&&(jh x&&decide (T.gl.lookup x=some v))
abbrev lM (x:Expr):Bool:=!(hV 7 x)
abbrev pY (sc:Scope):Tg->Expr->Expr
 |.v i=>λx=>.Name (qa sc i) x.pos
 |.T is=>λx=>.Tuple (tc sc is (kids x)) (exK x) x.pos
abbrev C3 (T:Tab)(sc:Scope):Tg->Expr->Bool
 |.v i=>λ_=>ownAt T.cap sc i
 |.T is=>λx=>qB T.cap sc is
abbrev Exs.isNil:Exs->Bool
 |.nil=>true
 |_=>false
abbrev DJ:BF->Nat
 |.len=>1
 |.set=>0
 |.sorted=>1
abbrev Exs.len:Exs->Nat
 |.nil=>0
 |.cons _ es=>es.len+1
abbrev y3:BF->Value
 |.len=>.builtin "len"
 |.sorted=>.builtin "sorted"
 |.set=>.type "set"
abbrev GP:BF->Bool
 |_=>false
abbrev isSort:BM->Bool
 |.sort=>true
 |_=>false
abbrev nm (x:Expr):Expr:=.Name (mx x) x.pos
abbrev Ex.isNone:Ex->Bool
 |.none=>true
 |_=>false
mutual
noncomputable def reE (T:Tab):Ex->Scope->Expr->Expr
 |.none=>λ_ x=>.Constant .none (exK x) x.pos
 |.bool b=>λ_ x=>.Constant (.bool b) (exK x) x.pos
 |.int i=>λ_ x=>.Constant (.int i) (exK x) x.pos
 |.str t=>λ_ x=>.Constant (.str t) (exK x) x.pos
 |.l i=>λsc x=>.Name (qa sc i) x.pos
 |.b op a b=>λsc x=>.BinOp (reE T a sc (kid 0 x)) (binOp op) (reE T b sc (kid 1 x)) x.pos
 |.neg a=>λsc x=>.UnaryOp .USub (reE T a sc (kid 0 x)) x.pos
 |.not a=>λsc x=>.UnaryOp .Not (reE T a sc (kid 0 x)) x.pos
 |.and a b=>λsc x=>bo .And (reE T a sc (kid 0 x)) (reE T b sc (hint .And x)) x.pos (many x)
 |.or a b=>λsc x=>bo .Or (reE T a sc (kid 0 x)) (reE T b sc (hint .Or x)) x.pos (many x)
 |.c op a b=>λsc x=>.Compare (reE T a sc (kid 0 x)) [jP op] [reE T b sc (kid 1 x)] x.pos
 |.I c a b=>λsc x=>.IfExp (reE T c sc (kid 0 x)) (reE T a sc (kid 1 x)) (reE T b sc (kid 2 x)) x.pos
 |.L es=>λsc x=>.List (uy T es sc (kids x)) x.pos
 |.T es=>λsc x=>.Tuple (uy T es sc (kids x)) (exK x) x.pos
 |.dct0=>λ_ x=>.Dict [] [] x.pos
 |.call _ es=>λsc x=>.Call (nm (kid 0 x)) (uy T es sc (kids x).tail) [] x.pos
 |.meth e m es=>λsc x=>.Call (.Attribute (reE T e sc (kid 0 (kid 0 x))) ((T.meths.lookup m).getD "") (kid 0 x).pos) (uy T es sc (kids x).tail) [] x.pos
 |.attr e i=>λsc x=>.Attribute (reE T e sc (kid 0 x)) ((T.attrs[i]?).getD "") x.pos
 |.g e=>λsc x=>.Attribute (reE T e sc (kid 0 x)) "get" x.pos
 |.h e=>λsc x=>.Attribute (reE T e sc (kid 0 x)) "__contains__" x.pos
 |.bm k e es=>λsc x=>.Call (.Attribute (reE T e sc (kid 0 (kid 0 x))) (rH k) (kid 0 x).pos) (uy T es sc (kids x).tail) [] x.pos
 |.bf k es=>λsc x=>.Call (nm (kid 0 x)) (uy T es sc (kids x).tail) [] x.pos
 |.w f es=>λsc x=>.Call (.Name (qa sc f) (kid 0 x).pos) (uy T es sc (kids x).tail) [] x.pos
 |.sub e i=>λsc x=>.Subscript (reE T e sc (kid 0 x)) (reE T i sc (kid 1 x)) x.pos
 |.slc e lo hi=>λsc x=>.Subscript (reE T e sc (kid 0 x)) (.Slice ((eQ 0 (kid 1 x)).map (reE T lo sc)) ((eQ 1 (kid 1 x)).map (reE T hi sc)) none (kid 1 x).pos) x.pos
 |.K _ it t cs more=>λsc x=>.ListComp (BR T more (lp (gu x).2 sc) (kid 0 x))
   (#[pY (lp (gu x).2 sc) t (hdG (gu x).1).1,sQ T it sc (hdG (gu x).1).2.1,uy T cs (lp (gu x).2 sc) (hdG (gu x).1).2.2,0]::BP T more (lp (gu x).2 sc) (gu x).1.tail) (gu x).2 x.pos
 |.n es=>λsc x=>.Call (nm (kid 0 x)) (uy T es sc (kids x).tail) [] x.pos
 |.N a b c=>λsc x=>.Call (nm (kid 0 x)) [reE T a sc (kid 1 x),reE T b sc (kid 2 x),reE T c sc (kid 3 x)] [] x.pos
 |.M e=>λsc x=>.Call (nm (kid 0 x)) [.Call (nm (kid 0 (kid 1 x))) [.Attribute (nm (kid 0 (kid 1 (kid 1 x)))) "_make" (kid 1 (kid 1 x)).pos,reE T e sc (kid 2 (kid 1 x))] [] (kid 1 x).pos] [] x.pos
 |.dead=>λ_ x=>x
noncomputable def uy (T:Tab):Exs->Scope->List Expr->List Expr
 |.nil=>λ_ _=>[]
 |.cons e es=>λsc l=>reE T e sc (l.headD default)::uy T es sc l.tail
noncomputable def sQ (T:Tab):It->Scope->Expr->Expr
 |.rng1 e=>λsc x=>.Call (nm (kid 0 x)) [reE T e sc (kid 1 x)] [] x.pos
 |.rng2 e f=>λsc x=>.Call (nm (kid 0 x)) [reE T e sc (kid 1 x),reE T f sc (kid 2 x)] [] x.pos
 |.enum e=>λsc x=>.Call (nm (kid 0 x)) [reE T e sc (kid 1 x)] [] x.pos
 |.seq e=>λsc x=>reE T e sc x
noncomputable def BP (T:Tab):Gens->Scope->List Comprehension->List Comprehension
 |.elt _=>λ_ _=>[]
 |.cons it t cs more=>λsc l=>#[pY sc t (hdG l).1,sQ T it sc (hdG l).2.1,uy T cs sc (hdG l).2.2,0]::BP T more sc l.tail
noncomputable def BR (T:Tab):Gens->Scope->Expr->Expr
 |.elt e=>λsc x=>reE T e sc x
 |.cons _ _ _ more=>λsc x=>BR T more sc x
end
abbrev tOk:Ex->Bool
 |.not a=>tOk a
 |.and a b=>tOk a&&tOk b
 |.or a b=>tOk a&&tOk b
 |.I _ a b=>tOk a&&tOk b
 |.c _ _ _=>true
 |.l _=>true
 |.attr _ _=>true
 |.w _ _=>true
 |.sub _ _=>true
 |.b _ _ _=>true
 |.dead=>true
 |_=>false
mutual
noncomputable def okE (T:Tab):Ex->Scope->Expr->Bool
 |.none=>λ_ _=>true
 |.bool _=>λ_ _=>true
 |.int _=>λ_ _=>true
 |.str _=>λ_ _=>true
 |.l i=>λsc _=>kindAt isVar sc i
 |.b _ a b=>λsc x=>okE T a sc (kid 0 x)&&okE T b sc (kid 1 x)
 |.neg a=>λsc x=>okE T a sc (kid 0 x)
 |.not a=>λsc x=>okE T a sc (kid 0 x)
 |.and a b=>λsc x=>okE T a sc (kid 0 x)&&(okE T b sc (hint .And x)&&C4 .And (reE T b sc (hint .And x)) x.pos (many x))
 |.or a b=>λsc x=>okE T a sc (kid 0 x)&&(okE T b sc (hint .Or x)&&C4 .Or (reE T b sc (hint .Or x)) x.pos (many x))
 |.c op a b=>λsc x=>okE T a sc (kid 0 x)&&(okE T b sc (kid 1 x)&&!(behindInMarks (jP op) (reE T b sc (kid 1 x))))
 |.I c a b=>λsc x=>tOk c&&(okE T c sc (kid 0 x)&&(okE T a sc (kid 1 x)&&okE T b sc (kid 2 x)))
 |.L es=>λsc x=>noStar (uy T es sc (kids x))&&nS T es sc (kids x)
 |.T es=>λsc x=>noStar (uy T es sc (kids x))&&nS T es sc (kids x)
 |.dct0=>λ_ _=>true
 |.call f es=>λsc x=>(T.fns.lookup f).any (λa=>glob T sc (mx (kid 0 x)) (.ref a))&&(noStar (uy T es sc (kids x).tail)&&nS T es sc (kids x).tail)
 |.meth e m es=>λsc x=>(T.meths.lookup m).isSome&&(okE T e sc (kid 0 (kid 0 x))&&(tj (reE T e sc (kid 0 (kid 0 x)))&&(((kid 0 x).pos.endLine==x.pos.line)&&(decide ((uy T es sc (kids x).tail).length<30) &&
   (noStar (uy T es sc (kids x).tail)&&nS T es sc (kids x).tail)))))
 |.attr e i=>λsc x=>(T.attrs[i]?).isSome&&(tj (reE T e sc (kid 0 x))&&okE T e sc (kid 0 x))
 |.g e=>λsc x=>tj (reE T e sc (kid 0 x))&&okE T e sc (kid 0 x)
 |.h e=>λsc x=>tj (reE T e sc (kid 0 x))&&okE T e sc (kid 0 x)
 |.bm k e es=>λsc x=>(!isSort k||es.isNil)&&(okE T e sc (kid 0 (kid 0 x))&&(tj (reE T e sc (kid 0 (kid 0 x)))&&(((kid 0 x).pos.endLine==x.pos.line)&&(decide ((uy T es sc (kids x).tail).length<30) &&
   (noStar (uy T es sc (kids x).tail)&&nS T es sc (kids x).tail)))))
 |.bf k es=>λsc x=>Nat.beq es.len (DJ k)&&(glob T sc (mx (kid 0 x)) (y3 k)&&(noStar (uy T es sc (kids x).tail)&&nS T es sc (kids x).tail))
 |.w f es=>λsc x=>kindAt isVar sc f&&(noStar (uy T es sc (kids x).tail)&&nS T es sc (kids x).tail)
 |.sub e i=>λsc x=>!(isSlice (reE T i sc (kid 1 x)))&&(okE T e sc (kid 0 x)&&okE T i sc (kid 1 x))
 |.slc e lo hi=>λsc x=>okE T e sc (kid 0 x)&&((match eQ 0 (kid 1 x) with|none=>lo.isNone|some l=>okE T lo sc l)&&(match eQ 1 (kid 1 x) with|none=>hi.isNone|some l=>okE T hi sc l))
 |.K fv it t cs more=>λsc x=>FZ T it sc (isTup (pY (lp (gu x).2 sc) t (hdG (gu x).1).1)) (hdG (gu x).1).2.1&&(C3 T (lp (gu x).2 sc) t (hdG (gu x).1).1&&(G0 T cs (lp (gu x).2 sc) (hdG (gu x).1).2.2 &&
   (JP T more (lp (gu x).2 sc) (gu x).1.tail (kid 0 x)&&(lM (sQ T it sc (hdG (gu x).1).2.1)&&(decide ((gu x).2.kind=.function)&&(decide (((gu x).2.names.map (·.1)).Nodup) &&
   (lK sc fv 0 (gu x).2.names&&qC (gu x).2 (#[pY (lp (gu x).2 sc) t (hdG (gu x).1).1,sQ T it sc (hdG (gu x).1).2.1,uy T cs (lp (gu x).2 sc) (hdG (gu x).1).2.2,0]::BP T more (lp (gu x).2 sc) (gu x).1.tail))))))))
 |.n es=>λsc x=>!es.isNil&&(glob T sc (mx (kid 0 x)) (.ref T.cS)&&(noStar (uy T es sc (kids x).tail)&&nS T es sc (kids x).tail))
 |.N a b c=>λsc x=>glob T sc (mx (kid 0 x)) (.ref T.cM)&&(noStar [reE T a sc (kid 1 x),reE T b sc (kid 2 x),reE T c sc (kid 3 x)]&&(okE T a sc (kid 1 x)&&(okE T b sc (kid 2 x)&&okE T c sc (kid 3 x))))
 |.M e=>λsc x=>glob T sc (mx (kid 0 x)) (.type "list")&&(glob T sc (mx (kid 0 (kid 1 x))) (.type "map")&&(glob T sc (mx (kid 0 (kid 1 (kid 1 x)))) (.ref T.cM)&&(noStar [reE T e sc (kid 2 (kid 1 x))]&&okE T e sc (kid 2 (kid 1 x)))))
 |.dead=>λ_ _=>true
noncomputable def nS (T:Tab):Exs->Scope->List Expr->Bool
 |.nil=>λ_ _=>true
 |.cons e es=>λsc l=>okE T e sc (l.headD default)&&nS T es sc l.tail
noncomputable def G0 (T:Tab):Exs->Scope->List Expr->Bool
 |.nil=>λ_ _=>true
 |.cons e es=>λsc l=>tOk e&&(okE T e sc (l.headD default)&&G0 T es sc l.tail)
noncomputable def FZ (T:Tab):It->Scope->Bool->Expr->Bool
 |.rng1 e=>λsc _ x=>glob T sc (mx (kid 0 x)) (.type "range")&&(noStar [reE T e sc (kid 1 x)]&&okE T e sc (kid 1 x))
 |.rng2 e f=>λsc _ x=>glob T sc (mx (kid 0 x)) (.type "range")&&(noStar [reE T e sc (kid 1 x),reE T f sc (kid 2 x)]&&(okE T e sc (kid 1 x)&&okE T f sc (kid 2 x)))
 |.enum e=>λsc tp x=>tp&&(glob T sc (mx (kid 0 x)) (.type "enumerate")&&(noStar [reE T e sc (kid 1 x)]&&okE T e sc (kid 1 x)))
 |.seq e=>λsc _ x=>okE T e sc x
noncomputable def JP (T:Tab):Gens->Scope->List Comprehension->Expr->Bool
 |.elt e=>λsc _ x=>okE T e sc x
 |.cons it t cs more=>λsc l x=>FZ T it sc (isTup (pY sc t (hdG l).1)) (hdG l).2.1&&(C3 T sc t (hdG l).1&&(G0 T cs sc (hdG l).2.2&&(JP T more sc l.tail x&&lM (sQ T it sc (hdG l).2.1))))
end
abbrev wY (T:Tab)(sc:Scope):Tgt->Expr->Expr
 |.v i=>λx=>.Name (qa sc i) x.pos
 |.attr o i=>λx=>.Attribute (reE T o sc (kid 0 x)) ((T.attrs[i]?).getD "") x.pos
 |.sub o i=>λx=>.Subscript (reE T o sc (kid 0 x)) (reE T i sc (kid 1 x)) x.pos
 |.T is=>λx=>.Tuple (tc sc is (kids x)) (exK x) x.pos
abbrev IC (T:Tab)(sc:Scope):Tgt->Expr->Bool
 |.v i=>λ_=>ownAt T.cap sc i
 |.attr o i=>λx=>okE T o sc (kid 0 x)&&(T.attrs[i]?).isSome
 |.sub o i=>λx=>okE T o sc (kid 0 x)&&okE T i sc (kid 1 x)
 |.T is=>λx=>qB T.cap sc is
abbrev yp (T:Tab)(sc:Scope):List Tgt->List Expr->List Expr
 | []=>λ_=>[]
 |t::ts=>λl=>wY T sc t (l.headD default)::yp T sc ts l.tail
abbrev lJ (T:Tab)(sc:Scope):List Tgt->List Expr->Bool
 | []=>λ_=>true
 |t::ts=>λl=>IC T sc t (l.headD default)&&lJ T sc ts l.tail
abbrev stB (x:Stmt):List Stmt×List Stmt:=((sw x).b,(sw x).c)
abbrev vD:List Tgt->Bool
 | [.v _]=>true
 |_=>false
abbrev vE:Ex->Bool
 |.K _ _ _ _ _=>true
 |_=>false
abbrev CK:List Tgt->Option (List Nat)
 | [.T is]=>some is
 |_=>none
abbrev ID (T:Tab)(sc:Scope)(ts:List Tgt)(e:Ex)(xs hs:List Expr)(y:Expr):Option (Option (List Str))->Bool
 |none=>false
 |some none=>lJ T sc ts hs&&(zx y||(vD ts&&vE e))
 |some (some names)=>(CK ts).any λis=>zx y&&(LR T.cap sc is names&&decide is.Nodup)
abbrev M4:Bop->Bool
 |.add=>true
 |.sub=>true
 |_=>false
abbrev reQ (sc:Scope):QE->Expr->Expr
 |.int i=>λx=>.Constant (.int i) (exK x) x.pos
 |.l i=>λx=>.Name (qa sc i) x.pos
 |.b op a b=>λx=>.BinOp (reQ sc a (kid 0 x)) (binOp op) (reQ sc b (kid 1 x)) x.pos
abbrev okQ (sc:Scope):QE->Bool
 |.int _=>true
 |.l i=>kindAt isVar sc i
 |.b _ a b=>okQ sc a&&okQ sc b
abbrev xJ (k:NameKind):Bool:=k==.local
abbrev NM (T:Tab)(sc:Scope)(i:Nat)(e:Ex)(y:Nat)(v:QE)(x:Stmt)(z:Expr):Stmt:=
 .Assign [.Name (qa sc i) ((yx x).getD 1 default).pos] (.DictComp (.Name (qa (gu z).2 y) (kid 0 z).pos) (reQ (lp (gu z).2 sc) v (kid 1 z)) [#[.Name (qa (gu z).2 y) (hdG (gu z).1).1.pos,reE T e sc (hdG (gu z).1).2.1,[],0]] (gu z).2 z.pos) x.pos
abbrev NP (T:Tab)(sc:Scope)(i:Nat)(fv:List (Nat×Nat))(e:Ex)(y:Nat)(v:QE)(x:Stmt)(z:Expr):Bool:=
 okE T e sc (hdG (gu z).1).2.1&&(ownAt T.cap sc i&&(kindAt xJ sc i&&(kindAt xJ (gu z).2 y&&(lM (reE T e sc (hdG (gu z).1).2.1)&&(decide ((gu z).2.kind=.function)&&(decide (((gu z).2.names.map (·.1)).Nodup)&&(lK sc fv 0 (gu z).2.names&&((gu z).2.names.all (λp=>p.2 != .cell)&&(okQ (lp (gu z).2 sc) v&&((((yx x).getD 1 default).pos.line==z.pos.line)&&!((gu z).2.names.any λp=>p.1==qa sc i&&(p.2==.local||p.2==.cell))))))))))))
mutual
noncomputable def reS (T:Tab)(sc:Scope):Stm->Stmt->Stmt
 |.a ts e=>λx=>.Assign (yp T sc ts (yx x).tail) (reE T e sc (st0 x)) x.pos
 |.aug i op e=>λx=>.AugAssign (.Name (qa sc i) ((yx x).getD 1 default).pos) (binOp op) (reE T e sc (st0 x)) x.pos
 |.dcompA i _ e y v=>λx=>NM T sc i e y v x (st0 x)
 |.expr e=>λx=>.Expr (reE T e sc (st0 x)) x.pos
 |.C c t e=>λx=>.If (reE T c sc (st0 x)) (pZ T sc t (stB x).1) (pZ T sc e (stB x).2) x.pos
 |.loop c b=>λx=>.While (reE T c sc (st0 x)) (pZ T sc b (stB x).1) [] x.pos
 |.each t it b=>λx=>.For (pY sc t ((yx x).getD 1 default)) (sQ T it sc (st0 x)) (pZ T sc b (stB x).1) [] x.pos
 |.ret e=>λx=>.Return ((yx x).head?.map (reE T e sc)) x.pos
 |.brk=>λx=>.Break x.pos
 |.cont=>λx=>.Continue x.pos
 |.pass=>λx=>bif (yx x).isEmpty then .Pass x.pos else .Expr (.Constant (.str (xU (st0 x))) (exK (st0 x)) (st0 x).pos) x.pos
 |.dead=>λx=>x
noncomputable def pZ (T:Tab)(sc:Scope):pq->List Stmt->List Stmt
 |.nil=>λ_=>[]
 |.cons s ss=>λl=>reS T sc s (l.headD default)::pZ T sc ss l.tail
end
mutual
noncomputable def okS (T:Tab)(sc:Scope):Stm->Stmt->Bool
 |.a ts e=>λx=>okE T e sc (st0 x)&&ID T sc ts e (yp T sc ts (yx x).tail) (yx x).tail (reE T e sc (st0 x)) (swp sc (yp T sc ts (yx x).tail) (reE T e sc (st0 x)))
 |.aug i op e=>λx=>M4 op&&(ownAt T.cap sc i&&okE T e sc (st0 x))
 |.dcompA i fv e y v=>λx=>NP T sc i fv e y v x (st0 x)
 |.expr e=>λx=>zx (reE T e sc (st0 x))&&okE T e sc (st0 x)
 |.C c t e=>λx=>tOk c&&(okE T c sc (st0 x)&&(nR T sc t (stB x).1&&nR T sc e (stB x).2))
 |.loop c b=>λx=>tOk c&&(okE T c sc (st0 x)&&nR T sc b (stB x).1)
 |.each t it b=>λx=>C3 T sc t ((yx x).getD 1 default)&&(FZ T it sc (isTup (pY sc t ((yx x).getD 1 default))) (st0 x)&&(nR T sc b (stB x).1&&lM (sQ T it sc (st0 x))))
 |.ret e=>λx=>match (yx x).head? with
  |some y=>okE T e sc y
  |none=>e.isNone
 |.brk=>λ_=>true
 |.cont=>λ_=>true
 |.pass=>λ_=>true
 |.dead=>λ_=>true
noncomputable def nR (T:Tab)(sc:Scope):pq->List Stmt->Bool
 |.nil=>λ_=>true
 |.cons s ss=>λl=>okS T sc s (l.headD default)&&nR T sc ss l.tail
end
end MP
end
section
namespace MP
open PySem PyProof.Rows PySem.W
section
variable {s:Shared}
variable {G:Stc}{C:Cal}{sc:Scope}{d:Nat}
def LM {A:Around}{E:QqV}{σ:St}{op:Bop}{a b r:Int}{t u:Tok}{R:QqV}(h:kT op a b σ λv _=>v=.int r)(k:∀U tk,R (.int r U) {s with toks:=tk}):wpAny G.M A (binaryOp (binOp op) (.int a t) (.int b u)) R E s:=by
 have go:∀{z:Int} {U tk},V.int z=.int r->R (.int z U) {s with toks:=tk}:=λ{z U tk} e=>by cases e;show k _ _
 cases op with
 |add=>show add_int (go h)
 |sub=>show sub_int (go h)
 |mul =>
  apply mul_int (go h.2) ?_;rcases h.1 with q|q
  ·show IntMulOk.of_left (intBits_le_64 ((Ar.nab _).elim (λW=>(kh .a6 .a .a9 W.1)) λW=>(sg .a6 .d .M .aN q W.2)) ((Ar.nab _).elim (λW=>(sg .aF .d .M .aG q W.2)) λW=>(kh .aF .a .aP W.1)))
  ·show IntMulOk.of_right (intBits_le_64 ((Ar.nab _).elim (λW=>(kh .a6 .a .a9 W.1)) λW=>(sg .a6 .d .M .aN q W.2)) ((Ar.nab _).elim (λW=>(sg .aF .d .M .aG q W.2)) λW=>(kh .aF .a .aP W.1)))
 |fdiv=>show floordiv_int h.1 (go h.2.2) (.inl (PyProof.noPylong_of_log2 (log2_lt_of h.2.1)))
 |mod=>show mod_int' h.1 (go h.2)
 |pow =>
  have#[h0,I,J,O]:=h;show pow_int_small h0 (kh (.ik .A (.n 1000000)) .a (.ik .A (.n 1000)) I) J (go O)
def xI {s':Shared}(k:Keeps s s'){tk:Nat}:Keeps s {s' with toks:=tk}:=by
 have#[h',t,rfl,k]:=k;apply#[h',tk,rfl,k]
abbrev N5 (G:Stc)(env:Env)(ρ:Fr)(s:Shared):Prop:=∀(i:Nat) (x:Str) (k:NameKind) (r:Int),env.scope.names[i]?=some (x,k)->isVar k=true->jh x=true->ρ i=some (.int r) ->
 ∀{A:Around} {E Q:QqV} {s':Shared},Keeps s s'->(∀t,Q (.int r t) s')->wpAny G.M A (loadName env x) Q E s'
def quiet {σ:St}{env:Env}{ρ:Fr}(V:N5 G env ρ s){A:Around}{E:QqV}:(q:QE)->(x:Expr)->okQ env.scope q=true->{r:Int}->qV ρ σ q r->{Q:QqV}->{s':Shared}->Keeps s s'->(∀t W,Keeps s W->Q (.int r t) W)->wpAny G.M A (eval (reQ env.scope q x) env) Q E s'
 |.int i=>λx _ r h Q s' k q=>by
  have rfl:=h;show wpAny_Constant_int (q _ _ (xI k))
 |.l i=>λx o r h Q s' k q=>by
  have#[kd,h1,z,I]:=wu o;have J:(qa env.scope i==("__debug__":Str))=false:=by simp only[jh,dw,gi]at I;show I.1
  show wpAny_Name (V i _ kd r h1 z I h k λt=>q t _ k) J
 |.b op a b=>λx o r h Q s' k q=>by
  have#[i,j,B,hb,h]:=h;show wpAny_BinOp (quiet V a _ (band o).1 B k λt s₁ O=>quiet V b _ (band o).2 hb O λu s₂ U=>LM h λt' tk=>q _ _ (xI U))
def ints_snoc {n:Int}{t:Tok}:{l:List Value}->{ns:List Int}->IntsAre (l++[.int n t]) ns->∃ms,ns=ms++[n]/\IntsAre l ms
 | [],ns=>λi=>by cases i with|cons _ _ i=>cases i;apply#[[],rfl,.nil]
 |w::l,ns=>λi=>by
  cases i with
  | @cons m t _ ms i =>
   have#[W,rfl,i']:=ints_snoc (l:=l) i;apply#[m::W,rfl,.cons _ _ i']
def vQ {h:Heap}{f:Int->Int}{W:List (Key×Value)}{vs:List Value}(x:StoredAll (λ(v:Value) (k:Key)=>∃n t,v=.int n t/\k=.int n) (λv y=>∃n t u,v=.int n t/\y=.int (f n) u) vs W){ns:List Int}(i:IntsAre vs ns):DRs G h (dOf f ns) W:=by
 induction x generalizing ns with
 |nil=>cases i;show .nil
 | @snoc l W v k y _ hk O U =>
  have#[n,t,rfl,rfl]:=id hk;have#[I,J,u,e,rfl]:=id O;cases e;have#[ms,rfl,i']:=ints_snoc i;unfold dOf;rw[List.foldl_append];show(U i').put (.int _ _)
def FU {es:List (Key×V)}{k:Key}{v:V}:(putD es k v).length<=es.length+1:=by
 unfold putD;split
 ·rw[aw];show fO _
 ·rw[bg];show au _
def KQ {f:Int->Int}(ns:List Int):(dOf f ns).length<=ns.length:=by
 have:∀(ns:List Int) (es:List (Key×V)),(ns.foldl (λes n=>putD es (.int n) (.int (f n))) es).length<=es.length+ns.length:=λns=>by
  induction ns with
  |nil=>show λes=>au _
  |cons n ns W =>
   intro es;have O:=W (putD es (.int n) (.int (f n)));have U:=@FU es (.int n) (.int (f n));rw[List.foldl_cons,iq];(show fy (.k .A .aM) .b (.k .A .aP) (.k .D .P) O U)
 have h:=this ns []
 rwa [List.length_nil,mj]at h
def BO {scope:Scope}(W:scope.names.all (λp=>p.2 != .cell)=true){i:Nat}{x:Str}{k':NameKind}(e:(lp scope sc).names[i]?=some (x,k')):∃k,scope.names[i]?=some (x,k)/\(k'=k\/(k=.free/\k'=.cell)):=by
 simp only[lp,dq]at e;cases U:scope.names[i]? with
 |none=>rw[U]at e;cases e
 |some p =>
  have#[y,k]:=p;rw[U]at e;simp only[cX,gf]at e;split at e
  ·rename_i W;have#[rfl,rfl]:=ke e;simp only[dw,dh]at W;apply#[k,rfl,.inr #[W.1.1,rfl]]
  ·have#[rfl,rfl]:=ke e;apply#[k,rfl,.inl rfl]
def uI {i y:Nat}{fv:List (Nat×Nat)}{e:Ex}{v:QE}{x:Str}{kd:NameKind}{px pos bl p1 p2:Pos}{iter z:Expr}{scope:Scope}(he:gc G C sc d e iter)(hi:sc.names[i]?=some (x,kd))(hk:Own G x kd)(hl:kindAt xJ sc i=true)(hy:kindAt xJ scope y=true)(hs:∀env v,foldedSetIterable iter env v=pure v)(U:scope.kind=.function)(nd:(scope.names.map (·.1)).Nodup)
  (ec:lK sc fv 0 scope.names=true) (hc:scope.names.all (λp=>p.2 != .cell)=true) (hq:okQ (lp scope sc) v=true) (cb:(px.line==pos.line)=true) (dn:(!(scope.names.any λp=>p.1==x&&(p.2==.local||p.2==.cell)))=true) :
  yg G C sc d (.dcompA i fv e y v) (.Assign [.Name x px] (.DictComp (.Name (qa scope y) p1) (reQ (lp scope sc) v z) [#[.Name (qa scope y) p2,iter,[],0]] scope pos) bl):=λA E env ρ σ K s c h=>by
 have#[kl,dv,ch,_]:=wu hl;have#[ky,bt,en,cl]:=wu hy;obtain rfl:ky=.local:=by cases ky<;>first|rfl|show Bool.noConfusion en
 obtain rfl:kl=.local:=by cases kl<;>first|rfl|show Bool.noConfusion ch
 have eB:kd=.local:=by rw[hi]at dv;show(ke (ah dv)).2
 have eA:env.kindOf x=some .local:=eB▸ku c.eo.nd (by rw[c.es];show hi);have ex:(env.blockKind==.function&&env.kindOf x==some .local&&px.line==pos.line&&!(scope.names.any λ(n,k)=>n==x&&(k==.local||k==.cell)))=true:=by
  rw[eA,cb];have hb:env.blockKind=.function:=by unfold Env.blockKind;rw[c.eo.kind];rfl
  rw[hb];show dn
 have cx:swapsWith (.DictComp (.Name (qa scope y) p1) (reQ (lp scope sc) v z) [#[.Name (qa scope y) p2,iter,[],0]] scope pos) (some (.Name x px)) bl.line env=pure true:=by
  show(pure _:Sem Bool)=_;show di pure ex
 rw[exec_Assign_Name_used _ _ _ _ cx];apply ab (gw (ab ?_));show wpAny G.M A (comprehension _ scope env _ newDict false (eval iter env) (some (assign (.Name x px) env))>>=λ_=>pure ()) _ E s;apply ab ?_;have#[bu,_]:=rA c.F c.es nd ec;apply wpAny_comprehension_free rfl (hs env) (fG bu) U (λw hw hl=>?_) (dj (he c h) (λu s₁ l=>?_) λ_ _ x=>x)
 ·have#[j,e]:=zt hw;have#[y,k]:=w;simp only at hl;subst hl;show ku nd e
 have#[v0,σ₁,q,vr,r,x1]:=l;have#[a,rfl,ns,f,e,hf,q]:=ud (v:=v0) q;have rfl:=vr;have#[ws,n,ai,cj]:=r.L _ _ e;have is:=tu cj;have bp:=is.length;have hz:=r.Ll _ _ e;rw[aw]at hz;have dr:=ip ai;apply jT ai.isList ?_;have ag:∀b o,s₁.heap.get? b=some o->(s₁.heap.push {cls:=.type "list_iterator",data:=.fields #v[.ref a,.int 0 0]}).get? b=some o:=λb o e=>ba _ e;have F1:=c.F.evo x1.e;have#[_,clo]:=rA F1 c.es nd ec;have num:∀{i:Nat} {w:Value},ws.toArray[i]?=some w->∃m t,w=.int m t/\m∈ns:=λ{i w} hw=>by
  rw[kF]at hw;have ea:i<ns.length:=by have:=(cy.mp hw).1;(show fb .B .b (.e .C .B) .I bp this)
  have#[w',ct,t,rfl]:=cj.get (i:=i) (v:=.int ns[i]) (by rw[dq,aq ea];rfl);rw[hw]at ct;cases ct;apply#[_,t,rfl,du ea]
 have ej:((lp scope sc).names.map (·.1)).Nodup:=by
  have e:(lp scope sc).names.map (·.1)=scope.names.map (·.1):=by
   simp only[lp,jk];apply dB λp _=>?_;have#[y,k]:=p;simp only[Function.comp];split<;>rfl
  rw[e];show nd
 have aj:relabel scope env=lp scope sc:=by rw[sP,c.es]
 have var:∀(D:Addr) (W:Shared) (O:Str->Option Value) (n:Int) (t:Tok),W.heap.Ns D O->O (qa scope y)=some (.int n t)->(∀b o,b∉[s₁.heap.objs.size]->(s₁.heap.push {cls:=.type "list_iterator",data:=.fields #v[.ref a,.int 0 0]}).get? b=some o->W.heap.get? b=some o) ->
   N5 G (compEnvC scope (nk env.cells scope.names []) D env) (upd (dT fv ρ) y (.int n)) W:=λD W O n t hN hm k3=>by
  intro j xx kk r hj hv ho hr A E Q s' ks hQ;have#[h',tk,rfl,ks]:=ks;have dV:(lp scope sc).names[j]?=some (xx,kk):=by rw[<- aj];show hj
  have#[k0,be,dy]:=BO hc dV;have J:Env.kindOf (compEnvC scope (nk env.cells scope.names []) D env) xx=some kk:=by
   show(relabel scope env).names.lookup xx=some kk;rw[aj];show ku ej dV
  by_cases dL:j=y
  ·subst dL;rw[bt]at be;have#[rfl,rfl]:=ke (ah be);obtain rfl:kk=.local:=dy.elim id λq=>nomatch q.1;rw[cn]at hr;cases hr;show wpAny_loadName_local U J (hN.at' λo e=>ks _ o e) hm (hQ t)
  ·rw[fg dL]at hr;by_cases ax:k0=.free
   ·subst ax;have#[cc,w,h1,h2,h3,_]:=clo.free j xx be;rw[hr]at h3;cases w with
    |none=>show h3.elim
    |some w =>
     have#[t',rfl]:=h3;have#[oc,da,hd]:=h2;have bc:(h':Heap).IsCell cc (some (.int r t')):=#[oc,ks _ _ (k3 _ _ (λq=>by have rfl:=ak.mp q;show je _ (ip da)) (ag _ _ da)),hd];rcases dy with rfl|⟨_,rfl⟩
     ·apply wpAny_loadName_free U J h1 bc (hQ t') ?_;simp only[jh,dw,gi]at ho;show ho.2
     ·show wpAny_loadName_cell U J h1 bc (hQ t')
   ·rw[clo.other j xx k0 be ax]at hr;cases hr
 have eR:(s₁.heap.push {cls:=.type "list_iterator",data:=.fields #v[.ref a,.int 0 0]}).IsListIter s₁.heap.objs.size a 0:=#[_,eg _ rfl,rfl,rfl];apply comp_block_walkCD (knd:=G.kk) (RR:=λacc D=>compPost G.M A E (some (assign (.Name x px) env)) _ acc D) (Walks.list c.ao.handled s₁.heap.objs.size a (jt dr) ws.toArray) (by rw[cw,bp];show nh hz) (λ_=>true) (λv k=>∃n t,v=.int n t/\k=.int n) (λv y=>∃n t u,v=.int n t/\y=.int (f n) u)
  (λw hw q=>by have:=jo.mp hc w hw;rw[q]at this;show Bool.noConfusion this) U (ku nd bt) #[eR,ai.isList.push _] (λb hb=>?_) #[λD i w W O E' hP hN hm k3=>?_,λD i w W O E' hP _ hN hm k3=>?_,λD i w W O E' hP _ hN hm k3=>?_] ?_
 ·show b<(s₁.heap.push _).objs.size;rw[ic];rcases cz.mp hb with rfl|hb
  ·show uj _
  ·rw[ak.mp hb];show yb dr
 ·show af #[rfl,_,_,rfl,λb o e=>e]
 ·have#[m,t,rfl,bn]:=num hP;have eu:(qa scope y==("__debug__":Str))=false:=by simp only[jh,dw,gi]at cl;show cl.1
  have J:Env.kindOf (compEnvC scope (nk env.cells scope.names []) D env) (qa scope y)=some .local:=lookup_relabel_local (ku nd bt);show wpAny_Name (wpAny_loadName_local U J hN hm #[#[.int m,by simp[keyKind,tE,Value.isInt],m,t,rfl,rfl],_,_,rfl,λb o e=>e]) eu
 ·have#[m,t,rfl,bn]:=num hP;have ey:okQ (compEnvC scope (nk env.cells scope.names []) D env).scope v=true:=by show okQ (relabel scope env) v=true;rw[aj];show hq
  have:=quiet (var D W O m t hN hm k3) v z ey (hf m bn) (A:=A) (E:=E') (Q:=λy ck=>(∃n t' u,Value.int m t=.int n t'/\y=.int (f n) u)/\Keeps W ck) (s':=W) #[_,_,rfl,λb o e=>e] λt' fr k=>#[#[m,t,t',rfl,rfl],k];rw[<- aj];show this
 intro D L h' tk m' em vs hD hL eZ hN ay cd hP hF br;have old:∀b o,s₁.heap.get? b=some o->h'.get? b=some o:=λb o e=>br b o (λq=>by have rfl:=ak.mp q;show je _ (ip e)) (ag b o e);have ar:∀{b},(s₁.heap.push {cls:=.type "list_iterator",data:=.fields #v[.ref a,.int 0 0]}).get? b=none->s₁.heap.get? b=none:=λ{b} hb=>by
  cases q:s₁.heap.get? b with
  |none=>rfl
  |some o=>rw[ag _ _ q]at hb;cases hb
 have bd:=ar hD;have ef:=ar hL;have#[oD,ez,_]:=Heap.dictOf_iff.mp ay;have ei:At D s₁.heap h':=At.grow bd old ez;have ev:vs=ws:=by
  apply List.ext_getElem? λj=>?_;have ch:vs.length=ws.length:=by rw[cd,cw]
  rcases ix j vs.length with hj|hj
  ·have:=hP j _ (aq hj);rw[kF]at this;rw[aq hj,this]
  ·rw[kg hj,kg (fb .A .k (.e .C .A) .H ch hj)]
 have eK:vs.filter (λ_=>true)=vs:=List.filter_eq_self.mpr λ_ _=>rfl;rw[eK,ev]at hF;have fl:DRs G s₁.heap (dOf f ns) em:=vQ hF is;have freshD:σ₁.D D=none:=by
  cases hq:σ₁.D D with
  |none=>rfl
  |some es=>have#[o',df,_]:=r.zQ hq;rw[bd]at df;cases df
 have R':Rel G (σ₁.nj D (dOf f ns)) h':=r.putD ei (λ_=>bd) (λb f e=>r.x7 bd e rfl) ay fl (nr (KQ ns) hz);have x':Go [] σ s (σ₁.nj D (dOf f ns)) {s₁ with heap:=h',toks:=tk}:=x1.to (Evo.putD ei (λ_=>bd) _);show wpAny G.M A (assign (.Name x px) env (.ref D)) _ E _;apply assign_Name (yz c.eo (c.F.evo x'.e) R' (by rw[c.es];show hi) hk (.dct _) λs2 F2 R2 x2=>?_);have hn:∀b∈[L],s.heap.get? b=none:=λb hb=>by have rfl:=ak.mp hb;show x1.new ef
 have hX:=kL c.F hn;have#[o,fi,ep,ho,ed,ca]:=id hN;have hd:¬(σ₁.nj D (dOf f ns)).dom L:=λdm=>by
  rcases hZ dm with dm|e
  ·have#[o',e']:=r.pn dm;rw[ef]at e';cases e'
  ·show eZ e.symm
 have dc:=x2.keep _ _ ho hd (hX L (.head _));apply#[m',#[o,fi,ep,dc,ed,ca],λh3 bv=>af (af ?_)];have eb:jq s2.heap h3:=tw bv λo' e=>by have rfl:=ah (dc.symm.trans e);show qg ed
 have dx:∀b o,b∉[L]->s2.heap.get? b=some o->h3.get? b=some o:=λb o hb e=>by rw[bv.2 b (λq=>hb (q▸.head _))];show e
 apply#[.next,_,_,.next,q _ freshD,F2.but dx eb hX,R2.frame (o':=default) bv hd (zc c.R hn L (.head _)) eb,(x'.wide.trans x2).but dx .rfl hn]
end
section
variable {sc:Scope}{x y u:Expr}{α:Type}{e a b:Ex}{p pos:Pos}{es:Exs}{args:List Expr}{n:Nat}
variable {G:Stc}{T:Tab}{C:Cal}{d:Nat}
def td (K:TabOk G T C d){x:Str}{v:Value}(h:glob T sc x v=true):sc.names.lookup x=some .globalImplicit/\jh x=true/\G.gl x=some v:=
 #[bw (band h).1,(band (band h).2).1,K.gl _ _ (bw (band (band h).2).2)]
def zd (h:lM x=true):∀env v,foldedSetIterable x env v=pure v:=by
 intro env v;cases x<;>first|rfl|show Bool.noConfusion (show false=true from h)
def TabOk.own (K:TabOk G T C d){i:Nat}(h:ownAt T.cap sc i=true):∃k,sc.names[i]?=some (qa sc i,k)/\Own G (qa sc i) k/\jh (qa sc i)=true:=uT (by rw[K.cap];show h)
def pQ (K:TabOk G T C d):(t:Tg)->(x:Expr)->C3 T sc t x=true->we G C sc d t (pY sc t x)
 |.v i,x,h=>by have#[k,U,W,O]:=K.own h;show EK (C:=C) U W
 |.T is,x,h=>EL (C:=C) K.unp (by rw[K.cap];show h)
def lX {a:Option α}{d:α}(h:a.isSome=true):a=some (a.getD d):=by
 cases a with
 |none=>cases h
 |some x=>rfl
def rI (K:TabOk G T C d){i:Nat}(h:(T.attrs[i]?).isSome=true):G.attrs[i]?=some ((T.attrs[i]?).getD ""):=by
 rw[K.attrs];show lX h
def MO {op:BoolOp}{m:Bool}(H:∀z r,gc G C sc d a x->gc G C sc d b (.BoolOp op (z::r) p)->gc G C sc d e (.BoolOp op (x::z::r) p))(W:gc G C sc d a x)(hb:gc G C sc d b y)(h:C4 op y p m=true) :
  gc G C sc d e (bo op x y p m):=by
 rcases u4 m h with rfl|⟨z,r,rfl,U⟩
 ·show H y [] W (EX hb)
 ·rw[U];show H z r W hb
def MN {op:BoolOp}{m:Bool}(H:∀z r,ua G C sc d a x->ua G C sc d b (.BoolOp op (z::r) p)->ua G C sc d e (.BoolOp op (x::z::r) p))(W:ua G C sc d a x)(hb:ua G C sc d b y)(h:C4 op y p m=true) :
  ua G C sc d e (bo op x y p m):=by
 rcases u4 m h with rfl|⟨z,r,rfl,U⟩
 ·show H y [] W (by cases op;show yP hb;show yO hb)
 ·rw[U];show H z r W hb
def yN (K:TabOk G T C d){f:Nat}(h:((T.fns.lookup f).any λa=>glob T sc (mx x) (.ref a))=true)(W:pe G C sc d es args)(U:noStar args=true):gc G C sc d (.call f es) (.Call (nm x) args [] pos):=by
 have#[a,e,h]:=any_some h;have#[g1,g2,g3]:=td K h;show B7 K.g (K.cal.more (mz _ _)) e W U g1 g2 g3
def yK (K:TabOk G T C d){m:Nat}{o:Expr}{ap:Pos}(h:(T.meths.lookup m).isSome=true)(J:gc G C sc d e o)(z:tj o=true)(B:(ap.endLine==pos.line)=true)(I:decide (args.length<30)=true)(U:noStar args=true)(W:pe G C sc d es args) :
  gc G C sc d (.meth e m es) (.Call (.Attribute o ((T.meths.lookup m).getD "") ap) args [] pos):=by
 have#[f,O,M]:=K.meth _ _ (lX h);show AW (K.cal.more (mz _ _)) O M J W z U (bw I) B
def FD (K:TabOk G T C d){k:BM}{o:Expr}{ap:Pos}(h:(!isSort k||es.isNil)=true)(B:es.isNil=true->args=[])(U:gc G C sc d e o)(J:tj o=true)(O:(ap.endLine==pos.line)=true)(z:decide (args.length<30)=true)(I:noStar args=true)(W:pe G C sc d es args) :
  gc G C sc d (.bm k e es) (.Call (.Attribute o (rH k) ap) args [] pos):=by
 by_cases hk:k=.sort
 ·subst hk;have rfl:=B h;cases es with
  |nil=>show AO K.ma U J O
  |cons _ _=>cases h
 ·show JE K.g hk U W J I (bw z) O
def BQ {l:List Expr}:(es:Exs)->es.isNil=true->uy T es sc l=[]
 |.nil,_=>rfl
def FQ {l:List Expr}:(es:Exs)->(!es.isNil)=true->uy T es sc l≠[]
 |.cons _ _,_=>List.cons_ne_nil _ _
def yJ (K:TabOk G T C d)(W:args≠[])(h:glob T sc (mx x) (.ref T.cS)=true)(O:noStar args=true)(U:pe G C sc d es args):gc G C sc d (.n es) (.Call (nm x) args [] pos):=by
 have#[g1,g2,g3]:=td K h;have#[f,J,M]:=K.init;show AV K.g K.cal (nr (by decide) K.d3) J M U O W g1 g2 (K.cS▸g3)
def nL (K:TabOk G T C d){c:Ex}{v w:Expr}(h:glob T sc (mx x) (.ref T.cM)=true)(W:noStar [u,v,w]=true)(O:gc G C sc d a u)(hb:gc G C sc d b v)(U:gc G C sc d c w):gc G C sc d (.N a b c) (.Call (nm x) [u,v,w] [] pos):=by
 have#[g1,g2,g3]:=td K h;have#[fN,fM,I,J,B]:=K.mt;show pU K.g I J K.ma (nr (by decide) K.d3) O hb U W g1 g2 (K.cM▸g3)
def kY (K:TabOk G T C d){z:Expr}{q:Pos}(h1:glob T sc (mx x) (.type "list")=true)(h2:glob T sc (mx y) (.type "map")=true)(h3:glob T sc (mx z) (.ref T.cM)=true)(I:noStar [u]=true)(B:gc G C sc d e u) :
  gc G C sc d (.M e) (.Call (nm x) [.Call (nm y) [.Attribute (nm z) "_make" q,u] [] p] [] pos):=by
 have#[g1,g2,g3]:=td K h1;have#[J,k2,k3]:=td K h2;have#[O,U,W]:=td K h3;have#[fN,fM,Mk,Mn,Mm]:=K.mt;show nM K.g Mk K.ma Mm K.d3 B I g1 g2 g3 J k2 k3 O U (K.cM▸W)
def iU (h:e.isNone=true):e=.none:=by
 cases e<;>first|rfl|show Bool.noConfusion h
def HC {l m:List α}{a:α}(h:l.drop n=a::m):l[n]?=some a:=by
 have:=di (λl=>l[0]?) h;simpa using this
def HB {l m:List α}{a:α}(h:l.drop n=a::m):l.drop (n+1)=m:=by
 have:=di (λl=>l.drop 1) h;simpa using this
def dM:(W:Gens)->(l:List Comprehension)->∀g∈BP T W sc l,g.is_async=0
 |.elt _,_,_,h=>nomatch h
 |.cons _ _ _ more,l,g,h=>(cz.mp h).elim (λe=>e▸rfl) (dM more l.tail g)
def ft {p:Prop}(h:false=true):p:=Bool.noConfusion h
def FG (K:TabOk G T C d):(k:BF)->Nat.beq 1 (DJ k)=true->GP k=false->glob T sc (mx x) (y3 k)=true->noStar [u]=true->gc G C sc d e u->gc G C sc d (.bf k %[e|0]) (.Call (nm x) [u] [] pos)
 |.len=>λ_ _ h W U=>by have#[g1,g2,g3]:=td K h;show F6 K.g U W g1 g2 g3
 |.sorted=>λ_ _ h W U=>by have#[g1,g2,g3]:=td K h;show uF K.g U W g1 g2 g3
 |.set=>λh=>ft h
def FE (K:TabOk G T C d){f:Ex}{v:Expr}:(k:BF)->Nat.beq 2 (DJ k)=true->glob T sc (mx x) (y3 k)=true->noStar [u,v]=true->gc G C sc d e u->gc G C sc d f v->gc G C sc d (.bf k %[e,f|0]) (.Call (nm x) [u,v] [] pos)
 |.len=>λh=>ft h
 |.set=>λh=>ft h
 |.sorted=>λh=>ft h
def FH (K:TabOk G T C d):(k:BF)->Nat.beq 0 (DJ k)=true->glob T sc (mx x) (y3 k)=true->gc G C sc d (.bf k .nil) (.Call (nm x) [] [] pos)
 |.set=>λ_ h=>by have#[g1,g2,g3]:=td K h;show AQ K.g g1 g2 g3
 |.len=>λh=>ft h
 |.sorted=>λh=>ft h
def bf3 (k:BF)(h:Nat.beq (n+3) (DJ k)=true):False:=by
 cases k<;>first|show nomatch (show Nat.beq (n+2) 0=true from h)|show nomatch (show Nat.beq (n+3) 0=true from h)|show nomatch (show Nat.beq (n+1) 0=true from h)
mutual
theorem kz (K:TabOk G T C d):(e:Ex)->(sc:Scope)->(x:Expr)->okE T e sc x=true->gc G C sc d e (reE T e sc x)
 |.none=>λsc x h=>AU
 |.bool b=>λsc x h=>B8
 |.int i=>λsc x h=>F8
 |.str t=>λsc x h=>ET
 |.l i=>λsc x h=>by have#[k,h1,W,U]:=wu h;show kI h1 W U
 |.b op a b=>λsc x h=>wO (kz K a sc _ (band h).1) (kz K b sc _ (band h).2)
 |.neg a=>λsc x h=>EZ (kz K a sc _ h)
 |.not a=>λsc x h=>EY (kz K a sc _ h)
 |.and a b=>λsc x h=>let W:=band (band h).2;MO (λ_ _=>snd_and) (kz K a sc _ (band h).1) (kz K b sc _ W.1) W.2
 |.or a b=>λsc x h=>let W:=band (band h).2;MO (λ_ _=>JA) (kz K a sc _ (band h).1) (kz K b sc _ W.1) W.2
 |.c op a b=>λsc x h=>let W:=band (band h).2;FA (kz K a sc _ (band h).1) (kz K b sc _ W.1) ((gi _).mp W.2)
 |.I c a b=>λsc x h=>let W:=band (band h).2;let U:=band W.2;F7 (jZ K c sc _ (band h).1 W.1) (kz K a sc _ U.1) (kz K b sc _ U.2)
 |.L es=>λsc x h=>F5 (gW K es sc _ (band h).1 (band h).2)
 |.T es=>λsc x h=>wM (gW K es sc _ (band h).1 (band h).2)
 |.dct0=>λsc x h=>B4
 |.call f es=>λsc x h=>let W:=band (band h).2;yN K (band h).1 (gW K es sc _ W.1 W.2) W.1
 |.meth e m es=>λsc x h=>let W:=band (band h).2;let U:=band W.2;let O:=band U.2;let J:=band O.2;let I:=band J.2
  yK K (band h).1 (kz K e sc _ W.1) U.1 O.1 J.1 I.1 (gW K es sc _ I.1 I.2)
 |.attr e i=>λsc x h=>let W:=band (band h).2;sL K.g (kz K e sc _ W.2) W.1 (rI K (band h).1)
 |.g e=>λsc x h=>uH (kz K e sc _ (band h).2) (band h).1
 |.h e=>λsc x h=>uG (kz K e sc _ (band h).2) (band h).1
 |.bm k e es=>λsc x h=>let W:=band (band h).2;let U:=band W.2;let O:=band U.2;let J:=band O.2;let I:=band J.2
  FD K (band h).1 (BQ es) (kz K e sc _ W.1) U.1 O.1 J.1 I.1 (gW K es sc _ I.1 I.2)
 |.bf k .nil=>λsc x h=>FH K k (band h).1 (band (band h).2).1
 |.bf k %[e|0]=>λsc x h=>let W:=band (band h).2;let O:=band W.2
  FG K k (band h).1 rfl W.1 O.1 (kz K e sc _ (band O.2).1)
 |.bf k %[e,f|0]=>λsc x h=>let W:=band (band h).2;let O:=band W.2;let J:=band O.2
  FE K k (band h).1 W.1 O.1 (kz K e sc _ J.1) (kz K f sc _ (band J.2).1)
 |.bf k (.cons e (.cons f (.cons g r)))=>λsc x h=>(bf3 k (band h).1).elim
 |.w f es=>λsc x h=>let W:=band (band h).2;by have#[k,e1,e2,e3]:=wu (band h).1;show oB K.g (K.lam.more (mz _ _)) e1 e2 e3 (gW K es sc _ W.1 W.2) W.1
 |.sub e i=>λsc x h=>let W:=band (band h).2;wN (kz K e sc _ W.1) (kz K i sc _ W.2) ((gi _).mp (band h).1)
 |.slc e lo hi=>λsc x h=>let W:=band (band h).2;EU (kz K e sc _ (band h).1)
   (by
    cases B:eQ 0 (kid 1 x) with
    |none=>show .inl #[iU (by have:=W.1;rw[B]at this;show this),rfl]
    |some y=>show .inr #[_,rfl,kz K lo sc y (by have:=W.1;rw[B]at this;show this)])
   (by
    cases B:eQ 1 (kid 1 x) with
    |none=>show .inl #[iU (by have:=W.2;rw[B]at this;show this),rfl]
    |some y=>show .inr #[_,rfl,kz K hi sc y (by have:=W.2;rw[B]at this;show this)])
 |.K fv it t cs more=>λsc x h=>let W:=band (band h).2;let U:=band W.2;let O:=band U.2;let J:=band O.2;let I:=band J.2;let h7:=band I.2;let z:=band h7.2
  sJ (wU K it sc _ _ (band h).1) (pQ K t _ W.1) (wV K cs _ _ U.1) (BG K more _ _ _ _ _ _ 0 rfl (λg hg=>(cz.mp hg).elim (λe=>e▸rfl) (dM more _ g)) O.1) (zd J.1) (bw I.1) (bw h7.1) z.1 z.2 (dM more _)
 |.n es=>λsc x h=>let W:=band (band h).2;let U:=band W.2;yJ K (FQ es (band h).1) W.1 U.1 (gW K es sc _ U.1 U.2)
 |.N a b c=>λsc x h=>let W:=band (band h).2;let U:=band W.2;let O:=band U.2;nL K (band h).1 W.1 (kz K a sc _ U.1) (kz K b sc _ O.1) (kz K c sc _ O.2)
 |.M e=>λsc x h=>let W:=band (band h).2;let U:=band W.2;let O:=band U.2;kY K (band h).1 W.1 U.1 O.1 (kz K e sc _ O.2)
 |.dead=>λsc x h=>yM
theorem jZ (K:TabOk G T C d):(e:Ex)->(sc:Scope)->(x:Expr)->tOk e=true->okE T e sc x=true->ua G C sc d e (reE T e sc x)
 |.not a=>λsc x t h=>BB (jZ K a sc _ t h)
 |.and a b=>λsc x t h=>let W:=band (band h).2;MN (λ_ _=>BE) (jZ K a sc _ (band t).1 (band h).1) (jZ K b sc _ (band t).2 W.1) W.2
 |.or a b=>λsc x t h=>let W:=band (band h).2;MN (λ_ _=>FJ) (jZ K a sc _ (band t).1 (band h).1) (jZ K b sc _ (band t).2 W.1) W.2
 |.c op a b=>λsc x t h=>let W:=band (band h).2;BD (kz K a sc _ (band h).1) (kz K b sc _ W.1) ((gi _).mp W.2)
 |.I c a b=>λsc x t h=>let W:=band (band h).2;let U:=band W.2;BC (jZ K c sc _ (band h).1 W.1) (jZ K a sc _ (band t).1 U.1) (jZ K b sc _ (band t).2 U.2)
 |.l i=>λsc x t h=>by have#[k,O,W,U]:=wu h;show xn (kI O W U) (λ_ _=>rfl) λρ σ Q q=>q
 |.attr e i=>λsc x t h=>let W:=band (band h).2;xn (sL K.g (kz K e sc _ W.2) W.1 (rI K (band h).1)) (λ_ _=>rfl) λρ σ Q q=>q
 |.w f es=>λsc x t h=>let W:=band (band h).2;by have#[k,B,I,J]:=wu (band h).1;show xn (oB K.g (K.lam.more (mz _ _)) B I J (gW K es sc _ W.1 W.2) W.1) (λ_ _=>rfl) λρ σ Q q=>q
 |.sub e i=>λsc x t h=>let W:=band (band h).2;xn (wN (kz K e sc _ W.1) (kz K i sc _ W.2) ((gi _).mp (band h).1)) (λ_ _=>rfl) λρ σ Q q=>q
 |.b op a b=>λsc x t h=>xn (wO (kz K a sc _ (band h).1) (kz K b sc _ (band h).2)) (λ_ _=>rfl) λρ σ Q q=>q
 |.dead=>λsc x t h=>yL
 |.none=>λ_ _ t _=>ft t
 |.bool _=>λ_ _ t _=>ft t
 |.int _=>λ_ _ t _=>ft t
 |.str _=>λ_ _ t _=>ft t
 |.neg _=>λ_ _ t _=>ft t
 |.L _=>λ_ _ t _=>ft t
 |.T _=>λ_ _ t _=>ft t
 |.dct0=>λ_ _ t _=>ft t
 |.call _ _=>λ_ _ t _=>ft t
 |.meth _ _ _=>λ_ _ t _=>ft t
 |.g _=>λ_ _ t _=>ft t
 |.h _=>λ_ _ t _=>ft t
 |.bm _ _ _=>λ_ _ t _=>ft t
 |.bf _ _=>λ_ _ t _=>ft t
 |.slc _ _ _=>λ_ _ t _=>ft t
 |.K _ _ _ _ _=>λ_ _ t _=>ft t
 |.n _=>λ_ _ t _=>ft t
 |.N _ _ _=>λ_ _ t _=>ft t
 |.M _=>λ_ _ t _=>ft t
theorem gW (K:TabOk G T C d):(es:Exs)->(sc:Scope)->(l:List Expr)->noStar (uy T es sc l)=true->nS T es sc l=true->pe G C sc d es (uy T es sc l)
 |.nil=>λsc l W h=>nz
 |.cons e es=>λsc l W h=>jx (kz K e sc _ (band h).1) (gW K es sc _ (gm W).2 (band h).2) (gm W).1
theorem wV (K:TabOk G T C d):(es:Exs)->(sc:Scope)->(l:List Expr)->G0 T es sc l=true->sq G C sc d es (uy T es sc l)
 |.nil=>λsc l h=>zN
 |.cons e es=>λsc l h=>let W:=band (band h).2;vS (jZ K e sc _ (band h).1 W.1) (wV K es sc _ W.2)
theorem wU (K:TabOk G T C d):(it:It)->(sc:Scope)->(U:Bool)->(x:Expr)->FZ T it sc U x=true->fI G C sc d U it (sQ T it sc x)
 |.rng1 e,sc,U,x,h=>let W:=band (band h).2;by have#[g1,g2,g3]:=td K (band h).1;show GN K.g (kz K e sc _ W.2) W.1 g1 g2 g3
 |.rng2 e f,sc,U,x,h=>let W:=band (band h).2;let O:=band W.2;by have#[g1,g2,g3]:=td K (band h).1;show GL K.g (kz K e sc _ O.1) (kz K f sc _ O.2) W.1 g1 g2 g3
 |.enum e,sc,true,x,h=>let W:=band h;let O:=band W.2;by have#[g1,g2,g3]:=td K W.1;show GO K.g (kz K e sc _ O.2) O.1 g1 g2 g3
 |.enum e,sc,false,x,h=>nomatch h
 |.seq e,sc,U,x,h=>K7 (kz K e sc _ h)
theorem BG (K:TabOk G T C d):(W:Gens)->(sc:Scope)->(x:Expr)->(l:List Comprehension)->(gens:List Comprehension)->(scope:Scope)->(pos:Pos)->(depth:Nat)->gens.drop (depth+1)=BP T W sc l->(∀g∈gens,g.is_async=0)->JP T W sc l x=true->ue G C sc d W (BR T W sc x) gens scope pos depth
 |.elt e=>λsc x l gens scope pos depth hd U h=>zX (kz K e sc _ h) (fA.mpr (List.drop_eq_nil_iff.mp hd))
 |.cons it t cs more=>λsc x l gens scope pos depth hd U h =>
  let I:=band (band h).2;let J:=band I.2;let O:=band J.2
  w9 (wU K it sc _ _ (band h).1) (pQ K t _ I.1) (wV K cs _ _ J.1) (BG K more sc x _ gens scope pos (depth+1) (HB hd) U O.1) (HC hd) (λz B=>U z (fk B)) (zd O.2)
end
end
section
variable {e:Ex}
variable {G:Stc}{T:Tab}{C:Cal}{d:Nat}{sc:Scope}
def JF (K:TabOk G T C d):(t:Tgt)->(x:Expr)->IC T sc t x=true->j6 G C sc d t (wY T sc t x)
 |.v i,x,h=>by have#[k,U,W,O]:=K.own h;show wJ U W
 |.attr o i,x,h=>AF K.g (kz K o sc _ (band h).1) (rI K (band h).2)
 |.sub o i,x,h=>EJ (kz K o sc _ (band h).1) (kz K i sc _ (band h).2)
 |.T is,x,h=>EI K.unp (by rw[K.cap];show h)
def D3 (t:Tgt)(x:Expr)(xs:List Expr)(env:Env):assignEach (wY T sc t x::xs) env=(false,assign (wY T sc t x) env)::assignEach xs env:=by
 cases t<;>rfl
def wR (K:TabOk G T C d):(ts:List Tgt)->(l:List Expr)->lJ T sc ts l=true->eV G C sc d ts (yp T sc ts l)
 | [],_,_=>.nil
 |t::ts,l,h=>.cons (JF K t _ (band h).1) (D3 t _ _) (wR K ts _ (band h).2)
def AE:(ts:List Tgt)->(l:List Expr)->vD ts=true->lJ T sc ts l=true->∃i x p,ts=[.v i]/\yp T sc ts l=[.Name x p]/\x=qa sc i/\ownAt T.cap sc i=true
 | []=>λl q h=>ft q
 |t::r=>λl q h=>by
  cases t<;>cases r<;>first|refine⟨_,_,_,rfl,rfl,rfl,(band h).1⟩|show ft q
def NH:(ts:List Tgt)->(is:List Nat)->CK ts=some is->ts=[.T is]
 | []=>λis h=>jf h
 |t::r=>λis h=>by
  cases t<;>cases r<;>first|show jf h|(have rfl:=ah h;rfl)
def LG (K:TabOk G T C d)(t:Tg)(x:Expr)(h:C3 T sc t x=true):y4 G C sc d t (pY sc t x):=we.plain (C:=C) (pQ K t x h)
def MU {op:Bop}(h:M4 op=true):op=.add\/op=.sub:=by
 cases op<;>first|show .inl rfl|show .inr rfl|show Bool.noConfusion h
def HI (h:vE e=true):∃fv it t cs more,e=.K fv it t cs more:=by
 cases e<;>first|refine⟨_,_,_,_,_,rfl⟩|show Bool.noConfusion h
def FK (K:TabOk G T C d){ts:List Tgt}{pos:Pos}{l:List Expr}{y:Expr}(hc:vE e=true)(hv:vD ts=true)(ht:lJ T sc ts l=true)(h:okE T e sc y=true):yg G C sc d (.a ts e) (.Assign (yp T sc ts l) (reE T e sc y) pos):=by
  have#[fv,it,t,cs,more,rfl]:=HI hc;have#[i,x',p',rfl,e2,rfl,hk]:=AE ts l hv ht;have#[kd,o1,o2,o3]:=K.own hk;rw[e2];have z:=band (band h).2;have B:=band z.2;have I:=band B.2;have J:=band I.2;have O:=band J.2;have U:=band O.2;have W:=band U.2;show lB o1 o2 (wU K it sc _ _ (band h).1) (pQ K t _ z.1) (wV K cs _ _ B.1) (BG K more _ _ _ _ _ _ 0 rfl (λg hg=>(cz.mp hg).elim (λe=>e▸rfl) (dM more _ g)) I.1) (zd J.1) (bw O.1) (bw U.1) W.1 W.2 (dM more _)
def yR (K:TabOk G T C d){ts:List Tgt}{pos:Pos}{l:List Expr}{y:Expr}(h:okE T e sc y=true):(o:Option (Option (List Str)))->swp sc (yp T sc ts l) (reE T e sc y)=o->ID T sc ts e (yp T sc ts l) l (reE T e sc y) o=true->yg G C sc d (.a ts e) (.Assign (yp T sc ts l) (reE T e sc y) pos)
 |none,_,U=>nomatch U
 |some none,hw,U=>(Classical.em (zx (reE T e sc y)=true)).elim (λO=>uK (wR K ts l (band U).1) (kz K e sc y h) O hw) λO =>
  ((vt ..).mp (band U).2).elim (λW=>absurd W O) λW=>FK K (band W).2 (band W).1 (band U).1 h
 |some (some names),hw,U=>by
  have#[is,J,W]:=any_some U;have rfl:=NH ts is J;show snd_swap K.unp (kz K e sc y h) (band W).1 hw (by rw[K.cap];show(band (band W).2).1) (bw (band (band W).2).2)
mutual
theorem NK (K:TabOk G T C d):(s:Stm)->(x:Stmt)->okS T sc s x=true->yg G C sc d s (reS T sc s x)
 |.a ts e=>λx h=>yR K (band h).1 _ rfl (band h).2
 |.aug i op e=>λx h=>by
  have#[k,J,O,I]:=K.own (band (band h).2).1;show FI (MU (band h).1) (kz K e sc _ (band (band h).2).2) J O I
 |.dcompA i fv e y v=>λx h=>by
  have W:=band (band h).2;have U:=band W.2;have h4:=band U.2;have h5:=band h4.2;have h6:=band h5.2;have h7:=band h6.2;have h8:=band h7.2;have z:=band h8.2;have B:=band z.2;have hb:=band B.2;have#[kd,J,O,I]:=K.own W.1;show uI (kz K e sc _ (band h).1) J O U.1 h4.1 (zd h5.1) (bw h6.1) (bw h7.1) h8.1 z.1 B.1 hb.1 hb.2
 |.expr e=>λx h=>AY (kz K e sc _ (band h).2) (band h).1
 |.C c t e=>λx h=>let W:=band (band h).2;let U:=band W.2;B6 (jZ K c sc _ (band h).1 W.1) (oC K t _ U.1) (oC K e _ U.2)
 |.loop c b=>λx h=>let W:=band (band h).2;AX (jZ K c sc _ (band h).1 W.1) (oC K b _ W.2)
 |.each t it b=>λx h=>let W:=band (band h).2;let U:=band W.2;AZ (LG K t _ (band h).1) (wU K it sc _ _ W.1) (oC K b _ U.1) (zd U.2)
 |.ret e=>λx h=>by
  show yg G C sc d _ (.Return ((yx x).head?.map (reE T e sc)) x.pos);have h:(match (yx x).head? with|some y=>okE T e sc y|none=>e.isNone)=true:=h;cases q:(yx x).head? with
  |some y=>rw[q]at h;show EW (kz K e sc y h)
  |none=>rw[q]at h;have rfl:=iU h;show AR
 |.brk=>λx h=>FC
 |.cont=>λx h=>B5
 |.pass=>λx h=>by
  show yg G C sc d _ (bif (yx x).isEmpty then _ else _);cases (yx x).isEmpty
  ·show pW
  ·show AS
 |.dead=>λx h=>B3
theorem oC (K:TabOk G T C d):(b:pq)->(l:List Stmt)->nR T sc b l=true->fH G C sc d b (pZ T sc b l)
 |.nil=>λl h=>yQ
 |.cons s ss=>λl h=>uL (NK K s _ (band h).1) (oC K ss _ (band h).2)
end
end
structure rP (G:Stc)(T:Tab):Prop where
 g:GOk G
 gl:∀x v,T.gl.lookup x=some v->G.gl x=some v
 attrs:G.attrs=T.attrs
 cap:G.cap=T.cap
 meth:∀k name,T.meths.lookup k=some name->∃f,T.fns.lookup k=some f/\MethAt G name f
 init:∃f,T.fns.lookup 0=some f/\nE G f
 cM:G.cM=T.cM
 cS:G.cS=T.cS
 mt:∃fN fM,pv G fN fM/\pH G fN/\n6 G fM
 ma:tf G
structure wA (G:Stc)(T:Tab)(P:Nat->Option Fn):Prop where
 base:rP G T
 lam:∀k cs a,G.clo k cs a->∃n sc e b,P (1000+k)=some #[n+cs.length,[],.cons (.ret b) .nil]/\IT G a n cs sc e/\okE T b sc e=true/\reE T b sc e=e
 fn:∀k a,T.fns.lookup k=some a->∃fn sc body,P k=some fn/\FnAt G a fn.n fn.dflt sc body/\nR T sc fn.body body=true/\pZ T sc fn.body body=body
section
variable {G:Stc}{T:Tab}{P:Nat->Option Fn}
def rP.tab (B:rP G T){C:Cal}{d:Nat}(W:e9 G (λk=>T.fns.lookup k) C (d-1))(hl:n7 G C (d-1))(hd:3<=d):TabOk G T C d:=
 #[B.g,B.gl,B.attrs,B.cap,W,hl,B.meth,B.init,B.cM,B.cS,B.mt,B.ma,NG B.ma,hd]
def y1 (K:wA G T P):∀n,e9 G (λk=>T.fns.lookup k) (jc P n) (2*n+2)/\n7 G (jc P n) (2*n+2)
 |0=>⟨λk a hk=>by
  have#[fn,sc,body,hp,W,hc]:=K.fn k a hk;have#[o,fd,I,J,_]:=W.here;apply#[#[o,fd,I,J],λao R vr h=>h.elim],λk cs a hk=>by
  have#[m,sc,e,b,hp,W,hc]:=K.lam k cs a hk;have#[o,fd,I,J,_]:=W.here;apply#[#[o,fd,I,J],λao R vr h=>h.elim]⟩
 |n+1=>by
  have#[ax,ag]:=y1 K n;have tb:TabOk G T (jc P n) (2*n+3):=K.base.tab ax ag (nu (.k (.n 3) (.a (.m 2 .A) (.n 3))) .h);apply#[λk a hk=>?_,λk cs a hk=>?_]
  ·have#[fn,sc,body,hp,W,hc]:=K.fn k a hk;have#[o,fd,I,J,_]:=W.here;apply#[#[o,fd,I,J],@λA E vs ws σ Q s ao R vr h=>?_];have#[ay,U,z,B,h]:=h;have rfl:=ah (hp.symm.trans U);show HO (b:=fn.body) (d:=2*n+3) W (hc.2▸oC tb fn.body body hc.1) ao R vr z B h
  ·have#[m,sc,e,b,hp,W,aj,ai]:=K.lam k cs a hk;have#[o,fd,I,J,_]:=W.here;apply#[#[o,fd,I,J],@λA E vs ws σ Q s ao R vr h=>?_];have#[ay,U,z,B,h]:=h;have rfl:=ah (hp.symm.trans U);have ar:frameOf #[m+cs.length,[],.cons (.ret b) .nil] (vs++cs)=λi=>(vs++cs)[i]?:=by
    funext i
    unfold frameOf gI;dsimp only;rw[List.drop_nil,dk]
   rw[ar]at h;have hl:vs.length=m:=by
    rw[bg]at z B;dsimp only[List.length_nil]at z B
    (show fb .D .g (.k .S .Q) (.k .Q (.a .S .O)) z B)
   show DB (d:=2*n+3) W (ai▸kz tb b sc e aj) ao R vr hl h
def KU (K:wA G T P)(n:Nat):e9 G (λk=>T.fns.lookup k) (jc P n) (2*n+2):=(y1 K n).1
end
end MP
end
section
set_option backward.match.sparseCases false
namespace MP
open PySem PyProof.Rows PySem.W
variable {G:Stc}{h h₀:Heap}{d:Data}{a:Addr}{T:Tab}{fn:Fn}
abbrev J2:Value->Tok
 |.int _ t=>t
 |.str _ t=>t
 |_=>0
abbrev wI:Value->Addr
 |.ref a=>a
 |_=>0
abbrev vR:V->Value->Bool
 |.none=>λw=>decide (w=.none)
 |.bool a=>λw=>decide (w=.bool a)
 |.int a=>λw=>decide (w=.int a (J2 w))
 |.str a=>λw=>decide (w=.str a (J2 w))
 |_=>λ_=>false
abbrev kQ:List V->List Value->Bool
 | []=>λws=>ws.isEmpty
 |v::vs=>λws=>!ws.isEmpty&&(vR v (ws.headD .none)&&kQ vs ws.tail)
def zM {v:V}{w:Value}(e:vR v w=true):VR G h v w:=by
 cases v<;>first|show bw e▸.none|show bw e▸.bool _|show bw e▸.int _ _|show bw e▸.str _ _|show Bool.noConfusion e
def mS:(vs:List V)->(ws:List Value)->kQ vs ws=true->VRs G h vs ws
 | []=>λws e=>by
  cases ws with
  |nil=>show .nil
  |cons w ws=>show Bool.noConfusion (show false=true from e)
 |v::vs=>λws e=>by
  cases ws with
  |nil=>show Bool.noConfusion (show false=true from e)
  |cons w ws =>
   have e:=band (show(vR v w&&kQ vs ws)=true from e);show .cons (zM e.1) (mS vs ws e.2)
abbrev qX:Data->Option FuncData
 |.func f=>some f
 |_=>none
abbrev mQ:Data->Option (Array Value)
 |.fields vs=>some vs
 |_=>none
abbrev xY:Data->Option (Array Value×Nat)
 |.seq vs n=>some (vs,n)
 |_=>none
def oZ {f:FuncData}(h:qX d=some f):d=.func f:=by
 cases d<;>first|show di _ (ah h)|show jf h
def nU {f:Array Value}(h:mQ d=some f):d=.fields f:=by
 cases d<;>first|show di _ (ah h)|show jf h
def vP {f:Array Value×Nat}(h:xY d=some f):d=.seq f.1 f.2:=by
 cases d<;>first|show ah h▸rfl|show jf h
abbrev DE:FuncBody->Option (List Stmt)
 |.stmts b=>some b
 |.expr _=>none
def DD {d:FuncBody}{f:List Stmt}(h:DE d=some f):d=.stmts f:=by
 cases d
 ·show di _ (ah h)
 ·show jf h
abbrev told {α:Type}(f:Data->Option α)(h:Heap)(a:Addr):Option α:=(h.get? a).bind λo=>f o.data
def pP {α:Type}{f:Data->Option α}{x:α}(e:told f h a=some x):∃o,h.get? a=some o/\f o.data=some x:=fq.mp e
abbrev y0 (h:Heap)(cd:Value)(q:Str):Bool:=decide (cd=.ref (wI cd))&&(told mQ h (wI cd)).any λvs=>(vs[1]?:Option Value).any λw=>decide (w=.str q (J2 w))
abbrev HF (h:Heap)(dflt:List V)(v:Value):Bool:=(decide (v=.none)&&dflt.isEmpty)||(decide (v=.ref (wI v))&&(told xY h (wI v)).any λds=>kQ dflt ds.1.toList)
abbrev M8 (T:Tab)(h:Heap)(fn:Fn)(fd:FuncData)(body:List Stmt):Bool:=
 decide (fd.scope.kind=.function)&&(!fd.scope.isCoroutine&&(!fd.scope.isGenerator&&(decide ((fd.scope.names.map (·.1)).Nodup)&&(fd.scope.names.all (λp=>p.2 != .free)&&(fd.closure.isEmpty&&(decide (fd.globals=mainGlobals)&&(decide (fd.builtins=builtinsNs) &&
 (y0 h fd.code fd.qualname&&(za fd.params&&(sf (fd.params.args.map (·.arg)) fd.scope.names&&(decide (fd.params.args.length=fn.n)&&(HF h fn.dflt fd.defaults&&(decide (fn.dflt.length<=fn.n)&&nR T fd.scope fn.body body)))))))))))))
abbrev KI (fd:FuncData):Option (Scope×List Stmt):=(DE fd.body).map λb=>(fd.scope,b)
abbrev bodyOf (h:Heap)(a:Addr):Option (Scope×List Stmt):=(told qX h a).bind KI
abbrev oS (T:Tab)(h:Heap)(fn:Fn)(a:Addr):Bool:=(told qX h a).any λfd=>(DE fd.body).any λb=>M8 T h fn fd b
def vU {cd:Value}{q:Str}(e:y0 h cd q=true):h.CodeRec cd q:=by
 have#[vs,W,J]:=any_some (band e).2;have#[o,U,hd]:=pP W;have#[w,hw,O]:=any_some J;apply#[_,o,vs,_,bw (band e).1,U,nU hd,hw.trans (di some (bw O))]
def qG {l:List (Str×NameKind)}(h:l.all (λp=>p.2 != .free)=true)(i:Nat)(x:Str):l[i]?≠some (x,.free):=λe =>
 absurd (jo.mp h _ (fk e)) (by simp)
def IK (hk:∀b o,h₀.get? b=some o->G.hb.get? b=some o)(B:G.hb.NoLimit)(e:oS T h₀ fn a=true):∃x,bodyOf h₀ a=some x/\FnAt G a fn.n fn.dflt x.1 x.2/\nR T x.1 fn.body x.2=true:=by
 have#[fd,h1,e]:=any_some e;have#[b,h2,e]:=any_some e;have#[o,ho,hd]:=pP h1;have g1:=band e;have g2:=band g1.2;have g3:=band g2.2;have g4:=band g3.2;have g5:=band g4.2;have g6:=band g5.2;have g7:=band g6.2;have g8:=band g7.2;have g9:=band g8.2;have I:=band g9.2;have J:=band I.2;have O:=band J.2;have U:=band O.2;have W:=band U.2;apply#[(fd.scope,b),(fq.mpr #[fd,h1,di (Option.map λb=>(fd.scope,b)) h2]),#[B,bw g1.1,(gi _).mp g2.1,(gi _).mp g3.1,bw g4.1,qG g5.1,o,fd,hk _ _ ho,oZ hd,rfl,DD h2,iC.mp g6.1,bw g7.1,bw g8.1,(vU g9.1).keeps hk,I.1,J.1,bw O.1,?_,bw W.1],W.2];apply((vt ..).mp U.1).imp (λq=>#[bw (band q).1,iC.mp (band q).2]) λq=>?_;have#[ds,h3,q2]:=any_some (band q).2;have#[ot,z,ag]:=pP h3;apply#[_,ot,ds.1.toList,ds.2,bw (band q).1,hk _ _ z,vP ag,mS _ _ q2]
abbrev JK (T:Tab)(fn:Fn)(x:Scope×List Stmt):Scope×List Stmt:=(x.1,pZ T x.1 fn.body x.2)
def M6 (hk:∀b o,h₀.get? b=some o->G.hb.get? b=some o)(W:G.hb.NoLimit)(e:oS T h₀ fn a=true)(U:bodyOf h₀ a=(bodyOf h₀ a).map (JK T fn)) :
  ∃sc body,FnAt G a fn.n fn.dflt sc body/\nR T sc fn.body body=true/\pZ T sc fn.body body=body:=by
 have#[x,O,I,J]:=IK hk W e;rw[O]at U;apply#[x.1,x.2,I,J,(di Prod.snd (ah U)).symm]
def xQ (hk:∀b o,h₀.get? b=some o->G.hb.get? b=some o)(W:G.hb.NoLimit)(e:oS T h₀ fn a=true){f:Scope×List Stmt->Scope×List Stmt}(O:bodyOf h₀ a=(bodyOf h₀ a).map f):∃x,bodyOf h₀ a=some x/\FnAt G a fn.n fn.dflt (f x).1 (f x).2:=by
 have#[x,U,J,_]:=IK hk W e;rw[U]at O;apply#[x,U,ah O▸J]
end MP
end
section
namespace MP
namespace SM
abbrev fn0:Fn:=⟨5,[.none,.str "",.str "",.bool true],(.cons .pass
 (.cons (.a [(.attr (.l 0) 0)] (.l 1))
 (.cons (.a [(.attr (.l 0) 1),(.attr (.l 0) 2)] .none)
 (.cons (.a [(.attr (.l 0) 3)] (.l 4))
 (.cons (.expr (.meth (.l 0) 1 %[.l 2,.l 3|0]))
 .nil)))))⟩
abbrev fn1:Fn:=⟨3,[],(.cons .pass
 (.cons (.expr (.meth (.l 0) 2 %[.l 1|0]))
 (.cons (.expr (.meth (.l 0) 3 %[.l 2|0]))
 .nil)))⟩
abbrev fn2:Fn:=⟨2,[],(.cons .pass
 (.cons (.C (.c .is (.l 1) (.attr (.l 0) 1)) (.cons (.ret .none)
 .nil) .nil)
 (.cons (.a [(.attr (.l 0) 1)] (.l 1))
 (.cons (.a [(.attr (.l 0) 4),(.attr (.l 0) 5)] .none)
 .nil))))⟩
abbrev fn3:Fn:=⟨2,[],(.cons .pass
 (.cons (.C (.c .is (.l 1) (.attr (.l 0) 2)) (.cons (.ret .none)
 .nil) .nil)
 (.cons (.a [(.attr (.l 0) 2)] (.l 1))
 (.cons (.a [(.attr (.l 0) 4),(.attr (.l 0) 5)] .none)
 (.cons (.a [(.attr (.l 0) 6)] .none)
 (.cons (.expr (.meth (.l 0) 4 .nil))
 .nil))))))⟩
abbrev fn4:Fn:=⟨1,[],(.cons (.a [(.v 1)] (.attr (.l 0) 2))
 (.cons (.a [(.attr (.l 0) 7),(.v 2)] .dct0)
 (.cons (.each (.T [3,4]) (.enum (.l 1)) (.cons (.a [(.v 5)] (.bm .setdefault (.l 2) %[.l 4,.L .nil|0]))
 (.cons (.expr (.bm .append (.l 5) %[.l 3|0]))
 .nil)))
 (.cons (.a [(.attr (.l 0) 8),(.v 6)] (.bf .set .nil))
 (.cons (.a [(.v 7)] (.attr (.l 0) 0))
 (.cons (.C (.l 7) (.cons .dead
 (.cons (.each (.v 4) (.seq (.l 6)) (.cons .dead
 .nil))
 .nil)) .nil)
 (.cons (.a [(.attr (.l 0) 9),(.v 8)] (.bf .set .nil))
 (.cons (.a [(.v 9)] (.bf .len %[.l 1|0]))
 (.cons (.C (.and (.attr (.l 0) 3) (.c .ge (.l 9) (.int 200))) (.cons (.a [(.v 10)] (.b .add (.b .fdiv (.l 9) (.int 100)) (.int 1)))
 (.cons .dead
 (.cons (.each (.v 4) (.seq (.l 8)) (.cons .dead
 .nil))
 .nil))) .nil)
 .nil)))))))))⟩
abbrev fn5:Fn:=⟨5,[.int 0,.none,.int 0,.none],(.cons .pass
 (.cons (.a [(.T [5,6,7,8])] (.T %[.attr (.l 0) 1,.attr (.l 0) 2,.attr (.l 0) 7,.h (.attr (.l 0) 8)|0]))
 (.cons (.C (.c .is (.l 2) .none) (.cons (.a [(.v 2)] (.bf .len %[.l 5|0]))
 .nil) .nil)
 (.cons (.C (.c .is (.l 4) .none) (.cons (.a [(.v 4)] (.bf .len %[.l 6|0]))
 .nil) .nil)
 (.cons (.a [.T [9,10,11]] (.T %[.l 1,.l 3,.int 0|0]))
 (.cons (.a [(.v 12)] .dct0)
 (.cons (.a [(.v 13)] (.L .nil))
 (.cons (.each (.v 14) (.rng2 (.l 1) (.l 2)) (.cons (.a [(.v 15)] (.g (.l 12)))
 (.cons (.a [(.v 16)] .dct0)
 (.cons (.each (.v 17) (.seq (.bm .get (.l 7) %[.sub (.l 5) (.l 14),.l 13|0])) (.cons (.C (.c .lt (.l 17) (.l 3)) (.cons .cont
 .nil) .nil)
 (.cons (.C (.c .ge (.l 17) (.l 4)) (.cons .brk
 .nil) .nil)
 (.cons (.a [(.v 18),(.sub (.l 16) (.l 17))] (.b .add (.w 15 %[.b .sub (.l 17) (.int 1),.int 0|0]) (.int 1)))
 (.cons (.C (.c .gt (.l 18) (.l 11)) (.cons (.a [.T [9,10,11]] (.T %[.b .add (.b .sub (.l 14) (.l 18)) (.int 1),.b .add (.b .sub (.l 17) (.l 18)) (.int 1),.l 18|0]))
 .nil) .nil)
 .nil)))))
 (.cons (.a [(.v 12)] (.l 16))
 .nil)))))
 (.cons (.loop (.and (.c .gt (.l 9) (.l 1)) (.and (.c .gt (.l 10) (.l 3)) (.and (.not (.w 8 %[.sub (.l 6) (.b .sub (.l 10) (.int 1))|0])) (.c .eq (.sub (.l 5) (.b .sub (.l 9) (.int 1))) (.sub (.l 6) (.b .sub (.l 10) (.int 1))))))) (.cons (.a [.T [9,10,11]] (.T %[.b .sub (.l 9) (.int 1),.b .sub (.l 10) (.int 1),.b .add (.l 11) (.int 1)|0]))
 .nil))
 (.cons (.loop (.and (.c .lt (.b .add (.l 9) (.l 11)) (.l 2)) (.and (.c .lt (.b .add (.l 10) (.l 11)) (.l 4)) (.and (.not (.w 8 %[.sub (.l 6) (.b .add (.l 10) (.l 11))|0])) (.c .eq (.sub (.l 5) (.b .add (.l 9) (.l 11))) (.sub (.l 6) (.b .add (.l 10) (.l 11))))))) (.cons (.aug 11 .add (.int 1))
 .nil))
 (.cons (.loop (.and (.c .gt (.l 9) (.l 1)) (.and (.c .gt (.l 10) (.l 3)) (.and (.w 8 %[.sub (.l 6) (.b .sub (.l 10) (.int 1))|0]) (.c .eq (.sub (.l 5) (.b .sub (.l 9) (.int 1))) (.sub (.l 6) (.b .sub (.l 10) (.int 1))))))) (.cons (.a [.T [9,10,11]] (.T %[.b .sub (.l 9) (.int 1),.b .sub (.l 10) (.int 1),.b .add (.l 11) (.int 1)|0]))
 .nil))
 (.cons (.loop (.and (.c .lt (.b .add (.l 9) (.l 11)) (.l 2)) (.and (.c .lt (.b .add (.l 10) (.l 11)) (.l 4)) (.and (.w 8 %[.sub (.l 6) (.b .add (.l 10) (.l 11))|0]) (.c .eq (.sub (.l 5) (.b .add (.l 9) (.l 11))) (.sub (.l 6) (.b .add (.l 10) (.l 11))))))) (.cons (.a [(.v 11)] (.b .add (.l 11) (.int 1)))
 .nil))
 (.cons (.ret (.N (.l 9) (.l 10) (.l 11)))
 .nil)))))))))))))⟩
abbrev fn6:Fn:=⟨1,[],(.cons .pass
 (.cons (.C (.c .isNot (.attr (.l 0) 4) .none) (.cons (.ret (.attr (.l 0) 4))
 .nil) .nil)
 (.cons (.a [.T [1,2]] (.T %[.bf .len %[.attr (.l 0) 1|0],.bf .len %[.attr (.l 0) 2|0]|0]))
 (.cons (.a [(.v 3)] (.L %[.T %[.int 0,.l 1,.int 0,.l 2|0]|0]))
 (.cons (.a [(.v 4)] (.L .nil))
 (.cons (.loop (.l 3) (.cons (.a [(.T [5,6,7,8])] (.bm .pop (.l 3) .nil))
 (.cons (.a [(.T [9,10,11]),(.v 12)] (.meth (.l 0) 5 %[.l 5,.l 6,.l 7,.l 8|0]))
 (.cons (.C (.l 11) (.cons (.expr (.bm .append (.l 4) %[.l 12|0]))
 (.cons (.C (.and (.c .lt (.l 5) (.l 9)) (.c .lt (.l 7) (.l 10))) (.cons (.expr (.bm .append (.l 3) %[.T %[.l 5,.l 9,.l 7,.l 10|0]|0]))
 .nil) .nil)
 (.cons (.C (.and (.c .lt (.b .add (.l 9) (.l 11)) (.l 6)) (.c .lt (.b .add (.l 10) (.l 11)) (.l 8))) (.cons (.expr (.bm .append (.l 3) %[.T %[.b .add (.l 9) (.l 11),.l 6,.b .add (.l 10) (.l 11),.l 8|0]|0]))
 .nil) .nil)
 .nil))) .nil)
 .nil))))
 (.cons (.expr (.bm .sort (.l 4) .nil))
 (.cons (.a [(.v 13),(.v 14),(.v 15)] (.int 0))
 (.cons (.a [(.v 16)] (.L .nil))
 (.cons (.each (.T [17,18,19]) (.seq (.l 4)) (.cons (.C (.and (.c .eq (.b .add (.l 13) (.l 15)) (.l 17)) (.c .eq (.b .add (.l 14) (.l 15)) (.l 18))) (.cons (.aug 15 .add (.l 19))
 .nil) (.cons (.C (.l 15) (.cons (.expr (.bm .append (.l 16) %[.T %[.l 13,.l 14,.l 15|0]|0]))
 .nil) .nil)
 (.cons (.a [.T [13,14,15]] (.T %[.l 17,.l 18,.l 19|0]))
 .nil)))
 .nil))
 (.cons (.C (.l 15) (.cons (.expr (.bm .append (.l 16) %[.T %[.l 13,.l 14,.l 15|0]|0]))
 .nil) .nil)
 (.cons (.expr (.bm .append (.l 16) %[.T %[.l 1,.l 2,.int 0|0]|0]))
 (.cons (.a [(.attr (.l 0) 4)] (.M (.l 16)))
 (.cons (.ret (.attr (.l 0) 4))
 .nil))))))))))))))⟩
end SM
namespace SM
abbrev fn7:Fn:=⟨1,[],(.cons .pass
 (.cons (.C (.c .isNot (.attr (.l 0) 5) .none) (.cons (.ret (.attr (.l 0) 5))
 .nil) .nil)
 (.cons (.a [(.v 1),(.v 2)] (.int 0))
 (.cons (.a [(.attr (.l 0) 5),(.v 3)] (.L .nil))
 (.cons (.each (.T [4,5,6]) (.seq (.meth (.l 0) 6 .nil)) (.cons (.a [(.v 7)] (.str ""))
 (.cons (.C (.and (.c .lt (.l 1) (.l 4)) (.c .lt (.l 2) (.l 5))) (.cons (.a [(.v 7)] (.str "replace"))
 .nil) (.cons (.C (.c .lt (.l 1) (.l 4)) (.cons (.a [(.v 7)] (.str "delete"))
 .nil) (.cons (.C (.c .lt (.l 2) (.l 5)) (.cons (.a [(.v 7)] (.str "insert"))
 .nil) .nil)
 .nil))
 .nil))
 (.cons (.C (.l 7) (.cons (.expr (.bm .append (.l 3) %[.T %[.l 7,.l 1,.l 4,.l 2,.l 5|0]|0]))
 .nil) .nil)
 (.cons (.a [.T [1,2]] (.T %[.b .add (.l 4) (.l 6),.b .add (.l 5) (.l 6)|0]))
 (.cons (.C (.l 6) (.cons (.expr (.bm .append (.l 3) %[.T %[.str "equal",.l 4,.l 1,.l 5,.l 2|0]|0]))
 .nil) .nil)
 .nil))))))
 (.cons (.ret (.l 3))
 .nil))))))⟩
end SM
namespace R7
open SM
abbrev M7:Fn:=⟨2,[],(.cons (.ret (.K [(4,1)] (.seq (.l 0)) (.v 1) .nil (.cons (.rng1 (.sub (.l 4) (.l 1))) (.v 2) .nil (.elt (.b .add (.b .mul (.int 40) (.l 1)) (.l 2))))))
 .nil)⟩
abbrev GV:Fn:=⟨3,[],(.cons (.a [(.v 3)] (.L .nil))
 (.cons (.each (.v 4) (.rng1 (.bf .len %[.l 0|0])) (.cons (.each (.v 5) (.rng1 (.bf .len %[.l 1|0])) (.cons (.a [(.v 6),(.v 7)] (.int 0))
 (.cons (.loop (.and (.c .lt (.b .add (.l 4) (.l 6)) (.bf .len %[.l 0|0])) (.and (.c .lt (.b .add (.l 5) (.l 6)) (.bf .len %[.l 1|0])) (.c .eq (.sub (.l 0) (.b .add (.l 4) (.l 6))) (.sub (.l 1) (.b .add (.l 5) (.l 6)))))) (.cons (.aug 7 .add (.sub (.l 2) (.sub (.l 0) (.b .add (.l 4) (.l 6)))))
 (.cons (.aug 6 .add (.int 1))
 (.cons (.expr (.bm .append (.l 3) %[.T %[.neg (.l 7),.l 4,.l 5,.l 6|0]|0]))
 .nil))))
 .nil)))
 .nil))
 (.cons (.a [(.v 8)] (.L .nil))
 (.cons (.each (.T [9,4,5,6]) (.seq (.bf .sorted %[.l 3|0])) (.cons (.a [(.v 10)] (.bool true))
 (.cons (.each (.T [11,12,13,7]) (.seq (.l 8)) (.cons (.C (.not (.or (.and (.c .le (.b .add (.l 4) (.l 6)) (.l 11)) (.c .le (.b .add (.l 5) (.l 6)) (.l 12))) (.and (.c .le (.b .add (.l 11) (.l 13)) (.l 4)) (.c .le (.b .add (.l 12) (.l 13)) (.l 5))))) (.cons (.a [(.v 10)] (.bool false))
 .nil) .nil)
 .nil))
 (.cons (.C (.l 10) (.cons (.expr (.bm .append (.l 8) %[.T %[.l 4,.l 5,.l 6,.neg (.l 9)|0]|0]))
 .nil) .nil)
 .nil))))
 (.cons (.ret (.bf .sorted %[.l 8|0]))
 .nil)))))⟩
abbrev NV:Fn:=⟨3,[],(.cons (.a [(.v 3)] (.L %[.T %[.int 0,.int 0|0]|0]))
 (.cons (.each (.T [4,5,6]) (.seq (.l 0)) (.cons (.expr (.bm .extend (.l 3) %[.L %[.T %[.l 4,.l 5|0],.T %[.b .add (.l 4) (.l 6),.b .add (.l 5) (.l 6)|0]|0]|0]))
 .nil))
 (.cons (.expr (.bm .append (.l 3) %[.T %[.l 1,.l 2|0]|0]))
 (.cons (.a [(.v 7)] (.L .nil))
 (.cons (.each (.v 8) (.rng2 (.int 1) (.bf .len %[.l 3|0])) (.cons (.a [(.T [9,10])] (.sub (.l 3) (.b .sub (.l 8) (.int 1))))
 (.cons (.a [(.T [11,12])] (.sub (.l 3) (.l 8)))
 (.cons (.a [(.v 13)] (.I (.c .eq (.b .mod (.l 8) (.int 2)) (.int 0)) (.str "equal") (.I (.c .eq (.l 9) (.l 11)) (.str "insert") (.I (.c .eq (.l 10) (.l 12)) (.str "delete") (.str "replace")))))
 (.cons (.C (.c .ne (.T %[.l 9,.l 10|0]) (.T %[.l 11,.l 12|0])) (.cons (.expr (.bm .append (.l 7) %[.T %[.l 13,.l 9,.l 11,.l 10,.l 12|0]|0]))
 .nil) .nil)
 .nil)))))
 (.cons (.ret (.l 7))
 .nil))))))⟩
abbrev GU:Fn:=⟨1,[],(.cons (.a [(.T [1,2])] (.slc (.b .add (.l 0) (.L %[.int 0,.int 0|0])) .none (.int 2)))
 (.cons (.a [(.v 3)] (.I (.c .gt (.bf .len %[.l 0|0]) (.int 2)) (.slc (.l 0) (.int 2) (.int 63)) (.L %[.int 1,.int 0,.int 1|0])))
 (.cons (.a [(.v 4)] (.K [(2,1)] (.seq (.l 3)) (.v 1) .nil (.elt (.I (.c .gt (.b .mod (.l 2) (.int 4)) (.int 0)) (.b .mod (.l 1) (.b .add (.b .mod (.l 2) (.int 4)) (.int 2))) (.l 1)))))
 (.cons (.dcompA 5 [(2,2)] (.l 4) 1 (.b .add (.b .mod (.b .fdiv (.l 2) (.b .pow (.int 40) (.b .mod (.l 1) (.int 8)))) (.int 40)) (.int 1)))
 (.cons (.a [(.v 6)] (.b .mod (.b .add (.b .fdiv (.l 1) (.int 4)) (.b .fdiv (.bf .len %[.l 4|0]) (.int 2))) (.b .add (.bf .len %[.l 4|0]) (.int 1))))
 (.cons (.a [.T [7,8]] (.T %[.slc (.l 4) .none (.l 6),.slc (.l 4) (.l 6) .none|0]))
 (.cons (.a [(.v 9)] (.L .nil))
 (.cons (.each (.T [10,11,12,13]) (.seq (.call 11 %[.l 7,.l 8,.l 5|0])) (.cons (.expr (.bm .append (.l 9) %[.T %[.bf .len %[.call 10 %[.slc (.l 7) .none (.l 10),.l 5|0]|0],.bf .len %[.call 10 %[.slc (.l 8) .none (.l 11),.l 5|0]|0],.l 13|0]|0]))
 .nil))
 (.cons (.a [.T [14,15]] (.T %[.call 10 %[.l 7,.l 5|0],.call 10 %[.l 8,.l 5|0]|0]))
 (.cons (.a [(.v 16)] (.meth (.n %[.none,.l 14,.l 15,.bool false|0]) 7 .nil))
 (.cons (.ret (.c .eq (.l 16) (.call 12 %[.l 9,.bf .len %[.l 14|0],.bf .len %[.l 15|0]|0])))
 .nil)))))))))))⟩
abbrev P (k:Nat):Option Fn:=match k with
 |0=>some fn0|1=>some fn1|2=>some fn2|3=>some fn3|4=>some fn4|5=>some fn5|6=>some fn6|7=>some fn7|10=>some M7|11=>some GV|12=>some NV|13=>some GU|_=>none
abbrev tab:Tab where
 cap:=λ_=>false
 gl:=[("len",.builtin "len"),("sorted",.builtin "sorted"),("sum",.builtin "sum"),("min",.builtin "min"),("max",.builtin "max"),("divmod",.builtin "divmod"),("set",.type "set"),("list",.type "list"),("range",.type "range"),("map",.type "map"),("enumerate",.type "enumerate"),("tuple",.type "tuple"),("Match",.ref 135),("SequenceMatcher",.ref 242),("_law_spread",.ref 251),("_law_kept",.ref 258),("_law_codes",.ref 265),("law",.ref 270)]
 attrs:=["isjunk","a","b","autojunk","matching_blocks","opcodes","fullbcount","b2j","bjunk","bpopular"]
 meths:=[(0,"__init__"),(1,"set_seqs"),(2,"set_seq1"),(3,"set_seq2"),(4,"_SequenceMatcher__chain_b"),(5,"find_longest_match"),(6,"get_matching_blocks"),(7,"get_opcodes")]
 fns:=[(0,160),(1,167),(2,174),(3,181),(4,188),(5,196),(6,203),(7,210),(10,251),(11,258),(12,265),(13,270)]
 cM:=135
 cS:=242
end R7
end MP
end
section
namespace MP
open PySem PyProof.Rows PySem.W
abbrev newOf (b:List Stmt):List Stmt:=
 let s0:=b.getD 0 default;let s1:=b.getD 1 default;let d:=st0 s0;let c:=st0 s1;let f:=kid 0 c;let t:=kid 2 c
 qH d.pos s0.pos (kid 0 f).pos f.pos (kid 1 c).pos (kid 0 t).pos (kid 1 t).pos (kid 2 t).pos t.pos c.pos s1.pos (xU d) (exK d) (exK t)
abbrev G3 (b:List Stmt):Bool:=(kid 0 (st0 (b.getD 1 default))).pos.endLine==(st0 (b.getD 1 default)).pos.line
abbrev qK (b:List Stmt):List Pos:=
 let s0:=b.getD 0 default;let s1:=b.getD 1 default;let s2:=b.getD 2 default;let s3:=b.getD 3 default;let c:=st0 s1;let q:=st0 s2;let l:=kid 0 q
 [(st0 s0).pos,s0.pos,((yx s1).getD 1 default).pos,(kid 0 (kid 0 c)).pos,(kid 0 c).pos,(kid 1 c).pos,(kid 2 c).pos,c.pos,s1.pos,(kid 0 l).pos,(kid 1 l).pos,l.pos,(kid 1 q).pos,q.pos,s2.pos,(st0 s3).pos,s3.pos]
abbrev C1 (l:List Pos):Fin 20->Pos:=λi=>l.getD i.1 #[0,0,0,0]
abbrev JZ (b:List Stmt):List Stmt:=lP (C1 (qK b)) (xU (st0 (b.getD 0 default))) (exK (st0 (b.getD 0 default))) (exK (kid 1 (st0 (b.getD 2 default)))) (sw (b.getD 2 default)).b
abbrev CB (b:List Stmt):Bool:=(C1 (qK b) 4).endLine==(C1 (qK b) 7).line
end MP
end
section
set_option backward.match.sparseCases false
open PySem PySem.W PyProof.Rows
set_option maxHeartbeats 0
namespace Mine
open MP
abbrev tB (w:World)(os:OsState):Thread:=#[JS (gI (tA w os)),(tA w os).code,(tA w os).pos,(tA w os).stack]
abbrev XB (w:World)(os:OsState):Option (Flow×SharedT×Code×Pos):=LL TB pw w 11 an 1 400 (sA w os) (tB w os)
abbrev s3 (w:World)(os:OsState):SharedT:=(XB w os).elim (S4 w os) (·.2.1)
abbrev F (w:World)(os:OsState):Shared:=(s3 w os).abs
abbrev viewOf (p:Program):Program:={p with main:={p.main with body:=[0,2,3,4,5,7,8,9,10].filterMap λi=>p.main.body[i]?}}
abbrev qv:Program:=viewOf pw
public abbrev loose:List Str:=[Str.ofString "_tuplegetter",Str.ofString "Match",Str.ofString "SequenceMatcher"]
@[reducible] def rw7:=PySem.Challenge.rw_dm0056_07
public abbrev Xt:Shared->Bool:=λs=>xlAt qv [] s&&recOk (RowW.records rw7.row.toRowW) s
abbrev xF (w:World)(s:Shared):Bool:=staticsOk (importedModules pw.main.body) (boot_heap w.params) s.heap&&namesBound pw s.heap&&gensDone s&&laidKept (boot_heap w.params) s.heap
abbrev GS (h:Heap)(x:Str):Option Value:=(h.nsMap mainGlobals x).or (h.nsMap builtinsNs x)
abbrev iM (h:Heap)(a:Addr)(xs:List Str):Bool:=xs.all λx=>(h.nsMap a x).isNone
abbrev isFn (h:Heap)(a:Addr):Bool:=(h.get? a).any λo=>decide (o.cls=.type "function")&&(qX o.data).isSome
abbrev fragOf (h:Heap)(as:List Addr):Frag:=as.filterMap λa=>(h.get? a).map λo=>(a,o)
public abbrev K8 (h:Heap):Frag:=fragOf h [135,134,136,91,2,82,89]
abbrev MK:pq:=.cons .dead %[.dead|0]
abbrev MH:pq:=.cons .dead %[.dead,.dead,.dead|0]
abbrev CA:List (Str×NameKind):=[("tuple",.globalImplicit),("len",.globalImplicit),("TypeError",.globalImplicit)]
abbrev C5 (h:Heap):Bool:=h.isNs mainGlobals&&h.isNs builtinsNs&&h.isNs 241&&h.isNs 134&&h.isNs cStatics&&(h.nsMap cStatics "sys.recursionlimit").isNone&&(h.get? sysModules).isSome
abbrev CS (h:Heap):Bool:=R7.tab.gl.all λp=>decide (GS h p.1=some p.2)
abbrev qJ (h:Heap):Bool:=R7.tab.meths.all λp=>decide ((h.nsMap 241 p.2)=(R7.tab.fns.lookup p.1).map Value.ref)
abbrev xP (h:Heap):Bool:=R7.tab.fns.all λp=>isFn h p.2&&match R7.P p.1 with|some fn=>oS R7.tab h fn p.2|none=>false
abbrev newOk (h:Heap):Bool:=oS R7.tab h #[4,[],MK] 82&&(bodyOf h 82).any λx=>G3 x.2
abbrev v8 (h:Heap):Bool:=oS R7.tab h #[2,[],MH] 89&&(bodyOf h 89).any λx=>CB x.2
abbrev LV (x:Scope×List Stmt):Scope×List Stmt:=(ze [],newOf x.2)
abbrev IF (x:Scope×List Stmt):Scope×List Stmt:=(pk CA [],JZ x.2)
abbrev JJ (k:Nat)(x:Scope×List Stmt):Scope×List Stmt:=match R7.P k with
 |some fn=>JK R7.tab fn x
 |none=>x
abbrev rG (h:Heap):List (Option (Scope×List Stmt)):=R7.tab.fns.map λp=>bodyOf h p.2
abbrev y2 (h:Heap):List (Option (Scope×List Stmt)):=R7.tab.fns.map λp=>(bodyOf h p.2).map (JJ p.1)
structure Obs (P:Params)(h:Heap):Prop where
 nss:C5 h=true
 no241:iM h 241 ("__getattribute__" :: "__getattr__" :: "__setattr__" :: R7.tab.attrs)=true
 no134:iM h 134 ["__iter__","__lt__","__len__","__init__"]=true
 gls:CS h=true
 meths:qJ h=true
 fns:xP h=true
 new:newOk h=true
 make:v8 h=true
 rG:rG h=y2 h
 newB:bodyOf h 82=(bodyOf h 82).map LV
 makeB:bodyOf h 89=(bodyOf h 89).map IF
 g242:h.get? 242=some (excClassObj "SequenceMatcher" "SequenceMatcher" 242 241 [.type "object"] [.type "object"] true [] [] false none none none none (some (.str "SequenceMatcher" 389)) (some (.str "SequenceMatcher" 397)) (some (.bool true)) "object.__new__")
 g135:h.get? 135=some (eX 135 134 "Match" "Match" (some (.ref 65)) (some (.str "Match" 253)) (some (.str "Match" 261)))
 l1:peek (K8 h) #[pw,P] (mroOf (.ref 135))=some [.ref 135,.type "tuple",.type "object"]
 l2:peek (K8 h) #[pw,P] (isType (.ref 135))=some true
 l3:peek (K8 h) #[pw,P] (isSubtype (.ref 135) (.ref 135))=some true
 l4:peek (K8 h) #[pw,P] (isSubtype (.ref 135) (.type "tuple"))=some true
 l5:peek (K8 h) #[pw,P] (isSubtype (.ref 135) (.type "object"))=some true
 l6:peek (K8 h) #[pw,P] (classHasDel 135)=some false
 l7:peek (K8 h) #[pw,P] (typeLookup (.ref 135) "__init__")=some (some (.builtin "object.__init__"))
 l8:peek (K8 h) #[pw,P] (specialOf (.ref 135) "__call__")=some (some (.builtin "type.__call__"))
 l9:peek (K8 h) #[pw,P] (isInstance (.ref 135) (.type "type"))=some true
 l10:peek (K8 h) #[pw,P] (Bind.madeBy (.ref 135))=some none
 l11:peek (K8 h) #[pw,P] (Bind.madeHere "tuple.__new__" (.ref 135))=some ()
 l12:(λx:Value=>peek (K8 h) #[pw,P] (checkBuiltinCall "tuple.__new__" #[[.ref 135,x],[]]))=λx=>some ()
 m1:readsIn (K8 h) 135 (.type "type")=true
 m2:findCls (K8 h) (.ref 135) (.type "type") "__new__"=some (.get (.builtin "staticmethod.__get__") (.ref 136) .none (.ref 135))
 m3:findCls (K8 h) (.ref 135) (.type "type") "_make"=some (.get (.builtin "classmethod.__get__") (.ref 91) .none (.ref 135))
 m4:recIn (K8 h) 136 "staticmethod"=some [.ref 82]
 m5:recIn (K8 h) 91 "classmethod"=some [.ref 89,.bool false]
abbrev asked (w:World)(s:Shared)(h:Heap)(P:Params):=
 ((xF w s,openSeen qv loose (importedModules pw.main.body) Xt true s),
  (C5 h&&iM h 241 ("__getattribute__" :: "__getattr__" :: "__setattr__" :: R7.tab.attrs)&&iM h 134 ["__iter__","__lt__","__len__","__init__"]&&CS h&&qJ h&&xP h&&newOk h&&v8 h),
  (rG h,bodyOf h 82,bodyOf h 89,h.get? 242,h.get? 135),
  (peek (K8 h) #[pw,P] (mroOf (.ref 135)),peek (K8 h) #[pw,P] (isType (.ref 135)),peek (K8 h) #[pw,P] (isSubtype (.ref 135) (.ref 135)),peek (K8 h) #[pw,P] (isSubtype (.ref 135) (.type "tuple")),peek (K8 h) #[pw,P] (isSubtype (.ref 135) (.type "object")),
  peek (K8 h) #[pw,P] (classHasDel 135),peek (K8 h) #[pw,P] (typeLookup (.ref 135) "__init__"),peek (K8 h) #[pw,P] (specialOf (.ref 135) "__call__"),peek (K8 h) #[pw,P] (isInstance (.ref 135) (.type "type")),peek (K8 h) #[pw,P] (Bind.madeBy (.ref 135)),
  peek (K8 h) #[pw,P] (Bind.madeHere "tuple.__new__" (.ref 135)),λx:Value=>peek (K8 h) #[pw,P] (checkBuiltinCall "tuple.__new__" #[[.ref 135,x],[]])),
  (readsIn (K8 h) 135 (.type "type"),findCls (K8 h) (.ref 135) (.type "type") "__new__",findCls (K8 h) (.ref 135) (.type "type") "_make",recIn (K8 h) 136 "staticmethod",recIn (K8 h) 91 "classmethod"))
def atB:(λw os=>((XB w os).map λr=>(r.1,r.2.2.1),asked w (F w os) (F w os).heap w.params))=λw os=>(some (.next,cE),((true,openGood qv loose),true,
  (y2 (F w os).heap,(bodyOf (F w os).heap 82).map LV,(bodyOf (F w os).heap 89).map IF,some (excClassObj "SequenceMatcher" "SequenceMatcher" 242 241 [.type "object"] [.type "object"] true [] [] false none none none none (some (.str "SequenceMatcher" 389)) (some (.str "SequenceMatcher" 397)) (some (.bool true)) "object.__new__"),
   some (eX 135 134 "Match" "Match" (some (.ref 65)) (some (.str "Match" 253)) (some (.str "Match" 261)))),
  (some [.ref 135,.type "tuple",.type "object"],some true,some true,some true,some true,some false,some (some (.builtin "object.__init__")),some (some (.builtin "type.__call__")),some true,some none,some (),λ_=>some ()),
  (true,some (.get (.builtin "staticmethod.__get__") (.ref 136) .none (.ref 135)),some (.get (.builtin "classmethod.__get__") (.ref 91) .none (.ref 135)),some [.ref 82],some [.ref 89,.bool false]))):=by
 delta F s3 XB tB JS PySem.W.Fast.tw4202317264376624991
 rw[vK]
 kernel_rfl
end Mine
end
section
open PySem PySem.W PyProof.Rows
set_option maxHeartbeats 0
namespace Mine
open MP
def zC {p q:Program}{loose:List Str}{Xt:Shared->Bool}{N:Nat}{g0:Bool}{W:Params->Heap}{U:Array GenState}{J:Drawn}{O I:Nat}{ag:Option Value}{M:Nat}{F:World->OsState->Shared}
  (B:∀w:World,(fencedOpening treeTable p w N).map (λs=>(s.heap,s.gens,s.drawn,s.toks))=some (W w.params,U,J,O))
  (z:∀w:World,((W w.params).isNs mainGlobals&&U.size==0,(W w.params).objs.size,(W w.params).nsMap mainGlobals "__annotations__")=(true,I,ag))
  (run:∀(w:World) (os:OsState),topRun treeTable p w I ag M #[W w.params,U,J,O,os] (topStub p)=some (F w os)) (le:Nat.ble M N=true)
  (xF:∀(w:World) (os:OsState),(staticsOk (importedModules p.main.body) (W w.params) (F w os).heap&&namesBound p (F w os).heap&&gensDone (F w os)&&laidKept (W w.params) (F w os).heap)=true)
  (seen:∀(w:World) (os:OsState),openSeen q loose (importedModules p.main.body) Xt g0 (F w os)=openGood q loose) :
  LeftO p q loose Xt (λs=>s.heap) (λw=>(F w ((fencedOpening treeTable p w N).elim {} (·.os))).heap) N g0:=λw=>by
 have#[#[h,gs,d,k,os],e,e']:=ji.mp (B w);have zz:=by simpa using e'
 clear e';have#[rfl,rfl,rfl,rfl]:h=W w.params/\gs=U/\d=J/\k=O:=zz;have#[z1,z2,z3]:_/\_/\_:=by simpa only[tg] using z w
 have r:=topRun_mono (N-M) _ _ _ _ (run w os);rw[show M+(N-M)=N by have:=bx le;(show fc .T .l (.e .Z .C) (aa (av .A .a .A this)))]at r;have t:topFrom treeTable p w N #[W w.params,gs,d,k,os]=some (F w os):=by
  unfold topFrom;dsimp only;rw[z1,z2,z3,r];show(match staticsOk (importedModules p.main.body) (W w.params) (F w os).heap&&namesBound p (F w os).heap&&gensDone (F w os)&&laidKept (W w.params) (F w os).heap with|true=>_|false=>_)=_;rw[xF w os]
 unfold openEnds;rw[e];show(topFrom treeTable p w N _).map _=_;rw[t];apply di some (eF (seen w os) ?_);show(F w os).heap=_;dsimp only;rw[e];rfl
def kj {α W:Type}{a c:α}{b d:W}(h:(a,b)=(c,d)):a=c:=di (·.1) h
def iy {α W:Type}{a c:α}{b d:W}(h:(a,b)=(c,d)):b=d:=di (·.2) h
def M1 {w:World}{os:OsState}:xF w (F w os)=true:=kj (kj (iy (ki (ki atB w) os)))
def obs (w:World)(os:OsState):Obs w.params (F w os).heap:=by
 have v:=iy (iy (ki (ki atB w) os));generalize (F w os).heap=h at v ⊢;generalize w.params=P at v ⊢;have J:=kj v;have W:=kj (iy v);have O:=kj (iy (iy v));have U:=iy (iy (iy v));simp only[dw]at J;have#[#[#[#[#[#[#[a1,a2],a3],a4],a5],a6],a7],a8]:=J;have b:=iy O;have c:=iy b;have d:=iy c;have e:=iy d;have f:=iy e;have g:=iy f;have i:=iy g;have j:=iy i;have k:=iy j;have l:=iy k;have m:=iy U;have n:=iy m;have o:=iy n;apply#[a1,a2,a3,a4,a5,a6,a7,a8,kj W,kj (iy W),kj (iy (iy W)),kj (iy (iy (iy W))),iy (iy (iy (iy W))),kj O,kj b,kj c,kj d,kj e,kj f,kj g,kj i,kj j,kj k,kj l,iy l,kj U,kj m,kj n,kj o,iy o]
def JH (w:World)(os:OsState):topRun treeTable pw w 11 an 2381 (S0 w os) (topStub pw)=some (F w os):=by
 have hp:=ki (ki pre w) os;have hb:=ki (ki blk w) os;have hA:=ki (ki atA w) os;have hv:=kj (ki (ki atB w) os);have hf:=λc q s=>ki (ki (ki (ki fin w) c) q) s;have#[#[fl,I,c3,q3],O,e]:=ji.mp hv;have z:fl=.next:=kj e
 have ag:c3=cE:=iy e;subst z;subst ag;have hF:F w os=I.abs:=by
  unfold F s3;rw[O];rfl
 have U:XA w os=some (sA w os,tA w os):=by
  have J:=kj hA;unfold sA tA;cases q:XA w os with
  |none=>rw[q]at J;cases J
  |some x=>rfl
 have B:tB w os=tA w os:=by
  unfold tB;rw[<- iy hA]
 unfold XB at O;rw[B]at O;rw[hF];generalize sA w os=sa at U O;generalize tA w os=ta at U O;unfold XA at U;unfold th0 at U;rw[MT]at U;have e3:TB=treeTable:=PySem.W.Fast.te14364793385576792824.symm;have e1:goT=@segGoT:=PySem.W.Fast.te10295753902157049106.symm;have e2:LL=@segRunT:=PySem.W.Fast.te10110043849684766642.symm;rw[e1,e3]at U;rw[e2,e3]at O;rw[e3]at hp hb hf;have hs:=seg_go (n:=1966) (N:=400) (segGo_of U) (segRun_of O);apply go_top (n:=12) (N:=2369) hp (piece_block (n:=1) (N:=2368) hb ?_);have:=piece_app (n:=2366) (N:=2) (l:=bE) (rest:=[]) (env:=H9) hs (piece_nil (hf _ _ _));rw[dk]at this;show this
end Mine
end
section
open PySem PySem.W PyProof.Rows
set_option maxHeartbeats 0
namespace Mine
open MP
def M0:∀w:World,((boot_heap w.params).isNs mainGlobals&&(#[[]]:Array GenState).size==0,(boot_heap w.params).objs.size,(boot_heap w.params).nsMap mainGlobals "__annotations__")=(true,11,an):=by
 have h:(λw:World=>((boot_heap w.params).isNs mainGlobals&&(#[[]]:Array GenState).size==0,(boot_heap w.params).objs.size,(boot_heap w.params).nsMap mainGlobals "__annotations__"))=λw=>(true,11,an):=by kernel_rfl
 show λw=>ki h w
abbrev H1 (w:World):Heap:=(F w ((fencedOpening treeTable pw w 4418).elim {} (·.os))).heap
abbrev hook:Hook where
 α:=Heap
 obs:=λs=>s.heap
 val:=H1
 says:=λw h=>∀a o,(H1 w).get? a=some o->h.get? a=some o
 of:=λw s e a o h=>by rw[e];show h
 keeps:=λw h h' x k a o e=>k a o (x a o e)
def left:LeftO pw qv loose Xt (λs=>s.heap) H1 4418 true:=zC (boot_open (by kernel_rfl) (by decide +kernel) (λs=>by kernel_rfl)) M0 JH (by decide +kernel) (λw os=>M1) λw os=>iy (kj (iy (ki (ki atB w) os)))
def head (U:∀(d:DefRec) (W:List (Str×Expr)),defOf qv rw7.row.name=some (d,W)->WalkO qv loose (XL qv []) hook.says rw7.row.toRowW d W λf vs=>PySem.call f vs):rw7.Holds:=by
 w_on
 apply holds_law (by decide +kernel) λO=>?_;apply holds_open (q:=qv) (loose:=loose) (Xt:=Xt) (XP:=XL qv []) (Yf:=hook.obs) (Ya:=hook.val) (YP:=hook.says) (N:=4418) left hook.of hook.keeps (λs e=>xl_of s (Bool.and_eq_true_iff.mp e).1) XL.keeps (by rfl) (by rfl) (by rfl) (λs e=>recFacts_of (Bool.and_eq_true_iff.mp e).2) (by first|rfl|fail "no head") (by first|assumption|decide +kernel) (by decide +kernel) #[rfl,rfl,rfl,rfl,rfl,by decide +kernel] ?hw ?U
 case hw=>w_witness2
 case U=>show U _ _ (by rfl)
def JQ (w:World):Obs w.params (H1 w):=obs w _
end Mine
end
section
set_option tactic.hygienic true
open PySem PySem.W PyProof.Rows
set_option maxHeartbeats 0
namespace Mine
open MP
def AB (x:Str)(W:x∈R7.tab.attrs):typeLookup (.type "object") x=pure none:=by
 simp only[R7.tab,cz,yt,or_false]at W;rcases W with rfl|rfl|rfl|rfl|rfl|rfl|rfl|rfl|rfl|rfl<;>(rw[gk,fe];kernel_rfl)
abbrev G8 (w:World)(h0 hb:Heap):Stc:={prog:=pw,w:=w,hb:=hb,cM:=135,cS:=242,attrs:=R7.tab.attrs,gl:=GS h0,cap:=λ_=>false,clo:=λ_ _ _=>False}
section
variable {w:World}{h0 hb:Heap}(ob:Obs w.params h0)
include ob
def sW:h0.isNs mainGlobals=true/\h0.isNs builtinsNs=true/\h0.isNs 241=true/\h0.isNs 134=true/\h0.isNs cStatics=true/\h0.nsMap cStatics "sys.recursionlimit"=none/\∃o,h0.get? sysModules=some o:=by
 have h:=ob.nss;unfold C5 at h;simp only[dw,uq]at h;have#[#[#[#[#[#[z,B],I],J],O],U],W]:=h;apply#[z,B,I,J,O,U,cq.mp W]
omit ob in
def pj {h:Heap}{a:Addr}{xs:List Str}(e:iM h a xs=true){x:Str}(W:x∈xs):h.nsMap a x=none:=by
 unfold iM at e;rw[jo]at e;show uq.mp (e x W)
variable (hk:∀a o,h0.get? a=some o->hb.get? a=some o)
include hk
def K3:hb.NoLimit:=by
 have#[z,B,I,J,U,W,O]:=sW ob;apply#[_,(yf U).keeps hk,W]
def ML:ClsAt hb 242 241 (h0.nsMap 241):=by
 have#[z,B,W,I,J,O,U]:=sW ob;apply#[#[_,_,_,_,_,_,_,_,_,_,_,_,hk _ _ (ob.g242)],(yf W).keeps hk]
def NT:GOk (G8 w h0 hb):=by
 have#[J,O,h3,z,B,I,o,U]:=sW ob;have no:=ob.no241;apply#[#[241,_,ML ob hk,pj no (.head _),pj no (.tail _ (.head _)),pj no (.tail _ (.tail _ (.head _))),λx W=>#[pj no (.tail _ (.tail _ (.tail _ W))),AB x W]],by show R7.tab.attrs.length<=100;decide,by show R7.tab.attrs.Nodup;decide +kernel,#[o,hk _ _ U],#[_,_,(yf J).keeps hk,(yf O).keeps hk,λx=>rfl]]
omit hk in
def gl8 (x:Str)(v:Value)(e:R7.tab.gl.lookup x=some v):GS h0 x=some v:=by
 have h:=ob.gls;unfold CS at h;rw[jo]at h;show bw (h (x,v) (MP.mem_of_lookup e))
def KH {k:Nat}{a:Addr}(e:R7.tab.fns.lookup k=some a):∃o fd,hb.get? a=some o/\o.cls=.type "function"/\o.data=.func fd:=by
 have h:=ob.fns;unfold xP at h;rw[jo]at h;have:=h (k,a) (MP.mem_of_lookup e);rw[dw]at this;have:=this.1;have#[o,W,h]:=MP.any_some this;have#[O,U]:=MP.band h;have#[fd,hd]:=cq.mp U;apply#[o,fd,hk _ _ W,bw O,oZ hd]
omit hk in
def JX {k:Nat}{name:Str}(e:R7.tab.meths.lookup k=some name):h0.nsMap 241 name=(R7.tab.fns.lookup k).map Value.ref:=by
 have h:=ob.meths;unfold qJ at h;rw[jo]at h;show bw (h (k,name) (MP.mem_of_lookup e))
def IE (k:Nat)(name:Str)(e:R7.tab.meths.lookup k=some name):∃f,R7.tab.fns.lookup k=some f/\MethAt (G8 w h0 hb) name f:=by
 have no:=ob.no241;have U:∃f,R7.tab.fns.lookup k=some f:=by
  have h:R7.tab.meths.all (λp=>(R7.tab.fns.lookup p.1).isSome)=true:=by decide +kernel
  show cq.mp (jo.mp h _ (MP.mem_of_lookup e))
 have W:name∉R7.tab.attrs:=by
  have h:R7.tab.meths.all (λp=>decide (p.2∉R7.tab.attrs))=true:=by decide +kernel
  show bw (jo.mp h _ (MP.mem_of_lookup e))
 have#[f,O]:=U;have#[o,fd,J,I,hd]:=KH ob hk O;apply#[f,O,#[#[241,_,o,fd,ML ob hk,pj no (.head _),pj no (.tail _ (.head _)),?_,J,I,hd],W,#[_,gk _ _]]];have:=JX ob e;rw[O]at this;show this
def M5:∃f,R7.tab.fns.lookup 0=some f/\nE (G8 w h0 hb) f:=by
 have#[f,W,M]:=IE ob hk 0 "__init__" rfl;have#[N,mN,of,fd,I,h2,z,J,O,U,B]:=M.here;apply#[f,W,#[N,mN,of,I,J,O,U]]
def JY:tf (G8 w h0 hb):=by
 have#[z,B,I,W,J,O,U]:=sW ob;have no:=ob.no134;apply#[#[134,_,_,_,_,_,_,hk _ _ (ob.g135),(yf W).keeps hk,pj no (.head _),pj no (.tail _ (.head _)),pj no (.tail _ (.tail _ (.head _))),pj no (.tail _ (.tail _ (.tail _ (.head _))))]]
omit ob hk in
def qP (h:Heap):∀l:List Addr,Frag.In (fragOf h l) h
 | [],a,o,e=>by cases e
 |b::l,a,o,e=>by
  unfold fragOf at e;simp only[List.filterMap_cons]at e;cases W:h.get? b with
  |none=>rw[W]at e;show qP h l a o e
  |some ob =>
   rw[W]at e;simp only[cX,List.lookup]at e;split at e
   ·rename_i q;cases e;rw[dh.mp q];show W
   ·show qP h l a o e
omit ob hk in
def m6:findCls [] (.type "tuple") (.type "type") "__new__"=some (.val (.builtin "tuple.__new__")):=by kernel_rfl
omit ob hk in
def m7:findIn [] (.type "type") "__getattribute__"=some (some (.builtin "type.__getattribute__")):=by kernel_rfl
omit ob hk in
def m8:subIn [] (.type "type") (.type "type")=some true:=by kernel_rfl
omit ob hk in
def m9:opaqueClassAbove (.type "tuple")=pure none:=by kernel_rfl
omit ob hk in
def m10:hookBefore (.type "type")=pure none:=by kernel_rfl
omit ob hk in
def m11:typeOf (.type "tuple")=pure (.type "type"):=by kernel_rfl
def CI:(K8 h0).In hb:=(qP h0 _).keeps hk
def d4 {α:Type}{t:Sem α}{r:α}(e:peek (K8 h0) #[pw,w.params] t=some r):Looks (G8 w h0 hb).M (G8 w h0 hb).hb t r:=Looks.of_peek (K:=K8 h0) (CI ob hk) e
def G9:pv (G8 w h0 hb) 82 89 where
 made:=d4 ob hk (ob.l10)
 here:=d4 ob hk (ob.l11)
 chk:=λx=>d4 ob hk (ki ob.l12 x)
 mro:=d4 ob hk (ob.l1)
 self:=d4 ob hk (ob.l3)
 tup:=d4 ob hk (ob.l4)
 init:=d4 ob hk (ob.l7)
 call:=d4 ob hk (ob.l8)
 typ:=d4 ob hk (ob.l9)
 isT:=d4 ob hk (ob.l2)
 del:=d4 ob hk (ob.l6)
 new:=λA E s Q k h=>cls_bind (K:=K8 h0) (mc:=.type "type") ((CI ob hk).keeps k) (ob.m1) (ob.m2) (rg (sm_get (s:={s with toks:=s.toks+1}) (K:=K8 h0) ((CI ob hk).keeps k) (ob.m4) (handed_on rfl h)))
 make:=λA E s expr Q k h=>cls_bind (K:=K8 h0) (mc:=.type "type") ((CI ob hk).keeps k) (ob.m1) (ob.m3) (rg (cm_get (s:={s with toks:=s.toks+1}) (K:=K8 h0) ((CI ob hk).keeps k) (ob.m5) (handed_on rfl h)))
 typNew:=λA E s expr Q h=>cls_open (K:=[]) (λ_ _ e=>nomatch e) (Looks.of_pure m9) (Looks.of_pure m11) m7 (Looks.of_pure m10) m8 m6 (af (handed_on rfl h))
def NQ:pH (G8 w h0 hb) 82:=by
 apply#[?_,gl8 ob "tuple" _ (by decide +kernel),d4 ob hk ob.l5];have h:=ob.new;unfold newOk at h;rw[dw]at h;have#[x,W,U]:=xQ (G:=G8 w h0 hb) hk (K3 ob hk) h.1 ob.newB;have hl:=h.2;rw[W]at hl;apply#[_,_,_,_,_,_,_,_,_,_,_,_,_,_,[],U,hl]
def LY:n6 (G8 w h0 hb) 89:=by
 apply#[?_,gl8 ob "tuple" _ (by decide +kernel),gl8 ob "len" _ (by decide +kernel)];have h:=ob.make;unfold v8 at h;rw[dw]at h;have#[x,W,U]:=xQ (G:=G8 w h0 hb) hk (K3 ob hk) h.1 ob.makeB;have hl:=h.2;rw[W]at hl;apply#[_,_,_,_,_,CA,[],U,hl,by decide +kernel,by decide +kernel]
def MS:rP (G8 w h0 hb) R7.tab:=
 #[NT ob hk,gl8 ob,rfl,rfl,IE ob hk,M5 ob hk,rfl,rfl,#[82,89,G9 ob hk,NQ ob hk,LY ob hk],JY ob hk]
def LN:wA (G8 w h0 hb) R7.tab R7.P:=by
 apply#[MS ob hk,λk cs a q=>q.elim,λk a e=>?_];have h:=ob.fns;unfold xP at h;rw[jo]at h;have:=h (k,a) (MP.mem_of_lookup e);rw[dw]at this;have W:=this.2;split at W
 ·rename_i fn U;have#[sc,body,x,y]:=M6 (G:=G8 w h0 hb) hk (K3 ob hk) W (by
   have J:=List.map_inj_left.mp ob.rG (k,a) (MP.mem_of_lookup e);have O:JJ k=JK R7.tab fn:=by funext x;unfold JJ;rw[U]
   rw[<- O];show J)
  apply#[fn,sc,body,U,x,y]
 ·cases W
end
end Mine
end
section
open PySem PySem.W PyProof.Rows
set_option maxHeartbeats 0
namespace Mine
open MP
abbrev st0:MP.St:=#[λ_=>none,λ_=>none,λ_=>none,λ_=>none,λ_=>none]
def NL (G:Stc):Rel G st0 G.hb:=by
 apply#[λ_ _ e=>?_,λ_ _ e=>?_,λ_ _ e=>?_,λ_ _ _ e=>?_,λ_ _ e=>?_,λ_ _ e=>?_,λ_ _ e=>?_,λ_ _ _ _ _ e=>?_,λ_ _ _ e=>?_,λ_ _ _ _ _ _ e=>?_,λb d=>?_,λ_ _ e=>e]
 all_goals first|cases e|skip
 unfold MP.St.dom at d;simp[st0]at d
def ao0:AOk callerA 16:=#[rfl,by decide,by decide]
section
variable {P:Params}{h:Heap}
def NF {v:Value}{x:WData}(W:Well P h v x)(U:WShape.has [] x .int=true):∃i t,v=.int i t/\x=.int i:=by
 cases W with
 |int i t=>refine#[i,t,rfl,rfl]
 |_=>show Bool.noConfusion (show false=true from U)
def LB {v:Value}{x:WData}(W:Well P h v x)(U:WShape.has [] x (.list .int)=true):∃a vs xs,v=.ref a/\x=.list xs/\h.get? a=some {cls:=.type "list",data:=.seq vs.toArray}/\WellAll P h vs xs/\WShape.hasItems [] xs .int=true:=by
 cases W with
 | @list a vs xs e O=>refine#[a,vs,xs,rfl,rfl,e,O,(gM _).symm.trans (show(WShape.hasItems [] xs .int||false)=true from U)]
 |_=>show Bool.noConfusion (show false=true from U)
def E9 {vs:List Value}{xs:List WData}(W:WellAll P h vs xs):(vs=[]/\xs=[])\/∃v us x ys,vs=v::us/\xs=x::ys/\Well P h v x/\WellAll P h us ys:=by
 cases W with
 |nil=>show .inl #[rfl,rfl]
 |cons W U=>show .inr #[_,_,_,_,rfl,rfl,W,U]
def ints_of {vs:List Value}:∀{xs:List WData},WellAll P h vs xs->WShape.hasItems [] xs .int=true->∃ns:List Int,xs=ns.map WData.int/\IntsAre vs ns:=by
 induction vs with
 |nil =>
  intro xs W U;rcases E9 W with ⟨_,rfl⟩|⟨_,_,_,_,e,_⟩
  ·apply#[[],rfl,.nil]
  ·cases e
 |cons v vs O =>
  intro xs W U;rcases E9 W with ⟨e,_⟩|⟨_,_,x,ys,e,rfl,W1,z⟩
  ·cases e
  ·cases e;have#[B,J]:=MP.band (show(WShape.has [] x .int&&WShape.hasItems [] ys .int)=true from U);clear U;have#[ns,rfl,I]:=O z J;have#[i,t,rfl,rfl]:=NF W1 B;apply#[i::ns,rfl,.cons i t I]
def HQ {args:List WData}{vals:List Value}(W:WellAll P h vals args)(U:WShape.hasAll [] args [.list .int]=true):∃(l:Addr) (vs:List Value) (ns:List Int),vals=[.ref l]/\args=[.list (ns.map WData.int)]/\h.get? l=some {cls:=.type "list",data:=.seq vs.toArray}/\IntsAre vs ns:=by
 rcases E9 W with ⟨_,rfl⟩|⟨v,us,x,ys,rfl,rfl,W1,O⟩
 ·cases U
 ·have#[z,B]:=MP.band (show(WShape.has [] x (.list .int)&&WShape.hasAll [] ys [])=true from U);rcases E9 O with ⟨rfl,rfl⟩|⟨_,_,_,_,_,rfl,_⟩
  ·have#[a,vs,xs,rfl,rfl,e,O,U]:=LB W1 z;have J:=ints_of O U;clear U;have#[ns,rfl,I]:=J;apply#[_,_,ns,rfl,rfl,e,I]
  ·show Bool.noConfusion (show false=true from B)
end
def LP (xs:List WData)(h:rw7.pre.holds [] {args:=[.list xs]}=true):xs.length<=63:=by
 have e:rw7.pre=.and (.not (.lt (.lit (.int 63)) (.len (.arg 0)))) (.lit (.bool true)):=by rfl
 rw[e]at h;have hl:WTm.value [] (.lt (.lit (.int 63)) (.len (.arg 0))) {args:=[.list xs]}=(less? (.int 63) (.int xs.length)).map WData.bool:=by rfl
 have J:less? (.int 63) (.int xs.length)=some (decide ((63:Int)<xs.length)):=by first|rfl|simp[less?]
 rw[J]at hl;by_cases W:(63:Int)<xs.length
 ·have U:WTm.value [] (.not (.lt (.lit (.int 63)) (.len (.arg 0)))) {args:=[.list xs]}=some (.bool false):=by
   show(match WTm.value [] (.lt (.lit (.int 63)) (.len (.arg 0))) {args:=[.list xs]} with|some (.bool b)=>some (WData.bool (!b))|_=>none)=_;rw[hl];simp[W]
  have O:WTm.value [] (.and (.not (.lt (.lit (.int 63)) (.len (.arg 0)))) (.lit (.bool true))) {args:=[.list xs]}=some (.bool false):=by
   show(match WTm.value [] (.not (.lt (.lit (.int 63)) (.len (.arg 0)))) {args:=[.list xs]} with
    |some (.bool false)=>some (WData.bool false)
    |some (.bool true)=>some (.bool true)
    |_=>none)=_
   rw[U]
  unfold WTm.holds at h;rw[O]at h;cases h
 ·(show fh .cH .a (.ig (.n 63) .L) W)
def JO:(λ(x y:List WData)=>rw7.row.claim.post x (WData.bool true) y)=λx y=>true:=by kernel_rfl
def NX (ai:∀ns:List Int,ns.length<=63->jc R7.P 7 13 [.ro ns] st0 λv σ=>v=.bool true):rw7.Holds:=by
 apply head λd ay hd w s₀ s₁ mg mb Gr J a o pm cd doc dV kV ho ax hcd bc z O args vals as B ar aj U ao=>?_;have hk:∀b o,(H1 w).get? b=some o->s₁.heap.get? b=some o:=J;have W:(WShape.hasAll [] args [.list .int]&&rw7.pre.holds [] {args:=args})=true:=B;rw[dw]at W;have#[l,vs,ns,rfl,rfl,hl,I]:=HQ U W.1;have ag:ns.length<=63:=by
  simpa using LP _ W.2
 have ha:a=270:=by
  have e1:=Gr.T.g.eq_nsMap;have e0:=(sW (JQ w)).1;have e4:=gl8 (JQ w) "law" (.ref 270) (by decide +kernel);generalize H1 w=h0 at e0 e4 hk;have e2:=((yf e0).keeps hk).eq_nsMap;have e3:d.name=("law":Str):=by
   have:(defOf qv rw7.row.name).map (λp=>p.1.name)=some ("law":Str):=by kernel_rfl
   rw[hd]at this;show ah this
  rw[e1,<- e2,e3]at z;unfold GS at e4;rw[z]at e4;cases e4;rfl
 subst ha;have hc:=(KU (LN (JQ w) hk) 7 13 270 (by decide +kernel)).2 (E:=λe s'=>GoodWG rw7.row.claim (classAt s₀.heap) (ExcName.means s₀.heap) [.list (ns.map WData.int)] s₁ (.error e) s') (ws:=[.ref l]) (σ:=st0) (s:=s₁) ao0 (NL (G8 w (H1 w) s₁.heap)) %[.ro hl I|0] (ai ns ag);apply dj hc (λv s' lf=>?_) λ_ _ x=>x;have#[u,σ',q,vr,R',x']:=lf;obtain rfl:u=V.bool true:=q;have rfl:=vr;apply#[.inl #[.bool true,.bool true,[],rfl,λcls=>rfl,.bool true,?_,λ_=>#[List.nodup_nil,λa h=>nomatch h]],.of_keep λb o e=>R'.base b o e,x'.o,.of_eq (x'.g.trans O)];show ki (ki JO _) _
end Mine
end
section
namespace MP
open PySem
variable {Q:V->St->Prop}
def kx {σ:St}{a d:Addr}{f:Nat->Option V}:(σ.jn a d f).I a=some (d,f):=cn _ _ _
def ux {σ:St}{a d d':Addr}{f g:Nat->Option V}:(σ.jn a d f).jn a d' g=σ.jn a d' g:=by
 unfold St.jn
 congr 1
 funext j
 simp only[upd];split<;>rfl
section
variable {C:Cal}{ρ:Fr}{σ:St}{e a b:Ex}{es:Exs}
def E8:wpE C (.L es) ρ σ Q=uv C es ρ σ λvs σ=>vs.length<=bz/\∀c,σ.L c=Option.none->Q (.L c) (σ.ew c vs):=rfl
def pN:wpE C (.T es) ρ σ Q=uv C es ρ σ λvs σ=>vs.length<=bz/\Q (.T vs) σ:=rfl
def A5:wpE C (.n es) ρ σ Q=uv C es ρ σ λvs σ=>∀a d,σ.I a=Option.none->C 0 (.obj a::vs) (σ.jn a d λ_=>Option.none) λv σ=>v=.none/\Q (.obj a) σ:=rfl
def A6 {m:Nat}:wpE C (.meth e m es) ρ σ Q=wpE C e ρ σ λv σ=>∃a,v=.obj a/\(σ.I a).isSome/\uv C es ρ σ λvs σ=>C m (v::vs) σ Q:=rfl
def s8 {fv:List (Nat×Nat)}{it:It}{t:Tg}{cs:Exs}{more:Gens}:wpE C (.K fv it t cs more) ρ σ Q=uB C it ρ σ λvs G σ =>
   mF vs G (λv ρ' acc σ K=>qi t v σ ρ' λρ'=>yi C cs ρ' σ λok σ=>if ok then fT C more ρ' acc σ K else K ρ' acc σ) (dT fv ρ) [] σ
    λ_ acc σ=>∀c,σ.L c=Option.none->Q (.L c) (σ.ew c acc):=rfl
def s6 {K:List V->(St->Prop)->St->Prop}:uB C (.seq e) ρ σ K=wpE C e ρ σ λv σ=>HY v σ K:=rfl
def nc {Q:List V->St->Prop}:uv C (.cons e es) ρ σ Q=wpE C e ρ σ λv σ=>uv C es ρ σ λvs σ=>Q (v::vs) σ:=rfl
def jA {ts:List Tgt}{ss:pq}{K:Fl->Fr->St->Prop}:gq C (.cons (.a ts e) ss) ρ σ K=wpE C e ρ σ λv σ=>iF C ts v ρ σ λρ σ=>gq C ss ρ σ K:=rfl
end
def iQ {p q:Prop}(h:q):if false=true then p else q:=h
def iP {p q:Prop}(h:p):if true=true then p else q:=h
def xH (k:Key):k.v.qL=some k:=by cases k<;>rfl
def qe {vs:List V}{G:St->Prop}{T:V->Fr->St->(Fr->St->Prop)->Prop}{K:Fr->St->Prop}(Inv:Nat->Fr->St->Prop)
  (step:∀i v ρ σ,vs[i]?=some v->Inv i ρ σ->G σ/\∀k:Fr->St->Prop,(∀ρ' σ',Inv (i+1) ρ' σ'->k ρ' σ')->T v ρ σ k) (fin:∀ρ σ,Inv vs.length ρ σ->G σ/\K ρ σ) {ρ:Fr} {σ:St} (h0:Inv 0 ρ σ):vI vs G T ρ σ K:=by
 have go:∀(ws:List V) (i:Nat) (ρ:Fr) (σ:St),vs.drop i=ws->Inv i ρ σ->i<=vs.length->vI ws G T ρ σ K:=by
  intro ws;induction ws with
  |nil =>
   intro i ρ σ e h hi;have:i=vs.length:=by have:=List.drop_eq_nil_iff.mp e;(show gj .D .g .A .a4 hi this)
   subst this;show fin ρ σ h
  |cons v ws O =>
   intro i ρ σ e h hi;have U:vs[i]?=some v:=by
    have:=di (λl=>l[0]?) e;simpa using this
   have J:vs.drop (i+1)=ws:=by
    have:=di (λl=>l.drop 1) e;simpa using this
   have W:=(cy.mp U).1;have#[g,t]:=step i v ρ σ U h;apply#[g,t _ λρ' σ' h'=>O (i+1) ρ' σ' J h' W]
 show go vs 0 ρ σ rfl h0 (bq _)
def zg {T:(Fr->St->Prop)->Fr->St->Prop}(Inv:Nat->Fr->St->Prop)(step:∀n ρ σ,Inv n ρ σ->∀again:Fr->St->Prop,(∀m ρ' σ',m<n->Inv m ρ' σ'->again ρ' σ')->T again ρ σ) :
  ∀(N n:Nat) {ρ:Fr} {σ:St},n<N->Inv n ρ σ->xE T N ρ σ
 |0=>λn {ρ} {σ} h _=>absurd h (ou _)
 |N+1=>λn {ρ} {σ} h hi=>step n ρ σ hi _ λm ρ' σ' W h'=>zg Inv step N m (fb .B .b (.l .C .P) .I h W) h'
abbrev posOf (k:Key)(bs:List Key):List Nat:=(List.range bs.length).filter λj=>decide (bs[j]?=some k)
def fY (k:Key)(bs:List Key)(b:Key):posOf k (bs++[b])=posOf k bs++if b=k then [bs.length] else []:=by
 unfold posOf;rw[bg,kf,List.range_succ,List.filter_append]
 congr 1
 ·apply List.filter_congr λj W=>?_;rw[er (nI.mp W)]
 ·simp[List.filter_cons]
structure B2J (σ₀ σ:St)(db:Addr)(bs:List Key):Prop where
 tab:∃es,σ.D db=some es/\es.length<=bs.length/\(∀k,es.lookup k=none->posOf k bs=[]) /\
  (∀k w,es.lookup k=some w->∃c,w=.L c/\σ.L c=some ((posOf k bs).map λj:Nat=>V.int j)/\σ₀.L c=none) /\
  ∀k k' c,es.lookup k=some (.L c)->es.lookup k'=some (.L c)->k=k'
 old:∀a xs,σ₀.L a=some xs->σ.L a=some xs
 I:σ.I=σ₀.I
 S:σ.S=σ₀.S
 D:∀a,a≠db->σ.D a=σ₀.D a
 keys:∀es,σ.D db=some es->(es.map (·.1)).Nodup/\∀k∈es.map (·.1),k∈bs
def B2J.start {σ₀:St}{db:Addr}:B2J σ₀ (σ₀.nj db []) db []:=
 ⟨#[[],cn _ _ _,au _,λk _=>rfl,λk w e=>(by cases e),λk k' c e=>(by cases e)],λa xs e=>e,rfl,rfl,λa h=>fg h,λes e=>by
  have rfl:=ah ((cn σ₀.D db []).symm.trans e);apply#[List.nodup_nil,λk h=>nomatch h]⟩
def yl {es:List (Key×V)}{k k':Key}{v:V}:(es++[(k,v)]).lookup k'=(es.lookup k').or (if k'=k then some v else none):=by
 induction es with
 |nil=>simp[List.lookup];split<;>simp_all
 |cons e r W =>
  have#[a,b]:=e;simp only[yu,List.lookup];split
  ·rfl
  ·show W
public abbrev iL (k:Key)(bs:List Key):List V:=(posOf k bs).map λj:Nat=>V.int j
def iK (k:Key)(bs:List Key)(b:Key):iL k (bs++[b])=iL k bs++if b=k then [.int bs.length] else []:=by
 unfold iL;rw[fY,fu]
 congr 1
 split<;>rfl
def B2J.step {σ₀ σ:St}{db c:Addr}{bs:List Key}(h:B2J σ₀ σ db bs)(hc:σ.L c=none)(b:Key):∃es,σ.D db=some es/\es.length<=bs.length /\
  ∃c',(es.lookup b).getD (.L c)=.L c'/\((σ.ew c []).nj db (if (es.lookup b).isSome then es else es++[(b,.L c)])).L c'=some (iL b bs) /\
   B2J σ₀ (((σ.ew c []).nj db (if (es.lookup b).isSome then es else es++[(b,.L c)])).ew c' (iL b bs++[.int bs.length])) db (bs++[b]):=by
 have#[es,hD,B,ai,J,z]:=h.tab;apply#[es,hD,B,?_];have aj:σ₀.L c=none:=by
  cases hq:σ₀.L c with
  |none=>rfl
  |some xs=>rw[h.old c xs hq]at hc;cases hc
 cases hb:es.lookup b with
 |some w =>
  have#[c1,rfl,ar,bn]:=J b w hb;have be:c1≠c:=λe=>by rw[e,hc]at ar;cases ar
  apply#[c1,rfl,?_,?_]
  ·show upd σ.L c [] c1=_;rw[fg be];show ar
  ·simp only[Option.isSome_some,yv];apply#[#[es,cn _ _ _,by simp;(show av .R .a .A B),λk e=>?_,λk w e=>?_,z],λa xs e=>?_,h.I,h.S,λa ha=>?_,λbp W=>?_]
   ·have hk:b≠k:=λq=>by rw[<- q,hb]at e;cases e
    rw[fY,ai k e,bb hk];rfl
   ·have#[c2,rfl,O,ax]:=J k w e;apply#[c2,rfl,?_,ax];show upd (upd σ.L c []) c1 _ c2=some (iL k (bs++[b]));rw[iK];by_cases hk:b=k
    ·subst hk;rw[hb]at e;cases e;rw[cn,cp rfl]
    ·have bl:c2≠c1:=λq=>hk (z b k c1 hb (q▸e));have ag:c2≠c:=λq=>by rw[q,hc]at O;cases O
     rw[fg bl,fg ag,bb hk,dk];show O
   ·show upd (upd σ.L c []) c1 _ a=some xs;have h1:a≠c1:=λq=>by rw[q,bn]at e;cases e
    have h2:a≠c:=λq=>by rw[q,aj]at e;cases e
    rw[fg h1,fg h2];show h.old a xs e
   ·show upd σ.D db es a=_;rw[fg ha];show h.D a ha
   ·have rfl:=ah ((cn σ.D db es).symm.trans W);have#[k1,k2]:=h.keys _ hD;apply#[k1,λk hk=>dg _ (k2 k hk)]
 |none =>
  have hp:posOf b bs=[]:=ai b hb;have bc:iL b bs=[]:=by unfold iL;rw[hp];rfl
  apply#[c,rfl,?_,?_]
  ·show upd σ.L c [] c=_;rw[cn,bc]
  ·simp only[wh,fw,kn];apply#[#[es++[(b,V.L c)],(show upd σ.D db (es++[(b,V.L c)]) db=_ from cn _ _ _),by simp;(show av .A .a .A B),λk e=>?_,λk w e=>?_,λk k' c2 e W=>?_],λa xs e=>?_,h.I,h.S,λa ha=>?_,λbp W=>?_]
   ·rw[yl]at e;cases hk:es.lookup k with
    |some w=>rw[hk]at e;cases e
    |none =>
     rw[hk,eG]at e;have ao:b≠k:=λq=>by rw[cp q.symm]at e;cases e
     rw[fY,ai k hk,bb ao];rfl
   ·rw[yl]at e;cases hk:es.lookup k with
    |some w' =>
     rw[hk,Option.some_or]at e;cases e;have#[c2,rfl,O,ax]:=J k _ hk;apply#[c2,rfl,?_,ax];show upd (upd σ.L c []) c _ c2=some (iL k (bs++[b]));have ag:c2≠c:=λq=>by rw[q,hc]at O;cases O
     have ao:b≠k:=λq=>by rw[<- q,hb]at hk;cases hk
     rw[fg ag,fg ag,iK,bb ao,dk];show O
    |none =>
     rw[hk,eG]at e;split at e
     ·rename_i q;cases e;subst q;apply#[c,rfl,?_,aj];show upd (upd σ.L c []) c _ c=some (iL k (bs++[k]));rw[cn,iK,cp rfl]
     ·cases e
   ·rw[yl]at e W;have fresh:∀k2,es.lookup k2≠some (.L c):=λk2 e2=>by
     have#[c3,e3,ay,_]:=J k2 _ e2;cases e3;rw[hc]at ay;cases ay
    cases hk:es.lookup k with
    |some w =>
     rw[hk,Option.some_or]at e;cases e;cases U:es.lookup k' with
     |some w'=>rw[U,Option.some_or]at W;cases W;show z k k' c2 hk U
     |none =>
      rw[U,eG]at W;split at W
      ·cases W;show absurd hk (fresh k)
      ·cases W
    |none =>
     rw[hk,eG]at e;split at e
     ·rename_i q;cases e;cases U:es.lookup k' with
      |some w'=>rw[U,Option.some_or]at W;cases W;show absurd U (fresh k')
      |none =>
       rw[U,eG]at W;split at W
       ·rename_i q';rw[q,q']
       ·cases W
     ·cases e
   ·show upd (upd σ.L c []) c _ a=some xs;have h2:a≠c:=λq=>by rw[q,aj]at e;cases e
    rw[fg h2,fg h2];show h.old a xs e
   ·show upd σ.D db _ a=_;rw[fg ha];show h.D a ha
   ·have zz:=ah ((cn σ.D db (es++[(b,V.L c)])).symm.trans W);clear W;have rfl:=zz;have#[k1,k2]:=h.keys _ hD;rw[fu];apply#[List.nodup_append.mpr #[k1,by simp,λx hx y hy=>?_],λk hk=>?_]
    ·have rfl:=ak.mp hy;rintro rfl;have#[p,bd,rfl]:=fj.mp hx;rw[qo]at hb;have:=hb p bd;simp at this
    ·rcases cu.mp hk with hk|hk
     ·show dg _ (k2 k hk)
     ·show dt _ hk
end MP
end
section
set_option tactic.hygienic true
namespace MP
variable {i j k:Nat}{seen:Nat->Nat->Prop}
abbrev hit (as bs:List Key)(rm:Key->Bool)(i j:Nat):Bool:=match as[i]?,bs[j]? with
 |some a,some b=>decide (a=b)&&!rm a
 |_,_=>false
def xd {as bs:List Key}{rm:Key->Bool}:hit as bs rm i j=true↔∃c,as[i]?=some c/\bs[j]?=some c/\rm c=false:=by
 cases U:as[i]? with
 |none=>rw[show hit as bs rm i j=false by unfold hit;rw[U]];apply#[(λh=>nomatch h),λh=>by have#[c,W,_]:=h;cases W]
 |some a =>
  cases hb:bs[j]? with
  |none=>rw[show hit as bs rm i j=false by unfold hit;rw[U,hb]];apply#[(λh=>nomatch h),λh=>by have#[c,_,W,_]:=h;cases W]
  |some b =>
   rw[show hit as bs rm i j=(decide (a=b)&&!rm a) by unfold hit;rw[U,hb],dw,fL,gi];apply#[λh=>?_,λh=>?_]
   ·have#[rfl,h]:=h;apply#[_,rfl,rfl,h]
   ·have#[c,W,O,h]:=h;have rfl:=ah W;have rfl:=ah O;apply#[rfl,h]
structure Run (as bs:List Key)(rm:Key->Bool)(alo ahi blo bhi i j k:Nat):Prop where
 ai:alo<=i
 ia:i+k<=ahi
 bj:blo<=j
 jb:j+k<=bhi
 eq:∀t,t<k->hit as bs rm (i+t) (j+t)=true
structure wB (as bs:List Key)(rm:Key->Bool)(alo ahi blo bhi i j k:Nat):Prop where
 run:Run as bs rm alo ahi blo bhi i j k
 zero:k=0->i=alo/\j=blo
 max:∀i' j' k',0<k'->Run as bs rm alo ahi blo bhi i' j' k'->k'<k\/(k'=k/\(i<i'\/(i=i'/\j<=j')))
abbrev el (as bs:List Key)(rm:Key->Bool)(alo blo:Nat):Nat->Nat->Nat
 |i+1,j+1=>if alo<=i/\blo<=j/\hit as bs rm i j=true then el as bs rm alo blo i j+1 else 0
 |_,_=>0
section
variable {as bs:List Key}{rm:Key->Bool}{alo ahi blo bhi:Nat}
def qU:el as bs rm alo blo (i+1) (j+1)=if alo<=i/\blo<=j/\hit as bs rm i j=true then el as bs rm alo blo i j+1 else 0:=rfl
def D0:el as bs rm alo blo alo j=0:=by
 cases alo with
 |zero=>cases j<;>rfl
 |succ n =>
  cases j with
  |zero=>rfl
  |succ j =>
   rw[qU];rw[bb]
   (show λW=>(fh .ff .i (.k .M .A) W.1))
def qW:∀{i j:Nat},el as bs rm alo blo i j<=i/\el as bs rm alo blo i j<=j/\(0<el as bs rm alo blo i j->Run as bs rm alo i blo j (i-el as bs rm alo blo i j) (j-el as bs rm alo blo i j) (el as bs rm alo blo i j))
 |0,j=>#[bq _,bq _,λh=>absurd h (je 0)]
 |i+1,0=>#[bq _,bq _,λh=>absurd h (je 0)]
 |i+1,j+1=>by
  rw[qU];split
  ·rename_i c;have#[W,U,R]:=qW (i:=i) (j:=j);apply#[by show av .aS .a .A W,by show av .aS .a .A U,λ_=>?_];by_cases h0:0<el as bs rm alo blo i j
   ·have R:=R h0;generalize el as bs rm alo blo i j=m at *;apply#[?_,by show fc (.k .a4 .T) .a (.e .a4 .T) (aa (av .aS .a .A W)),?_,by show fc (.k .a4 .T) .a (.e .a4 .T) (aa (av .aS .a .A U)),λt I=>?_]
    ·have:=R.ai;(show ll .A .s .L .b2 (.e (.a .B .a0) .a1) this (aa (av .A .a .A W)) (aa (av .aS .a .A W)))
    ·have:=R.bj;(show ll .A .s .L .b2 (.e (.a .B .a0) .a1) this (aa (av .A .a .A U)) (aa (av .aS .a .A U)))
    ·by_cases hm:t<m
     ·have:=R.eq t hm;have J:i+1-(m+1)+t=i-m+t:=by(show oz (.e .L .a8) .w (.e (.a .A .a0) .a1) .b2 (aa (av .aS .a .A W)) (aa (av .A .a .A W)))
      have e2:j+1-(m+1)+t=j-m+t:=by(show oz (.e .L .a8) .w (.e (.a .A .a0) .a1) .b2 (aa (av .aS .a .A U)) (aa (av .A .a .A U)))
      rw[J,e2];show this
     ·have J:i+1-(m+1)+t=i:=by(show mr .T [[1,0,1,-1],[1,1,0,1]] (.l .B .a0) (.g .B .D) (.e (.a .A .a0) .T) I hm (aa (av .aS .a .A W)))
      have e2:j+1-(m+1)+t=j:=by(show zm .T .p (.e .aA .F) (.e (.a .D .aF) .a1) (.e (.a .A .aF) .T) J (aa (av .aS .a .A W)) (aa (av .aS .a .A U)))
      rw[J,e2];show c.2.2
   ·have z:el as bs rm alo blo i j=0:=by(show fh .N .t (.g .O .A) h0)
    rw[z];apply#[by show fb .A .d .L (.e (.a .B .a5) .T) c.1 (aa (nu (.k .a5 .M) .h)),by show av (.k (.a .A .a5) .P) .a (.e (.a .A .a5) .P) (aa (nu (.k .a5 .M) .h)),by show fb .A .d .L (.e (.a .B .a5) .T) c.2.1 (aa (nu (.k .a5 .M) .h)),by show av (.k (.a .A .a5) .P) .a (.e (.a .A .a5) .P) (aa (nu (.k .a5 .M) .h)),λt I=>?_];have:t=0:=by(show fh .N .t (.l .A .a5) I)
    subst this;show c.2.2
  ·apply#[bq _,bq _,λh=>absurd h (je 0)]
def D1:∀{i j i' j' k':Nat},i'+k'=i->j'+k'=j->Run as bs rm alo ahi blo bhi i' j' k'->k'<=el as bs rm alo blo i j
 |i,j,i',j',0,_,_,_=>bq _
 |i,j,i',j',k'+1,J,O,R=>by
  subst J;subst O;show _<=el as bs rm alo blo (i'+k'+1) (j'+k'+1);have:=R.ai;have:=R.bj;rw[qU];rw[cp #[by(rename_i W;show fc (.k .A .Q) .a .A W),by show fc (.k .A .Q) .a .A this,R.eq k' (nu (.l .A .M) .h)]];have:=D1 (i:=i'+k') (j:=j'+k') (i':=i') (j':=j') (k':=k') rfl rfl #[R.ai,by have:=R.ia;(show fc .F .a .K this),R.bj,by have:=R.jb;(show fc .F .a .K this),λt U=>R.eq t (av .aM .a .B U)]
  (show av .aS .a .A this)
structure Scan (as bs:List Key)(rm:Key->Bool)(alo ahi blo bhi:Nat)(seen:Nat->Nat->Prop)(i j k:Nat):Prop where
 run:Run as bs rm alo ahi blo bhi i j k
 zero:k=0->i=alo/\j=blo
 at_:0<k->seen (i+k-1) (j+k-1)
 max:∀i' j',seen i' j'->0<el as bs rm alo blo (i'+1) (j'+1)->el as bs rm alo blo (i'+1) (j'+1)<k\/(el as bs rm alo blo (i'+1) (j'+1)=k/\(i<i'+1-k\/(i=i'+1-k/\j<=j'+1-k)))
def Scan.start (U:alo<=ahi)(hb:blo<=bhi):Scan as bs rm alo ahi blo bhi (λ_ _=>False) alo blo 0:=
 #[#[au _,U,au _,hb,λt W=>absurd W (ou _)],λ_=>#[rfl,rfl],λh=>absurd h (je 0),λ_ _ h=>h.elim]
def Scan.skip {W:Nat->Nat->Prop}(h:Scan as bs rm alo ahi blo bhi seen i j k)(J:∀i' j',seen i' j'->W i' j')(O:∀i' j',W i' j'->seen i' j'\/el as bs rm alo blo (i'+1) (j'+1)=0\/el as bs rm alo blo (i'+1) (j'+1)<k\/(el as bs rm alo blo (i'+1) (j'+1)=k/\(i<i'+1-k\/(i=i'+1-k/\j<=j'+1-k)))):Scan as bs rm alo ahi blo bhi W i j k:=
 ⟨h.run,h.zero,λh0=>J _ _ (h.at_ h0),λi' j' U h0=>by
  rcases O i' j' U with q|q|q|q
  ·show h.max i' j' q h0
  ·(show .inl (gj .B .c .C .N h0 q))
  ·show .inl q
  ·show .inr q⟩
def Scan.take {W:Nat->Nat->Prop}{i j z J:Nat}(h:Scan as bs rm alo ahi blo bhi seen i j k)(hi:z<ahi)(hj:J<bhi)(hk:k<el as bs rm alo blo (z+1) (J+1))(h0:W z J)
  (hs:∀i' j',W i' j'->seen i' j'\/(i'=z/\j'=J)\/el as bs rm alo blo (i'+1) (j'+1)=0):Scan as bs rm alo ahi blo bhi W (z+1-el as bs rm alo blo (z+1) (J+1)) (J+1-el as bs rm alo blo (z+1) (J+1)) (el as bs rm alo blo (z+1) (J+1)):=by
 have#[h1,h2,R]:=qW (as:=as) (bs:=bs) (rm:=rm) (alo:=alo) (blo:=blo) (i:=z+1) (j:=J+1);have R:=R (av .C .a .Y hk);apply#[#[R.ai,by show fy .F .b .bB (.e .L .a0) hi (aa (av .R .a .R h1)),R.bj,by show fy .F .b .bB (.e .L .a0) hj (aa (av .R .a .R h2)),R.eq],λh0=>by show#[(fy .D .r .V .bP hk h0),(fy .D .r .V .bP hk h0)],λ_=>?_,λi' j' ag h0=>?_]
 ·have e1:z+1-el as bs rm alo blo (z+1) (J+1)+el as bs rm alo blo (z+1) (J+1)-1=z:=by(rename_i z1;show Ar.sub _ _ (λq1 p1=>(fy .D .q (.e .M .R) (.e .R .P) (aa (av .bY .a .U z1)) p1)) λq1 p1=>(mZ .D [[1,0,-1,1,0],[1,1,1,0,1]] .c4 (.e .M .aP) (.k .P .C) .bP h1 (aa (av .bY .a .U z1)) q1 p1))
  have e2:J+1-el as bs rm alo blo (z+1) (J+1)+el as bs rm alo blo (z+1) (J+1)-1=J:=by(rename_i z1;show Ar.sub _ _ (λq1 p1=>(fy .D .q (.e .M .R) (.e .R .P) (aa (av .bY .a .U z1)) p1)) λq1 p1=>(mZ .D [[1,0,-1,1,0],[1,1,1,0,1]] .c4 (.e .M .aP) (.k .P .C) .bP h2 (aa (av .bY .a .U z1)) q1 p1))
  rw[e1,e2];show h0
 ·rcases hs i' j' ag with q|⟨rfl,rfl⟩|q
  ·have:=h.max i' j' q h0
   (rename_i z1;show .inl ((Ar.imp z1).elim (λq1=>(fb .B .c .Q (.g .O .B) hk q1)) λq1=>(this.elim (λq2=>(fb .B .b .Q .I hk q2)) λq2=>(fb .B .b .Q (.e .A .C) hk q2.1))))
  ·show .inr #[rfl,.inr #[rfl,au _]]
  ·(show .inl (gj .B .c .C .N h0 q))
def Scan.best {i j:Nat}(h:Scan as bs rm alo ahi blo bhi seen i j k)(hs:∀i' j',alo<=i'->i'<ahi->blo<=j'->j'<bhi->0<el as bs rm alo blo (i'+1) (j'+1)->seen i' j'):wB as bs rm alo ahi blo bhi i j k:=by
 apply#[h.run,h.zero,λi' j' k' h0 R=>?_];have hm:=D1 (i:=i'+k'-1+1) (j:=j'+k'-1+1) (fc (.e .L .T) .f (.e .T .L) (aa (av .bY .a .U h0))) (fc (.e .L .T) .f (.e .T .L) (aa (av .bY .a .U h0))) R;have:=h.max (i'+k'-1) (j'+k'-1) (hs _ _ (by have:=R.ai;(show mr .A .s .X .aH (.e .P .aP) h0 this (aa (av .bY .a .U h0)))) (by have:=R.ia;(show fy .B .b .bX (.e .M .R) this (aa (av .bY .a .U h0)))) (by have:=R.bj;(show mr .A .s .X .aH (.e .P .aP) h0 this (aa (av .bY .a .U h0)))) (by have:=R.jb;(show fy .B .b .bX (.e .M .R) this (aa (av .bY .a .U h0)))) (gj .C .b .U .a4 h0 hm)) (gj .C .b .U .a4 h0 hm);generalize el as bs rm alo blo (i'+k'-1+1) (j'+k'-1+1)=e at *;rcases ix k' k with c|c
 ·show .inl c
 ·rcases this with q|⟨q,q'⟩
  ·show absurd (rv q c) (ru.mpr hm)
  ·have I:k'=k:=Nat.le_antisymm (q▸hm) c;have s1:i'+k'-1+1-k=i':=by(show Ar.sub _ _ (λz J=>(Ar.sub _ _ (λO W=>(ll .D [[1,-1,-1,-1],[1,1,1,1]] .c5 (.e .V .a1) (.e .a1 .Q) I J W)) λO W=>(DM .D [[1,0,-1,-1,1,0],[1,1,1,1,0,1]] .X .c5 (.e .V .a1) (.k .Q .U) .b7 h0 I J O W))) λz J=>(Ar.sub _ _ (λO W=>(j5 .D [[1,-1,1,0,-1],[1,0,0,1,0]] .c5 (.k .a1 .D) .N (.e .a1 .Q) I z J W)) λO W=>(oq .D .m .X .N (.k .Q .U) h0 J O)))
   have s2:j'+k'-1+1-k=j':=by(show Ar.sub _ _ (λz J=>(Ar.sub _ _ (λO W=>(ll .D [[1,-1,-1,-1],[1,1,1,1]] .c5 (.e .V .a1) (.e .a1 .Q) I J W)) λO W=>(DM .D [[1,0,-1,-1,1,0],[1,1,1,1,0,1]] .X .c5 (.e .V .a1) (.k .Q .U) .b7 h0 I J O W))) λz J=>(Ar.sub _ _ (λO W=>(j5 .D [[1,-1,1,0,-1],[1,0,0,1,0]] .c5 (.k .a1 .D) .N (.e .a1 .Q) I z J W)) λO W=>(oq .D .m .X .N (.k .Q .U) h0 J O)))
   rw[s1,s2]at q';show .inr #[I,q']
abbrev zj (as bs:List Key)(ok:Key->Bool)(alo blo:Nat):Nat->Nat->Nat->Nat×Nat×Nat
 |i+1,j+1,k=>if alo<i+1/\blo<j+1/\hit as bs (λc=>!ok c) i j=true then zj as bs ok alo blo i j (k+1) else (i+1,j+1,k)
 |i,j,k=>(i,j,k)
abbrev gE (as bs:List Key)(ok:Key->Bool)(ahi bhi:Nat):Nat->Nat->Nat->Nat->Nat
 |0,_,_,k=>k
 |n+1,i,j,k=>if i+k<ahi/\j+k<bhi/\hit as bs (λc=>!ok c) (i+k) (j+k)=true then gE as bs ok ahi bhi n i j (k+1) else k
def dR {ok:Key->Bool}:zj as bs ok alo blo (i+1) (j+1) k=if alo<i+1/\blo<j+1/\hit as bs (λc=>!ok c) i j=true then zj as bs ok alo blo i j (k+1) else (i+1,j+1,k):=rfl
def yq {ok:Key->Bool}{n:Nat}:gE as bs ok ahi bhi (n+1) i j k=if i+k<ahi/\j+k<bhi/\hit as bs (λc=>!ok c) (i+k) (j+k)=true then gE as bs ok ahi bhi n i j (k+1) else k:=rfl
abbrev grow (as bs:List Key)(js:Key->Bool)(alo ahi blo bhi i j k:Nat):Nat×Nat×Nat:=
 let p:=zj as bs (λc=>!js c) alo blo i j k
 let q:=gE as bs (λc=>!js c) ahi bhi (ahi-p.1) p.1 p.2.1 p.2.2
 let r:=zj as bs js alo blo p.1 p.2.1 q
 (r.1,r.2.1,gE as bs js ahi bhi (ahi-r.1) r.1 r.2.1 r.2.2)
end
end MP
end
section
namespace MP
open PySem
variable {σ σ₁:St}{c db:Addr}{k k':Key}{bs:List Key}{es:List (Key×V)}
structure Kp (σ σ':St):Prop where
 L:∀a xs,σ.L a=some xs->σ'.L a=some xs
 D:∀a es,σ.D a=some es->σ'.D a=some es
 S:σ'.S=σ.S
 I:σ'.I=σ.I
def Kp.refl (σ:St):Kp σ σ:=#[λ_ _ e=>e,λ_ _ e=>e,rfl,rfl]
def Kp.trans {σ₂:St}(h:Kp σ σ₁)(h':Kp σ₁ σ₂):Kp σ σ₂:=#[λa xs e=>h'.L a xs (h.L a xs e),λa xs e=>h'.D a xs (h.D a xs e),h'.S.trans h.S,h'.I.trans h.I]
def Kp.noL (h:Kp σ σ₁)(W:σ₁.L c=none):σ.L c=none:=by
 cases q:σ.L c with
 |none=>rfl
 |some xs=>rw[h.L _ _ q]at W;cases W
def Kp.noD (h:Kp σ σ₁)(W:σ₁.D c=none):σ.D c=none:=by
 cases q:σ.D c with
 |none=>rfl
 |some xs=>rw[h.D _ _ q]at W;cases W
def Kp.ew (h:Kp σ σ₁){xs:List V}(W:σ.L c=none):Kp σ (σ₁.ew c xs):=⟨λa ys e=>by
 have:a≠c:=λq=>by rw[q,W]at e;cases e
 show upd σ₁.L c xs a=_;rw[fg this];show h.L a ys e,h.D,h.S,h.I⟩
def Kp.nj (h:Kp σ σ₁){xs:List (Key×V)}(W:σ.D c=none):Kp σ (σ₁.nj c xs):=⟨h.L,λa ys e=>by
 have:a≠c:=λq=>by rw[q,W]at e;cases e
 show upd σ₁.D c xs a=_;rw[fg this];show h.D a ys e,h.S,h.I⟩
abbrev vo:Key->Prop
 |.int _=>True
 |.str s=>PyData.strOk s=true
def A4 {K:Bool->Prop}(h:vo k)(h':vo k')(q:K (decide (k=k'))):s7 k.v k'.v σ K:=by
 cases k with
 |int a =>
  cases k' with
  |int b =>
   show K (a==b);have:(a==b)=decide (Key.int a=Key.int b):=by
    by_cases e:a=b
    ·simp[e]
    ·simp[e]
   rw[this];show q
  |str b =>
   apply#[.int a,.str b,rfl,?_,?_]
   ·show(if PyData.strOk b then some (PyData.str b) else none)=_;rw[cp (show PyData.strOk b=true from h')]
   ·have:PyData.eqv (.int a) (.str b)=decide (Key.int a=Key.str b):=by simp[PyData.eqv]
    rw[this];show q
 |str a =>
  cases k' with
  |int b =>
   apply#[.str a,.int b,?_,rfl,?_]
   ·show(if PyData.strOk a then some (PyData.str a) else none)=_;rw[cp (show PyData.strOk a=true from h)]
   ·have:PyData.eqv (.str a) (.int b)=decide (Key.str a=Key.int b):=by simp[PyData.eqv]
    rw[this];show q
  |str b =>
   show K (a==b);have:(a==b)=decide (Key.str a=Key.str b):=by
    by_cases e:a=b
    ·simp[e]
    ·simp[e]
   rw[this];show q
def o6 {K:Bool->Prop}(h:vo k)(h':vo k')(q:K (decide (k=k'))):o7 .eq k.v k'.v σ K:=A4 h h' q
def yX {j:Nat}:j∈posOf k bs↔bs[j]?=some k:=by
 unfold posOf;rw[List.mem_filter,nI,fL];apply#[λh=>h.2,λh=>#[(cy.mp h).1,h]]
def BZ:(posOf k bs).Pairwise (·<·):=List.Pairwise.filter _ List.pairwise_lt_range
def yY:(posOf k bs).length<=bs.length:=by
 have:=List.length_filter_le (λj=>decide (bs[j]?=some k)) (List.range bs.length)
 rwa [yd]at this
abbrev TabAt (σ:St)(db:Addr)(bs:List Key)(rm:Key->Bool):Prop:=∃es,σ.D db=some es /\
 (∀k,rm k=true->es.lookup k=none)/\∀k,rm k=false->(es.lookup k=none/\posOf k bs=[])\/∃c,es.lookup k=some (.L c)/\σ.L c=some (iL k bs)
def TabAt.keep {σ':St}{rm:Key->Bool}(h:TabAt σ db bs rm)(k:Kp σ σ'):TabAt σ' db bs rm:=by
 have#[es,I,J,O]:=h;apply#[es,k.D _ _ I,J,λq U=>(O q U).imp_right λW=>by have#[c,z,B]:=W;apply#[c,z,k.L _ _ B]]
def TabAt.get {nl:Addr}{rm:Key->Bool}(h:TabAt σ db bs rm)(J:σ.L nl=some [])(k:Key) :
  ∃es c,σ.D db=some es/\(es.lookup k).getD (.L nl)=.L c/\σ.L c=some ((if rm k then [] else posOf k bs).map λj:Nat=>V.int j):=by
 have#[es,W,B,I]:=h;cases hr:rm k with
 |true=>refine#[es,nl,W,by rw[B k hr];rfl,J]
 |false =>
  rcases I k hr with ⟨O,U⟩|⟨c,O,U⟩
  ·apply#[es,nl,W,by rw[O];rfl,by rw[U];show J]
  ·apply#[es,c,W,by rw[O];rfl,U]
def B2J.tabAt {σ₀:St}(h:B2J σ₀ σ db bs):TabAt σ db bs λ_=>false:=by
 have#[es,O,_,U,W,_]:=h.tab;apply#[es,O,λk e=>Bool.noConfusion e,λk _=>?_];cases hk:es.lookup k with
 |none=>show .inl #[rfl,U k hk]
 |some w =>
  have#[c,rfl,e,_]:=W k w hk;show .inr #[c,rfl,e]
def n5:es.any (λe=>e.1==k)=(es.lookup k).isSome:=by
 induction es with
 |nil=>rfl
 |cons e r W =>
  have#[a,b]:=e;simp only[List.any_cons,List.lookup,W];by_cases h:k=a
  ·subst h;simp
  ·rw[cW (j9 h),cW h];rfl
def BX {v:V}:(putD es k v).length<=es.length+1:=by
 unfold putD;split<;>simp
def gB {v:V}:(putD es k v).lookup k'=if k'=k then some v else es.lookup k':=by
 unfold putD;split
 ·rename_i h;rw[n5]at h;induction es with
  |nil=>cases h
  |cons e r U =>
   have#[a,b]:=e;simp only[ti,List.lookup]at h ⊢;by_cases hk:a=k
   ·subst hk;rw[cp rfl];by_cases W:k'=a
    ·subst W;simp
    ·rw[bb W];have J:(k'==a)=false:=cW W;simp only[List.lookup,J];clear U h;induction r with
     |nil=>rfl
     |cons e r U =>
      have#[I,z]:=e;simp only[ti,List.lookup];by_cases O:I=a
      ·subst O;rw[cp rfl];simp only[List.lookup,J];show U
      ·rw[bb O];simp only[List.lookup];cases k'==I with
       |true=>rfl
       |false=>show U
   ·rw[bb hk];have B:(k==a)=false:=cW (j9 hk);rw[B]at h;simp only[List.lookup];by_cases W:k'=a
    ·subst W;rw[bb hk];simp
    ·rw[cW W];show U h
 ·rename_i h;rw[n5]at h;rw[yl];by_cases W:k'=k
  ·skip
   subst W;cases q:es.lookup k' with
   |none=>simp
   |some w=>rw[q]at h;show absurd rfl h
  ·simp[W]
end MP
end
section
namespace MP
namespace SM
open PySem
variable {σ:St}{la lb db sj:Addr}{as bs:List Key}{ρ:Fr}{alo ahi blo bhi n i j k:Nat}
structure MAt (σ:St)(x:Addr)(la lb db sj:Addr)(as bs:List Key)(rm:Key->Bool)(js:List Key):Prop where
 I:∃d f,σ.I x=some (d,f)/\f 1=some (.L la)/\f 2=some (.L lb)/\f 7=some (.dct db)/\f 8=some (.set sj)
 La:σ.L la=some (as.map Key.v)
 Lb:σ.L lb=some (bs.map Key.v)
 D:TabAt σ db bs rm
 S:σ.S sj=some js
def MAt.keep {σ':St}{x:Addr}{rm:Key->Bool}{js:List Key}(h:MAt σ x la lb db sj as bs rm js)(k:Kp σ σ'):MAt σ' x la lb db sj as bs rm js:=
 #[by rw[k.I];show h.I,k.L _ _ h.La,k.L _ _ h.Lb,h.D.keep k,by rw[k.S];show h.S]
abbrev Row (as bs:List Key)(rm:Key->Bool)(alo blo bhi i:Nat)(es:List (Key×V)):Prop:=∀j:Nat,j<bhi->(es.lookup (.int ((j:Int)-1))).getD (.int 0)=.int (el as bs rm alo blo i j:Nat)
structure FF (ρ:Fr)(la lb db sj:Addr)(alo ahi blo bhi:Nat):Prop where
 r1:ρ 1=some (.int alo)
 r2:ρ 2=some (.int ahi)
 r3:ρ 3=some (.int blo)
 r4:ρ 4=some (.int bhi)
 r5:ρ 5=some (.L la)
 r6:ρ 6=some (.L lb)
 r7:ρ 7=some (.dct db)
 r8:ρ 8=some (.gX sj)
def FF.up {v:V}(h:FF ρ la lb db sj alo ahi blo bhi)(W:9<=n):FF (upd ρ n v) la lb db sj alo ahi blo bhi:=
 have k:∀m,Nat.blt m 9=true->upd ρ n v m=ρ m:=λm U=>fg (jt (rv (bx U) W))
 #[(k 1 rfl).trans h.r1,(k 2 rfl).trans h.r2,(k 3 rfl).trans h.r3,(k 4 rfl).trans h.r4,(k 5 rfl).trans h.r5,(k 6 rfl).trans h.r6,(k 7 rfl).trans h.r7,(k 8 rfl).trans h.r8]
structure FB (ρ:Fr)(i j k:Nat):Prop where
 r9:ρ 9=some (.int i)
 r10:ρ 10=some (.int j)
 r11:ρ 11=some (.int k)
def FB.up {v:V}(h:FB ρ i j k)(W:12<=n):FB (upd ρ n v) i j k:=
 have k:∀m,Nat.blt m 12=true->upd ρ n v m=ρ m:=λm U=>fg (jt (rv (bx U) W))
 #[(k 9 rfl).trans h.r9,(k 10 rfl).trans h.r10,(k 11 rfl).trans h.r11]
def iR {a b:Nat}{v:V}(h:(rp a b)[i]?=some v):a+i<b/\v=.int ((a+i:Nat):Int):=by
 unfold rp at h;rw[dq]at h;by_cases hi:i<((b:Int)-a).toNat
 ·rw[dC hi]at h;simp at h;apply#[by show(Ar.ton _).elim (λU=>(fy .J .b .W (.ie (.t .D) (.s .R .L)) hi U.2)) λU=>(fy .J .c .W .bP hi U.2),by rw[<- h];rfl]
 ·rw[kg (by simpa using hi)]at h;cases h
def gD {a b:Nat}:(rp a b).length=b-a:=by simp[rp]
def qF:jw n (i:Int)=i:=by unfold jw;rw[bb (nu (.ig .L .O) .h)]
def eT {Q:V->Prop}{x d:Addr}{f:Nat->Option V}{u:V}(W:ρ i=some (.obj x))(O:σ.I x=some (d,f))(U:f j=some u)(q:Q u):∃v,ρ i=some v/\∃x d f u,v=V.obj x/\σ.I x=some (d,f)/\f j=some u/\Q u:=#[_,W,x,d,f,u,rfl,O,U,q]
def zu {al:Addr}{ks:List Key}{i:Int}{c:Key}{Q:V->Prop}(U:σ.L al=some (ks.map Key.v))(hi:i=n)(W:ks[n]?=some c)(q:Q c.v):rT (.L al) (.int i) σ Q:=by
 subst hi;apply#[_,_,U,by rw[qF];(show nu (.ik .O .L) .h),by rw[qF,ph,dq,W];rfl,q]
def IJ {C:Cal}{js:List Key}{K:Fl->Fr->St->Prop}{c:Ex}{ok:Key->Bool}
  (aj:σ.L la=some (as.map Key.v)) (ai:σ.L lb=some (bs.map Key.v)) (ha:∀k∈as,vo k) (hb:∀k∈bs,vo k) (ar:as.length<2^40) (ao:bs.length<2^40)
  (hc:∀(ρ:Fr) (j:Nat) (b:Key) (Q:Bool->St->Prop),FF ρ la lb db sj alo ahi blo bhi->ρ 10=some (.int ((j+1:Nat):Int))->bs[j]?=some b->Q (ok b) σ->wpT C c ρ σ Q)
  (hi:i<=as.length) (hj:j<=bs.length)
  (h:∀ρ,FF ρ la lb db sj alo ahi blo bhi->FB ρ (zj as bs ok alo blo i j k).1 (zj as bs ok alo blo i j k).2.1 (zj as bs ok alo blo i j k).2.2->K .next ρ σ) (F:FF ρ la lb db sj alo ahi blo bhi) (B:FB ρ i j k) :
  wpS C (.loop (.and (.c .gt (.l 9) (.l 1)) (.and (.c .gt (.l 10) (.l 3)) (.and c (.c .eq (.sub (.l 5) (.b .sub (.l 9) (.int 1))) (.sub (.l 6) (.b .sub (.l 10) (.int 1))))))) %[.a [.T [9,10,11]] (.T %[.b .sub (.l 9) (.int 1),.b .sub (.l 10) (.int 1),.b .add (.l 11) (.int 1)|0])|0]) ρ σ K:=by
 apply#[i+1,zg (λn ρ' σ'=>σ'=σ/\FF ρ' la lb db sj alo ahi blo bhi/\∃i' j' k',n=i'/\FB ρ' i' j' k'/\i'<=as.length/\j'<=bs.length/\zj as bs ok alo blo i' j' k'=zj as bs ok alo blo i j k) ?_ (i+1) i (nu (.l .A .M) .h) #[rfl,F,i,j,k,rfl,B,hi,hj,rfl]];rintro n ρ' σ' ⟨rfl,J,i',j',k',rfl,O,z,I,e⟩ again ag;apply#[_,O.r9,_,J.r1,?_];show(if decide ((alo:Int)<n)=true then _ else _);by_cases c1:alo<n
 ·rw[cp (by simpa using c1)];apply#[_,O.r10,_,J.r3,?_];show(if decide ((blo:Int)<j')=true then _ else _);by_cases c2:blo<j'
  ·rw[cp (by simpa using c2)];have#[U,rfl]:∃U,n=U+1:=#[n-1,by show av .a7 .f .bG (aa (av .G .a .Y c1))];have#[W,rfl]:∃W,j'=W+1:=#[j'-1,by show av .a7 .f .bG (aa (av .G .a .Y c2))];have ea:as[U]?=some as[U]:=aq (av .B .a .S z);have eb:bs[W]?=some bs[W]:=aq (av .B .a .S I);apply hc _ W bs[W] _ J O.r10 eb ?_;cases hok:ok bs[W] with
   |false =>
    show K .next ρ' σ'
    have:zj as bs ok alo blo (U+1) (W+1) k'=(U+1,W+1,k'):=by
     rw[dR];rw[bb];rintro ⟨_,_,h3⟩;have#[c,_,h4,h5]:=xd.mp h3;rw[eb]at h4;cases h4;rw[hok]at h5;cases h5
    rw[this]at e;show h _ J (by rw[<- e];show O)
   |true =>
    rw[cp rfl];apply#[_,J.r5,_,O.r9,?_];apply zu aj (n:=U) (nu .aL .n) ea ?_;apply#[_,J.r6,_,O.r10,?_];apply zu ai (n:=W) (nu .aL .n) eb ?_;apply o6 (ha _ (du _)) (hb _ (du _)) ?_;by_cases q:as[U]=bs[W]
    ·rw[gp q];apply iP ?_;apply#[_,O.r9,_,O.r10,_,O.r11,bx rfl,_,rfl,rfl,?_];apply ag U _ _ (nu (.l .A .M) .h) #[rfl,?_,U,W,k'+1,rfl,?_,by show av .A .a .S z,by show av .A .a .S I,?_]
     ·show((J.up (zo (.k (.n 9) (.n 9)) .h)).up (zo (.k (.n 9) (.n 10)) .h)).up (zo (.k (.n 9) (.n 11)) .h)
     ·apply#[?_,?_,?_]
      ·show some (V.int (((U+1:Nat):Int)-1))=_
       congr 2;(show nu .aL .n)
      ·show some (V.int (((W+1:Nat):Int)-1))=_
       congr 2;(show nu .aL .n)
      ·rfl
     ·rw[<- e]
      conv=>rhs;rw[dR]
      rw[cp #[c1,c2,xd.mpr #[as[U],ea,by rw[q];show eb,by rw[q];simp[hok]]]]
    ·rw[fp q];show K .next ρ' σ'
     have:zj as bs ok alo blo (U+1) (W+1) k'=(U+1,W+1,k'):=by
      rw[dR];rw[bb];rintro ⟨_,_,h3⟩;have#[c,h4,h5,_]:=xd.mp h3;rw[ea]at h4;rw[eb]at h5;clear ag;cases h4;show q (ah h5).symm
     rw[this]at e;show h _ J (by rw[<- e];show O)
  ·rw[bb (by simpa using c2)];show K .next ρ' σ'
   have:zj as bs ok alo blo n j' k'=(n,j',k'):=by
    cases n with
    |zero=>rfl
    |succ n =>
     cases j' with
     |zero=>rfl
     |succ j'=>rw[dR];rw[bb (λh=>c2 h.2.1)]
   rw[this]at e;show h _ J (by rw[<- e];show O)
 ·rw[bb (by simpa using c1)];show K .next ρ' σ'
  have:zj as bs ok alo blo n j' k'=(n,j',k'):=by
   cases n with
   |zero=>rfl
   |succ n =>
    cases j' with
    |zero=>rfl
    |succ j'=>rw[dR];rw[bb (λh=>c1 h.1)]
  rw[this]at e;show h _ J (by rw[<- e];show O)
def II {C:Cal}{js:List Key}{K:Fl->Fr->St->Prop}{c:Ex}{ok:Key->Bool}{body:Stm}
  (U:body=.aug 11 .add (.int 1)\/body=.a [(.v 11)] (.b .add (.l 11) (.int 1)))
  (ar:σ.L la=some (as.map Key.v)) (ao:σ.L lb=some (bs.map Key.v)) (ha:∀k∈as,vo k) (hb:∀k∈bs,vo k) (ai:ahi<=as.length) (ag:bhi<=bs.length)
  (hc:∀(ρ:Fr) (j k:Nat) (b:Key) (Q:Bool->St->Prop),FF ρ la lb db sj alo ahi blo bhi->ρ 10=some (.int j)->ρ 11=some (.int k)->bs[j+k]?=some b->Q (ok b) σ->wpT C c ρ σ Q)
  
  (h:∀ρ,FF ρ la lb db sj alo ahi blo bhi->FB ρ i j (gE as bs ok ahi bhi (ahi-i) i j k)->K .next ρ σ) (F:FF ρ la lb db sj alo ahi blo bhi) (B:FB ρ i j k) :
  wpS C (.loop (.and (.c .lt (.b .add (.l 9) (.l 11)) (.l 2)) (.and (.c .lt (.b .add (.l 10) (.l 11)) (.l 4)) (.and c (.c .eq (.sub (.l 5) (.b .add (.l 9) (.l 11))) (.sub (.l 6) (.b .add (.l 10) (.l 11))))))) %[body|0]) ρ σ K:=by
 have more:∀n m k,ahi-(i+k)<=n->n<=m->gE as bs ok ahi bhi n i j k=gE as bs ok ahi bhi m i j k:=by
  intro n;induction n with
  |zero =>
   intro m k h1 h2;cases m with
   |zero=>rfl
   |succ m =>
    show k=_;rw[yq];rw[bb (λq1=>(mr .ff [[0,1,1,-1]] (.k .A .O) (.l .Q .D) (.e (.a .A .Q) .D) h1 q1.1 (aa (fc .F .a .J q1.1))))]
  |succ n ih =>
   intro m k h1 h2;have#[m,rfl]:∃m',m=m'+1:=#[m-1,by show av .a7 .f .bG (aa (av .G .a (.k .P .A) h2))];rw[yq,yq];split
   ·show ih _ _ (by(rename_i z1;show zm .A .v .c4 (.e (.a .C .X) .G) (.e (.a .A (.a .D .a1)) .G) h1 (aa (fc .F .a .J z1.1)) (aa (fc .K .a .J z1.1)))) (av .A .a .aS h2)
   ·rfl
 apply#[ahi+1,zg (λn ρ' σ'=>σ'=σ/\FF ρ' la lb db sj alo ahi blo bhi/\∃k',n=ahi-(i+k')/\FB ρ' i j k'/\gE as bs ok ahi bhi (ahi-i) i j k'=gE as bs ok ahi bhi (ahi-i) i j k) ?_ (ahi+1) (ahi-(i+k)) (av .aM .a .A (mz _ _)) #[rfl,F,k,rfl,B,rfl]];rintro n ρ' σ' ⟨rfl,I,k',rfl,W,e⟩ again aj;have stop:gE as bs ok ahi bhi (ahi-i) i j k'=k'->K .next ρ' σ':=λq=>by
  rw[q]at e;show h _ I (by rw[<- e];show W)
 apply#[_,W.r9,_,W.r11,_,I.r2,?_];show(if decide (((i:Int)+k')<ahi)=true then _ else _);by_cases c1:i+k'<ahi
 ·rw[cp (by simp;(show fc (.il (.a .L .P) .R) .a .J c1))];apply#[_,W.r10,_,W.r11,_,I.r4,?_];show(if decide (((j:Int)+k')<bhi)=true then _ else _);by_cases c2:j+k'<bhi
  ·rw[cp (by simp;(show fc (.il (.a .L .P) .R) .a .J c2))];have ea:as[i+k']?=some as[i+k']:=aq (fy .J .b .bU (.l .L .D) ai c1);have eb:bs[j+k']?=some bs[j+k']:=aq (fy .J .b .bU (.l .L .D) ag c2);apply hc _ j k' bs[j+k'] _ I W.r10 W.r11 eb ?_;cases hok:ok bs[j+k'] with
   |false =>
    apply stop ?_;have#[m,z]:∃m,ahi-i=m+1:=#[ahi-i-1,by show av .a7 .f .bG (aa (fy .G .d (.l .Q .D) (.e .L .D) c1 (aa (fc .A .a (.l .S .B) c1))))];rw[z];rw[yq];rw[bb];rintro ⟨_,_,h3⟩;have#[c,_,h4,h5]:=xd.mp h3;rw[eb]at h4;cases h4;rw[hok]at h5;cases h5
   |true =>
    rw[cp rfl];apply#[_,I.r5,_,W.r9,_,W.r11,?_];apply zu ar (n:=i+k') (my (.ie (.a .L .P) (.t .L)) .n) ea ?_;apply#[_,I.r6,_,W.r10,_,W.r11,?_];apply zu ao (n:=j+k') (my (.ie (.a .L .P) (.t .L)) .n) eb ?_;apply o6 (ha _ (du _)) (hb _ (du _)) ?_;by_cases q:as[i+k']=bs[j+k']
    ·rw[gp q];apply iP ?_;have go:again (upd ρ' 11 (.int ((k':Int)+1))) σ':=by
      apply aj (ahi-(i+(k'+1))) _ _ (oz .B .d (.e (.a .A .aT) .F) (.e (.a .B .R) .F) (aa (fc .K .a .J c1)) (aa (fc .F .a .J c1))) #[rfl,I.up (zo (.k (.n 9) (.n 11)) .h),k'+1,rfl,#[W.r9,W.r10,rfl],?_];rw[<- e];have#[m,z]:∃m,ahi-i=m+1:=#[ahi-i-1,by show av .a7 .f .bG (aa (fy .G .d (.l .Q .D) (.e .L .D) c1 (aa (fc .A .a (.l .S .B) c1))))];rw[z]
      conv=>rhs;rw[yq]
      rw[cp #[c1,c2,xd.mpr #[as[i+k'],ea,by rw[q];show eb,by rw[q];simp[hok]]]];show(more _ _ _ (zm .A .v (.e .C .P) .b2 (.e (.a .A (.a .D .aF)) .F) z (aa (fc .A .a (.l .S .B) c1)) (aa (fc .K .a .J c1))) (nu (.k .A .M) .h)).symm
     rcases U with rfl|rfl
     ·apply#[_,W.r11,go]
     ·apply#[_,W.r11,go]
    ·rw[fp q];apply stop ?_;have#[m,z]:∃m,ahi-i=m+1:=#[ahi-i-1,by show av .a7 .f .bG (aa (fy .G .d (.l .Q .D) (.e .L .D) c1 (aa (fc .A .a (.l .S .B) c1))))];rw[z];rw[yq];rw[bb];rintro ⟨_,_,h3⟩;have#[c,h4,h5,_]:=xd.mp h3;rw[ea]at h4;rw[eb]at h5;cases h4;show q (ah h5).symm
  ·rw[bb (by simp;(show fc (.ik .L (.a .P .R)) .a (.g .Q .A) c2))];apply stop ?_;cases ahi-i with
   |zero=>rfl
   |succ n=>rw[yq];rw[bb (λh=>c2 h.2.1)]
 ·rw[bb (by simp;(show fc (.ik .L (.a .P .R)) .a (.g .Q .A) c1))];apply stop ?_;cases ahi-i with
  |zero=>rfl
  |succ n=>rw[yq];rw[bb (λh=>c1 h.1)]
end SM
end MP
end
section
namespace MP
namespace SM
set_option genInjectivity false
set_option genSizeOf false
open PySem
variable {as bs:List Key}{rm:Key->Bool}{alo blo bhi i n:Nat}{ps:List Nat}{es:List (Key×V)}{ρ:Fr}{σ:St}{C:Cal}{K:Fl->Fr->St->Prop}
abbrev fK (as bs:List Key)(rm:Key->Bool)(alo blo bhi i:Nat)(ps:List Nat)(es:List (Key×V)):Prop:=∀j:Nat,j<bhi->(es.lookup (.int ((j:Int)-1))).getD (.int 0)=.int (if 0<j/\j-1∈ps then el as bs rm alo blo (i+1) j else 0:Nat)
def fK.row (h:fK as bs rm alo blo bhi i ps es)(U:∀j,j<bhi->hit as bs rm i j=true->j∈ps):Row as bs rm alo blo bhi (i+1) es:=by
 intro j W;rw[h j W];split
 ·rfl
 ·rename_i c
  congr 2
  cases j with
  |zero=>rfl
  |succ j =>
   rw[qU];rw[bb];rintro ⟨_,_,q⟩;show c #[by show nu (.l .O .M) .h,U j (av .B .a .Z W) q]
def fK.put (h:fK as bs rm alo blo bhi i ps es)(j:Nat):fK as bs rm alo blo bhi i (ps++[j]) (putD es (.int j) (.int (el as bs rm alo blo (i+1) (j+1):Nat))):=by
 intro j' J;rw[gB];by_cases c:j'=j+1
 ·subst c;rw[cp (by congr 1;(show nu .aL .n)),cp #[by show nu (.l .O .M) .h,by simp]];rfl
 ·rw[bb (λq=>c (by injection q;(show av .a7 .l (.ie (.s .L .U) .P) i_eq))),h j' J]
  congr 2
  by_cases c1:0<j'/\j'-1∈ps
  ·rw[cp c1,cp #[c1.1,dg _ c1.2]]
  ·rw[bb c1,bb];rintro ⟨c2,c3⟩;rcases cu.mp c3 with c3|c3
   ·show c1 #[c2,c3]
   ·simp at c3;(show(ae c).elim (λW=>(oq .ff [[0,-1,1,1]] .D .a8 (.l .C .P) c3 (aa (fh .G .a .C c2)) W)) λW=>(oq .ff [[0,1,-1,1]] .D .a8 (.l .P .C) c3 (aa (fh .G .a .C c2)) W))
def fK.skip (h:fK as bs rm alo blo bhi i ps es)(j:Nat)(J:j<blo):fK as bs rm alo blo bhi i (ps++[j]) es:=by
 intro j' W;rw[h j' W]
 congr 2
 by_cases c1:0<j'/\j'-1∈ps
 ·rw[cp c1,cp #[c1.1,dg _ c1.2]]
 ·rw[bb c1];by_cases c2:0<j'/\j'-1∈ps++[j]
  ·rw[cp c2];have#[c3,c4]:=c2;rcases cu.mp c4 with c4|c4
   ·show absurd #[c3,c4] c1
   ·have#[U,rfl]:∃U,j'=U+1:=#[j'-1,by show av .a7 .f .bG (aa (fh .G .a .C c3))];simp at c4;rw[qU];rw[bb (λO=>(oq .ff .j .B (.e .C .A) .b0 J c4 O.2.1))]
  ·rw[bb c2]
abbrev oP:pq:=(.cons (.C (.c .lt (.l 17) (.l 3)) (.cons .cont
 .nil) .nil)
 (.cons (.C (.c .ge (.l 17) (.l 4)) (.cons .brk
 .nil) .nil)
 (.cons (.a [(.v 18),(.sub (.l 16) (.l 17))] (.b .add (.w 15 %[.b .sub (.l 17) (.int 1),.int 0|0]) (.int 1)))
 (.cons (.C (.c .gt (.l 18) (.l 11)) (.cons (.a [.T [9,10,11]] (.T %[.b .add (.b .sub (.l 14) (.l 18)) (.int 1),.b .add (.b .sub (.l 17) (.l 18)) (.int 1),.l 18|0]))
 .nil) .nil)
 .nil))))
abbrev oF:Stm:=.each (.v 17) (.seq (.bm .get (.l 7) %[.sub (.l 5) (.l 14),.l 13|0])) oP
structure Fc where
 σ₀:St
 la:Addr
 lb:Addr
 db:Addr
 sj:Addr
 nl:Addr
 as:List Key
 bs:List Key
 rm:Key->Bool
 alo:Nat
 ahi:Nat
 blo:Nat
 bhi:Nat
public abbrev Fc.F (c:Fc)(ρ:Fr):Prop:=FF ρ c.la c.lb c.db c.sj c.alo c.ahi c.blo c.bhi
public abbrev Fc.S (c:Fc)(seen:Nat->Nat->Prop)(i j k:Nat):Prop:=Scan c.as c.bs c.rm c.alo c.ahi c.blo c.bhi seen i j k
public abbrev Fc.e (c:Fc)(i j:Nat):Nat:=el c.as c.bs c.rm c.alo c.blo i j
public abbrev Fc.R (c:Fc)(i:Nat)(es:List (Key×V)):Prop:=Row c.as c.bs c.rm c.alo c.blo c.bhi i es
public abbrev Fc.h (c:Fc)(i j:Nat):Bool:=hit c.as c.bs c.rm i j
structure Fk (c:Fc):Prop where
 La:c.σ₀.L c.la=some (c.as.map Key.v)
 T:TabAt c.σ₀ c.db c.bs c.rm
 n:c.σ₀.L c.nl=some []
 s:c.bs.length<bz
 bl:c.bhi<=c.bs.length
 al:c.ahi<=c.as.length
structure Sc where
 c:Fc
 i:Nat
 cd:Addr
 nd:Addr
 es:List (Key×V)
 ps:List Nat
structure Sk (s:Sc):Prop where
 ai:s.c.alo<=s.i
 ia:s.i<s.c.ahi
 row:s.c.R s.i s.es
 ne:s.cd≠s.nd
 no:s.c.σ₀.D s.nd=none
 mem:∀j,j∈s.ps↔s.c.h s.i j=true
 lt:s.ps.Pairwise (·<·)
 pl:s.ps.length<=s.c.bs.length
abbrev Sc.seen (s:Sc)(t:Nat):Nat->Nat->Prop:=λi' j'=>(i'<s.i/\j'<s.c.bhi)\/(i'=s.i/\j'∈s.ps.take t)
inductive InI (s:Sc)(t:Nat)(ρ:Fr)(σ:St):Prop
 |mk (bi bj bk:Nat) (es:List (Key×V)) (lim:∀j,j∈s.ps.take t->j<s.c.bhi) (len:es.length<=t) (k:Kp s.c.σ₀ σ) (F:s.c.F ρ) (B:FB ρ bi bj bk) (cd:σ.D s.cd=some s.es) (nd:σ.D s.nd=some es)
  (r13:ρ 13=some (.L s.c.nl)) (r14:ρ 14=some (.int s.i)) (r15:ρ 15=some (.gF s.cd)) (r16:ρ 16=some (.dct s.nd)) (row:fK s.c.as s.c.bs s.c.rm s.c.alo s.c.blo s.c.bhi s.i (s.ps.take t) es) (sc:s.c.S (s.seen t) bi bj bk):InI s t ρ σ
inductive rK (s:Sc)(ρ:Fr)(σ:St):Prop
 |mk (bi bj bk:Nat) (es:List (Key×V)) (k:Kp s.c.σ₀ σ) (F:s.c.F ρ) (B:FB ρ bi bj bk) (r13:ρ 13=some (.L s.c.nl)) (r16:ρ 16=some (.dct s.nd)) (nd:σ.D s.nd=some es) (row:s.c.R (s.i+1) es)
  (sc:s.c.S (λi' j'=>(i'<s.i/\j'<s.c.bhi)\/(i'=s.i/\j'<s.c.bhi/\s.c.h s.i j'=true)) bi bj bk):rK s ρ σ
structure dW (ps:List Nat)(t j:Nat):Prop where
 th:ps.take (t+1)=ps.take t++[j]
 lt:∀m,m∈ps.take t->m<j
 of:∀m,m∈ps->m<j->m∈ps.take t
 mem:j∈ps
def EM (lt:ps.Pairwise (·<·)){t j:Nat}(e:ps[t]?=some j):dW ps t j:=by
 have#[W,rfl]:=cy.mp e;apply#[ee W,λm O=>?_,λm O hl=>?_,du _]
 ·have#[a,J,rfl]:=List.getElem_of_mem O;have hb:a<t:=by
   have:=J;rw[eh]at this
   (show fb .B .b .I .H this (Ar.iz _ _).1)
  rw[mv];show(ur.mp lt) a t (fb .B .b .Q .I W hb) W hb
 ·have#[a,J,rfl]:=List.getElem_of_mem O;have:a<t:=by
   apply Nat.lt_of_not_le λq=>?_;rcases Nat.eq_or_lt_of_le q with q|q
   ·subst q;show absurd hl (je _)
   ·have:=(ur.mp lt) t a W J q
    (show gj .ff .c .B .Y hl this)
  show List.mem_take_iff_getElem.mpr #[a,by show(Ar.iz _ _).2.2.elim (λU=>(fb .B .b .I .H this U)) λU=>(mr .B .e .V .I .c3 W this U),rfl]
def InI.fin {s:Sc}{t:Nat}(k:Sk s)(I:InI s t ρ σ)(W:∀j,j<s.c.bhi->j∈s.ps->j∈s.ps.take t):rK s ρ σ:=by
 cases I;apply .mk bi bj bk es k_1 F B r13 r16 nd (row.row λj J z=>W j J ((k.mem j).mpr z)) (sc.skip ?_ ?_)
 ·rintro i' j' (q|⟨q,U⟩)
  ·show .inl q
  ·show .inr #[q,lim _ U,(k.mem _).mp (jg U)]
 ·rintro i' j' (q|⟨q,U,O⟩)
  ·show .inl (.inl q)
  ·show .inl (.inr #[q,W _ U ((k.mem _).mpr O)])
section
variable {s:Sc}{t j bi bj bk:Nat}
def iH (T:dW s.ps t j){i' j':Nat}(q:s.seen (t+1) i' j'):s.seen t i' j'\/(i'=s.i/\j'=j):=by
 rcases q with q|⟨q,W⟩
 ·show .inl (.inl q)
 ·rw[T.th]at W;rcases cu.mp W with W|W
  ·show .inl (.inr #[q,W])
  ·show .inr #[q,ak.mp W]
def oE (T:dW s.ps t j){i' j':Nat}(q:s.seen t i' j'):s.seen (t+1) i' j':=q.imp_right λq=>#[q.1,by rw[T.th];show dg _ q.2]
def t9 (T:dW s.ps t j)(W:∀j,j∈s.ps.take t->j<s.c.bhi)(O:j<s.c.bhi):∀j,j∈s.ps.take (t+1)->j<s.c.bhi:=by
 rw[T.th];intro j' U;rcases cu.mp U with q|q
 ·show W _ q
 ·rw[ak.mp q];show O
def FO (T:dW s.ps t j)(U:j<s.c.blo)(sc:s.c.S (s.seen t) bi bj bk):s.c.S (s.seen (t+1)) bi bj bk:=by
 apply sc.skip (λi' j'=>oE T) λi' j' q=>?_;rcases iH T q with q|⟨rfl,rfl⟩
 ·show .inl q
 ·apply .inr (.inl ?_);rw[qU];rw[bb (λW=>(gj .ff .c .B .a4 U W.2.1))]
def FP (k:Sk s)(T:dW s.ps t j)(sc:s.c.S (s.seen t) bi bj bk)(h:s.c.e (s.i+1) (j+1)<=bk):s.c.S (s.seen (t+1)) bi bj bk:=by
 apply sc.skip (λi' j'=>oE T) λi' j' q=>?_;rcases iH T q with q|⟨rfl,rfl⟩
 ·show .inl q
 ·apply .inr ?_;have#[h1,h2,hr]:=qW (as:=s.c.as) (bs:=s.c.bs) (rm:=s.c.rm) (alo:=s.c.alo) (blo:=s.c.blo) (i:=s.i+1) (j:=j'+1);rcases ix (s.c.e (s.i+1) (j'+1)) bk with c4|c4
  ·show .inr (.inl c4)
  ·have W:s.c.e (s.i+1) (j'+1)=bk:=Nat.le_antisymm h c4;by_cases h0:s.c.e (s.i+1) (j'+1)=0
   ·show .inl h0
   ·apply .inr (.inr #[W,?_]);have h1:s.c.e (s.i+1) (j'+1)<=s.i+1:=h1;have h2:s.c.e (s.i+1) (j'+1)<=j'+1:=h2;have R':=sc.run;have e1:=R'.ia;have e2:=R'.jb;rcases sc.at_ ((ae h0).elim (λJ=>(av .C .i .cC J)) λJ=>(gj .C .b .cB .U W J)) with q|⟨q,q'⟩
    ·left;(rename_i I z1;show ll .B .v .V (.e .a3 .a0) (.k .aD .T) q.1 (aa (fb .R .d .c4 (.e .C .A) I W)) (Ar.LI _ _))
    ·right
     have:=T.lt _ q'
     (rename_i I z1;show#[(Ar.sub _ _ (λJ p1=>(ll .D .C .c5 (.e .a3 .a0) (.e .T .aD) q (aa (fb .R .d .c4 (.e .C .A) I W)) p1)) λJ p1=>((ae h0).elim (λz=>(ll .D [[0,0,0,1],[1,-1,1,0]] (.e .Q .a0) (.k .S .U) (.l .F .O) (aa (fb .R .d .c4 (.e .C .A) I W)) J z)) λz=>(KV .D [[1,1,-1,1,0,1,1],[1,0,0,-1,1,0,0]] .c5 (.e .F .G) (.e .aJ .aF) (.k .V .U) .b7 .X W q (aa (fb .R .d .c4 (.e .C .A) I W)) J p1 z))),(ll .A .v .V (.e .a3 .a0) (.k .aD .T) this (aa (fb .R .d .c4 (.e .C .A) z1 W)) (Ar.LI _ _))])
def FN (k:Sk s)(T:dW s.ps t j)(W:j<s.c.bhi)(sc:s.c.S (s.seen t) bi bj bk)(h:bk<s.c.e (s.i+1) (j+1)):s.c.S (s.seen (t+1)) (s.i+1-s.c.e (s.i+1) (j+1)) (j+1-s.c.e (s.i+1) (j+1)) (s.c.e (s.i+1) (j+1)):=
 sc.take k.ia W h (.inr #[rfl,by rw[T.th];show dt _ (.head _)]) λi' j' q=>(iH T q).imp_right .inl
def InI.skip (T:dW s.ps t j)(W:j<s.c.blo)(hb:s.c.blo<=s.c.bhi)(I:InI s t ρ σ):InI s (t+1) (upd ρ 17 (.int j)) σ:=by
 cases I;show .mk bi bj bk es (t9 T lim (rv W hb)) (Nat.le_succ_of_le len) k (F.up (by decide)) (B.up (by decide)) cd nd r13 r14 r15 r16 (by rw[T.th];show row.skip j W) (FO T W sc)
end
def GQ {s:Sc}(ok:Fk s.c)(k:Sk s){t j:Nat}(e:s.ps[t]?=some j)(hb:s.c.blo<=s.c.bhi)(I:InI s t ρ σ){kk:Fr->St->Prop}(hk:∀ρ' σ',InI s (t+1) ρ' σ'->kk ρ' σ')(hf:∀ρ' σ',rK s ρ' σ'->K .next ρ' σ') :
  gq C oP (upd ρ 17 (.int j)) σ (wi kk K):=by
 have T:=EM k.lt e;have ht:t<s.ps.length:=(cy.mp e).1;have I0:=I;cases I;have F1:s.c.F (upd ρ 17 (.int (j:Int))):=F.up (by decide);have B1:FB (upd ρ 17 (.int (j:Int))) bi bj bk:=B.up (by decide);apply#[.int j,rfl,.int s.c.blo,F1.r3,?_];show(if decide ((j:Int)<s.c.blo)=true then _ else _);by_cases c1:j<s.c.blo
 ·rw[cp (by simpa using c1)];show hk _ _ (I0.skip T c1 hb)
 rw[bb (by simpa using c1)];apply#[.int j,rfl,.int s.c.bhi,F1.r4,?_];show(if decide ((s.c.bhi:Int)<=j)=true then _ else _);by_cases c2:s.c.bhi<=j
 ·rw[cp (by simpa using c2)];show hf _ _ (InI.fin k (t:=t) (.mk bi bj bk es lim len k_1 F1 B1 cd nd r13 r14 r15 r16 row sc) λj' h1 h2=>T.of j' h2 (rv h1 c2))
 rw[bb (by simpa using c2)];have c2:=Nat.lt_of_not_le c2;apply#[.gF s.cd,r15,.int j,rfl,s.es,.int ((j:Int)-1),cd,rfl,?_];rw[k.row j c2];have pl:=k.pl;have sl:=ok.s;apply#[.dct s.nd,r16,.int j,rfl,es,.int j,nd,rfl,by show j5 .B .o .V .L .cD (.l .F .B) ht len pl sl,?_];have ay:s.c.e (s.i+1) (j+1)=s.c.e s.i j+1:=by
  rw[show s.c.e (s.i+1) (j+1)=_ from qU,cp #[k.ai,Nat.le_of_not_lt c1,(k.mem j).mp T.mem]]
 have bc:(V.int (((s.c.e s.i j:Nat):Int)+1))=.int ((s.c.e (s.i+1) (j+1):Nat):Int):=by
  rw[ay];rfl
 show gq C _ (upd (upd ρ 17 (.int (j:Int))) 18 (V.int (((s.c.e s.i j:Nat):Int)+1))) (σ.nj s.nd (putD es (.int j) (V.int (((s.c.e s.i j:Nat):Int)+1)))) _;rw[bc];have ao:fK s.c.as s.c.bs s.c.rm s.c.alo s.c.blo s.c.bhi s.i (s.ps.take (t+1)) (putD es (.int j) (.int (s.c.e (s.i+1) (j+1):Nat))):=by
  rw[T.th];show row.put j
 have W:(putD es (.int j) (.int (s.c.e (s.i+1) (j+1):Nat))).length<=t+1:=nr BX (Nat.succ_le_succ len);have#[z,J,_]:=qW (as:=s.c.as) (bs:=s.c.bs) (rm:=s.c.rm) (alo:=s.c.alo) (blo:=s.c.blo) (i:=s.i+1) (j:=j+1);have tk:=λh=>FN k T c2 sc h;have sm:=λh=>FP k T sc h;have z:s.c.e (s.i+1) (j+1)<=s.i+1:=z;have J:s.c.e (s.i+1) (j+1)<=j+1:=J;generalize s.c.e (s.i+1) (j+1)=E at ao W tk sm z J;have F2:s.c.F (upd (upd ρ 17 (.int (j:Int))) 18 (.int (E:Int))):=F1.up (by decide);have B2:FB (upd (upd ρ 17 (.int (j:Int))) 18 (.int (E:Int))) bi bj bk:=B1.up (by decide);have k2:Kp s.c.σ₀ (σ.nj s.nd (putD es (.int j) (.int (E:Int)))):=k_1.nj k.no;have ar:(σ.nj s.nd (putD es (.int j) (.int (E:Int)))).D s.cd=some s.es:=(fg k.ne).trans cd;have aj:(σ.nj s.nd (putD es (.int j) (.int (E:Int)))).D s.nd=some (putD es (.int j) (.int (E:Int))):=cn _ _ _;have r14:upd (upd ρ 17 (.int (j:Int))) 18 (.int (E:Int)) 14=some (.int s.i):=r14;have r16:upd (upd ρ 17 (.int (j:Int))) 18 (.int (E:Int)) 16=some (.dct s.nd):=r16;have r15:upd (upd ρ 17 (.int (j:Int))) 18 (.int (E:Int)) 15=some (.gF s.cd):=r15;have r13:upd (upd ρ 17 (.int (j:Int))) 18 (.int (E:Int)) 13=some (.L s.c.nl):=r13;have ax:upd (upd ρ 17 (.int (j:Int))) 18 (.int (E:Int)) 17=some (.int j):=rfl;have O:upd (upd ρ 17 (.int (j:Int))) 18 (.int (E:Int)) 18=some (.int E):=rfl;generalize upd (upd ρ 17 (.int (j:Int))) 18 (.int (E:Int))=bd at F2 B2 r13 r14 r15 r16 ax O;generalize σ.nj s.nd (putD es (.int j) (.int (E:Int)))=σ2 at k2 ar aj;apply#[.int E,O,.int bk,B2.r11,?_];show(if decide ((bk:Int)<E)=true then _ else _);have ag:=t9 T lim c2;by_cases c3:bk<E
 ·rw[cp (by simpa using c3)];apply#[.int s.i,r14,.int E,O,.int j,ax,.int E,O,.int E,O,bx rfl,_,rfl,rfl,?_];apply hk _ _ (.mk (s.i+1-E) (j+1-E) E _ ag W k2 (((F2.up (by decide)).up (by decide)).up (by decide)) #[?_,?_,rfl] ar aj r13 r14 r15 r16 ao (tk c3))
  ·show some (V.int ((s.i:Int)-E+1))=_
   congr 2;(show fc (.ie (.a (.s .L .P) .U) .R) .f (.e .a8 .M) (aa (av .R .a .R z)))
  ·show some (V.int ((j:Int)-E+1))=_
   congr 2;(show fc (.ie (.a (.s .L .P) .U) .R) .f (.e .a8 .M) (aa (av .R .a .R J)))
 ·rw[bb (by simpa using c3)];show hk _ _ (.mk bi bj bk _ ag W k2 F2 B2 ar aj r13 r14 r15 r16 ao (sm (Nat.le_of_not_lt c3)))
def uM {c:Fc}(ok:Fk c){bi bj bk:Nat}{cd nd:Addr}(aj:c.alo<=i)(O:i<c.ahi)(hb:c.blo<=c.bhi)(k0:Kp c.σ₀ σ)(F:c.F ρ)(B:FB ρ bi bj bk)
  (z:ρ 13=some (.L c.nl)) (J:ρ 14=some (.int i)) (ar:ρ 15=some (.gF cd)) (ao:ρ 16=some (.dct nd)) (hcd:σ.D cd=some es) (U:c.R i es) (ai:σ.D nd=some []) (ag:cd≠nd) (ax:c.σ₀.D nd=none)
  (sc:c.S (λi' j'=>i'<i/\j'<c.bhi) bi bj bk) (h:∀ρ' σ' ps,rK #[c,i,cd,nd,es,ps] ρ' σ'->K .next ρ' σ'):wpS C oF ρ σ K:=by
 have al:=ok.al;have ea:c.as[i]?=some c.as[i]:=aq (fb .B .b .I .H O al);have#[tb,l,hD,hg,hc]:=ok.T.get ok.n c.as[i];generalize W:(if c.rm c.as[i] then [] else posOf c.as[i] c.bs)=ps at hc;have sk:Sk #[c,i,cd,nd,es,ps]:=by
  apply#[aj,O,U,ag,ax,λj=>?_,?_,?_]
  ·show j∈ps↔hit c.as c.bs c.rm i j=true;rw[xd,<- W];cases hr:c.rm c.as[i] with
   |true =>
    rw[cp rfl];apply#[(λq=>nomatch q),?_];rintro ⟨a,e1,_,e3⟩;have rfl:=ah (ea.symm.trans e1);rw[hr]at e3;cases e3
   |false =>
    rw[bb (by decide),yX];apply#[λq=>#[_,ea,q,hr],?_];rintro ⟨a,e1,e2,e3⟩;have rfl:=ah (ea.symm.trans e1);show e2
  ·show ps.Pairwise (·<·);rw[<- W];split
   ·show .nil
   ·show BZ
  ·show ps.length<=c.bs.length;rw[<- W];split
   ·show bq _
   ·show yY
 apply#[.dct c.db,F.r7,(show(σ.D c.db).isSome=true by rw[k0.D _ _ hD];rfl),.L c.la,F.r5,.int i,J,?_];apply zu (k0.L _ _ ok.La) rfl ea ?_;apply#[.L c.nl,z,tb,c.as[i],k0.D _ _ hD,xH _,?_];rw[hg];apply#[_,k0.L _ _ hc,?_];apply qe (InI #[c,i,cd,nd,es,ps]) ?_ ?_ ?_
 ·intro t v ρ' σ' hv I;rw[dq]at hv;have#[j,e,rfl]:=ji.mp hv;cases I;apply#[k.L _ _ hc,λkk hk=>GQ ok sk e hb (.mk bi_1 bj_1 bk_1 es_1 lim len k F_1 B_1 cd_1 nd_1 r13 r14 r15 r16 row sc_1) hk λρ' σ'=>h ρ' σ' ps]
 ·intro ρ' σ' I;rw[aw]at I;have I0:=I;cases I;apply#[k.L _ _ hc,h _ _ _ (I0.fin sk λj _ q=>by show j∈ps.take ps.length;rw[fx];show q)]
 ·apply .mk bi bj bk [] (λj hj=>nomatch hj) (au _) k0 F B hcd ai z J ar ao ?_ (sc.skip (λi' j' q=>.inl q) λi' j' q=>?_)
  ·intro j hj;rw[bb (by simp)];rfl
  ·rcases q with q|⟨_,q⟩
   ·show .inl q
   ·show nomatch q
def qR {as bs:List Key}{ok:Key->Bool}{alo blo:Nat}:∀{i j k:Nat},(zj as bs ok alo blo i j k).1<=i/\(zj as bs ok alo blo i j k).2.1<=j
 |0,j,k=>#[au _,au _]
 |i+1,0,k=>#[au _,au _]
 |i+1,j+1,k=>by
  rw[dR];split
  ·have:=qR (as:=as) (bs:=bs) (ok:=ok) (alo:=alo) (blo:=blo) (i:=i) (j:=j) (k:=k+1)
   (show#[(av .R .a .A this.1),(av .R .a .A this.2)])
  ·apply#[au _,au _]
abbrev FW:pq:=(.cons (.a [(.v 15)] (.g (.l 12)))
 (.cons (.a [(.v 16)] .dct0)
 (.cons oF
 (.cons (.a [(.v 12)] (.l 16))
 .nil))))
inductive HU (c:Fc)(t:Nat)(ρ:Fr)(σ:St):Prop
 |mk (bi bj bk:Nat) (cd:Addr) (es:List (Key×V)) (k:Kp c.σ₀ σ) (F:c.F ρ) (r13:ρ 13=some (.L c.nl)) (B:FB ρ bi bj bk) (r12:ρ 12=some (.dct cd)) (hcd:σ.D cd=some es) (row:c.R (c.alo+t) es) (sc:c.S (λi' j'=>i'<c.alo+t/\j'<c.bhi) bi bj bk):HU c t ρ σ
def C2 {c:Fc}(ok:Fk c){t:Nat}{kk:Fr->St->Prop}(z:c.alo+t<c.ahi)(hb:c.blo<=c.bhi)(I:HU c t ρ σ)(hk:∀ρ' σ',HU c (t+1) ρ' σ'->kk ρ' σ') :
  gq C FW (upd ρ 14 (.int ((c.alo+t:Nat):Int))) σ (wi kk K):=by
 cases I;apply#[_,r12,cd,rfl,by rw[hcd];rfl,λnd W=>?_];have U:cd≠nd:=λq=>by rw[q,W]at hcd;cases hcd
 apply uM ok (cd:=cd) (nd:=nd) (gv _ _) z hb (k.nj (k.noD W)) (((F.up (by decide)).up (by decide)).up (by decide)) (((B.up (by decide)).up (by decide)).up (by decide)) r13 rfl rfl rfl ((fg U).trans hcd) row (cn _ _ _) U (k.noD W) sc λJ σ2 ps E=>?_;cases E;apply#[_,r16,?_];apply hk _ _ (.mk bi_1 bj_1 bk_1 nd es_1 k_1 (F_1.up (by decide)) r13_1 (B_1.up (by decide)) rfl nd_1 row_1 (sc_1.skip (λi' j' q=>?_) λi' j' q=>?_))
 ·rcases q with q|q
  ·apply#[yb q.1,q.2]
  ·apply#[Nat.lt_succ_of_le (Nat.le_of_eq q.1),q.2.1]
 ·by_cases e:i'<c.alo+t
  ·show .inl (.inl #[e,q.2])
  ·have:i'=c.alo+t:=by have:=q.1;(show fb .a5 .g (.l .A .aM) (.g .A .Q) q.1 e)
   subst this;by_cases O:c.h (c.alo+t) j'=true
   ·show .inl (.inr #[rfl,q.2,O])
   ·apply .inr (.inl ?_);rw[qU];rw[bb (λq=>O q.2.2)]
def tC (h:n<bz):n<2^40:=Nat.lt_trans h (by decide)
def IS {m:Nat}(h:n<=m)(W:m<bz):(n:Int).natAbs<2^40:=Nat.lt_of_le_of_lt h (tC W)
def flm {P:Nat->Option Fn}(hP:P 5=some fn5){σ:St}{x la lb db sj:Addr}{as bs:List Key}{js:List Key}{Q:V->St->Prop}{alo ahi blo:Nat}{U W:V}
  (hM:MAt σ x la lb db sj as bs rm js) (ha:∀k∈as,vo k) (hb:∀k∈bs,vo k) (hs:bs.length<bz) (ar:as.length<bz)
  (bl:U=.int ahi\/(U=.none/\ahi=as.length)) (be:W=.int bhi\/(W=.none/\bhi=bs.length))
  (bt:alo<=ahi) (br:blo<=bhi) (ag:ahi<=as.length) (aj:bhi<=bs.length)
  (h:∀σ' i j k,Kp σ σ'->wB as bs rm alo ahi blo bhi i j k->(let g:=grow as bs (λc=>decide (c∈js)) alo ahi blo bhi i j k;Q (mtV (g.1,g.2.1,g.2.2)) σ')):jc P (n+1) 5 [.obj x,.int alo,U,.int blo,W] σ Q:=by
 apply#[fn5,hP,bx rfl,bx rfl,?_];have#[d,f,hI,f1,f2,f7,f8]:=hM.I;have h0:frameOf fn5 [.obj x,.int alo,U,.int blo,W] 0=some (.obj x):=rfl;have h1:frameOf fn5 [.obj x,.int alo,U,.int blo,W] 1=some (.int alo):=rfl;have h2:frameOf fn5 [.obj x,.int alo,U,.int blo,W] 2=some U:=rfl;have h3:frameOf fn5 [.obj x,.int alo,U,.int blo,W] 3=some (.int blo):=rfl;have h4:frameOf fn5 [.obj x,.int alo,U,.int blo,W] 4=some W:=rfl;generalize frameOf fn5 [.obj x,.int alo,U,.int blo,W]=ρ at h0 h1 h2 h3 h4;apply eT h0 hI f1 ?_;apply eT h0 hI f2 ?_;apply eT h0 hI f7 ?_;apply eT h0 hI f8 ?_;apply#[sj,rfl,by rw[hM.S];rfl,bx rfl,?_];apply#[_,rfl,rfl,?_];have cj:∀(ρ:Fr) (K:Fl->Fr->St->Prop),ρ 2=some U->ρ 5=some (.L la)->(∀ρ',(∀m,m≠2->ρ' m=ρ m)->ρ' 2=some (.int ahi)->K .next ρ' σ) ->
   wpS (jc P n) (.C (.c .is (.l 2) .none) %[.a [(.v 2)] (.bf .len %[.l 5|0])|0] .nil) ρ σ K:=by
  intro ρ K e2 e5 hk;apply#[_,e2,?_];rcases bl with rfl|⟨rfl,rfl⟩
  ·show hk ρ (λ_ _=>rfl) e2
  ·apply#[_,e5,_,hM.La,?_];apply hk _ (λm hm=>fg hm) ?_;rw[cn,aw]
 have ch:∀(ρ:Fr) (K:Fl->Fr->St->Prop),ρ 4=some W->ρ 6=some (.L lb)->(∀ρ',(∀m,m≠4->ρ' m=ρ m)->ρ' 4=some (.int bhi)->K .next ρ' σ) ->
   wpS (jc P n) (.C (.c .is (.l 4) .none) %[.a [(.v 4)] (.bf .len %[.l 6|0])|0] .nil) ρ σ K:=by
  intro ρ K e2 e5 hk;apply#[_,e2,?_];rcases be with rfl|⟨rfl,rfl⟩
  ·show hk ρ (λ_ _=>rfl) e2
  ·apply#[_,e5,_,hM.Lb,?_];apply hk _ (λm hm=>fg hm) ?_;rw[cn,aw]
 apply cj _ _ h2 rfl λct s1 cl=>?_;apply ch _ _ (by rw[s1 4 (by decide)];show h4) (by rw[s1 6 (by decide)];rfl) λbv s2 ck=>?_;have F0:FF bv la lb db sj alo ahi blo bhi:=by
  apply#[?_,?_,?_,ck,?_,?_,?_,?_]<;>rw[s2 _ (by decide)]
  ·rw[s1 _ (by decide)];show h1
  ·show cl
  ·rw[s1 _ (by decide)];show h3
  ·rw[s1 _ (by decide)];rfl
  ·rw[s1 _ (by decide)];rfl
  ·rw[s1 _ (by decide)];rfl
  ·rw[s1 _ (by decide)];rfl
 apply#[_,F0.r1,_,F0.r3,bx rfl,_,rfl,rfl,?_];apply λd0 cc=>?_;apply#[bx rfl,λnl ca=>?_];apply#[_,F0.r1,_,F0.r2,(alo:Int),(ahi:Int),rfl,rfl,IS (nr bt ag) ar,IS ag ar,?_];generalize J:((σ.nj d0 []).ew nl [])=σ₀;have k0:Kp σ σ₀:=by
  rw[<- J];show((Kp.refl σ).nj cc).ew (by show ca)
 have ao:=hM.keep k0;have cb:σ₀.L nl=some []:=by rw[<- J];show cn _ _ _
 have bu:σ₀.D d0=some []:=by rw[<- J];show cn _ _ _
 have ok:Fk #[σ₀,la,lb,db,sj,nl,as,bs,rm,alo,ahi,blo,bhi]:=#[ao.La,ao.D,cb,hs,aj,ag];apply qe (HU #[σ₀,la,lb,db,sj,nl,as,bs,rm,alo,ahi,blo,bhi]) ?_ ?_ ?_
 ·intro t v ρ' σ' hv I;have#[ht,rfl]:=iR hv;apply#[trivial,λk hk=>C2 ok ht br I hk]
 ·intro ρ' σ' I;have#[bi,bj,bk,cd,es,kk,F,cx,B,da,dc,bp,bn]:=I;rw[gD]at bp bn;have best:wB as bs rm alo ahi blo bhi bi bj bk:=bn.best λi' j' h1 h2 h3 h4 h5=>#[by show fy (.l .A .Q) .d (.l .A .D) (.e .a8 .D) h2 (aa (fb .A .b .L .Q h1 h2)),h4];apply#[trivial,?_];have ax:=kk.L _ _ ao.La;have ai:=kk.L _ _ ao.Lb;have hS:σ'.S sj=some js:=by rw[kk.S];show ao.S
  have ay:∀(ρ:Fr) (e:Ex) (j:Nat) (b:Key) (Q:Bool->St->Prop),ρ 8=some (.gX sj)->bs[j]?=some b->(∀Q:V->St->Prop,Q (.int j) σ'->wpE (jc P n) e ρ σ' Q)->ρ 6=some (.L lb)->Q (!decide (b∈js)) σ'->wpT (jc P n) (.not (.w 8 %[.sub (.l 6) e|0])) ρ σ' Q:=λρ e j b Q r8 eb he r6 q=>by
   apply#[_,r8,_,r6,he _ ?_];show zu ai rfl eb #[js,b,hS,xH _,q]
  have bd:∀(ρ:Fr) (e:Ex) (j:Nat) (b:Key) (Q:Bool->St->Prop),ρ 8=some (.gX sj)->bs[j]?=some b->(∀Q:V->St->Prop,Q (.int j) σ'->wpE (jc P n) e ρ σ' Q)->ρ 6=some (.L lb)->Q (decide (b∈js)) σ'->wpT (jc P n) (.w 8 %[.sub (.l 6) e|0]) ρ σ' Q:=λρ e j b Q r8 eb he r6 q=>by
   apply#[_,r8,_,r6,he _ ?_];show zu ai rfl eb #[js,b,hS,xH _,q]
  have left:∀(ρ:Fr) (j:Nat),ρ 10=some (.int ((j+1:Nat):Int))->∀Q:V->St->Prop,Q (.int j) σ'->wpE (jc P n) (.b .sub (.l 10) (.int 1)) ρ σ' Q:=λρ j r Q q=>by
   apply#[_,r,?_];have e:((j+1:Nat):Int)-1=(j:Int):=by(show nu .aL .n)
   show Q (.int _) σ';rw[e];show q
  have right:∀(ρ:Fr) (j k:Nat),ρ 10=some (.int (j:Int))->ρ 11=some (.int (k:Int))->∀Q:V->St->Prop,Q (.int ((j+k:Nat):Int)) σ'->wpE (jc P n) (.b .add (.l 10) (.l 11)) ρ σ' Q:=λρ j k r r' Q q=>#[_,r,_,r',q];have R:=best.run;have:=R.ia;have:=R.jb;apply IJ (σ:=σ') (js:=js) (ok:=λc=>!decide (c∈js)) ax ai ha hb (tC ar) (tC hs) (λρ j b Q F z eb q=>ay ρ _ j b Q F.r8 eb (left ρ j z) F.r6 q) (i:=bi) (j:=bj) (k:=bk) (by(rename_i z1;show fy .A .b .H .bR ag z1)) (fy .A .b .H .bR aj this) (λρ F B=>?_) F B;apply II (σ:=σ') (js:=js) (ok:=λc=>!decide (c∈js)) (.inl rfl) ax ai ha hb ag aj (λρ j k b Q F z bc eb q=>ay ρ _ (j+k) b Q F.r8 eb (right ρ j k z bc) F.r6 q) (λρ F B=>?_) F B;apply IJ (σ:=σ') (js:=js) (ok:=λc=>decide (c∈js)) ax ai ha hb (tC ar) (tC hs) (λρ j b Q F z eb q=>bd ρ _ j b Q F.r8 eb (left ρ j z) F.r6 q) ?_ ?_ (λρ F B=>?_) F B
  ·have:=qR (as:=as) (bs:=bs) (ok:=λc=>!decide (c∈js)) (alo:=alo) (blo:=blo) (i:=bi) (j:=bj) (k:=bk)
   (rename_i z5 z4 z3 z2 z1;show ll .A .e .H .aW .aH ag z5 this.1)
  ·have:=qR (as:=as) (bs:=bs) (ok:=λc=>!decide (c∈js)) (alo:=alo) (blo:=blo) (i:=bi) (j:=bj) (k:=bk)
   (rename_i z4 z3 z2 z1;show ll .A .e .H .aW .aH aj z4 this.2)
  apply II (σ:=σ') (js:=js) (ok:=λc=>decide (c∈js)) (.inr rfl) ax ai ha hb ag aj (λρ j k b Q F z bc eb q=>bd ρ _ (j+k) b Q F.r8 eb (right ρ j k z bc) F.r6 q) (λρ F B=>?_) F B;apply#[_,B.r9,_,B.r10,_,B.r11,?_];show h σ' bi bj bk (k0.trans kk) best
 ·apply .mk alo blo 0 d0 [] (Kp.refl _) (((F0.up (zo (.k (.n 9) (.n 9)) .h)).up (zo (.k (.n 9) (.n 10)) .h)).up (zo (.k (.n 9) (.n 11)) .h) |>.up (zo (.k (.n 9) (.n 12)) .h) |>.up (zo (.k (.n 9) (.n 13)) .h)) rfl #[rfl,rfl,rfl] rfl bu ?_ ?_
  ·intro j hj;rw[yc,D0];rfl
  ·apply(Scan.start bt br).skip (λ_ _ q=>q.elim) λi' j' q=>.inr (.inl ?_);rw[qU];rw[bb (λq1=>(gj .ff .c (.l .A (.a .B .O)) .a4 q.1 q1.1))]
end SM
end MP
end
section
namespace MP
abbrev Flm (as bs:List Key)(rm js:Key->Bool)(alo ahi blo bhi:Nat)(t:Nat×Nat×Nat):Prop:=
 ∃i j k,wB as bs rm alo ahi blo bhi i j k/\t=grow as bs js alo ahi blo bhi i j k
abbrev Within (alo ahi blo bhi:Nat)(t:Nat×Nat×Nat):Prop:=alo<=t.1/\t.1+t.2.2<=ahi/\blo<=t.2.1/\t.2.1+t.2.2<=bhi
section
variable {as bs:List Key}{ok rm js:Key->Bool}{alo ahi blo bhi:Nat}
def qS:∀{i j k:Nat},Within alo ahi blo bhi (i,j,k)->Within alo ahi blo bhi (zj as bs ok alo blo i j k)
 |0,j,k,h=>h
 |i+1,0,k,h=>h
 |i+1,j+1,k,h=>by
  rw[dR];split
  ·rename_i c;apply qS ?_;have#[J,U,O,W]:alo<=i+1/\i+1+k<=ahi/\blo<=j+1/\j+1+k<=bhi:=h;show(show alo<=i/\i+(k+1)<=ahi/\blo<=j/\j+(k+1)<=bhi from#[by show av .A .a .aM c.1,by show fc .K .a .bF U,by show av .A .a .aM c.2.1,by show fc .K .a .bF W])
  ·show h
def qQ:∀{n i j k:Nat},Within alo ahi blo bhi (i,j,k)->Within alo ahi blo bhi (i,j,gE as bs ok ahi bhi n i j k)
 |0,i,j,k=>λh=>h
 |n+1,i,j,k=>λh=>by
  rw[yq];split
  ·rename_i c;apply qQ ?_;have#[U,I,W,O]:alo<=i/\i+k<=ahi/\blo<=j/\j+k<=bhi:=h;show(show alo<=i/\i+(k+1)<=ahi/\blo<=j/\j+(k+1)<=bhi from#[by show av .A .a .A U,by show fc .K .a .J c.1,by show av .A .a .A W,by show fc .K .a .J c.2.1])
  ·show h
def Flm.within {t:Nat×Nat×Nat}(h:Flm as bs rm js alo ahi blo bhi t):Within alo ahi blo bhi t:=by
 have#[i,j,k,B,rfl]:=h;have R:=B.run;show qQ (qS (qQ (qS (show Within alo ahi blo bhi (i,j,k) from#[R.ai,R.ia,R.bj,R.jb]))))
end
inductive uf (F:Nat->Nat->Nat->Nat->Nat×Nat×Nat->Prop):Nat->Nat->Nat->Nat->List (Nat×Nat×Nat)->Prop
 |nil {alo ahi blo bhi i j:Nat}:F alo ahi blo bhi (i,j,0)->uf F alo ahi blo bhi []
 |node {alo ahi blo bhi i j k:Nat} {L R:List (Nat×Nat×Nat)}:F alo ahi blo bhi (i,j,k)->0<k->(alo<i->blo<j->uf F alo i blo j L)->(¬(alo<i/\blo<j)->L=[]) ->
   (i+k<ahi->j+k<bhi->uf F (i+k) ahi (j+k) bhi R)->(¬(i+k<ahi/\j+k<bhi)->R=[])->uf F alo ahi blo bhi (L++(i,j,k)::R)
abbrev um (t u:Nat×Nat×Nat):Prop:=t.1+t.2.2<=u.1/\t.2.1+t.2.2<=u.2.1
def uf.ok {F:Nat->Nat->Nat->Nat->Nat×Nat×Nat->Prop}(hF:∀a b c d t,F a b c d t->Within a b c d t){alo ahi blo bhi:Nat}{L:List (Nat×Nat×Nat)}(h:uf F alo ahi blo bhi L) :
  (∀t∈L,Within alo ahi blo bhi t/\0<t.2.2)/\L.Pairwise um:=by
 induction h with
 |nil _=>refine#[λt h=>(by cases h),.nil]
 | @node alo ahi blo bhi i j k L R hf hk hL z hR B O U =>
  have W:=hF _ _ _ _ _ hf;unfold Within at W;simp only at W;have hl:(∀t∈L,Within alo i blo j t/\0<t.2.2)/\L.Pairwise um:=by
   by_cases c:alo<i/\blo<j
   ·show O c.1 c.2
   ·rw[z c];apply#[λt h=>(by cases h),.nil]
  have hr:(∀t∈R,Within (i+k) ahi (j+k) bhi t/\0<t.2.2)/\R.Pairwise um:=by
   by_cases c:i+k<ahi/\j+k<bhi
   ·show U c.1 c.2
   ·rw[B c];apply#[λt h=>(by cases h),.nil]
  apply#[λt I=>?_,?_]
  ·rcases cu.mp I with q|q
   ·have:=hl.1 t q;unfold Within at *
    (show#[#[(av .A .a .A this.1.1),#[(oz .F .b .aW .bW W.2.1 this.1.2.1),#[(av .A .a .A this.1.2.2.1),(oz .F .b .aW .bW W.2.2.2 this.1.2.2.2)]]],(fh .C .a .C this.2)])
   ·rcases cz.mp q with q|q
    ·subst q;unfold Within;simp only
     (show#[#[(av .A .a .A W.1),#[(fc .F .a .F W.2.1),#[(av .A .a .A W.2.2.1),(fc .F .a .F W.2.2.2)]]],(fh .C .a .C hk)])
    ·have:=hr.1 t q;unfold Within at *
     (show#[#[(fy .A .b .L .bX W.1 this.1.1),#[(fc .F .a .F this.1.2.1),#[(fy .A .b .L .bX W.2.2.1 this.1.2.2.1),(fc .F .a .F this.1.2.2.2)]]],(fh .C .a .C this.2)])
  ·rw[mq];apply#[hl.2,.cons (λu J=>?_) hr.2,λt I u J=>?_]
   ·have:=hr.1 u J;unfold Within at this;unfold um;simp only
    (show#[(fc .F .a .F this.1.1),(fc .F .a .F this.1.2.2.1)])
   ·have:=hl.1 t I;unfold Within at this;unfold um;rcases cz.mp J with q|q
    ·subst q;simp only
     (show#[(fc .F .a .F this.1.2.1),(fc .F .a .F this.1.2.2.2)])
    ·have:=hr.1 u q;unfold Within at this
     (rename_i z1;show#[(oz .F .b .bW .aW z1.1.2.1 this.1.1),(oz .F .b .bW .aW z1.1.2.2.2 this.1.2.2.1)])
def eU {alo ahi blo bhi:Nat}:∀{L:List (Nat×Nat×Nat)} {lo:Nat},(∀t∈L,Within alo ahi blo bhi t/\0<t.2.2)->L.Pairwise um->(∀t∈L,lo<=t.1)->lo<=ahi->lo+L.length<=ahi
 | [],lo,_,_,_,h=>h
 |t::L,lo,hw,U,hl,h=>by
  have O:=hw t (.head _);have J:=hl t (.head _);have#[I,U]:=og.mp U;have:=eU (lo:=lo+1) (λu W=>hw u (.tail _ W)) U (λu W=>by have:=(I u W).1;(show mr .S .e .X .aH (.k .aP .B) O.2 J this)) (by have:=O.1.2.1;(show mr .S .e .X .aH (.k .aP .B) O.2 J this));rw[iq];(show fc .K .a .bF this)
abbrev mrg:Nat->Nat->Nat->List (Nat×Nat×Nat)->List (Nat×Nat×Nat)
 |i,j,k,[]=>if k=0 then [] else [(i,j,k)]
 |i,j,k,(i',j',k')::r=>if i+k=i'/\j+k=j' then mrg i j (k+k') r else if k=0 then mrg i' j' k' r else (i,j,k)::mrg i' j' k' r
abbrev Apart (t u:Nat×Nat×Nat):Prop:=¬(t.1+t.2.2=u.1/\t.2.1+t.2.2=u.2.1)
abbrev cT:List (Nat×Nat×Nat)->Prop
 |t::u::r=>Apart t u/\cT (u::r)
 |_=>True
def sZ:∀{L:List (Nat×Nat×Nat)} {t:Nat×Nat×Nat},cT (t::L)->(∀u∈t::L,0<u.2.2)->mrg t.1 t.2.1 t.2.2 L=t::L
 | [],(i,j,k),h,W=>by
  have:=W (i,j,k) (.head _);simp only[mrg];rw[bb (by simp only at this;(show fh (.u .A .O) .a .C this))]
 |(i',j',k')::r,(i,j,k),h,W=>by
  have:=W (i,j,k) (.head _);simp only[mrg];rw[bb h.1,bb (by simp only at this;(show fh (.u .A .O) .a .C this))];have:=sZ (L:=r) (t:=(i',j',k')) h.2 λu U=>W u (.tail _ U);simp only at this;rw[this]
def G6 {L:List (Nat×Nat×Nat)}(h:cT L)(W:∀u∈L,0<u.2.2):mrg 0 0 0 L=L:=by
 cases L with
 |nil=>rfl
 |cons t r =>
  have#[i,j,k]:=t;have:=sZ h W;simp only at this;simp only[mrg];split
  ·rename_i c;have#[rfl,rfl]:=c;simpa using this
  ·show this
end MP
end
section
set_option backward.match.sparseCases false
namespace MP
open PySem
variable {v a:V}{α:Type}{σ:St}
def oO (h:isNone v=true):v=.none:=by
 cases v<;>first|rfl|show Bool.noConfusion h
def nO {P:Prop}{x:α}(h:none=some x):P:=nomatch h
def mf {W:Type}{o:Option α}{f:α->Option W}{b:W}(h:o.bind f=some b):∃a,o=some a/\f a=some b:=fq.mp h
def omap {W:Type}{o:Option α}{f:α->W}{b:W}(h:o.map f=some b):∃a,o=some a/\f a=b:=ji.mp h
abbrev tH (a b:V):Option (Int×Int):=(vInt a).bind λi=>(vInt b).map λj=>(i,j)
def aE {b:V}{p:Int×Int}(h:tH a b=some p):a=.int p.1/\b=.int p.2:=by
 have#[i,e,h]:=mf h;have#[j,W,rfl]:=omap h;apply#[qx e,qx W]
abbrev mw {α:Type}(c:Prop)[Decidable c](x:α):Option α:=if c then some x else none
def uz {c:Prop}[Decidable c]{x y:α}(h:mw c x=some y):c/\x=y:=by
 unfold mw at h;by_cases q:c
 ·rw[cp q]at h;apply#[q,ah h]
 ·rw[bb q]at h;cases h
abbrev dS (op:Bop)(a b:V):Option V:=(tH a b).bind λp=>match op with
 |.add=>some (.int (p.1+p.2))
 |.sub=>some (.int (p.1-p.2))
 |.mul=>mw (p.1.natAbs<2^60\/p.2.natAbs<2^60) (.int (p.1*p.2))
 |.fdiv=>mw (0<p.2/\p.2.natAbs<2^60) (.int (p.1/p.2))
 |.mod=>mw (0<p.2) (.int (p.1%p.2))
 |.pow=>mw (0<=p.2/\p.2<=1000/\p.1.natAbs<2^64) (.int (p.1^p.2.toNat))
def tO {op:Bop}{b:V}{Q:V->St->Prop}(h:dS op a b=some v)(q:Q v σ):jB op a b σ Q:=by
 have#[#[i,j],e,h]:=mf h;have#[rfl,rfl]:=aE e;clear e;cases op with
 |add=>cases h;show q
 |sub=>cases h;show q
 |mul=>have#[c,rfl]:=uz h;apply#[c,q]
 |fdiv =>
  have#[c,rfl]:=uz h;have c:0<j/\j.natAbs<2^60:=c;apply#[(by(rename_i W U;show kh (.iu .A .O) .a .bL W.1):j≠0),c.2,?_];rw[Int.fdiv_eq_ediv_of_nonneg _ (by show 0<=j;(rename_i W U;show kh .a9 .a .bL W.1))];show q
 |mod =>
  have#[c,rfl]:=uz h;have c:0<j:=c;apply#[(by(rename_i W U;show kh (.iu .A .O) .a .bL W):j≠0),?_];rw[uh _ (by show 0<=j;(rename_i W U;show kh .a9 .a .bL W))];show q
 |pow=>have#[c,rfl]:=uz h;apply#[c.1,c.2.1,c.2.2,q]
abbrev vL (σ:St):V->Option Bool
 |.none=>some false
 |.bool b=>some b
 |.int i=>some (i != 0)
 |.L a=>(σ.L a).map λxs=>!xs.isEmpty
 |.clo _ _=>some true
 |_=>none
def hW:∀(v:V) {b:Bool} {K:Bool->Prop},vL σ v=some b->K b->uc v σ K:=by
 intro v b K h q;cases v
 case none=>have rfl:=ah h;show q
 case bool=>have rfl:=ah h;show q
 case int=>have rfl:=ah h;show q
 case L=>have#[xs,e,rfl]:=omap h;apply#[xs,e,q]
 case clo=>have rfl:=ah h;show q
 all_goals show nO h
abbrev d7 (σ:St)(op:Cop)(a b:V):Option Bool:=match op with
 |.eq=>(vInt a).elim ((vStr a).bind λx=>(vStr b).map λy=>x==y) λi=>(vInt b).map λj=>decide (i=j)
 |.ne=>(vInt a).elim ((vStr a).bind λx=>(vStr b).map λy=>!(x==y)) λi=>(vInt b).map λj=>decide (i≠j)
 |.lt=>(tH a b).map λp=>decide (p.1<p.2)
 |.le=>(tH a b).map λp=>decide (p.1<=p.2)
 |.gt=>(tH a b).map λp=>decide (p.2<p.1)
 |.ge=>(tH a b).map λp=>decide (p.2<=p.1)
 |.is=>mw (isNone b=true) (isNone a)
 |.isNot=>mw (isNone b=true) (!(isNone a))
 |_=>none
def deq (x y:Int):(x==y)=decide (x=y):=by
 by_cases e:x=y
 ·simp[e]
 ·simp[e]
def dne (x y:Int):(!(x==y))=decide (x≠y):=by rw[deq];by_cases e:x=y<;>simp[e]
def tN {op:Cop}{b:V}{r:Bool}{K:Bool->Prop}(h:d7 σ op a b=some r)(q:K r):o7 op a b σ K:=by
 have W:∀{a:V} {K:Bool->Prop},K (isNone a)->DZ a .none σ K:=λ{a K} q=>q;cases op with
 |eq =>
  cases e:vInt a with
  |some i =>
   have rfl:=qx e;have#[j,J,rfl]:=omap h;have rfl:=qx J;show K (i==j);rw[deq];show q
  |none =>
   unfold d7 at h;rw[e]at h;have#[x,O,h]:=mf h;have#[y,U,rfl]:=omap h;have rfl:=eL O;have rfl:=eL U;show q
 |ne =>
  cases e:vInt a with
  |some i =>
   have rfl:=qx e;have#[j,J,rfl]:=omap h;have rfl:=qx J;show K (!(i==j));rw[dne];show q
  |none =>
   unfold d7 at h;rw[e]at h;have#[x,O,h]:=mf h;have#[y,U,rfl]:=omap h;have rfl:=eL O;have rfl:=eL U;show q
 |lt=>have#[p,e,rfl]:=omap h;have#[rfl,rfl]:=aE e;show q
 |le=>have#[p,e,rfl]:=omap h;have#[rfl,rfl]:=aE e;show q
 |gt=>have#[p,e,rfl]:=omap h;have#[rfl,rfl]:=aE e;show q
 |ge=>have#[p,e,rfl]:=omap h;have#[rfl,rfl]:=aE e;show q
 |is=>have#[c,rfl]:=uz h;have rfl:=oO c;show W q
 |isNot=>have#[c,rfl]:=uz h;have rfl:=oO c;show W (K:=λr=>K (!r)) q
 |isIn=>cases h
 |notIn=>cases h
def ifO {c:Prop}[Decidable c]{x:Option α}{y:α}(h:(if c then x else none)=some y):c/\x=some y:=by
 by_cases q:c
 ·rw[cp q]at h;apply#[q,h]
 ·rw[bb q]at h;cases h
abbrev mI (xs:List V)(i:Int):Option V:=if 0<=jw xs.length i then xs[(jw xs.length i).toNat]? else none
abbrev tM (σ:St)(a i:V):Option V:=(vInt i).bind λi=>match jX a with
 |some a=>(σ.L a).bind λxs=>mI xs i
 |none=>(J1 a).bind λxs=>if i.natAbs<2^60 then mI xs i else none
def tL {i:V}{K:V->Prop}(h0:tM σ a i=some v)(q:K v):rT a i σ K:=by
 have#[j,e,h]:=mf h0;clear h0;have e:=qx e;subst e;cases e:jX a with
 |some b =>
  rw[e]at h;have e:=gQ e;subst e;have#[xs,e,h]:=mf (o:=σ.L b) h;have#[c,h]:=ifO h;apply#[xs,v,e,c,h,q]
 |none =>
  rw[e]at h;have#[xs,e,h]:=mf (o:=J1 a) h;have e:=ED e;subst e;have#[c,h]:=ifO h;have#[c2,h]:=ifO h;apply#[v,c,c2,h,q]
abbrev CZ (σ:St)(k:BF)(vs:List V):Option V:=match k with
 |.len=>match vs with
  | [v]=>(jX v).elim ((EG v).bind λa=>(σ.D a).map λxs=>.int xs.length) λa=>(σ.L a).map λxs=>.int xs.length
  |_=>none
 |_=>none
def H6 (k:BF)(vs:List V){Q:V->St->Prop}(h:CZ σ k vs=some v)(q:Q v σ):A7 k vs σ Q:=by
 cases vs with
 |nil=>cases k<;>show nO h
 |cons u r =>
  cases k
  case len =>
   cases r with
   |cons=>show nO h
   |nil =>
    cases e:jX u with
    |some a =>
     have rfl:=gQ e;have#[xs,e,rfl]:=omap h;apply#[xs,e,q]
    |none =>
     have h:(jX u).elim ((EG u).bind λa=>(σ.D a).map λxs=>V.int xs.length) (λa=>(σ.L a).map λxs=>.int xs.length)=some v:=h;rw[e]at h;have#[a,I,h]:=mf (o:=EG u) h;have rfl:=EF I;have J:=omap h;clear h;have#[xs,e,rfl]:=J;apply#[xs,e,q]
  case set=>show nO h
  case sorted=>show nO h
  all_goals cases r with
  |nil=>show nO h
  |cons w r =>
   cases r with
   |cons=>show nO h
   |nil =>
    first
    |(have#[p,e,rfl]:=omap (o:=tH u w) h;have#[rfl,rfl]:=aE e;show q)
    |(have#[#[i,j],e,h]:=mf (o:=tH u w) h;have#[rfl,rfl]:=aE e;have#[c,rfl]:=uz h;have c:0<j/\j.natAbs<2^60:=c;apply⟨(by(rename_i W U;show kh (.iu .A .O) .a .bL W.1):j≠0),c.2,?_⟩;rw[Int.fdiv_eq_ediv_of_nonneg _ (by show 0<=j;(rename_i W U;show kh .a9 .a .bL W.1)),uh _ (by show 0<=j;(rename_i W U;show kh .a9 .a .bL W.1))];show q)
mutual
noncomputable def evV (σ:St)(ρ:Fr):Ex->Option V
 |.none=>some .none
 |.bool b=>some (.bool b)
 |.int i=>some (.int i)
 |.str s=>some (.str s)
 |.l x=>ρ x
 |.b op a b=>(evV σ ρ a).bind λva=>(evV σ ρ b).bind λvb=>dS op va vb
 |.neg a=>(evV σ ρ a).bind λv=>(vInt v).map λi=>.int (-i)
 |.not a=>(evV σ ρ a).bind λv=>(vL σ v).map λb=>.bool !b
 |.c op a b=>(evV σ ρ a).bind λva=>(evV σ ρ b).bind λvb=>(d7 σ op va vb).map .bool
 |.I c a b=>(evT σ ρ c).bind λt=>if t then evV σ ρ a else evV σ ρ b
 |.T es=>(mG σ ρ es).bind λvs=>if vs.length<=bz then some (.T vs) else none
 |.attr e x=>(evV σ ρ e).bind λv=>(J4 v).bind λa=>(σ.I a).bind λp=>p.2 x
 |.sub e i=>(evV σ ρ e).bind λv=>(evV σ ρ i).bind λj=>tM σ v j
 |.bf k es=>(mG σ ρ es).bind λvs=>CZ σ k vs
 |_=>none
noncomputable def mG (σ:St)(ρ:Fr):Exs->Option (List V)
 |.nil=>some []
 |.cons e es=>(evV σ ρ e).bind λv=>(mG σ ρ es).map λvs=>v::vs
noncomputable def evT (σ:St)(ρ:Fr):Ex->Option Bool
 |.not a=>(evT σ ρ a).map λb=>!b
 |.and a b=>(evT σ ρ a).bind λt=>if t then evT σ ρ b else some false
 |.or a b=>(evT σ ρ a).bind λt=>if t then some true else evT σ ρ b
 |.c op a b=>(evV σ ρ a).bind λva=>(evV σ ρ b).bind λvb=>d7 σ op va vb
 |.I c a b=>(evT σ ρ c).bind λt=>if t then evT σ ρ a else evT σ ρ b
 |.l x=>(ρ x).bind λv=>vL σ v
 |.int i=>some (i != 0)
 |.bool b=>some b
 |.attr e x=>(evV σ ρ e).bind λv=>(J4 v).bind λa=>(σ.I a).bind λp=>(p.2 x).bind λu=>vL σ u
 |.sub e i=>(evV σ ρ e).bind λv=>(evV σ ρ i).bind λj=>(tM σ v j).bind λr=>vL σ r
 |.b op a b=>(evV σ ρ a).bind λva=>(evV σ ρ b).bind λvb=>(dS op va vb).bind λr=>vL σ r
 |_=>none
end
section
variable {i j:Int}
variable {σ:St}{ρ:Fr}{e a b c:Ex}{es:Exs}
@[simp] theorem M9:evV σ ρ .none=some .none:=rfl
@[simp] theorem MA {x:Bool}:evV σ ρ (.bool x)=some (.bool x):=rfl
@[simp] theorem GX:evV σ ρ (.int i)=some (.int i):=rfl
@[simp] theorem qy {x:Nat}:evV σ ρ (.l x)=ρ x:=rfl
@[simp] theorem xf {op:Bop}:evV σ ρ (.b op a b)=(evV σ ρ a).bind λU=>(evV σ ρ b).bind λW=>dS op U W:=rfl
@[simp] theorem xV:evV σ ρ (.neg a)=(evV σ ρ a).bind λv=>(vInt v).map λi=>.int (-i):=rfl
@[simp] theorem NC {op:Cop}:evV σ ρ (.c op a b)=(evV σ ρ a).bind λU=>(evV σ ρ b).bind λW=>(d7 σ op U W).map .bool:=rfl
@[simp] theorem aO:evV σ ρ (.T es)=(mG σ ρ es).bind λvs=>if vs.length<=bz then some (.T vs) else none:=rfl
@[simp] theorem GW {i:Ex}:evV σ ρ (.sub e i)=(evV σ ρ e).bind λv=>(evV σ ρ i).bind λj=>tM σ v j:=rfl
@[simp] theorem KJ {k:BF}:evV σ ρ (.bf k es)=(mG σ ρ es).bind λvs=>CZ σ k vs:=rfl
@[simp] theorem tK:mG σ ρ .nil=some []:=rfl
@[simp] theorem gn:mG σ ρ (.cons e es)=(evV σ ρ e).bind λv=>(mG σ ρ es).map λvs=>v::vs:=rfl
@[simp] theorem GZ:evT σ ρ (.not a)=(evT σ ρ a).map λb=>!b:=rfl
@[simp] theorem kP:evT σ ρ (.and a b)=(evT σ ρ a).bind λt=>if t then evT σ ρ b else some false:=rfl
@[simp] theorem KL:evT σ ρ (.or a b)=(evT σ ρ a).bind λt=>if t then some true else evT σ ρ b:=rfl
@[simp] theorem kO {op:Cop}:evT σ ρ (.c op a b)=(evV σ ρ a).bind λU=>(evV σ ρ b).bind λW=>d7 σ op U W:=rfl
@[simp] theorem xW {x:Nat}:evT σ ρ (.l x)=(ρ x).bind λv=>vL σ v:=rfl
@[simp] theorem LC:vInt (.int i)=some i:=rfl
@[simp] theorem L8:dS .add (.int i) (.int j)=some (.int (i+j)):=rfl
@[simp] theorem L5:dS .sub (.int i) (.int j)=some (.int (i-j)):=rfl
@[simp] theorem L6:dS .mul (.int i) (.int j)=mw (i.natAbs<2^60\/j.natAbs<2^60) (.int (i*j)):=rfl
@[simp] theorem KN:dS .fdiv (.int i) (.int j)=mw (0<j/\j.natAbs<2^60) (.int (i/j)):=rfl
@[simp] theorem L7:dS .mod (.int i) (.int j)=mw (0<j) (.int (i%j)):=rfl
@[simp] theorem CY {l:Addr}:CZ σ .len [.L l]=(σ.L l).map λxs=>.int xs.length:=rfl
@[simp] theorem MB:d7 σ .lt (.int i) (.int j)=some (decide (i<j)):=rfl
@[simp] theorem MC:d7 σ .le (.int i) (.int j)=some (decide (i<=j)):=rfl
@[simp] theorem MD:d7 σ .gt (.int i) (.int j)=some (decide (j<i)):=rfl
@[simp] theorem ME:d7 σ .ge (.int i) (.int j)=some (decide (j<=i)):=rfl
@[simp] theorem MF:d7 σ .eq (.int i) (.int j)=some (decide (i=j)):=rfl
end
section
variable {x:Nat}{e:Ex}
variable {C:Cal}{σ:St}{ρ:Fr}
mutual
theorem jm:∀(e:Ex) {v:V} {Q:V->St->Prop},evV σ ρ e=some v->Q v σ->wpE C e ρ σ Q
 |.none=>λh q=>by cases (h:some _=some _);show q
 |.bool b=>λh q=>by cases (h:some _=some _);show q
 |.int b=>λh q=>by cases (h:some _=some _);show q
 |.str b=>λh q=>by cases (h:some _=some _);show q
 |.l x=>λh q=>#[_,h,q]
 |.b op a b=>λh q=>by
  have#[O,W,h]:=mf h;have#[J,U,h]:=fq.mp h;show jm a W (jm b U (tO h q))
 |.neg a=>λh q=>by
  have#[O,W,h]:=mf h;apply jm a W ?_;have#[i,U,rfl]:=omap h;apply#[i,qx U,q]
 |.not a=>λh q=>by
  have#[O,W,h]:=mf h;have#[b,U,rfl]:=ji.mp h;show jm a W (hW _ U q)
 |.c op a b=>λh q=>by
  have#[O,W,h]:=mf h;have#[J,U,h]:=fq.mp h;have#[r,I,rfl]:=ji.mp h;show jm a W (jm b U (tN I q))
 |.I c a b=>λh q=>by
  have#[t,W,h]:=mf h;apply xw c W ?_;cases t with
  |true=>show iP (jm a h q)
  |false=>show iQ (jm b h q)
 |.T es=>λh q=>by
  have#[vs,W,h]:=mf h;have#[c,h]:=ifO h;cases h;show eS es W #[c,q]
 |.attr e x=>λh q=>by
  have#[O,W,h]:=mf h;apply jm e W ?_;have#[a,B,h]:=mf h;have#[#[d,f],U,h]:=mf h;apply#[a,d,f,_,wH B,U,h,q]
 |.sub e i=>λh q=>by
  have#[O,W,h]:=mf h;have#[J,U,h]:=fq.mp h;show jm e W (jm i U (tL h q))
 |.bf k es=>λh q=>by
  have#[vs,W,h]:=mf h;show eS es W (H6 _ _ h q)
 |.and ..=>λh q=>nO h
 |.or ..=>λh q=>nO h
 |.L ..=>λh q=>nO h
 |.dct0=>λh q=>nO h
 |.call ..=>λh q=>nO h
 |.meth ..=>λh q=>nO h
 |.g ..=>λh q=>nO h
 |.h ..=>λh q=>nO h
 |.bm ..=>λh q=>nO h
 |.w ..=>λh q=>nO h
 |.slc ..=>λh q=>nO h
 |.K ..=>λh q=>nO h
 |.n ..=>λh q=>nO h
 |.N ..=>λh q=>nO h
 |.M ..=>λh q=>nO h
 |.dead=>λh q=>nO h
theorem eS:∀(es:Exs) {vs:List V} {Q:List V->St->Prop},mG σ ρ es=some vs->Q vs σ->uv C es ρ σ Q
 |.nil,vs,Q,h,q=>by cases (h:some _=some vs);show q
 |.cons e es,vs,Q,h,q=>by
  have#[v,O,h]:=mf h;have W:=ji.mp h;clear h;have#[us,U,rfl]:=W;show jm e O (eS es U q)
theorem xw:∀(e:Ex) {b:Bool} {Q:Bool->St->Prop},evT σ ρ e=some b->Q b σ->wpT C e ρ σ Q
 |.not a=>λh q=>by
  have#[b,U,rfl]:=omap h;show xw a U q
 |.and a b=>λh q=>by
  have#[t,W,h]:=mf h;apply xw a W ?_;cases t with
  |true=>show iP (xw b h q)
  |false=>cases h;show iQ q
 |.or a b=>λh q=>by
  have#[t,W,h]:=mf h;apply xw a W ?_;cases t with
  |true=>cases h;show iP q
  |false=>show iQ (xw b h q)
 |.c op a b=>λh q=>by
  have#[J,W,h]:=mf h;have#[I,U,h]:=fq.mp h;show jm a W (jm b U (tN h q))
 |.I c a b=>λh q=>by
  have#[t,W,h]:=mf h;apply xw c W ?_;cases t with
  |true=>show iP (xw a h q)
  |false=>show iQ (xw b h q)
 |.l x=>λh q=>by
  have#[u,W,h]:=mf h;apply#[u,W,hW _ h q]
 |.int i=>λh q=>by cases (h:some _=some _);show q
 |.bool i=>λh q=>by cases (h:some _=some _);show q
 |.attr e x=>λh q=>by
  have#[J,W,h]:=mf h;apply jm e W ?_;have#[a,B,h]:=mf h;have#[#[d,f],U,h]:=mf h;have#[u,O,h]:=mf h;apply#[a,d,f,u,wH B,U,O,hW _ h q]
 |.sub e i=>λh q=>by
  have#[J,W,h]:=mf h;have#[I,U,h]:=fq.mp h;have#[u,O,h]:=fq.mp h;show jm e W (jm i U (tL O (hW _ h q)))
 |.b op a b=>λh q=>by
  have#[J,W,h]:=mf h;have#[I,U,h]:=fq.mp h;have#[u,O,h]:=fq.mp h;show jm a W (jm b U (tO O (hW _ h q)))
 |.none=>λh q=>nO h
 |.str ..=>λh q=>nO h
 |.neg ..=>λh q=>nO h
 |.T ..=>λh q=>nO h
 |.bf ..=>λh q=>nO h
 |.L ..=>λh q=>nO h
 |.dct0=>λh q=>nO h
 |.call ..=>λh q=>nO h
 |.meth ..=>λh q=>nO h
 |.g ..=>λh q=>nO h
 |.h ..=>λh q=>nO h
 |.bm ..=>λh q=>nO h
 |.w ..=>λh q=>nO h
 |.slc ..=>λh q=>nO h
 |.K ..=>λh q=>nO h
 |.n ..=>λh q=>nO h
 |.N ..=>λh q=>nO h
 |.M ..=>λh q=>nO h
 |.dead=>λh q=>nO h
end
variable {K:Fl->Fr->St->Prop}{ss:pq}
def jQ (v:V)(h:evV σ ρ e=some v)(k:gq C ss (upd ρ x v) σ K):gq C (.cons (.a [.v x] e) ss) ρ σ K:=jm e h k
def y8 {xs:List Nat}(vs:List V)(h:evV σ ρ e=some (.T vs))(l:xs.length=vs.length)(k:gq C ss (gr xs vs ρ) σ K):gq C (.cons (.a [.T xs] e) ss) ρ σ K:=
 jm e h #[vs,rfl,l,k]
def DU (h:wpE C e ρ σ λv σ=>gq C ss (upd ρ x v) σ K):gq C (.cons (.a [.v x] e) ss) ρ σ K:=h
def u9 {es:Exs}(vs:List V)(h:mG σ ρ es=some vs)(l:vs.length<=bz)(k:∀c,σ.L c=none->gq C ss (upd ρ x (.L c)) (σ.ew c vs) K):gq C (.cons (.a [.v x] (.L es)) ss) ρ σ K:=
 eS (Q:=λvs σ=>vs.length<=bz/\∀c,σ.L c=none->gq C ss (upd ρ x (.L c)) (σ.ew c vs) K) es h #[l,k]
def rN {c:Ex}{t e:pq}(b:Bool)(h:evT σ ρ c=some b)(k:if b then gq C t ρ σ (kW (λρ σ=>gq C ss ρ σ K) K) else gq C e ρ σ (kW (λρ σ=>gq C ss ρ σ K) K)):gq C (.cons (.C c t e) ss) ρ σ K:=xw c h k
def fJ {a:Addr}{xs:List V}(v:V)(U:ρ x=some (.L a))(W:σ.L a=some xs)(h:evV σ ρ e=some v)(l:xs.length<bz)(k:gq C ss ρ (σ.ew a (xs++[v])) K):gq C (.cons (.expr (.bm .append (.l x) %[e|0])) ss) ρ σ K:=by
 apply#[_,U,(show(σ.L a).isSome=true by rw[W];rfl),?_];rw[nc];apply jm e h ?_;apply#[xs,W,l,rfl,k]
def IU (v:V)(h:evV σ ρ e=some v)(k:K (.ret v) ρ σ):gq C (.cons (.ret e) ss) ρ σ K:=jm (Q:=λv σ=>K (.ret v) ρ σ) e h k
def oo (k:K .next ρ σ):gq C .nil ρ σ K:=k
def dX {H:Fr->St->Prop}(k:H ρ σ):gq C .nil ρ σ (kW H K):=k
def n8 (k:gq C ss ρ σ K):gq C (.cons .pass ss) ρ σ K:=k
def rM {c:Ex}{t e:pq}(p:Prop)[Decidable p](h:evT σ ρ c=some (decide p))(W:p->gq C t ρ σ (kW (λρ σ=>gq C ss ρ σ K) K))(k2:¬p->gq C e ρ σ (kW (λρ σ=>gq C ss ρ σ K) K)):gq C (.cons (.C c t e) ss) ρ σ K:=by
 apply rN _ h ?_;by_cases q:p
 ·rw[gp q,cp rfl];show W q
 ·rw[fp q,bb (by simp)];show k2 q
end
end MP
end
section
namespace MP
namespace SM
open PySem
variable {σ2:St}{x nl:Addr}
def T3:=Nat×Nat×Nat
def T4:=Nat×Nat×Nat×Nat
abbrev zT (t:T3):Int×Int×Int:=(t.1,t.2.1,t.2.2)
abbrev mV (t:T3):V:=mtV (zT t)
abbrev tV (t:T3):V:=.T [.int t.1,.int t.2.1,.int t.2.2]
abbrev qV (r:T4):V:=.T [.int r.1,.int r.2.1,.int r.2.2.1,.int r.2.2.2]
def LJ {L mb:List T3}(U:L.Perm mb)(W:L.Pairwise um)(hk:∀t∈L,0<t.2.2):((mb.map zT).mergeSort leT).map mtV=L.map mV:=by
 have e:(mb.map zT).mergeSort leT=L.map zT:=by
  apply List.Perm.eq_of_pairwise (le:=LeT) ?_ (fE _) ?_ ((List.mergeSort_perm _ _).trans (U.symm.map zT))
  ·show λa b _ _ I J=>LeT.N3 I J
  ·rw[fR];apply vq (λ{a b} O hb h=>?_) W;have:=hk a O;unfold um at h;unfold LeT zT;simp only
   (show .inl (fb (.il .L .P) .b .a2 .X h.1 this))
 rw[e,jk];rfl
abbrev qw (q:List T4):Nat:=(q.map λr=>2*(r.2.1-r.1)+1).sum
def kJ {q:List T4}{r:T4}:qw (q++[r])=qw q+(2*(r.2.1-r.1)+1):=by simp[qw]
def BU {q:List T4}:q.length<=qw q:=by
 induction q with
 |nil=>show au _
 |cons r q W =>
  unfold qw at *;simp only[iq,ti,List.sum_cons]
  (show fc (.k .M (.a .aU .C)) .a .L W)
inductive rL (F:Nat->Nat->Nat->Nat->T3->Prop):List T4->List (List T3)->Prop
 |nil:rL F [] []
 |snoc {q:List T4} {Ls:List (List T3)} {r:T4} {L:List T3}:rL F q Ls->uf F r.1 r.2.1 r.2.2.1 r.2.2.2 L->rL F (q++[r]) (Ls++[L])
def rL.inv {F:Nat->Nat->Nat->Nat->T3->Prop}{q:List T4}{r:T4}{W:List (List T3)}(h:rL F (q++[r]) W):∃Ls L,W=Ls++[L]/\rL F q Ls/\uf F r.1 r.2.1 r.2.2.1 r.2.2.2 L:=by
 generalize e:q++[r]=z at h;cases h with
 |nil=>show absurd (di List.length e) (by simp)
 | @snoc B Ls I L O U =>
  have:=List.append_inj' e rfl;have#[rfl,J]:=this;cases J;apply#[Ls,L,rfl,O,U]
def LF {r:T4}{σ:St}:EH (qV r) σ=some [.int r.1,.int r.2.1,.int r.2.2.1,.int r.2.2.2]:=rfl
def AA {t:T3}{σ:St}:EH (mV t) σ=some [.int t.1,.int t.2.1,.int t.2.2]:=rfl
abbrev rn (p:Prop)[Decidable p](q:List T4)(r:T4):List T4:=if p then q++[r] else q
def uw {σ:St}{a:Addr}{xs:List V}(h:σ.L a=some xs):σ.ew a xs=σ:=by
 have:upd σ.L a xs=σ.L:=by
  funext z
  by_cases e:z=a
  ·rw[e,cn,h]
  ·show fg e
 unfold St.ew;rw[this]
section
variable {σ:St}{ρ:Fr}{a b c e:Ex}{m n k l:Nat}
def vd (W:evV σ ρ a=some (.int m))(hb:evV σ ρ b=some (.int n)):evT σ ρ (.c .lt a b)=some (decide (m<n)):=by
 rw[kO,W,hb];show di some (ui.mpr Int.ofNat_lt)
def mJ (W:evV σ ρ a=some (.int m))(hb:evV σ ρ b=some (.int n)):evT σ ρ (.c .eq a b)=some (decide (m=n)):=by
 rw[kO,W,hb];show di some (ui.mpr Int.ofNat_inj)
def km (W:evV σ ρ a=some (.int m))(hb:evV σ ρ b=some (.int n)):evV σ ρ (.b .add a b)=some (.int (m+n:Nat)):=by
 rw[xf,W,hb];rfl
def vn {p q:Prop}[Decidable p][Decidable q](W:evT σ ρ a=some (decide p))(hb:evT σ ρ b=some (decide q)):evT σ ρ (.and a b)=some (decide (p/\q)):=by
 rw[kP,W];by_cases h:p
 ·rw[gp h];show hb.trans (di some (ui.mpr #[λx=>#[h,x],λx=>x.2]))
 ·rw[fp h];show di some (fp λx=>h x.1).symm
def iW {x:Nat}(h:ρ x=some (.int k)):evT σ ρ (.l x)=some (decide (k≠0)):=by
 rw[xW,h];cases k<;>rfl
def ev3 (U:evV σ ρ a=some (.int m))(hb:evV σ ρ b=some (.int n))(W:evV σ ρ c=some (.int k)):evV σ ρ (.T %[a,b,c|0])=some (tV (m,n,k)):=by
 rw[aO,gn,U,gn,hb,gn,W];rfl
def ev4 (O:evV σ ρ a=some (.int m))(hb:evV σ ρ b=some (.int n))(U:evV σ ρ c=some (.int k))(W:evV σ ρ e=some (.int l)):evV σ ρ (.T %[a,b,c,e|0])=some (qV (m,n,k,l)):=by
 rw[aO,gn,O,gn,hb,gn,U,gn,W];rfl
variable {C:Cal}{K:Fl->Fr->St->Prop}{ss:pq}
def push {ql:Addr}{q:List T4}{p:Prop}[Decidable p](r:T4)(J:ρ 3=some (.L ql))(W:σ.L ql=some (q.map qV))(hl:q.length<bz)(U:evT σ ρ c=some (decide p))(O:evV σ ρ e=some (qV r))(h:gq C ss ρ (σ.ew ql ((rn p q r).map qV)) K) :
  gq C (.cons (.C c %[.expr (.bm .append (.l 3) %[e|0])|0] .nil) ss) ρ σ K:=by
 unfold rn at h;apply rM p U (λy=>?_) λy=>?_
 ·rw[cp y,fu]at h;show fJ (qV r) J W O (by rw[aw];show hl) (oo h)
 ·rw[bb y,uw W]at h;show oo h
end
abbrev In4 (as bs:List Key)(r:T4):Prop:=r.1<=r.2.1/\r.2.2.1<=r.2.2.2/\r.2.1<=as.length/\r.2.2.2<=bs.length
section
variable {as bs:List Key}{F:Nat->Nat->Nat->Nat->T3->Prop}{q:List T4}{r:T4}{mb:List T3}{p:Prop}[Decidable p]
def xK (h:∀u∈q,In4 as bs u)(h':p->In4 as bs r):∀u∈rn p q r,In4 as bs u:=by
 unfold rn;split
 ·rename_i c;intro u W;rcases cu.mp W with W|W
  ·show h u W
  ·rw[ak.mp W];show h' c
 ·show h
def qA:qw (rn p q r)<=qw q+(2*(r.2.1-r.1)+1):=by
 unfold rn;split
 ·rw[kJ];show au _
 ·show gv _ _
def oI {O:List (List T3)}(o:rL F (rn p q r) O):∃W R,rL F q W/\O.flatten=W.flatten++R/\(p->uf F r.1 r.2.1 r.2.2.1 r.2.2.2 R)/\(¬p->R=[]):=by
 unfold rn at o;split at o
 ·rename_i c;have#[U,R,rfl,J,bR]:=o.inv;apply#[U,R,J,by rw[List.flatten_append,List.flatten_cons,iD,dk],λ_=>bR,λq=>absurd c q]
 ·rename_i c;apply#[O,[],o,(dk _).symm,λc1=>absurd c1 c,λ_=>rfl]
abbrev kB (F:Nat->Nat->Nat->Nat->T3->Prop)(na nb:Nat)(q:List T4)(mb:List T3):Prop:=∀Ls,rL F q Ls->∃L,uf F 0 na 0 nb L/\L.Perm (mb++Ls.flatten)
variable {na nb alo ahi blo bhi i j k:Nat}
def kB.drop (h:kB F na nb (q++[(alo,ahi,blo,bhi)]) mb)(W:F alo ahi blo bhi (i,j,0)):kB F na nb q mb:=λU o=>by
 have#[L,b,p]:=h _ (.snoc o (.nil W));apply#[L,b,by rwa [List.flatten_append,List.flatten_cons,iD,dk,dk]at p]
def kB.part (h:kB F na nb (q++[(alo,ahi,blo,bhi)]) mb)(z:F alo ahi blo bhi (i,j,k))(hk:0<k) :
  kB F na nb (rn (i+k<ahi/\j+k<bhi) (rn (alo<i/\blo<j) q (alo,i,blo,j)) (i+k,ahi,j+k,bhi)) (mb++[(i,j,k)]):=λLs o=>by
 have#[ag,R,I,e5,bR,U]:=oI o;have#[W,L,B,e4,bL,O]:=oI I;have#[M,bM,J]:=h _ (.snoc B (.node z hk (λa b=>bL #[a,b]) O (λa b=>bR #[a,b]) U));apply#[M,bM,J.trans ?_];rw[e5,e4,List.flatten_append,List.flatten_cons,iD,dk,az];apply kG _ ?_;rw[<- az,az W.flatten,<- az W.flatten];show List.perm_middle
def kB.start:kB F na nb [(0,na,0,nb)] []:=λO o=>by
 have U:=o.inv (q:=[]);clear o;have#[W,L,rfl,o',b]:=U;have e:W=[]:=by
  generalize e:([]:List T4)=q at o';cases o' with
  |nil=>rfl
  |snoc _ _=>show absurd (di List.length e) (by simp)
 subst e;apply#[L,b,by simp]
end
structure QN (σ:St)(ql ml:Addr):Prop where
 ne:ql≠ml
 q:σ.L ql=none
 m:σ.L ml=none
structure QS (σ σ':St)(ql ml:Addr)(q:List T4)(mb:List T3):Prop where
 kp:Kp σ σ'
 q:σ'.L ql=some (q.map qV)
 m:σ'.L ml=some (mb.map mV)
section
variable {σ σ':St}{ql ml:Addr}{q:List T4}{mb:List T3}
def QS.LK (N:QN σ ql ml)(S:QS σ σ' ql ml q mb)(W:List T4):QS σ (σ'.ew ql (W.map qV)) ql ml W mb:=#[S.kp.ew N.q,cn _ _ _,(fg (j9 N.ne)).trans S.m]
def QS.setM (N:QN σ ql ml)(S:QS σ σ' ql ml q mb)(W:List T3):QS σ (σ'.ew ml (W.map mV)) ql ml q W:=#[S.kp.ew N.m,(fg N.ne).trans S.q,cn _ _ _]
def QS.kept (S:QS σ σ' ql ml q mb)(k:Kp σ' σ2):QS σ σ2 ql ml q mb:=#[S.kp.trans k,k.L _ _ S.q,k.L _ _ S.m]
end
structure R6 (ρ:Fr)(x:Addr)(ql ml:Addr)(na nb:Nat):Prop where
 r0:ρ 0=some (.obj x)
 r1:ρ 1=some (.int na)
 r2:ρ 2=some (.int nb)
 r3:ρ 3=some (.L ql)
 r4:ρ 4=some (.L ml)
inductive HT (σ:St)(x ql ml:Addr)(as bs:List Key)(F:Nat->Nat->Nat->Nat->T3->Prop)(w:Nat)(ρ:Fr)(σ':St):Prop
 |mk (q:List T4) (mb:List T3):R6 ρ x ql ml as.length bs.length->w=qw q->QS σ σ' ql ml q mb->qw q+mb.length<=2*as.length+1->(∀r∈q,In4 as bs r)->kB F as.length bs.length q mb->HT σ x ql ml as bs F w ρ σ'
def FT {W z w0 i alo ahi k:Nat}(h2:z<=w0+(2*(i-alo)+1))(h3:W<=z+(2*(ahi-(i+k))+1))(a:alo<=i)(b:i+k<=ahi)(hk:0<k):W<w0+(2*(ahi-alo)+1):=by(show MV (.l .A (.a .B .aS)) [[1,1,1,2,2,2,-2]] (.k .D (.a .B (.a (.m 2 .F) .U))) (.k .A (.a .D (.a (.m 2 .G) .U))) (.l .O .H) (.e (.a .F .I) .J) (.e (.a .G (.a .J .H)) .K) (.e (.a .C .I) .K) h2 h3 hk (aa (av .A .a .A a)) (aa (fc .F .a .F b)) (aa (fy .A .b .L .bX a b)))
def CR {C:Cal}{σ σ':St}{ql ml:Addr}{as bs:List Key}{F:Nat->Nat->Nat->Nat->T3->Prop}{q:List T4}{mb:List T3}{ρ:Fr}{K:Fl->Fr->St->Prop}{alo ahi blo bhi i j k:Nat}(ag:as.length<400000)(N:QN σ ql ml)(H:R6 ρ x ql ml as.length bs.length)(S:QS σ σ' ql ml q mb)
  (r5:ρ 5=some (.int alo)) (r6:ρ 6=some (.int ahi)) (r7:ρ 7=some (.int blo)) (r8:ρ 8=some (.int bhi)) (r9:ρ 9=some (.int i)) (z:ρ 10=some (.int j)) (O:ρ 11=some (.int k)) (aj:ρ 12=some (mV (i,j,k)))
  (W:Within alo ahi blo bhi (i,j,k)) (hr:In4 as bs (alo,ahi,blo,bhi)) (ao:∀r∈q,In4 as bs r) (hw:qw (q++[(alo,ahi,blo,bhi)])+mb.length<=2*as.length+1) (hk:0<k) (hf:F alo ahi blo bhi (i,j,k)) (ai:kB F as.length bs.length (q++[(alo,ahi,blo,bhi)]) mb)
  (h:∀w σ2,w<qw (q++[(alo,ahi,blo,bhi)])->HT σ x ql ml as bs F w ρ σ2->K .next ρ σ2) :
  gq C (.cons (.expr (.bm .append (.l 4) %[.l 12|0]))
   (.cons (.C (.and (.c .lt (.l 5) (.l 9)) (.c .lt (.l 7) (.l 10))) %[.expr (.bm .append (.l 3) %[.T %[.l 5,.l 9,.l 7,.l 10|0]|0])|0] .nil)
   %[.C (.and (.c .lt (.b .add (.l 9) (.l 11)) (.l 6)) (.c .lt (.b .add (.l 10) (.l 11)) (.l 8))) %[.expr (.bm .append (.l 3) %[.T %[.b .add (.l 9) (.l 11),.l 6,.b .add (.l 10) (.l 11),.l 8|0]|0])|0] .nil|0])) ρ σ' K:=by
 have W:alo<=i/\i+k<=ahi/\blo<=j/\j+k<=bhi:=W;have hr:alo<=ahi/\blo<=bhi/\ahi<=as.length/\bhi<=bs.length:=hr;rw[kJ]at hw h;have hw:qw q+(2*(ahi-alo)+1)+mb.length<=2*as.length+1:=hw;have h1:=BU (q:=q);have lt:=FT (qA (p:=alo<i/\blo<j) (q:=q) (r:=(alo,i,blo,j))) (qA (p:=i+k<ahi/\j+k<bhi) (q:=rn (alo<i/\blo<j) q (alo,i,blo,j)) (r:=(i+k,ahi,j+k,bhi))) W.1 W.2.1 hk;have h2:qw (rn (alo<i/\blo<j) q (alo,i,blo,j))<=qw q+(2*(i-alo)+1):=qA;have h4:=BU (q:=rn (alo<i/\blo<j) q (alo,i,blo,j));apply fJ (mV (i,j,k)) H.r4 S.m aj (by rw[aw];unfold bz;(rename_i z1;show fy .bA [[1,2,1]] .bD (.k (.a (.a .C (.a (.m 2 .D) .U)) .A) .aU) ag z1)) ?_;have S1:=S.setM N (mb++[(i,j,k)]);rw[fu]at S1;apply push (p:=alo<i/\blo<j) (alo,i,blo,j) H.r3 S1.q (by unfold bz;(rename_i z1;show ll .bA [[1,2,1,1]] .bD (.k (.a (.a .C (.a (.m 2 .D) .U)) .F) .aU) .L ag z1 h1)) (vn (vd r5 r9) (vd r7 z)) (ev4 r5 r9 r7 z) ?_;have S2:=S1.LK N (rn (alo<i/\blo<j) q (alo,i,blo,j));apply push (p:=i+k<ahi/\j+k<bhi) (i+k,ahi,j+k,bhi) H.r3 S2.q (by unfold bz;(rename_i z1;show O4 .bA [[1,2,1,2,1,1,-2,2]] .bD (.k (.a (.a .C (.a (.m 2 .D) .U)) .F) .aU) (.k .aB .I) (.k .J (.a .C (.a (.m 2 .K) .U))) (.k .A .J) (.e (.a .D (.v 10)) .I) (.e (.a .K (.v 10)) .G) ag z1 W.2.1 h2 h4 (aa (fy .A .b .L .bX W.1 W.2.1)) (aa (av .A .a .A W.1)))) (vn (vd (km r9 O) r6) (vd (km z O) r8)) (ev4 (km r9 O) r6 (km z O) r8) ?_;have S3:=S2.LK N (rn (i+k<ahi/\j+k<bhi) (rn (alo<i/\blo<j) q (alo,i,blo,j)) (i+k,ahi,j+k,bhi));apply h _ _ lt #[_,mb++[(i,j,k)],H,rfl,S3,?_,?_,ai.part hf hk]
 ·rw[bg,kf];(rename_i z1;show oz (.k .a4 .aS) .b (.k (.a (.a .D (.a (.m 2 .F) .U)) .B) .aS) (.l .A (.a .D (.a (.m 2 .F) .U))) z1 lt)
 ·show xK (xK ao λc=>#[gy c.1,gy c.2,by show i<=as.length;(show fy .A .b (.k .S .D) .c3 W.2.1 hr.2.2.1),by show j<=bs.length;(show fy .A .b (.k .S .D) .c3 W.2.2.2 hr.2.2.2)]) λc=>#[gy c.1,gy c.2,hr.2.2.1,hr.2.2.2]
def CQ {P:Nat->Option Fn}(ao:P 5=some fn5){n:Nat}{σ σ':St}{la lb db sj ql ml:Addr}{as bs:List Key}{rm:Key->Bool}{js:List Key}{q:List T4}{r:T4}{mb:List T3}{ρ:Fr}{again:Fr->St->Prop}{K:Fl->Fr->St->Prop}
  (hM:MAt σ x la lb db sj as bs rm js) (ha:∀k∈as,vo k) (hb:∀k∈bs,vo k) (hs:bs.length<400000) (J:as.length<400000) (N:QN σ ql ml) (H:R6 ρ x ql ml as.length bs.length) (S:QS σ σ' ql ml (q++[r]) mb) (hw:qw (q++[r])+mb.length<=2*as.length+1) (z:∀u∈q++[r],In4 as bs u)
  (W:kB (Flm as bs rm λc=>decide (c∈js)) as.length bs.length (q++[r]) mb) (ag:∀w ρ' σ2,w<qw (q++[r])->HT σ x ql ml as bs (Flm as bs rm λc=>decide (c∈js)) w ρ' σ2->again ρ' σ2) :
  gq (jc P (n+1)) (.cons (.a [(.T [5,6,7,8])] (.bm .pop (.l 3) .nil))
   (.cons (.a [(.T [9,10,11]),(.v 12)] (.meth (.l 0) 5 %[.l 5,.l 6,.l 7,.l 8|0]))
   (.cons (.C (.l 11) (.cons (.expr (.bm .append (.l 4) %[.l 12|0]))
    (.cons (.C (.and (.c .lt (.l 5) (.l 9)) (.c .lt (.l 7) (.l 10))) %[.expr (.bm .append (.l 3) %[.T %[.l 5,.l 9,.l 7,.l 10|0]|0])|0] .nil)
    %[.C (.and (.c .lt (.b .add (.l 9) (.l 11)) (.l 6)) (.c .lt (.b .add (.l 10) (.l 11)) (.l 8))) %[.expr (.bm .append (.l 3) %[.T %[.b .add (.l 9) (.l 11),.l 6,.b .add (.l 10) (.l 11),.l 8|0]|0])|0] .nil|0])) .nil) .nil))) ρ σ' (wi again K):=by
 have#[alo,ahi,blo,bhi]:=r;have hq:=S.q;rw[fu]at hq;apply#[_,H.r3,(by show(σ'.L ql).isSome=true;rw[hq];rfl),q.map qV,qV (alo,ahi,blo,bhi),hq,_,LF,rfl,?_];have hr:alo<=ahi/\blo<=bhi/\ahi<=as.length/\bhi<=bs.length:=z (alo,ahi,blo,bhi) (dt _ (.head _));have O:∀u∈q,In4 as bs u:=λu hu=>z u (dg _ hu);have S0:QS σ (σ'.ew ql (q.map qV)) ql ml q mb:=#[S.kp.ew N.q,cn _ _ _,(fg (j9 N.ne)).trans S.m];have#[d,f,hI,_]:=hM.I;apply#[_,H.r0,x,rfl,(by show(σ'.I x).isSome=true;rw[S.kp.I,hI];rfl),_,rfl,_,rfl,_,rfl,_,rfl,?_];apply flm ao (hM.keep S0.kp) ha hb (by unfold bz;(show fh .bA .a .cG hs)) (by unfold bz;(show fh .bA .a .cG J)) (.inl rfl) (.inl rfl) hr.1 hr.2.1 hr.2.2.1 hr.2.2.2 λσ2 i0 j0 k0 k2 best=>?_;have hf:Flm as bs rm (λc=>decide (c∈js)) alo ahi blo bhi (grow as bs (λc=>decide (c∈js)) alo ahi blo bhi i0 j0 k0):=#[_,_,_,best,rfl];have S2:=S0.kept k2;generalize grow as bs (λc=>decide (c∈js)) alo ahi blo bhi i0 j0 k0=t at hf;have#[i,j,k]:=t;apply#[_,AA (t:=(i,j,k)),rfl,?_];apply rM (k≠0) (iW rfl) (λc=>?_) λc=>?_
 ·show CR J N #[H.r0,H.r1,H.r2,H.r3,H.r4] S2 rfl rfl rfl rfl rfl rfl rfl rfl hf.within hr O hw (Nat.pos_of_ne_zero c) hf W λw ai lt Q=>ag w _ ai lt Q
 ·have rfl:=fS.mp c;have aj:qw q+(2*(ahi-alo)+1)+mb.length<=2*as.length+1:=by rw[kJ]at hw;show hw
  apply oo (ag (qw q) _ _ (by rw[kJ];(show my (.l .A (.a .A .aU)) .h)) #[q,mb,#[H.r0,H.r1,H.r2,H.r3,H.r4],rfl,S2,by show kA (.k .L .aS) .a (.k (.a (.a .A (.a (.m 2 .D) .U)) .B) .aS) aj,O,W.drop hf])
structure R7 (ρ:Fr)(x nl:Addr)(na nb:Nat):Prop where
 r0:ρ 0=some (.obj x)
 r1:ρ 1=some (.int na)
 r2:ρ 2=some (.int nb)
 r16:ρ 16=some (.L nl)
inductive HV (σ1:St)(x nl:Addr)(na nb:Nat)(L:List T3)(t:Nat)(ρ:Fr)(σ2:St):Prop
 |mk (i j k:Nat) (acc:List T3):R7 ρ x nl na nb->Kp σ1 σ2->ρ 13=some (.int i)->ρ 14=some (.int j)->ρ 15=some (.int k)->σ2.L nl=some (acc.map tV)->acc.length<=t->acc++mrg i j k (L.drop t)=mrg 0 0 0 L->HV σ1 x nl na nb L t ρ σ2
def xA {C:Cal}{ρ:Fr}{K:Fl->Fr->St->Prop}{ss:pq}{acc:List T3}{i j k:Nat}(O:ρ 16=some (.L nl))(I:ρ 13=some (.int i))(J:ρ 14=some (.int j))(U:ρ 15=some (.int k))(W:σ2.L nl=some (acc.map tV))(hl:acc.length<bz)
  (h:gq C ss ρ (σ2.ew nl ((acc++if k=0 then [] else [(i,j,k)]).map tV)) K) :
  gq C (.cons (.C (.l 15) %[.expr (.bm .append (.l 16) %[.T %[.l 13,.l 14,.l 15|0]|0])|0] .nil) ss) ρ σ2 K:=by
 apply rM (k≠0) (iW U) (λc=>?_) λc=>?_
 ·rw[bb c,fu]at h;show fJ (tV (i,j,k)) O W (ev3 I J U) (by rw[aw];show hl) (oo h)
 ·rw[cp (fS.mp c),dk,uw W]at h;show oo h
def C7 {C:Cal}{B:St}{na nb t:Nat}{L:List T3}{ρ:Fr}{K:Fl->Fr->St->Prop}{again:Fr->St->Prop}(hn:B.L nl=none)(hL:L.length<400000)(ht:t<L.length)(I:HV B x nl na nb L t ρ σ2)(ai:∀ρ' σ',HV B x nl na nb L (t+1) ρ' σ'->again ρ' σ') :
  gq C (.cons (.C (.and (.c .eq (.b .add (.l 13) (.l 15)) (.l 17)) (.c .eq (.b .add (.l 14) (.l 15)) (.l 18))) %[.aug 15 .add (.l 19)|0]
   (.cons (.C (.l 15) %[.expr (.bm .append (.l 16) %[.T %[.l 13,.l 14,.l 15|0]|0])|0] .nil)
   %[.a [.T [13,14,15]] (.T %[.l 17,.l 18,.l 19|0])|0])) .nil) (gr [17,18,19] [.int L[t].1,.int L[t].2.1,.int L[t].2.2] ρ) σ2 (wi again K):=by
 have#[i,j,k,acc,H,kp,ag,z,W,J,U,hm]:=I;rw[cg ht]at hm;generalize L[t]=u at *;have#[i2,j2,k2]:=u;have hm:acc++(if i+k=i2/\j+k=j2 then mrg i j (k+k2) (L.drop (t+1)) else if k=0 then mrg i2 j2 k2 (L.drop (t+1)) else (i,j,k)::mrg i2 j2 k2 (L.drop (t+1)))=mrg 0 0 0 L:=hm;apply rM (i+k=i2/\j+k=j2) (vn (mJ (km ag W) rfl) (mJ (km z W) rfl)) (λc=>?_) λc=>?_
 ·rw[cp c]at hm;apply#[_,W,_,rfl,ai _ _ #[i,j,k+k2,acc,#[H.r0,H.r1,H.r2,H.r16],kp,ag,z,rfl,J,Nat.le_succ_of_le U,hm]]
 ·rw[bb c]at hm;apply xA H.r16 ag z W J (by unfold bz;(show oq .bA .e .bD .Q .L hL ht U)) ?_;apply y8 [.int i2,.int j2,.int k2] rfl rfl (dX (oo (ai _ _ #[i2,j2,k2,acc++(if k=0 then [] else [(i,j,k)]),#[H.r0,H.r1,H.r2,H.r16],kp.ew hn,rfl,rfl,rfl,cn _ _ _,?_,?_])))
  ·rw[bg];by_cases c0:k=0
   ·rw[cp c0];show acc.length+0<=_;(show av (.k (.a .A .O) .P) .a .A U)
   ·rw[bb c0];show acc.length+1<=_;(show av .aS .a .A U)
  ·rw[<- hm];by_cases c0:k=0
   ·rw[cp c0,cp c0,dk]
   ·rw[bb c0,bb c0,az];rfl
def GR {C:Cal}{σ W:St}{d:Addr}{f:Nat->Option V}{na nb:Nat}{acc:List T3}{ρ:Fr}{Q:V->St->Prop}(hI:σ.I x=some (d,f))(kp:Kp σ W)(H:R7 ρ x nl na nb)(hn:σ.L nl=none)(hl:acc.length<bz)(O:W.L nl=some (acc.map tV))
  (h:∀c σ',Kp σ σ'->σ.L c=none->σ'.L c=some ((acc++[(na,nb,0)]).map mV)->Q (.L c) (σ'.jn x d (upd f 4 (.L c)))) :
  gq C (.cons (.expr (.bm .append (.l 16) %[.T %[.l 1,.l 2,.int 0|0]|0]))
   %[.a [(.attr (.l 0) 4)] (.M (.l 16)),.ret (.attr (.l 0) 4)|0]) ρ W (uN Q):=by
 apply fJ (tV (na,nb,0)) H.r16 O (ev3 H.r1 H.r2 rfl) (by rw[aw];show hl) ?_;rw[show acc.map tV++[tV (na,nb,0)]=(acc++[(na,nb,0)]).map tV from by rw[fu];rfl];apply#[_,H.r16,nl,(acc++[(na,nb,0)]).map λt:T3=>[V.int t.1,V.int t.2.1,V.int t.2.2],rfl,(by rw[jk];show cn _ _ _),(by intro t ht;have#[u,_,rfl]:=fj.mp ht;rfl),λc B=>?_];have J:c≠nl:=λq=>by
  rw[q]at B;have:upd W.L nl _ nl=none:=B;rw[cn]at this;cases this
 have U:σ.L c=none:=by
  have:upd W.L nl _ c=none:=B;rw[fg J]at this;show kp.noL this
 rw[jk];have k4:Kp σ ((W.ew nl ((acc++[(na,nb,0)]).map tV)).ew c ((acc++[(na,nb,0)]).map mV)):=(kp.ew hn).ew U;have z:((W.ew nl ((acc++[(na,nb,0)]).map tV)).ew c ((acc++[(na,nb,0)]).map mV)).I x=some (d,f):=(ki k4.I x).trans hI;apply#[_,H.r0,x,d,f,rfl,z,_,H.r0,x,d,upd f 4 (.L c),_,rfl,cn _ _ _,cn _ _ _,h c _ k4 U (cn _ _ _)]
def gmb {P:Nat->Option Fn}(hP:P 6=some fn6)(bt:P 5=some fn5){n:Nat}{σ:St}{la lb db sj d:Addr}{f:Nat->Option V}{as bs:List Key}{rm:Key->Bool}{js:List Key}{Q:V->St->Prop}
  (hM:MAt σ x la lb db sj as bs rm js) (hI:σ.I x=some (d,f)) (f4:f 4=some .none) (ha:∀k∈as,vo k) (hb:∀k∈bs,vo k) (hs:bs.length<400000) (ar:as.length<400000)
  (h:∀σ' c L,Kp σ σ'->uf (Flm as bs rm λc=>decide (c∈js)) 0 as.length 0 bs.length L->σ.L c=none->σ'.L c=some ((mrg 0 0 0 L++[(as.length,bs.length,0)]).map mV)->Q (.L c) (σ'.jn x d (upd f 4 (.L c)))):jc P (n+2) 6 [.obj x] σ Q:=by
 apply#[fn6,hP,au 1,au 1,?_];have#[d',f',bd,f1,f2,f7,f8]:=hM.I;have#[rfl,rfl]:d=d'/\f=f':=by rw[hI]at bd;cases bd;apply#[rfl,rfl]
 have h0:frameOf fn6 [.obj x] 0=some (.obj x):=rfl;generalize frameOf fn6 [.obj x]=ρ at h0;apply#[.obj x,h0,x,d,f,.none,rfl,hI,f4,?_];apply eT h0 hI f1 ?_;apply#[_,hM.La,?_];apply eT h0 hI f2 ?_;apply#[_,hM.Lb,bx rfl,?_];apply#[_,rfl,rfl,?_];rw[aw,aw];apply#[_,rfl,_,rfl,bx rfl,bx rfl,λql ax=>?_];apply#[bx rfl,λml ao=>?_];have aj:ql≠ml:=λq=>by
  rw[<- q]at ao;have:upd σ.L ql _ ql=none:=ao;rw[cn]at this;cases this
 have N:QN σ ql ml:=#[aj,ax,(fg (j9 aj)).symm.trans ao];apply#[2*as.length+2,zg (HT σ x ql ml as bs (Flm as bs rm λc=>decide (c∈js))) ?_ (2*as.length+2) (2*as.length+1) (uj _) ?_]
 ·rintro w ρ' σ' ⟨q,mb,H,rfl,S,hw,bp,ag⟩ again br;apply#[_,H.r3,_,S.q,?_];rcases List.eq_nil_or_concat q with rfl|⟨q,r,rfl⟩
  ·apply iQ ?_;have#[L,bL,pL]:=ag [] .nil;rw[iD,dk]at pL;have J:=bL.ok λ_ _ _ _ _ h=>h.within;have W:L.length<400000:=by have:=eU (lo:=0) J.1 J.2 (λ_ _=>bq _) (bq _);(show gj .cG .b .bD (.k (.a .O .A) .B) ar this)
   apply#[_,H.r4,(by show(σ'.L ml).isSome=true;rw[S.m];rfl),mb.map zT,(by rw[S.m,jk];rfl),rfl,?_];rw[LJ pL J.2 λt ht=>(J.1 t ht).2];have S1:=S.setM N L;generalize (σ'.ew ml (L.map mV))=σ1 at S1;apply#[bx rfl,λnl U=>?_];have bl:ml≠nl:=λq=>by rw[<- q,S1.m]at U;cases U
   apply#[_,H.r4,L.map mV,(fg bl).trans S1.m,?_];apply qe (HV σ1 x nl as.length bs.length L) ?_ ?_ #[0,0,0,[],#[H.r0,H.r1,H.r2,rfl],(Kp.refl _).ew U,rfl,rfl,rfl,cn _ _ _,au _,rfl]
   ·intro t v ai σ2 hv I;have ht:t<L.length:=(aw (f:=mV) (as:=L))▸(cy.mp hv).1;rw[dq,aq ht]at hv;have rfl:=ah hv;have I':=I;have#[_,_,_,_,_,kp,_]:=I';apply#[kp.L _ _ S1.m,λkk bn=>#[_,AA,rfl,C7 U W ht I bn]]
   ·intro ai σ2 zz;have#[i,j,k,acc,H2,kp,r13,r14,r15,bc,z,hm]:=zz;rw[aw]at hm z;rw[qt]at hm;apply#[kp.L _ _ S1.m,?_];have ay:=S1.kp.noL U;apply xA H2.r16 r13 r14 r15 bc (by unfold bz;(show gj .bA .b .bD .A W z)) ?_;have hm:acc++(if k=0 then [] else [(i,j,k)])=mrg 0 0 0 L:=hm;have hl:(mrg 0 0 0 L).length<bz:=by
     rw[<- hm,bg];by_cases c0:k=0
     ·rw[cp c0];show acc.length+0<_;unfold bz;(show gj (.l (.a .A .O) .Y) .b .bD .A W z)
     ·rw[bb c0];show acc.length+1<_;unfold bz;(show gj (.l .M .Y) .b .bD .A W z)
    rw[hm];show GR hI ((S1.kp.trans kp).ew ay) H2 ay hl (cn _ _ _) λc be k4 hc e=>h be c L k4 bL hc e
  ·rw[List.concat_eq_append]at *;have:((q++[r]).map qV).isEmpty=false:=by rw[fu];cases q<;>rfl
   rw[this];apply iP ?_;show CQ bt hM ha hb hs ar N H S hw bp ag λw ai σ2 lt I=>br w ai σ2 lt I
 ·apply#[[(0,as.length,0,bs.length)],[],#[h0,rfl,rfl,rfl,rfl],?_,#[((Kp.refl σ).ew ax).ew N.m,(fg aj).trans (cn _ _ _),cn _ _ _],?_,?_,kB.start]
  ·simp[qw]
  ·simp[qw]
  ·intro r hr;rw[ak.mp hr];apply#[bq _,bq _,au _,au _]
end SM
namespace SM
open PySem
section
variable {P:Nat->Option Fn}{n:Nat}{Q:V->St->Prop}
variable {C:Cal}{σ:St}{ρ:Fr}{K:Fl->Fr->St->Prop}{ss:pq}{x d:Addr}{f:Nat->Option V}{i a b:Nat}{e:Ex}
def nA (v:V)(h:evV σ ρ e=some v)(W:ρ i=some (.obj x))(U:σ.I x=some (d,f))(k:gq C ss ρ (σ.jn x d (upd f a v)) K):gq C (.cons (.a [.attr (.l i) a] e) ss) ρ σ K:=
 jm e h #[.obj x,W,x,d,f,rfl,U,k]
def rO (v:V)(h:evV (σ.jn x d f) ρ e=some v)(W:ρ i=some (.obj x))(k:gq C ss ρ (σ.jn x d (upd f a v)) K):gq C (.cons (.a [.attr (.l i) a] e) ss) ρ (σ.jn x d f) K:=
 nA v h W kx (by rw[ux];show k)
def HW (v:V)(h:evV σ ρ e=some v)(W:ρ i=some (.obj x))(U:σ.I x=some (d,f))(k:gq C ss ρ (σ.jn x d (upd (upd f a v) b v)) K):gq C (.cons (.a [.attr (.l i) a,.attr (.l i) b] e) ss) ρ σ K:=
 jm e h #[.obj x,W,x,d,f,rfl,U,.obj x,W,x,d,_,rfl,kx,by rw[ux];show k]
def i6 (v:V)(h:evV (σ.jn x d f) ρ e=some v)(W:ρ i=some (.obj x))(k:gq C ss ρ (σ.jn x d (upd (upd f a v) b v)) K):gq C (.cons (.a [.attr (.l i) a,.attr (.l i) b] e) ss) ρ (σ.jn x d f) K:=
 HW v h W kx (by rw[ux];show k)
def n9 {es:Exs}{m:Nat}(vs:List V)(W:ρ i=some (.obj x))(U:(σ.I x).isSome=true)(h:mG σ ρ es=some vs)(k:C m (.obj x::vs) σ λv σ=>v=.none/\gq C ss ρ σ K):gq C (.cons (.expr (.meth (.l i) m es)) ss) ρ σ K:=
 #[.obj x,W,x,rfl,U,eS (Q:=λvs σ=>C m (.obj x::vs) σ λv σ=>v=.none/\gq C ss ρ σ K) es h k]
end
def BK (O:P 2=some fn2){x d la:Addr}{f:Nat->Option V}{σ:St}(W:σ.I x=some (d,f))(U:f 1=some .none)(h:Q .none (σ.jn x d (upd (upd (upd f 1 (.L la)) 4 .none) 5 .none))):jc P (n+1) 2 [.obj x,.L la] σ Q:=
 ⟨fn2,O,au 2,au 2,n8 (rN false (by
   show((σ.I x).bind λp=>p.2 1).bind _=_;rw[W];show(f 1).bind _=_;rw[U];rfl) (iQ (oo (nA (.L la) rfl rfl W (i6 .none rfl rfl (oo h))))))⟩
def BI (O:P 1=some fn1){x:Addr}{W U:V}{σ:St}(J:(σ.I x).isSome=true)(h:jc P n 2 [.obj x,W] σ λv σ=>v=.none/\(σ.I x).isSome=true/\jc P n 3 [.obj x,U] σ λv σ=>v=.none/\Q .none σ):jc P (n+1) 1 [.obj x,W,U] σ Q:=
 ⟨fn1,O,au 3,au 3,n8 (n9 [W] rfl J rfl (Eq.mp (di (jc P n 2 [.obj x,W] σ) (funext λv=>funext λσ'=>propext ⟨λq=>#[q.1,n9 [U] rfl q.2.1 rfl q.2.2],λq=>⟨q.1,by
  have#[_,_,e,y,e',z,_,e2,B]:=q;cases e;cases e';cases e2;apply#[z,B]⟩⟩)) h))⟩
def BJ (O:P 3=some fn3){x d lb:Addr}{f:Nat->Option V}{σ:St}(W:σ.I x=some (d,f))(U:f 2=some .none)
  (h:jc P n 4 [.obj x] (σ.jn x d (upd (upd (upd (upd f 2 (.L lb)) 4 .none) 5 .none) 6 .none)) λv σ=>v=.none/\Q .none σ):jc P (n+1) 3 [.obj x,.L lb] σ Q:=
 ⟨fn3,O,au 2,au 2,n8 (rN false (by
   show((σ.I x).bind λp=>p.2 2).bind _=_;rw[W];show(f 2).bind _=_;rw[U];rfl) (iQ (oo (nA (.L lb) rfl rfl W (i6 .none rfl rfl (rO .none rfl rfl (n9 [] rfl (by rw[kx];rfl) rfl h)))))))⟩
abbrev DW (aj:Bool)(as:List V):Prop:=as=[.bool aj]\/(as=[]/\aj=true)
def init (O:P 0=some fn0){x d:Addr}{U W:V}{aj:Bool}{as:List V}{σ:St}(has:DW aj as)(J:σ.I x=some (d,λ_=>none))
  (h:jc P n 1 [.obj x,U,W] (σ.jn x d (upd (upd (upd (upd (λ_=>none) 0 .none) 1 .none) 2 .none) 3 (.bool aj))) λv σ=>v=.none/\Q .none σ):jc P (n+1) 0 (.obj x::.none::U::W::as) σ Q:=by
 rcases has with rfl|⟨rfl,rfl⟩
 ·apply#[fn0,O,au 5,gv 5 4,n8 (nA .none rfl rfl J (i6 .none rfl rfl (rO (.bool aj) rfl rfl (n9 [U,W] rfl (by rw[kx];rfl) rfl h))))]
 ·apply#[fn0,O,fO 4,gv 5 3,n8 (nA .none rfl rfl J (i6 .none rfl rfl (rO (.bool true) rfl rfl (n9 [U,W] rfl (by rw[kx];rfl) rfl h))))]
def HN (hP:P 4=some fn4){x d lb:Addr}{f:Nat->Option V}{bs:List Key}{σ:St}(hI:σ.I x=some (d,f))(bp:f 0=some .none)(bn:f 2=some (.L lb)){aj:Bool}(bl:f 3=some (.bool aj))(bt:aj=true->bs.length<200)(hL:σ.L lb=some (bs.map Key.v))(hz:bs.length<bz)
  (h:∀σ₁ db W U,B2J (σ.jn x d (upd f 7 (.dct db))) σ₁ db bs->σ.D db=none->σ.S W=none->σ.S U=none->W≠U ->
   Q .none (((σ₁.xp W []).xp U []).jn x d (upd (upd (upd f 7 (.dct db)) 8 (.set W)) 9 (.set U)))):jc P (n+1) 4 [.obj x] σ Q:=by
 apply#[fn4,hP,by simp[fn4],by simp[fn4],?_];have h0:frameOf fn4 [.obj x] 0=some (.obj x):=rfl;generalize frameOf fn4 [.obj x]=ρ at h0;apply#[.obj x,h0,x,d,f,.L lb,rfl,hI,bn,?_];apply λdb br=>#[.obj x,h0,x,d,f,rfl,hI,?_];apply#[.L lb,rfl,lb,bs.map Key.v,rfl,hL,?_];apply qe (λi ρ' σ'=>ρ' 0=some (.obj x)/\ρ' 1=some (.L lb)/\ρ' 2=some (.dct db)/\B2J (σ.jn x d (upd f 7 (.dct db))) σ' db (bs.take i)) ?_ ?_ ?_
 ·intro i v ρ' σ' hv ⟨r0,r1,r2,J⟩;apply#[J.old lb _ hL,λk hk=>?_];have hi:i<bs.length:=by
   have:=(cy.mp hv).1;simpa using this
  have bc:v=.T [.int i,bs[i].v]:=by
   rw[dq,List.getElem?_zipIdx]at hv;simp[hi]at hv;show hv.symm
  subst bc;apply#[_,rfl,rfl,?_];apply#[.dct db,r2,?_,bs[i].v,rfl,?_]
  ·have#[es,z,_]:=J.tab;show(σ'.D db).isSome=true;rw[z];rfl
  apply#[bx rfl,λc hc=>?_];have#[es,z,O,c',e1,e2,ag]:=J.step hc bs[i];have ai:(bs.take i).length=i:=by simp;(show(Ar.iz _ _).2.2.elim (λq1=>(gj .D .g .A .a4 (Ar.iz _ _).1 q1)) λq1=>(oq .D .m .aQ .A .aX hi (Ar.iz _ _).1 q1))
  have bd:bs.take i++[bs[i]]=bs.take (i+1):=(ee hi).symm;rw[ai]at O ag;rw[bd]at ag;apply#[es,bs[i],z,xH _,by show mr .B .e .Q .bB .aH hz hi O,?_];rw[e1];apply#[.L c',rfl,?_,.int i,rfl,?_]
  ·show(St.L _ c').isSome=true;rw[e2];rfl
  apply#[iL bs[i] (bs.take i),e2,?_,rfl,?_]
  ·unfold iL posOf;have:=List.length_filter_le (λj=>decide ((bs.take i)[j]?=some bs[i])) (List.range (bs.take i).length);simp only[aw,yd]at this ⊢
   (show j5 .B .o .Q .bB (.e .F .D) (.k .A .F) hz hi ai this)
  show hk _ _ #[r0,r1,r2,ag]
 ·intro ρ' σ' ⟨r0,r1,r2,J⟩;have O:((bs.map Key.v).zipIdx.map λp=>V.T [.int p.2,p.1]).length=bs.length:=by simp
  rw[O,fx]at J;apply#[J.old lb _ hL,?_];have bu:σ'.I x=some (d,upd f 7 (.dct db)):=by rw[J.I];show kx
  intro W be _;apply#[.obj x,r0,x,d,_,rfl,bu,?_];apply#[.obj x,r0,x,d,_,.none,rfl,kx,by simp[upd,bp],?_];apply#[.none,rfl,λU ar _=>?_];have ay:W≠U:=λe=>by
   have:upd σ'.S W [] U=none:=ar;rw[<- e,cn]at this;cases this
  apply#[.obj x,r0,x,d,_,rfl,kx,?_];apply#[.L lb,r1,bs.map Key.v,J.old lb _ hL,?_];apply#[.obj x,r0,x,d,_,.bool aj,rfl,kx,by simp[upd,bl],?_];have ax:σ.S W=none:=by
   have:σ'.S W=none:=be;rw[J.S]at this;show this
  have ao:σ.S U=none:=by
   have:upd σ'.S W [] U=none:=ar;rw[fg (j9 ay),J.S]at this;show this
  have:=h σ' db W U J br ax ao ay;have e:((((σ'.xp W []).jn x d (upd (upd f 7 (V.dct db)) 8 (V.set W))).xp U []).jn x d (upd (upd (upd f 7 (V.dct db)) 8 (V.set W)) 9 (V.set U)))=(((σ'.xp W []).xp U []).jn x d (upd (upd (upd f 7 (.dct db)) 8 (.set W)) 9 (.set U))):=by
   unfold St.xp St.jn
   congr 1
   funext j
   simp only[upd];split<;>rfl
  rw[<- e]at this;cases aj with
  |false=>show this
  |true =>
   apply#[_,rfl,?_];have hd:decide ((200:Int)<=((bs.map Key.v).length:Nat))=false:=fp (by rw[aw];have:=bt rfl;(show fh (.ij (.n 200) .L) .a (.l .A (.n 200)) this));show if decide ((200:Int)<=((bs.map Key.v).length:Nat))=true then _ else _
   rw[hd];show this
 ·apply#[h0,rfl,rfl,B2J.start]
end SM
end MP
end
section
namespace MP
open PySem
variable {σ σ₁:St}{c:Addr}
structure Ext (σ σ':St):Prop where
 L:∀a xs,σ.L a=some xs->σ'.L a=some xs
 D:∀a es,σ.D a=some es->σ'.D a=some es
 S:∀a es,σ.S a=some es->σ'.S a=some es
 I:∀a es,σ.I a=some es->σ'.I a=some es
def Ext.refl (σ:St):Ext σ σ:=#[λ_ _ e=>e,λ_ _ e=>e,λ_ _ e=>e,λ_ _ e=>e]
def Ext.trans {σ₂:St}(h:Ext σ σ₁)(h':Ext σ₁ σ₂):Ext σ σ₂:=#[λ_ _ e=>h'.L _ _ (h.L _ _ e),λ_ _ e=>h'.D _ _ (h.D _ _ e),λ_ _ e=>h'.S _ _ (h.S _ _ e),λ_ _ e=>h'.I _ _ (h.I _ _ e)]
def Kp.ext {σ':St}(h:Kp σ σ'):Ext σ σ':=#[h.L,h.D,λ_ _ e=>by rw[h.S];show e,λ_ _ e=>by rw[h.I];show e]
def Ext.noL (h:Ext σ σ₁)(W:σ₁.L c=none):σ.L c=none:=by
 cases q:σ.L c with
 |none=>rfl
 |some xs=>rw[h.L _ _ q]at W;cases W
def gR {α:Type}{f g:Nat->Option α}(h:∀a x,f a=some x->g a=some x){c:Nat}{x:α}(W:f c=none):∀a y,f a=some y->upd g c x a=some y:=λa y e=>by
 have:a≠c:=λq=>by rw[q,W]at e;cases e
 rw[fg this];show h a y e
def Ext.ew (h:Ext σ σ₁){xs:List V}(W:σ.L c=none):Ext σ (σ₁.ew c xs):=#[gR h.L W,h.D,h.S,h.I]
def Ext.nj (h:Ext σ σ₁){xs:List (Key×V)}(W:σ.D c=none):Ext σ (σ₁.nj c xs):=#[h.L,gR h.D W,h.S,h.I]
def Ext.xp (h:Ext σ σ₁){xs:List Key}(W:σ.S c=none):Ext σ (σ₁.xp c xs):=#[h.L,h.D,gR h.S W,h.I]
def Ext.jn (h:Ext σ σ₁){d:Addr}{f:Nat->Option V}(W:σ.I c=none):Ext σ (σ₁.jn c d f):=#[h.L,h.D,h.S,gR h.I W]
def B2J.ext {σ₀:St}{db:Addr}{bs:List Key}(h:B2J σ₀ σ₁ db bs)(hd:σ₀.D db=none):Ext σ₀ σ₁:=
 #[h.old,λa es e=>by rw[h.D a (λq=>by rw[q,hd]at e;cases e)];show e,λ_ _ e=>by rw[h.S];show e,λ_ _ e=>by rw[h.I];show e]
def TabAt.ext {σ':St}{db:Addr}{bs:List Key}{rm:Key->Bool}(h:TabAt σ db bs rm)(k:Ext σ σ'):TabAt σ' db bs rm:=by
 have#[es,I,J,O]:=h;apply#[es,k.D _ _ I,J,λq U=>(O q U).imp_right λW=>by have#[c,z,B]:=W;apply#[c,z,k.L _ _ B]]
namespace SM
def make {P:Nat->Option Fn}(h0:P 0=some fn0)(h1:P 1=some fn1)(h2:P 2=some fn2)(h3:P 3=some fn3)(h4:P 4=some fn4){n:Nat}{la lb:Addr}{as bs:List Key}{es:Exs}{ρ:Fr}{Q:V->St->Prop}{aj:Bool}{B:List V}(ay:DW aj B)(ax:aj=true->bs.length<200)
  (hE:∀Q:List V->St->Prop,Q (.none::.L la::.L lb::B) σ->uv (jc P (n+4)) es ρ σ Q)
  (bc:σ.L la=some (as.map Key.v)) (O:σ.L lb=some (bs.map Key.v)) (hz:bs.length<bz)
  (h:∀σ' x d f db sj,Ext σ σ'->σ.I x=none->σ'.I x=some (d,f)->f 4=some .none->f 5=some .none->f 0=some .none->f 3=some (.bool aj)->MAt σ' x la lb db sj as bs (λ_=>false) []->Q (.obj x) σ'):wpE (jc P (n+4)) (.n es) ρ σ Q:=by
 rw[A5];apply hE _ ?_;intro x d hx;apply init h0 ay (d:=d) (cn _ _ _) ?_;apply BI h1 (by rw[kx];rfl) ?_;apply BK h2 kx rfl ?_;apply#[rfl,by rw[kx];rfl,?_];apply BJ h3 kx rfl ?_;rw[ux,ux,ux];apply HN h4 (lb:=lb) (bs:=bs) kx rfl rfl (aj:=aj) rfl ax O hz λσ₁ db W z J ar ai ag ao=>?_;apply#[rfl,rfl,rfl,rfl,?_];rw[ux]at J;generalize U:(upd (upd (upd (upd (upd (upd (upd (upd (upd (upd (upd (λx=>(none:Option V)) 0 V.none) 1 V.none) 2 V.none) 3 (V.bool aj)) 1 (V.L la)) 4 V.none) 5 V.none) 2 (V.L lb)) 4 V.none) 5 V.none) 6 V.none)=f at J ⊢;have be:Ext σ σ₁:=((Ext.refl σ).jn hx).trans (J.ext ar);have bd:σ₁.I x=some (d,upd f 7 (.dct db)):=by rw[J.I];show kx
 have E2:Ext σ ((σ₁.xp W []).xp z []):=(be.xp ai).xp ag;have bl:((σ₁.xp W []).xp z []).I x=some (d,upd f 7 (.dct db)):=bd;apply h _ x d (upd (upd (upd f 7 (.dct db)) 8 (.set W)) 9 (.set z)) db W (E2.jn hx) hx kx (by rw[<- U];rfl) (by rw[<- U];rfl) (by rw[<- U];rfl) (by rw[<- U];rfl) #[#[d,_,kx,by rw[<- U];rfl,by rw[<- U];rfl,rfl,rfl],E2.L _ _ bc,E2.L _ _ O,?_,?_]
 ·have#[es,q1,q2,q3]:=J.tabAt;apply#[es,q1,q2,q3]
 ·show upd (upd σ₁.S W []) z [] W=_;rw[fg ao,cn]
end SM
end MP
end
section
namespace MP
variable {L:List (Nat×Nat×Nat)}{i j k:Nat}
structure A0 (H:Nat->Nat->Prop)(alo ahi blo bhi i j k:Nat):Prop where
 ai:alo<=i
 ia:i+k<=ahi
 bj:blo<=j
 jb:j+k<=bhi
 eq:∀t,t<k->H (i+t) (j+t)
structure IV (H:Nat->Nat->Prop)(alo ahi blo bhi i j k:Nat):Prop where
 pos:0<k
 run:A0 H alo ahi blo bhi i j k
 max:∀i' j' k',0<k'->A0 H alo ahi blo bhi i' j' k'->k'<k\/(k'=k/\(i<i'\/(i=i'/\j<=j')))
inductive BT (H:Nat->Nat->Prop):Nat->Nat->Nat->Nat->List (Nat×Nat×Nat)->Prop
 |nil {alo ahi blo bhi:Nat}:(∀i j,alo<=i->i<ahi->blo<=j->j<bhi->¬H i j)->BT H alo ahi blo bhi []
 |node {alo ahi blo bhi i j k:Nat} {L R:List (Nat×Nat×Nat)}:IV H alo ahi blo bhi i j k->BT H alo i blo j L->BT H (i+k) ahi (j+k) bhi R->BT H alo ahi blo bhi (L++(i,j,k)::R)
section
variable {H:Nat->Nat->Prop}{alo ahi blo bhi:Nat}
def BT.ok (h:BT H alo ahi blo bhi L):(∀t∈L,Within alo ahi blo bhi t/\0<t.2.2)/\L.Pairwise um/\∀t∈L,A0 H alo ahi blo bhi t.1 t.2.1 t.2.2:=by
 induction h with
 |nil _=>refine#[λt h=>(by cases h),.nil,λt h=>(by cases h)]
 | @node alo ahi blo bhi i j k L R B _ _ hl hr =>
  have z:=B.run;have:=B.pos;have:=z.ai;have:=z.ia;have:=z.bj;have:=z.jb;apply#[λt I=>?_,?_,λt I=>?_]
  ·rcases cu.mp I with q|q
   ·have:=hl.1 t q;unfold Within at *
    (rename_i U O W;show#[#[(av .A .a .A this.1.1),#[(oz .F .b .aW .bW U this.1.2.1),#[(av .A .a .A this.1.2.2.1),(oz .F .b .aW .bW W this.1.2.2.2)]]],(fh .C .a .C this.2)])
   ·rcases cz.mp q with q|q
    ·subst q;unfold Within;simp only
     (rename_i J U O W;show#[#[(av .A .a .A U),#[(fc .F .a .F O),#[(av .A .a .A W),(fc .F .a .F this)]]],(fh .C .a .C J)])
    ·have:=hr.1 t q;unfold Within at *
     (rename_i z5 J U O W;show#[#[(fy .A .b .L .bX z5 this.1.1),#[(fc .F .a .F this.1.2.1),#[(fy .A .b .L .bX U this.1.2.2.1),(fc .F .a .F this.1.2.2.2)]]],(fh .C .a .C this.2)])
  ·rw[mq];apply#[hl.2.1,.cons (λu hu=>?_) hr.2.1,λt I u hu=>?_]
   ·have:=hr.1 u hu;unfold Within at this;unfold um;simp only
    (show#[(fc .F .a .F this.1.1),(fc .F .a .F this.1.2.2.1)])
   ·have:=hl.1 t I;unfold Within at this;unfold um;rcases cz.mp hu with q|q
    ·subst q;simp only
     (show#[(fc .F .a .F this.1.2.1),(fc .F .a .F this.1.2.2.2)])
    ·have:=hr.1 u q;unfold Within at this
     (rename_i W;show#[(oz .F .b .bW .aW W.1.2.1 this.1.1),(oz .F .b .bW .aW W.1.2.2.2 this.1.2.2.1)])
  ·rcases cu.mp I with q|q
   ·have:=hl.2.2 t q;apply#[this.ai,by have:=this.ia;(rename_i J U O W;show oz .F .b .aW .bW J this),this.bj,by have:=this.jb;(rename_i O W;show oz .F .b .aW .bW O this),this.eq]
   ·rcases cz.mp q with q|q
    ·subst q;show z
    ·have:=hr.2.2 t q;apply#[by have:=this.ai;(rename_i z6 z5 J U O W;show fy .A .b .L .bX z6 this),this.ia,by have:=this.bj;(rename_i J U O W;show fy .A .b .L .bX J this),this.jb,this.eq]
def lN {t:Nat×Nat×Nat}{R:List (Nat×Nat×Nat)}(U:cT L)(W:cT (t::R))(h:∀u∈L,Apart u t):cT (L++t::R):=by
 induction L with
 |nil=>show W
 |cons u L O =>
  cases L with
  |nil=>refine#[h u (.head _),W]
  |cons v L=>refine#[U.1,O U.2 λw hw=>h w (.tail _ hw)]
def BT.G2 (h:BT H alo ahi blo bhi L):cT L:=by
 induction h with
 |nil _=>trivial
 | @node alo ahi blo bhi i j k L R B hL hR ao aj =>
  have Rn:=B.run;have:=B.pos;have:=Rn.ai;have:=Rn.ia;have:=Rn.bj;have:=Rn.jb;have oL:=hL.ok;have oR:=hR.ok;apply lN ao ?_ ?_
  ·cases R with
   |nil=>trivial
   |cons u R =>
    apply#[?_,aj];rintro ⟨W,z⟩;have Ru:=oR.2.2 u (.head _);have hu:=(oR.1 u (.head _)).2;have:=Ru.ia;have:=Ru.jb;simp only at W z;have:=B.max i j (k+u.2.2) (av (.l .O .L) .a .U hu) ⟨by(rename_i z5 z4 z3 z2 J;show av .A .a .A z5),by(rename_i J;show oz .bZ .b (.e .L .F) (.k .aQ .D) W J),by(rename_i z3 z2 J;show av .A .a .A z3),by show oz .bZ .b (.e .L .F) (.k .aQ .D) z this,λt ht=>by
     by_cases c:t<k
     ·show Rn.eq t c
     ·have:=Ru.eq (t-k) (fy .B .b .cI .b1 ht (aa (av .A .a (.g .B .A) c)));have x1:u.1+(t-k)=i+t:=by(show oz .bC .x (.e .aL .A) .bM W (aa (av .A .a (.g .B .A) c)))
      have x2:u.2.1+(t-k)=j+t:=by(show DN .bC .p (.e .a9 .H) (.e (.a .C .G) .A) (.e (.a .H .B) .aG) W z x1)
      rw[x1,x2]at this;show this⟩
    (show this.elim (λI=>(av .ff .i (.l .L .A) I)) λI=>(gj .ff .c .C (.e .Z .B) hu I.1))
  ·intro u hu zz;have#[W,z]:=zz;have Ru:=oL.2.2 u hu;have ag:=(oL.1 u hu).2;have:=Ru.ai;have:=Ru.bj;simp only at W z;have:=B.max u.1 u.2.1 (u.2.2+k) (av (.l .O .L) .a .C ag) ⟨by(rename_i J;show av .A .a .A J),by(rename_i z4 z3 z2 J;show oz .bZ .b (.k .aQ .D) (.e .L .F) z4 W),by show av .A .a .A this,by(rename_i z2 J;show oz .bZ .b (.k .aQ .D) (.e .L .F) z2 z),λt ht=>by
    by_cases c:t<u.2.2
    ·show Ru.eq t c
    ·have:=Rn.eq (t-u.2.2) (fy .B .b .cI .b1 ht (aa (av .A .a (.g .B .A) c)));have x1:i+(t-u.2.2)=u.1+t:=by(show oz .bC .x (.e .aL .A) .bM W (aa (av .A .a (.g .B .A) c)))
     have x2:j+(t-u.2.2)=u.2.1+t:=by(show DN .bC .p (.e .a9 .H) (.e (.a .C .G) .A) (.e (.a .H .B) .aG) W z x1)
     rw[x1,x2]at this;show this⟩
   (show this.elim (λI=>(av .ff .i (.l .L .B) I)) λI=>(gj .ff .c .C (.e .L .B) ag I.1))
end
abbrev dZ (as bs:List Key)(i j:Nat):Prop:=hit as bs (λ_=>false) i j=true
def dZ.iff {as bs:List Key}:dZ as bs i j↔∃c,as[i]?=some c/\bs[j]?=some c:=by
 unfold dZ;rw[xd];simp
section
variable {as bs:List Key}{alo ahi blo bhi:Nat}
def wB.toH (h:wB as bs (λ_=>false) alo ahi blo bhi i j k)(hk:0<k):IV (dZ as bs) alo ahi blo bhi i j k:=
 #[hk,#[h.run.ai,h.run.ia,h.run.bj,h.run.jb,h.run.eq],λi' j' k' p R=>h.max i' j' k' p #[R.ai,R.ia,R.bj,R.jb,R.eq]]
def xT {ok:Key->Bool}(h:∀U W,i=U+1->j=W+1->alo<i->blo<j->hit as bs (λc=>!ok c) U W=true->False):zj as bs ok alo blo i j k=(i,j,k):=by
 cases i with
 |zero=>rfl
 |succ i =>
  cases j with
  |zero=>rfl
  |succ j =>
   rw[dR];rw[bb (λq=>h i j rfl rfl q.1 q.2.1 q.2.2)]
def xS {ok:Key->Bool}{n:Nat}(h:i+k<ahi->j+k<bhi->hit as bs (λc=>!ok c) (i+k) (j+k)=true->False):gE as bs ok ahi bhi n i j k=k:=by
 cases n with
 |zero=>rfl
 |succ n =>
  rw[yq];rw[bb (λq=>h q.1 q.2.1 q.2.2)]
def xN (h:hit as bs (λ_=>true) i j=true):False:=by
 have#[c,_,_,h]:=xd.mp h;cases h
def lW (h:wB as bs (λ_=>false) alo ahi blo bhi i j k):grow as bs (λ_=>false) alo ahi blo bhi i j k=(i,j,k):=by
 have R:=h.run;have l1:zj as bs (λ_=>true) alo blo i j k=(i,j,k):=by
  apply xT ?_;rintro i0 z rfl rfl c1 c2 U;have:=R.ia;have:=R.jb;have:=h.max i0 z (k+1) (nu (.l .O .M) .h) #[by show av .A .a .aM c1,by(rename_i I;show fc .K .a .bF I),by show av .A .a .aM c2,by show fc .K .a .bF this,λt ht=>?_]
  ·(show this.elim (λW=>(fh .ff .i (.l .M .A) W)) λW=>(fh .ff .i (.e .M .A) W.1))
  ·cases t with
   |zero=>show U
   |succ t =>
    have:=R.eq t (av .B .a (.l .M .P) ht);have x1:i0+(t+1)=i0+1+t:=by(show my .bV .n)
    have x2:z+(t+1)=z+1+t:=by(show my .bV .n)
    rw[x1,x2];show this
 have l2:∀n,gE as bs (λ_=>true) ahi bhi n i j k=k:=λn=>by
  apply xS ?_;intro c1 c2 U;have:=R.ai;have:=R.bj;have:=h.max i j (k+1) (nu (.l .O .M) .h) #[by(rename_i I;show av .A .a .A I),by show fc .K .a .J c1,by show av .A .a .A this,by show fc .K .a .J c2,λt ht=>?_]
  ·(show this.elim (λW=>(fh .ff .i (.l .M .A) W)) λW=>(fh .ff .i (.e .M .A) W.1))
  ·by_cases c:t<k
   ·show R.eq t c
   ·have:t=k:=by(show gj .D .g .aM .bH ht c)
    subst this;show U
 have l3:zj as bs (λ_=>false) alo blo i j k=(i,j,k):=xT λ_ _ _ _ _ _ U=>xN U;have l4:∀n,gE as bs (λ_=>false) ahi bhi n i j k=k:=λn=>xS λ_ _ U=>xN U;have t0:(λc:Key=>!((λ_=>false) c))=λ_=>true:=rfl;show(_,_,_)=_;simp only[Bool.not_false,l1,l2,l3,l4]
def uf.NI (h:uf (Flm as bs (λ_=>false) (λ_=>false)) alo ahi blo bhi L):BT (dZ as bs) alo ahi blo bhi L:=by
 induction h with
 | @nil alo ahi blo bhi i j hf =>
  have#[i',j',k',B,e]:=hf;rw[lW B]at e;cases e;apply .nil λi' j' a b c d hh=>?_;have:=B.max i' j' 1 (zo (.l .O .U) .h) ⟨a,by show av .S .a .B b,c,by show av .S .a .B d,λt ht=>by
   have:t=0:=by(show fh .N .t .cF ht)
   subst this;show hh⟩
  (show this.elim (λz=>(N1 .ff .i (.l .U .O) z)) λz=>(N1 .ff .i (.e .U .O) z.1))
 | @node alo ahi blo bhi i j k L R hf hk hL ao hR aj ai ag =>
  have#[i',j',k',B,e]:=hf;rw[lW B]at e;cases e;apply .node (B.toH hk) ?_ ?_
  ·by_cases c:alo<i/\blo<j
   ·show ai c.1 c.2
   ·rw[ao c];show .nil λi j a b c d=>by(rename_i z1;show λz=>((Ar.imp hL).elim (λI=>(oq .ff .j .A .aQ (.g .A .C) a b I)) λI=>((Ar.imp ai).elim (λJ=>(oq .ff .j .A .aQ (.g .A .C) a b J)) λJ=>((cm.mp z1).elim (λW=>(oq .ff .j .A .aQ (.g .A .C) a b W)) λW=>(oq .ff .j .A .aQ (.g .A .C) c d W)))))
  ·by_cases c:i+k<ahi/\j+k<bhi
   ·show ag c.1 c.2
   ·rw[aj c];show .nil λi j a b c d=>by(rename_i z1;show λz=>((Ar.imp hR).elim (λI=>(mr .ff .j .F .V (.g .L .D) a b I)) λI=>((Ar.imp ag).elim (λJ=>(mr .ff .j .F .V (.g .L .D) a b J)) λJ=>((cm.mp z1).elim (λW=>(mr .ff .j .F .V (.g .L .D) a b W)) λW=>(mr .ff .j .F .V (.g .L .D) c d W)))))
end
end MP
end
section
namespace MP
open PySem
def mapM_some {α W:Type}{f:α->Option W}{g:α->W}{xs:List α}(h:∀x∈xs,f x=some (g x)):xs.mapM f=some (xs.map g):=by
 induction xs with
 |nil=>rfl
 |cons x r U=>rw[List.mapM_cons,h x (.head _),U λy O=>h y (.tail _ O)];rfl
namespace SM
end SM
public abbrev iV (xs:List Int):List V:=xs.map V.int
def M3 (xs:List Int):(xs.map Key.int).map Key.v=iV xs:=by rw[jk];rfl
def IH (xs:List Int):∀k∈xs.map Key.int,vo k:=by
 intro k hk;have#[x,_,rfl]:=fj.mp hk;trivial
structure j8 (x:Addr)(σ σ':St):Prop where
 L:∀a xs,σ.L a=some xs->σ'.L a=some xs
 D:∀a es,σ.D a=some es->σ'.D a=some es
 S:∀a es,σ.S a=some es->σ'.S a=some es
 I:∀a es,a≠x->σ.I a=some es->σ'.I a=some es
def Ext.x {σ σ':St}{x:Addr}(h:Ext σ σ'):j8 x σ σ':=#[h.L,h.D,h.S,λa es _ e=>h.I a es e]
def j8.trans {x:Addr}{σ σ₁ σ₂:St}(h:j8 x σ σ₁)(h':j8 x σ₁ σ₂):j8 x σ σ₂:=#[λ_ _ e=>h'.L _ _ (h.L _ _ e),λ_ _ e=>h'.D _ _ (h.D _ _ e),λ_ _ e=>h'.S _ _ (h.S _ _ e),λ_ _ n e=>h'.I _ _ n (h.I _ _ n e)]
def j8.jn {x d:Addr}{f:Nat->Option V}{σ σ₁:St}(h:j8 x σ σ₁):j8 x σ (σ₁.jn x d f):=#[h.L,h.D,h.S,λa es n e=>(fg n).trans (h.I a es n e)]
def j8.ext {x:Addr}{σ₀ σ σ':St}(h:j8 x σ σ')(E:Ext σ₀ σ)(W:σ₀.I x=none):Ext σ₀ σ':=#[λ_ _ e=>h.L _ _ (E.L _ _ e),λ_ _ e=>h.D _ _ (E.D _ _ e),λ_ _ e=>h.S _ _ (E.S _ _ e),λa _ e=>h.I _ _ (λq=>by rw[q,W]at e;cases e) (E.I _ _ e)]
namespace SM
open PySem
def O5:=Str×Nat×Nat×Nat×Nat
abbrev oV (t:O5):V:=.T [.str t.1,.int t.2.1,.int t.2.2.1,.int t.2.2.2.1,.int t.2.2.2.2]
abbrev chg (i a j b:Nat):List O5:=if i<a/\j<b then [("replace",i,a,j,b)] else if i<a then [("delete",i,a,j,b)] else if j<b then [("insert",i,a,j,b)] else []
abbrev eql (a b s:Nat):List O5:=if s=0 then [] else [("equal",a,a+s,b,b+s)]
abbrev codes:Nat->Nat->List T3->List O5
 |_,_,[]=>[]
 |i,j,t::r=>chg i t.1 j t.2.1++(eql t.1 t.2.1 t.2.2++codes (t.1+t.2.2) (t.2.1+t.2.2) r)
def HL (i a j b:Nat):(chg i a j b).length<=1:=by
 unfold chg;split
 ·show au _
 ·split
  ·show au _
  ·split
   ·show au _
   ·show bq _
def H7 (a b s:Nat):(eql a b s).length<=1:=by
 unfold eql;split
 ·show bq _
 ·show au _
section
variable {C:Cal}{σ:St}{ρ:Fr}{K:Fl->Fr->St->Prop}{ss:pq}{al:Addr}{acc:List O5}{i j a b s:Nat}
def ev5 {I J O U W:Ex}{t:Str}(h1:evV σ ρ I=some (.str t))(h2:evV σ ρ J=some (.int i))(h3:evV σ ρ O=some (.int a))(z:evV σ ρ U=some (.int j))(B:evV σ ρ W=some (.int b)) :
  evV σ ρ (.T %[I,J,O,U,W|0])=some (oV (t,i,a,j,b)):=by
 rw[aO,gn,h1,gn,h2,gn,h3,gn,z,gn,B];rfl
structure R8o (ρ:Fr)(x al:Addr)(i j a b s:Nat):Prop where
 r0:ρ 0=some (.obj x)
 r1:ρ 1=some (.int i)
 r2:ρ 2=some (.int j)
 r3:ρ 3=some (.L al)
 r4:ρ 4=some (.int a)
 r5:ρ 5=some (.int b)
 r6:ρ 6=some (.int s)
def pR {x:Addr}{t:Str}(H:R8o ρ x al i j a b s)(W:ρ 7=some (.str t))(U:Nat.ble t.cps.size bz=true)(O:(t.cps.size != 0)=true)(J:σ.L al=some (acc.map oV))(hl:acc.length<bz)
  (h:gq C ss ρ (σ.ew al ((acc++[(t,i,a,j,b)]).map oV)) K) :
  gq C (.cons (.C (.l 7) %[.expr (.bm .append (.l 3) %[.T %[.l 7,.l 1,.l 4,.l 2,.l 5|0]|0])|0] .nil) ss) ρ σ K:=by
 apply#[_,W,bx U,?_];rw[O];apply iP (fJ (oV (t,i,a,j,b)) H.r3 J (ev5 W H.r1 H.r4 H.r2 H.r5) (by rw[aw];show hl) (oo ?_));rw[fu]at h;show h
def AK {t:Ex}{e:pq}(W:ρ 7=some (.str ""))(h:gq C ss ρ σ K):gq C (.cons (.C (.l 7) e .nil) ss) ρ σ K:=by
 apply#[_,W,bq _,?_];show iQ (oo h)
def HM {x:Addr}(H:R8o ρ x al i j a b s)(U:ρ 7=some (.str ""))(W:σ.L al=some (acc.map oV))(hl:acc.length<bz)
  (h:∀ρ',R8o ρ' x al i j a b s->gq C ss ρ' (σ.ew al ((acc++chg i a j b).map oV)) K) :
  gq C (.cons (.C (.and (.c .lt (.l 1) (.l 4)) (.c .lt (.l 2) (.l 5))) (.cons (.a [(.v 7)] (.str "replace"))
 .nil) (.cons (.C (.c .lt (.l 1) (.l 4)) (.cons (.a [(.v 7)] (.str "delete"))
 .nil) (.cons (.C (.c .lt (.l 2) (.l 5)) (.cons (.a [(.v 7)] (.str "insert"))
 .nil) .nil)
 .nil))
 .nil))
 (.cons (.C (.l 7) (.cons (.expr (.bm .append (.l 3) %[.T %[.l 7,.l 1,.l 4,.l 2,.l 5|0]|0]))
 .nil) .nil) ss)) ρ σ K:=by
 have up:∀v,R8o (upd ρ 7 v) x al i j a b s:=λv=>#[H.r0,H.r1,H.r2,H.r3,H.r4,H.r5,H.r6];unfold chg at h;apply rM (i<a/\j<b) (vn (vd H.r1 H.r4) (vd H.r2 H.r5)) (λc=>?_) λc=>?_
 ·rw[cp c]at h;show jQ (.str "replace") rfl (oo (pR (up _) rfl (by decide +kernel) (by decide +kernel) W hl (h _ (up _))))
 ·rw[bb c]at h;apply rM (i<a) (vd H.r1 H.r4) (λc=>?_) λc=>?_
  ·rw[cp c]at h;show jQ (.str "delete") rfl (dX (oo (pR (up _) rfl (by decide +kernel) (by decide +kernel) W hl (h _ (up _)))))
  ·rw[bb c]at h;apply rM (j<b) (vd H.r2 H.r5) (λc=>?_) λc=>?_
   ·rw[cp c]at h;show jQ (.str "insert") rfl (dX (dX (oo (pR (up _) rfl (by decide +kernel) (by decide +kernel) W hl (h _ (up _))))))
   ·rw[bb c,dk,uw W]at h;show dX (dX (oo (AK (t:=.none) U (h _ H))))
def H8 {x:Addr}(H:R8o ρ x al i j a b s)(W:σ.L al=some (acc.map oV))(hl:acc.length<bz)
  (h:∀ρ',ρ' 0=some (.obj x)->ρ' 1=some (.int (a+s:Nat))->ρ' 2=some (.int (b+s:Nat))->ρ' 3=some (.L al)->gq C ss ρ' (σ.ew al ((acc++eql a b s).map oV)) K) :
  gq C (.cons (.a [.T [1,2]] (.T %[.b .add (.l 4) (.l 6),.b .add (.l 5) (.l 6)|0]))
 (.cons (.C (.l 6) (.cons (.expr (.bm .append (.l 3) %[.T %[.str "equal",.l 4,.l 1,.l 5,.l 2|0]|0]))
 .nil) .nil) ss)) ρ σ K:=by
 apply y8 [.int (a+s:Nat),.int (b+s:Nat)] ?_ rfl ?_
 ·rw[aO,gn,km (a:=.l 4) (b:=.l 6) H.r4 H.r6,gn,km (a:=.l 5) (b:=.l 6) H.r5 H.r6];rfl
 unfold eql at h;apply rM (s≠0) (iW (x:=6) (k:=s) H.r6) (λc=>?_) λc=>?_
 ·rw[bb c,fu]at h;show fJ (oV ("equal",a,a+s,b,b+s)) H.r3 W (ev5 rfl H.r4 rfl H.r5 rfl) (by rw[aw];show hl) (oo (h _ H.r0 rfl rfl H.r3))
 ·rw[cp (fS.mp c),dk,uw W]at h;show oo (h _ H.r0 rfl rfl H.r3)
end
def xi {σ:St}{a:Addr}{xs ys:List V}:(σ.ew a xs).ew a ys=σ.ew a ys:=by
 unfold St.ew
 congr 1
 funext j
 simp only[upd];split<;>rfl
inductive N9 (x:Addr)(σ:St)(al:Addr)(Ls:List T3)(t:Nat)(ρ:Fr)(σ':St):Prop
 |mk (i j:Nat) (acc:List O5):ρ 0=some (.obj x)->ρ 1=some (.int i)->ρ 2=some (.int j)->ρ 3=some (.L al)->(∃ys,σ'=σ.ew al ys)->σ'.L al=some (acc.map oV)->acc.length<=2*t->acc++codes i j (Ls.drop t)=codes 0 0 Ls->N9 x σ al Ls t ρ σ'
def FX {P:Nat->Option Fn}(hP:P 7=some fn7)(cc:P 6=some fn6)(cd:P 5=some fn5){n:Nat}{σ:St}{x la lb db sj d:Addr}{f:Nat->Option V}{as bs:List Key}{rm:Key->Bool}{js:List Key}{Q:V->St->Prop}
  (hM:MAt σ x la lb db sj as bs rm js) (hI:σ.I x=some (d,f)) (f4:f 4=some .none) (f5:f 5=some .none) (ha:∀k∈as,vo k) (hb:∀k∈bs,vo k) (hs:bs.length<400000) (bd:as.length<400000)
  (h:∀σ' c L g,j8 x σ σ'->uf (Flm as bs rm λc=>decide (c∈js)) 0 as.length 0 bs.length L->σ.L c=none->σ'.I x=some (d,g)->(∀m,m≠4->m≠5->g m=f m)->(mrg 0 0 0 L).length<=L.length ->
   σ'.L c=some ((codes 0 0 (mrg 0 0 0 L++[(as.length,bs.length,0)])).map oV)->Q (.L c) σ'):jc P (n+3) 7 [.obj x] σ Q:=by
 apply#[fn7,hP,au 1,au 1,?_];have#[d',f',bu,f1,f2,f7,f8]:=hM.I;have#[rfl,rfl]:d=d'/\f=f':=by rw[hI]at bu;cases bu;apply#[rfl,rfl]
 have h0:frameOf fn7 [.obj x] 0=some (.obj x):=rfl;generalize frameOf fn7 [.obj x]=ρ at h0;apply#[.obj x,h0,x,d,f,.none,rfl,hI,f5,?_];apply#[bx rfl,λal ao=>?_];apply#[.obj x,h0,x,d,f,rfl,hI,?_];have bc:((σ.ew al []).jn x d (upd f 5 (.L al))).I x=some (d,upd f 5 (.L al)):=kx;have E2:j8 x σ ((σ.ew al []).jn x d (upd f 5 (.L al))):=(((Ext.refl σ).ew ao).x).jn;have M2:MAt ((σ.ew al []).jn x d (upd f 5 (.L al))) x la lb db sj as bs rm js:=by
  apply#[#[d,_,kx,f1,f2,f7,f8],E2.L _ _ hM.La,E2.L _ _ hM.Lb,?_,E2.S _ _ hM.S];have D2:=hM.D.ext ((Ext.refl σ).ew (xs:=[]) ao);show D2
 have ai:((σ.ew al []).jn x d (upd f 5 (.L al))).L al=some []:=cn _ _ _;generalize ((σ.ew al []).jn x d (upd f 5 (.L al)))=σ2 at bc E2 M2 ai;apply#[.obj x,h0,x,rfl,by rw[bc];rfl,?_];apply gmb cc cd M2 bc f4 ha hb hs bd λag c L k3 b bn hc=>?_;have bp:=k3.L _ _ ai;have bl:c≠al:=λq=>by rw[q,ai]at bn;cases bn
 have E3:j8 x σ (ag.jn x d (upd (upd f 5 (.L al)) 4 (.L c))):=(E2.trans k3.ext.x).jn;have ar:(mrg 0 0 0 L).length<=L.length:=by
  have:∀(L:List T3) (i j k:Nat),(mrg i j k L).length<=L.length+(if k=0 then 0 else 1):=by
   intro L;induction L with
   |nil =>
    intro i j k;dsimp only[mrg];by_cases c0:k=0
    ·rw[cp c0];show bq _
    ·rw[bb c0,bb c0];show au _
   |cons t r ih =>
    intro i j k;have#[i',j',k']:=t;dsimp only[mrg];rw[iq];split
    ·have:=ih i j (k+k');by_cases c0:k=0
     ·subst c0;rw[cp rfl];by_cases c1:0+k'=0
      ·rw[cp c1]at this;(show av .cM .a .cN this)
      ·rw[bb c1]at this;(show av .cM .a .R this)
     ·rw[bb c0];rw[bb ((ae c0).elim (λq1=>(av (.u .L .O) .i .b9 q1)) λq1=>(av (.u .L .O) .a .C q1))]at this
      (show av (.k .A (.a .P .U)) .a .R this)
    ·by_cases c0:k=0
     ·rw[cp c0,cp c0];have:=ih i' j' k';by_cases c1:k'=0
      ·rw[cp c1]at this;(show av .cM .a .cN this)
      ·rw[bb c1]at this;(show av .cM .a .R this)
     ·rw[bb c0,bb c0,iq];have:=ih i' j' k';by_cases c1:k'=0
      ·rw[cp c1]at this;(show av (.k .M (.a .P .U)) .a .cN this)
      ·rw[bb c1]at this;(show av (.k .M (.a .P .U)) .a .R this)
  have:=this L 0 0 0
  rwa [cp rfl]at this
 have be:=b.ok λ_ _ _ _ _ h=>h.within;have bt:L.length<400000:=by have:=eU (lo:=0) be.1 be.2 (λ_ _=>bq _) (bq _);(show gj .cG .b .bD (.k (.a .O .A) .B) bd this)
 have z:(ag.jn x d (upd (upd f 5 (.L al)) 4 (.L c))).L c=some ((mrg 0 0 0 L++[(as.length,bs.length,0)]).map mV):=hc;have W:(ag.jn x d (upd (upd f 5 (.L al)) 4 (.L c))).L al=some []:=bp;have ay:(ag.jn x d (upd (upd f 5 (.L al)) 4 (.L c))).I x=some (d,upd (upd f 5 (.L al)) 4 (.L c)):=kx;have hg:∀m,m≠4->m≠5->(upd (upd f 5 (.L al)) 4 (.L c)) m=f m:=λm h4 h5=>(fg h4).trans (fg h5);generalize (upd (upd f 5 (.L al)) 4 (.L c))=g at hg ay z W E3;generalize ag.jn x d g=bv at ay z W E3;generalize br:mrg 0 0 0 L++[(as.length,bs.length,0)]=Ls at z;have ax:Ls.length<=400000:=by rw[<- br,bg,kf];(show gj (.k .M .a6) .b .A .bD ar bt)
 apply#[_,z,?_];apply qe (N9 x bv al Ls) ?_ ?_ #[0,0,[],h0,rfl,rfl,rfl,#[[],(uw W).symm],W,bq _,rfl]
 ·intro t v ρ' σ' hv zz;have#[i,j,acc,r0,r1,r2,r3,#[ys,rfl],aj,J,e]:=zz;apply#[(fg bl).trans z,λkk cb=>?_];rw[dq]at hv;have#[u,hu,rfl]:=omap hv;have#[ht,ca]:=cy.mp hu;rw[cg ht,ca]at e;have#[a,b',s]:=u;apply#[_,AA (t:=(a,b',s)),rfl,?_];apply jQ (.str "") rfl ?_;apply HM (x:=x) (al:=al) (i:=i) (j:=j) (a:=a) (b:=b') (s:=s) (acc:=acc) #[r0,r1,r2,r3,rfl,rfl,rfl] rfl aj (by unfold bz;(show oq .bA [[1,2,1,2]] (.k .B .a6) (.k .A (.m 2 .C)) .Q ax J ht)) λcj H2=>?_;have h1:=HL i a j b';apply H8 H2 (acc:=acc++chg i a j b') (cn _ _ _) (by rw[bg];unfold bz;(show mZ (.l .L .Y) [[1,2,1,2,1]] (.k .C .a6) (.k .A (.m 2 .D)) .bB (.k .B .U) ax J ht h1)) λch q0 q1 q2 q3=>?_;have h2:=H7 a b' s;rw[xi,xi];apply oo (cb _ _ #[a+s,b'+s,acc++chg i a j b'++eql a b' s,q0,q1,q2,q3,#[_,rfl],cn _ _ _,?_,?_])
  ·rw[bg,bg];(show mr (.k (.a .L .C) (.m 2 .a0)) .e (.k .A (.m 2 .D)) (.k .B .U) (.k .C .U) J h1 h2)
  ·rw[<- e,az,az];rfl
 ·intro ρ' σ' zz;have#[i,j,acc,r0,r1,r2,r3,#[ys,rfl],aj,J,e]:=zz;apply#[(fg bl).trans z,?_];rw[aw,qt]at e;have e:acc++[]=codes 0 0 Ls:=e;rw[dk]at e;apply IU (.L al) r3 ?_;apply h _ al L g #[λa xs e1=>?_,E3.D,E3.S,E3.I] b ao ay hg ar ?_
  ·have:a≠al:=λq=>by rw[q,ao]at e1;cases e1
   show(fg this).trans (E3.L a xs e1)
  ·rw[br,<- e];show aj
end SM
end MP
end
section
namespace MP
open PySem SM
public abbrev ks (xs:List Int):List Key:=xs.map Key.int
def dZ.ints {xs ys:List Int}{i j:Nat}:dZ (ks xs) (ks ys) i j↔∃c,xs[i]?=some c/\ys[j]?=some c:=by
 rw[dZ.iff];constructor
 ·rintro ⟨c,U,W⟩;rw[dq]at U W;have#[x,J,rfl]:=omap U;have#[y,O,e]:=omap W;cases e;apply#[_,J,O]
 ·rintro ⟨c,U,W⟩;apply#[.int c,by rw[dq,U];rfl,by rw[dq,W];rfl]
def P2:=Nat×Nat
abbrev stp (k:Nat)(p q:P2):List O5:=if p=q then [] else [(if k%2=0 then "equal" else if p.1=q.1 then "insert" else if p.2=q.2 then "delete" else "replace",p.1,q.1,p.2,q.2)]
abbrev sC:Nat->P2->List P2->List O5
 |_,_,[]=>[]
 |k,p,q::r=>stp k p q++sC (k+1) q r
abbrev wj (L:List T3):List P2:=L.flatMap λt=>[(t.1,t.2.1),(t.1+t.2.2,t.2.1+t.2.2)]
abbrev u7:Nat->Nat->List T3->Prop
 |_,_,[]=>True
 |i,j,t::r=>i<=t.1/\j<=t.2.1/\u7 (t.1+t.2.2) (t.2.1+t.2.2) r
def u7.of:∀{L:List T3} {i j:Nat},L.Pairwise um->(∀t∈L,i<=t.1/\j<=t.2.1)->u7 i j L
 | [],i,j=>λ_ _=>trivial
 |t::L,i,j=>λW h=>by
  have#[O,W]:=og.mp W;apply#[(h t (.head _)).1,(h t (.head _)).2,u7.of W λu U=>O u U]
def wL {k i j a b:Nat}(hk:k%2=1)(I:i<=a)(z:j<=b):stp k (i,j) (a,b)=chg i a j b:=by
 unfold stp chg;rw[bb (show ¬k%2=0 by show fh (.u .A .O) .y (.e .A .U) hk)];by_cases c1:i=a
 ·subst c1;rw[bb (show ¬(i<i/\j<b) by show λW=>(fh .ff .i (.l .A .A) W.1)),bb (je i)];by_cases c2:j=b
  ·subst c2;rw[cp rfl,bb (je j)]
  ·rw[bb (λq=>c2 (ke q).2),cp (show j<b by show(ae c2).elim (λW=>(av .B .a .B W)) λW=>(gj .B .c .A .Y z W)),cp rfl]
 ·rw[bb (λq=>c1 (ke q).1)];by_cases c2:j=b
  ·subst c2;rw[bb (show ¬(i<a/\j<j) by show λW=>(fh .ff .i (.l .A .A) W.2)),cp (show i<a by show(ae c1).elim (λW=>(av .B .a .B W)) λW=>(gj .B .c .A .Y I W)),bb (show ¬((i,j).1=(a,j).1) from c1),cp rfl]
  ·rw[cp (show i<a/\j<b by show#[((ae c1).elim (λW=>(av .B .a .B W)) λW=>(gj .B .c .A .Y I W)),((ae c1).elim (λW=>((ae c2).elim (λJ=>(av .B .a .B J)) λJ=>(gj .B .c .A .Y z J))) λW=>(fy .B .c .a0 .bB I W))]),bb (show ¬((i,j).1=(a,b).1) from c1),bb (show ¬((i,j).2=(a,b).2) from c2)]
def AL {k a b s:Nat}(hk:k%2=0):stp k (a,b) (a+s,b+s)=eql a b s:=by
 unfold stp eql;rw[cp hk];by_cases c:s=0
 ·subst c;show(cp (show(a,b)=(a+0,b+0) from rfl)).trans (cp (show(0:Nat)=0 from rfl)).symm
 ·rw[bb c,bb (λq=>c (by have:=(ke q).1;(show av .N [[1,0],[1,-1]] (.e .B .Z) this)))]
def jC:∀{L:List T3} {k i j na nb:Nat},k%2=1->u7 i j (L++[(na,nb,0)])->sC k (i,j) (wj L++[(na,nb)])=codes i j (L++[(na,nb,0)])
 | [],k,i,j,na,nb=>λhk h=>by
  show stp k (i,j) (na,nb)++[]=chg i na j nb++([]++[]);rw[wL hk (show i<=na from h.1) (show j<=nb from h.2.1)];rfl
 |(a,b,s)::L,k,i,j,na,nb=>λhk h=>by
  have W:=jC (L:=L) (k:=k+2) (i:=a+s) (j:=b+s) (na:=na) (nb:=nb) ((Nat.add_mod_right k 2).trans hk) h.2.2;show stp k (i,j) (a,b)++(stp (k+1) (a,b) (a+s,b+s)++sC (k+2) (a+s,b+s) (wj L++[(na,nb)]))=_;rw[wL hk h.1 h.2.1,AL (show(k+1)%2=0 by rw[Nat.add_mod,hk]),W];rfl
section
variable {H:Nat->Nat->Prop}{na nb:Nat}{S S':Nat->Nat->Prop}{i j k a b r:Nat}
end
variable {σ:St}
abbrev Gv (C:Cal)(ρ:Fr)(σb:St)(e:Ex)(xs:List V):Prop:=∀(σ:St) (Q:V->St->Prop),Ext σb σ->(∀c σ',Ext σ σ'->σ'.L c=some xs->Q (.L c) σ')->wpE C e ρ σ Q
abbrev Fv (C:Cal)(ρ:Fr)(σb:St)(e:Ex)(xs:List V):Prop:=∀(σ:St) (Q:V->St->Prop),Ext σb σ->(∀c σ',Ext σ σ'->σ.L c=none->σ'.L c=some xs->Q (.L c) σ')->wpE C e ρ σ Q
section
variable {C:Cal}{ρ:Fr}{σb:St}{e f:Ex}{xs ys:List V}
def Gv.l {x:Nat}{l:Addr}(W:ρ x=some (.L l))(hl:σb.L l=some xs):Gv C ρ σb (.l x) xs:=λσ Q E k=>#[_,W,k l σ (Ext.refl σ) (E.L _ _ hl)]
def Gv.slc {lo hi:Ex}{i j:Int}(h:Gv C ρ σb e xs)(J:∀σ,Ext σb σ->∃v,evV σ ρ lo=some v/\hU 0 v=some i)(I:∀σ,Ext σb σ->∃v,evV σ ρ hi=some v/\hU xs.length v=some j)(h1:i.natAbs<2^60)(h2:j.natAbs<2^60) :
  Fv C ρ σb (.slc e lo hi) ((xs.take (iw xs.length j)).drop (iw xs.length i)):=λσ Q E k=>by
 apply h σ _ E λa W U ha=>?_;have#[v,ev,iv]:=J W (E.trans U);have#[u,eu,iu]:=I W (E.trans U);apply jm (Q:=λz σ=>wpE C hi ρ σ λO σ=>wD (.L a) z O σ Q) lo ev ?_;apply jm (Q:=λO σ=>wD (.L a) v O σ Q) hi eu ?_;apply#[xs,i,j,ha,iv,iu,h1,h2,λc B=>k c _ (U.ew (U.noL B)) (U.noL B) (cn _ _ _)]
def zK {α:Type}{us:List α}{G:St->Prop}{T:V->Fr->List V->St->(Fr->List V->St->Prop)->Prop}{K:Fr->List V->St->Prop}(f:α->V)(g:α->List V)(hg:∀v∈us,(g v).length<=1)(Inv:Fr->Prop)(J:G σ)
  (hT:∀v∈us,∀ρ acc I,Inv ρ->acc.length<us.length->(∀ρ',Inv ρ'->I ρ' (acc++g v) σ)->T (f v) ρ acc σ I) {ρ:Fr} (hi:Inv ρ) (hK:∀ρ,K ρ (us.flatMap g) σ):mF (us.map f) G T ρ [] σ K:=by
 have go:∀(ws vs:List α) (ρ:Fr) (acc:List V),vs++ws=us->acc=vs.flatMap g->acc.length<=vs.length->Inv ρ->mF (ws.map f) G T ρ acc σ K:=by
  intro ws;induction ws with
  |nil =>
   intro vs ρ acc e O _ _;rw[dk]at e;subst e;subst O;apply#[J,hK ρ]
  |cons w ws z =>
   intro vs ρ acc e O hl hi;have hw:w∈us:=by rw[<- e];show dt _ (.head _)
   have hn:us.length=vs.length+(ws.length+1):=by rw[<- e,bg,iq]
   have:=hg w hw;apply#[J,hT w hw ρ acc _ hi (fy .B .d .L (.e .B .aT) hl hn) λρ' W=>z (vs++[w]) ρ' _ (by rw[az];show e) (by rw[O,dD,List.flatMap_cons,List.flatMap_nil,dk]) (by rw[bg,bg,kf];(show fb (.k .L .T) .b .L (.k .B .U) hl this)) W]
 show go us [] ρ [] rfl rfl (au _) hi
abbrev Gives (C:Cal)(σ:St)(ρ:Fr)(cs:Exs)(el:Ex)(r:List V):Prop:=∃ok:Bool,(∀Q:Bool->St->Prop,Q ok σ->yi C cs ρ σ Q)/\if ok then ∃w,evV σ ρ el=some w/\r=[w] else r=[]
def Gives.one {el:Ex}{w:V}(h:evV σ ρ el=some w):Gives C σ ρ .nil el [w]:=#[true,λQ q=>q,w,h,rfl]
def Fv.K {α:Type}{us:List α}{fv:List (Nat×Nat)}{t:Tg}{cs:Exs}{el:Ex}{u:α->V}(g:α->List V)(Inv:Fr->Prop)(J:Gv C ρ σb e (us.map u))(hi:Inv (dT fv ρ))(z:us.length<=bz)
  (hb:∀σ,Ext σb σ->∀v∈us,∀ρ',Inv ρ'->∀K:Fr->Prop,(∀W,Inv W->Gives C σ W cs el (g v)->K W)->qi t (u v) σ ρ' K):Fv C ρ σb (.K fv (.seq e) t cs (.elt el)) (us.flatMap g):=λσ Q E k=>by
 rw[s8,s6];apply J σ _ E λa O E1 ha=>#[_,ha,?_];have hg:∀v∈us,(g v).length<=1:=λv hv=>by
  have:=hb O (E.trans E1) v hv _ hi (λ_=>(g v).length<=1) λW _ G=>by
   have#[ok,_,h]:=G;cases ok with
   |true=>have#[w,_,e]:=h;rw[e];show au _
   |false=>rw[show g v=[] from h];show bq _
  cases t with
  |v x=>show this
  |T ys=>have#[_,_,_,this]:=this;show this
 apply zK u g hg Inv ha (λv hv ρ' acc K' ai ag hK=>?_) hi λρ' c hc=>k c _ (E1.ew (E1.noL hc)) (E1.noL hc) (cn _ _ _);apply hb O (E.trans E1) v hv ρ' ai _ λW U G=>?_;have#[ok,h1,h2]:=G;apply h1 _ ?_;cases ok with
 |true =>
  have#[w,hw,e]:=h2;apply iP (jm el hw #[by show fb .B .b .H .I z ag,?_]);rw[<- e];show hK _ U
 |false =>
  apply iQ ?_;have:=hK _ U;rw[show g v=[] from h2,dk]at this;show this
end
def L3 {C:Cal}{ρ:Fr}{K:Fl->Fr->St->Prop}{ss:pq}{x:Nat}{e:Ex}{xs:List V}(h:Fv C ρ σ e xs)(k:∀c σ',Ext σ σ'->σ.L c=none->σ'.L c=some xs->gq C ss (upd ρ x (.L c)) σ' K):gq C (.cons (.a [.v x] e) ss) ρ σ K:=
 h σ _ (Ext.refl σ) λc σ' E U W=>k c σ' E U W
def gG (n:Nat):iw n 0=0:=by unfold iw jw;rw[bb (zo (.ig .O .O) .h)];show Nat.min_zero n
def xj {n i:Nat}(h:i<=n):iw n (i:Int)=i:=by unfold iw jw;rw[bb (nu (.ig .L .O) .h),ph];show Nat.min_eq_right h
variable {σ:St}
abbrev dO (t:O5):PyData:=.tuple [.str t.1,.int t.2.1,.int t.2.2.1,.int t.2.2.2.1,.int t.2.2.2.2]
def KO (t:O5):PyData.eqv (dO t) (dO t)=true:=by simp[dO,PyData.eqv,PyData.eqvAll]
def oU:∀L:List O5,PyData.eqvAll (L.map dO) (L.map dO)=true
 | []=>by simp[PyData.eqvAll]
 |t::L=>by simp[PyData.eqvAll,KO,oU L]
def HH {n:Nat}{t:O5}(h:PyData.strOk t.1=true):iZ σ (n+1) (oV t)=some (dO t):=by
 have e:iZ σ n (.str t.1)=some (.str t.1):=by
  cases n<;>show cp h
 show(([V.str t.1,.int t.2.1,.int t.2.2.1,.int t.2.2.2.1,.int t.2.2.2.2].mapM (iZ σ n)).map PyData.tuple)=_;rw[mapM_some (g:=λv=>match v with|.str s=>PyData.str s|.int i=>.int i|_=>.none)]
 ·rfl
 ·intro v W;rcases cz.mp W with rfl|W
  ·show e
  ·have:∃i,v=.int i:=by
    rcases cz.mp W with rfl|W
    ·apply#[_,rfl]
    rcases cz.mp W with rfl|W
    ·apply#[_,rfl]
    rcases cz.mp W with rfl|W
    ·apply#[_,rfl]
    ·apply#[_,ak.mp W]
   clear W;have#[i,rfl]:=this;cases n<;>rfl
def xZ {n:Nat}{a:Addr}{L:List O5}(h:σ.L a=some (L.map oV))(O:∀t∈L,PyData.strOk t.1=true):iZ σ (n+2) (.L a)=some (.list (L.map dO)):=by
 show((σ.L a).bind λxs=>(xs.mapM (iZ σ (n+1))).map PyData.list)=_;rw[h];show((L.map oV).mapM (iZ σ (n+1))).map PyData.list=_;rw[mapM_some (g:=λv=>match v with|.T [.str s,.int a,.int b,.int c,.int d]=>PyData.tuple [.str s,.int a,.int b,.int c,.int d]|_=>.none)]
 ·rw[jk];rfl
 ·intro v W;have#[t,U,rfl]:=fj.mp W;show HH (O t U)
def ER:PyData.strOk "replace"=true:=by decide +kernel
def EP:PyData.strOk "delete"=true:=by decide +kernel
def EO:PyData.strOk "insert"=true:=by decide +kernel
def EN:PyData.strOk "equal"=true:=by decide +kernel
def KS {i a j b:Nat}:∀t∈chg i a j b,PyData.strOk t.1=true:=by
 unfold chg;intro t W;split at W
 ·rw[ak.mp W];show ER
 ·split at W
  ·rw[ak.mp W];show EP
  ·split at W
   ·rw[ak.mp W];show EO
   ·cases W
def tY:∀{L:List T3} {i j:Nat},∀t∈codes i j L,PyData.strOk t.1=true
 | [],_,_,_,h=>by cases h
 |(a,b,s)::L,i,j,t,h=>by
  rcases cu.mp h with h|h
  ·show KS t h
  ·rcases cu.mp h with h|h
   ·unfold eql at h;split at h
    ·cases h
    ·rw[ak.mp h];show EN
   ·show tY t h
def IX {a b:Addr}{L:List O5}{K:Bool->Prop}(U:σ.L a=some (L.map oV))(hb:σ.L b=some (L.map oV))(W:∀t∈L,PyData.strOk t.1=true)(h:K true):s7 (.L a) (.L b) σ K:=by
 apply#[_,_,xZ U W,xZ hb W,?_];have:PyData.eqv (.list (L.map dO)) (.list (L.map dO))=true:=by
  simp[PyData.eqv,oU]
 rw[this];show h
namespace SM
def told {P:Nat->Option Fn}(h0:P 0=some fn0)(h1:P 1=some fn1)(h2:P 2=some fn2)(h3:P 3=some fn3)(h4:P 4=some fn4)(h5:P 5=some fn5)(h6:P 6=some fn6)(h7:P 7=some fn7){n:Nat}{es:Exs}{ρ:Fr}{la lb:Addr}{xs ys:List Int}{Q:V->St->Prop}{aj:Bool}{O:List V}(ai:DW aj O)(ag:aj=true->ys.length<200)
  (hE:∀Q:List V->St->Prop,Q (.none::.L la::.L lb::O) σ->uv (jc P (n+4)) es ρ σ Q) (ar:σ.L la=some (iV xs)) (ao:σ.L lb=some (iV ys)) (B:xs.length<400000) (U:ys.length<400000)
  (h:∀σ' c L,Ext σ σ'->BT (dZ (ks xs) (ks ys)) 0 xs.length 0 ys.length L->σ.L c=none->σ'.L c=some ((codes 0 0 (L++[(xs.length,ys.length,0)])).map oV)->Q (.L c) σ'):wpE (jc P (n+4)) (.meth (.n es) 7 .nil) ρ σ Q:=by
 rw[A6];have lx:(ks xs).length=xs.length:=aw _;have J:(ks ys).length=ys.length:=aw _;apply make h0 h1 h2 h3 h4 ai (λe=>by rw[J];show ag e) (la:=la) (lb:=lb) (as:=ks xs) (bs:=ks ys) hE (by rw[M3];show ar) (by rw[M3];show ao) (by rw[J];unfold bz;(show fh .bA .a .cG U)) λax x d f db sj E1 z hx f4 f5 _ _ M=>?_;apply#[x,rfl,by rw[hx];rfl,?_];have hj:(λc:Key=>decide (c∈([]:List Key)))=λ_=>false:=by funext c;simp
 apply FX h7 h6 h5 (n:=n+1) M hx f4 f5 (IH _) (IH _) (by rw[J];show U) (by rw[lx];show B) λσ2 c L g E2 b hc hg _ _ W=>?_;rw[hj]at b;have I:=b.NI;rw[G6 I.G2 λu hu=>(I.ok.1 u hu).2]at W;rw[lx,J]at W I;show h σ2 c L (E2.ext E1 z) I (E1.noL hc) W
end SM
abbrev pV (p:P2):V:=.T [.int p.1,.int p.2]
section
variable {σ:St}{ρ:Fr}{a b c e:Ex}{m n k l:Nat}
def ev2 (W:evV σ ρ a=some (.int m))(hb:evV σ ρ b=some (.int n)):evV σ ρ (.T %[a,b|0])=some (pV (m,n)):=by
 rw[aO,gn,W,gn,hb];rfl
def H4 (W:evV σ ρ a=some (.int m))(hb:evV σ ρ b=some (.int n))(h:n<=m):evV σ ρ (.b .sub a b)=some (.int (m-n:Nat)):=by
 rw[xf,W,hb];show some (V.int ((m:Int)-n))=_;rw[Int.ofNat_sub h]
def mK {x:Nat}{al:Addr}{xs:List V}{v:V}(W:ρ x=some (.L al))(J:σ.L al=some xs)(hi:evV σ ρ e=some (.int n))(U:xs[n]?=some v):evV σ ρ (.sub (.l x) e)=some v:=by
 rw[GW,qy,W,hi];show tM σ (.L al) (.int n)=_;show(σ.L al).bind (λxs=>mI xs n)=_;rw[J];show mI xs n=_;unfold mI;rw[qF,cp (nu (.ik .O .L) .h),ph];show U
def IW {p q:P2}{K:Bool->Prop}(h:K (decide (p≠q))):o7 .ne (pV p) (pV q) σ K:=by
 apply#[.tuple [.int p.1,.int p.2],.tuple [.int q.1,.int q.2],rfl,rfl,?_];have:(!PyData.eqv (.tuple [.int p.1,.int p.2]) (.tuple [.int q.1,.int q.2]))=decide (p≠q):=by
  have#[a,b]:=p;have#[c,d]:=q;by_cases U:a=c
  ·by_cases O:b=d
   ·simp[PyData.eqv,PyData.eqvAll,U,O]
   ·simp[PyData.eqv,PyData.eqvAll,U,O];(show(ae O).elim (λW=>(av (.iu .L .P) [[-1,1]] .B W)) λW=>(av (.iu .L .P) .a .Y W))
  ·simp[PyData.eqv,PyData.eqvAll,U];(show .inl ((ae U).elim (λW=>(av (.iu .L .P) [[-1,1]] .B W)) λW=>(av (.iu .L .P) .a .Y W)))
 show K (!PyData.eqv _ _);rw[this];show h
end
abbrev zO:pq:=(.cons (.a [(.v 3)] (.L %[.T %[.int 0,.int 0|0]|0]))
 (.cons (.each (.T [4,5,6]) (.seq (.l 0)) (.cons (.expr (.bm .extend (.l 3) %[.L %[.T %[.l 4,.l 5|0],.T %[.b .add (.l 4) (.l 6),.b .add (.l 5) (.l 6)|0]|0]|0]))
 .nil))
 (.cons (.expr (.bm .append (.l 3) %[.T %[.l 1,.l 2|0]|0]))
 (.cons (.a [(.v 7)] (.L .nil))
 (.cons (.each (.v 8) (.rng2 (.int 1) (.bf .len %[.l 3|0])) (.cons (.a [(.T [9,10])] (.sub (.l 3) (.b .sub (.l 8) (.int 1))))
 (.cons (.a [(.T [11,12])] (.sub (.l 3) (.l 8)))
 (.cons (.a [(.v 13)] (.I (.c .eq (.b .mod (.l 8) (.int 2)) (.int 0)) (.str "equal") (.I (.c .eq (.l 9) (.l 11)) (.str "insert") (.I (.c .eq (.l 10) (.l 12)) (.str "delete") (.str "replace")))))
 (.cons (.C (.c .ne (.T %[.l 9,.l 10|0]) (.T %[.l 11,.l 12|0])) (.cons (.expr (.bm .append (.l 7) %[.T %[.l 13,.l 9,.l 11,.l 10,.l 12|0]|0]))
 .nil) .nil)
 .nil)))))
 (.cons (.ret (.l 7))
 .nil))))))
def vC {σ:St}{ρ:Fr}{c a b:Ex}{p:Prop}[Decidable p]{x y:Str}(W:evT σ ρ c=some (decide p))(U:evV σ ρ a=some (.str x))(hb:evV σ ρ b=some (.str y)):evV σ ρ (.I c a b)=some (.str (if p then x else y)):=by
 show(evT σ ρ c).bind (λt=>if t then evV σ ρ a else evV σ ρ b)=_;rw[W];by_cases h:p
 ·rw[gp h,cp h];show U
 ·rw[fp h,bb h];show hb
def vT {C:Cal}{σ:St}{ρ:Fr}{K:Fl->Fr->St->Prop}{again:Fr->St->Prop}{el tl:Addr}{E:List P2}{acc:List O5}{t:Nat}{p q:P2}(J:ρ 3=some (.L el))(I:ρ 7=some (.L tl))(z:σ.L el=some (E.map pV))(B:σ.L tl=some (acc.map oV))(U:acc.length<bz)
  (hp:E[t]?=some p) (hq:E[t+1]?=some q) (h:∀ρ',ρ' 3=some (.L el)->ρ' 7=some (.L tl)->again ρ' (σ.ew tl ((acc++stp (t+1) p q).map oV))) :
  gq C (.cons (.a [(.T [9,10])] (.sub (.l 3) (.b .sub (.l 8) (.int 1))))
 (.cons (.a [(.T [11,12])] (.sub (.l 3) (.l 8)))
 (.cons (.a [(.v 13)] (.I (.c .eq (.b .mod (.l 8) (.int 2)) (.int 0)) (.str "equal") (.I (.c .eq (.l 9) (.l 11)) (.str "insert") (.I (.c .eq (.l 10) (.l 12)) (.str "delete") (.str "replace")))))
 (.cons (.C (.c .ne (.T %[.l 9,.l 10|0]) (.T %[.l 11,.l 12|0])) (.cons (.expr (.bm .append (.l 7) %[.T %[.l 13,.l 9,.l 11,.l 10,.l 12|0]|0]))
 .nil) .nil)
 .nil)))) (upd ρ 8 (.int (t+1:Nat))) σ (wi again K):=by
 have O:∀{i:Nat} {p:P2},E[i]?=some p->(E.map pV)[i]?=some (pV p):=λ{i p} h=>by rw[dq,h];rfl
 apply y8 [.int p.1,.int p.2] (mK (n:=t) J z ((H4 (a:=.l 8) (b:=.int 1) (m:=t+1) (n:=1) rfl rfl (Nat.le_add_left 1 t)).trans (by rw[Nat.add_sub_cancel])) (O hp)) rfl ?_;apply y8 [.int q.1,.int q.2] (mK (n:=t+1) J z rfl (O hq)) rfl ?_;have W:evT σ (gr [11,12] [.int q.1,.int q.2] (gr [9,10] [.int p.1,.int p.2] (upd ρ 8 (.int (t+1:Nat))))) (.c .eq (.b .mod (.l 8) (.int 2)) (.int 0))=some (decide ((t+1)%2=0)):=
  mJ (m:=(t+1)%2) (n:=0) (by
   show mw ((0:Int)<2) (V.int (((t+1:Nat):Int)%2))=_;unfold mw;rw[cp (by decide)];show di (λi=>some (V.int i)) (Int.natCast_emod (t+1) 2).symm) rfl
 apply jQ _ (vC W rfl (vC (mJ (a:=.l 9) (b:=.l 11) rfl rfl) rfl (vC (mJ (a:=.l 10) (b:=.l 12) rfl rfl) rfl rfl))) ?_;apply jm _ (ev2 (m:=p.1) (n:=p.2) rfl rfl) (jm _ (ev2 (m:=q.1) (n:=q.2) rfl rfl) (IW ?_));unfold stp at h;by_cases c:p=q
 ·rw[cp c,dk,uw B]at h;rw[fp (λn=>n c)];show iQ (oo (h _ J I))
 ·rw[bb c,fu]at h;rw[gp c];show iP (fJ (oV _) I B (ev5 rfl rfl rfl rfl rfl) (by rw[aw];show U) (dX (oo (h _ J I))))
inductive NB (σ:St)(lk el:Addr)(na nb:Nat)(L:List T3)(t:Nat)(ρ:Fr)(σ':St):Prop
 |mk:ρ 0=some (.L lk)->ρ 1=some (.int na)->ρ 2=some (.int nb)->ρ 3=some (.L el)->Ext σ σ'->σ'.L el=some (((0,0)::wj (L.take t)).map pV)->NB σ lk el na nb L t ρ σ'
inductive N6 (σ:St)(el tl:Addr)(E:List P2)(t:Nat)(ρ:Fr)(σ':St):Prop
 |mk (acc:List O5) (p:P2):ρ 3=some (.L el)->ρ 7=some (.L tl)->Ext σ σ'->σ'.L el=some (E.map pV)->σ'.L tl=some (acc.map oV)->acc.length<=t->E[t]?=some p->acc++sC (t+1) p (E.drop (t+1))=sC 1 (0,0) (E.drop 1)->N6 σ el tl E t ρ σ'
def iX:∀{L:List T3},(wj L).length=2*L.length
 | []=>rfl
 |t::L=>by
  have:=iX (L:=L);show(wj L).length+2=_;rw[this,iq];rfl
def CF {P:Nat->Option Fn}{k n na nb:Nat}(hk:P k=some #[3,[],zO]){σ:St}{lk:Addr}{L:List T3}{Q:V->St->Prop}(hL:σ.L lk=some (L.map tV))(hl:L.length<100000)(hm:u7 0 0 (L++[(na,nb,0)]))
  (h:∀c σ',Ext σ σ'->σ.L c=none->σ'.L c=some ((codes 0 0 (L++[(na,nb,0)])).map oV)->Q (.L c) σ'):jc P (n+1) k [.L lk,.int na,.int nb] σ Q:=by
 apply#[_,hk,au 3,au 3,?_];apply u9 [pV (0,0)] rfl (bx rfl) λel ag=>?_;apply#[_,rfl,_,((Ext.refl σ).ew (xs:=[pV (0,0)]) ag).L _ _ hL,?_];have br:lk≠el:=λq=>by rw[q,ag]at hL;cases hL
 apply qe (NB σ lk el na nb L) ?_ ?_ #[rfl,rfl,rfl,rfl,(Ext.refl σ).ew ag,cn _ _ _]
 ·intro t v ρ' σ' hv zz;have#[r0,r1,r2,r3,E,he]:=zz;apply#[E.L _ _ hL,λkk ar=>?_];rw[dq]at hv;have#[u,hu,rfl]:=omap hv;have#[ht,bl]:=cy.mp hu;have#[a,b,s]:=u;apply#[_,rfl,rfl,?_];apply#[_,r3,(by show(σ'.L el).isSome=true;rw[he];rfl),?_];rw[nc,E8];apply eS (Q:=_) _ (vs:=[pV (a,b),pV (a+s,b+s)]) ?_ #[bx rfl,λc hc=>?_]
  ·rw[gn,ev2 (a:=.l 4) (b:=.l 5) (m:=a) (n:=b) rfl rfl,gn,ev2 (km (a:=.l 4) (b:=.l 6) (m:=a) (n:=s) rfl rfl) (km (a:=.l 5) (b:=.l 6) (m:=b) (n:=s) rfl rfl)];rfl
  have ay:el≠c:=λq=>by rw[q,hc]at he;cases he
  apply#[_,_,ay,(fg ay).trans he,cn _ _ _,?_,rfl,?_]
  ·have:=iX (L:=L.take t);simp only[aw,iq,List.length_nil,this,eh];unfold bz;(show oq (.k (.a (.a (.m 2 .A) .U) (.a .a5 .U)) .Y) [[1,2,2,2]] (.l .B (.n 100000)) .Q .L hl ht (Ar.iz _ _).1)
  apply ar _ _ #[r0,r1,r2,r3,(E.ew (E.noL hc)).ew ag,?_];apply(cn _ _ _).trans (di some ?_);rw[ee ht,bl];show _=((0,0)::(L.take t++[(a,b,s)]).flatMap _).map pV;rw[dD,<- yu,fu];rfl
 intro ρ' σ' zz;have#[r0,r1,r2,r3,E,he]:=zz;apply#[E.L _ _ hL,?_];rw[aw,fx]at he;have aj:=iX (L:=L);apply fJ (pV (na,nb)) r3 he (ev2 r1 r2) (by rw[aw,iq,aj];unfold bz;(show fh (.l (.a (.m 2 .A) .U) .Y) [[1,2]] (.l .A (.n 100000)) hl)) ?_;rw[show((0,0)::wj L).map pV++[pV (na,nb)]=((0,0)::(wj L++[(na,nb)])).map pV by rw[<- yu,fu];rfl];have E2:=E.ew (c:=el) (xs:=((0,0)::(wj L++[(na,nb)])).map pV) ag;have J:(σ'.ew el (((0,0)::(wj L++[(na,nb)])).map pV)).L el=some (((0,0)::(wj L++[(na,nb)])).map pV):=cn _ _ _;generalize σ'.ew el (((0,0)::(wj L++[(na,nb)])).map pV)=σ2 at E2 J;apply u9 [] rfl (bq _) λtl ax=>?_;have z:el≠tl:=λq=>by rw[q,ax]at J;cases J
 have I:=E2.noL ax;have O:((0,0)::(wj L++[(na,nb)])).length=2*L.length+2:=by rw[iq,bg,kf,aj]
 have hc:=jC (k:=1) rfl hm;have hd:((0,0)::(wj L++[(na,nb)])).drop 1=wj L++[(na,nb)]:=rfl;rw[<- hd]at hc;have bc:((0,0)::(wj L++[(na,nb)]))[0]?=some (0,0):=rfl;generalize (0,0)::(wj L++[(na,nb)])=EE at J O hc bc;apply#[_,r3,_,(fg z).trans J,1,((EE.map pV).length:Int),rfl,rfl,by decide,by rw[aw,O];(show(Ar.nab _).elim (λq1=>(gj .a1 [[1,2,1]] (.l .B (.n 100000)) (.ie .L (.t (.a .aC .W))) hl q1.2)) λq1=>(av .a1 .a (.ie .L (.g (.t (.a .aC .W)))) q1.2)),?_];apply qe (N6 σ el tl EE) ?_ ?_ #[[],(0,0),r3,rfl,E2.ew I,(fg z).trans J,cn _ _ _,bq _,bc,rfl]
 ·intro t v be bd hv zz;have#[acc,p,q3,q7,E3,g1,g2,ao,hp,e]:=zz;apply#[trivial,λkk ar=>?_];have#[ai,rfl]:=iR (a:=1) hv;rw[aw]at ai;have hq:EE[t+1]?=some EE[t+1]:=aq (av .Z .a (.l (.a .U .A) .B) ai);rw[cg (i:=t+1) (av .Z .a (.l (.a .U .A) .B) ai)]at e;generalize EE[t+1]=q at hq e;rw[Nat.add_comm 1 t];apply vT q3 q7 g1 g2 (by unfold bz;(show mZ .bA [[1,2,1,1,1]] (.l .B (.n 100000)) (.e .C (.a .aC .W)) .aH (.l (.a .U .D) .C) hl O ao ai)) hp hq λbp p3 p7=>?_;apply ar _ _ #[acc++stp (t+1) p q,q,p3,p7,E3.ew I,(fg z).trans g1,cn _ _ _,?_,hq,?_]
  ·rw[bg];have:(stp (t+1) p q).length<=1:=by
    unfold stp;split
    ·show bq _
    ·show au _
   (show fb (.k .L .T) .b .L (.k .B .U) ao this)
  ·rw[<- e,az];rfl
 intro be bd zz;have#[acc,p,q3,q7,E3,g1,g2,ao,hp,e]:=zz;apply#[trivial,?_];have bn:(rp 1 ((EE.map pV).length:Int)).length=EE.length-1:=(gD (a:=1) (b:=(EE.map pV).length)).trans (by rw[aw]);rw[bn,show EE.length-1+1=EE.length by show av .aI .l .aI (aa (av .G .y (.e .A (.a .aC .W)) O)),qt]at e;have e:acc++[]=_:=e;rw[dk]at e;apply IU (.L tl) q7 (h _ _ E3 I ?_);rw[<- hc,<- e];show g2
variable {L:List T3}
abbrev Bef (s r:T3):Prop:=r.2.2<s.2.2\/(r.2.2=s.2.2/\(s.1<r.1\/(s.1=r.1/\s.2.1<r.2.1)))
abbrev Cmp (s r:T3):Prop:=um s r\/um r s
def BT.KC {H:Nat->Nat->Prop}{alo ahi blo bhi:Nat}(h:BT H alo ahi blo bhi L):∀r:T3,0<r.2.2->A0 H alo ahi blo bhi r.1 r.2.1 r.2.2->(∀s∈L,Bef s r->Cmp s r)->r∈L:=by
 induction h with
 |nil q =>
  intro r p R _;have:=R.ai;have:=R.ia;have:=R.bj;have:=R.jb;show(q r.1 r.2.1 (by(rename_i z3 z W;show av .A .a .A z3)) (by(rename_i z W;show fb .B .b .X .a2 p z)) (by(rename_i W;show av .A .a .A W)) (fb .B .b .X .a2 p this) (R.eq 0 p)).elim
 | @node alo ahi blo bhi i j k L R' B _ _ O U =>
  intro r p R I;have m:=B.max _ _ _ p R;by_cases e:r=(i,j,k)
  ·rw[e];show dt _ (.head _)
  have hb:Bef (i,j,k) r:=by
   have:¬(r.1=i/\r.2.1=j/\r.2.2=k):=λq=>e (eF q.1 (eF q.2.1 q.2.2));show r.2.2<k\/(r.2.2=k/\(i<r.1\/(i=r.1/\j<r.2.1)));omega
  rcases I _ (dt _ (.head _)) hb with a|a
  ·have a:i+k<=r.1/\j+k<=r.2.1:=a;show dt _ (.tail _ (U r p #[a.1,R.ia,a.2,R.jb,R.eq] λs J=>I s (dt _ (.tail _ J))))
  ·have a:r.1+r.2.2<=i/\r.2.1+r.2.2<=j:=a;show dg _ (O r p #[R.ai,a.1,R.bj,a.2,R.eq] λs J=>I s (dg _ J))
def BV (h:L.Pairwise um){s r:T3}(I:s∈L)(hr:r∈L)(O:s≠r):Cmp s r:=by
 induction L with
 |nil=>cases I
 |cons x L ih =>
  have#[B,h2]:=og.mp h;rcases cz.mp I with z|U
  ·rcases cz.mp hr with J|W
   ·show(O (z.trans J.symm)).elim
   ·show .inl (z▸B _ W)
  ·rcases cz.mp hr with J|W
   ·show .inr (J▸B _ U)
   ·show ih h2 U W
def BT.fits {H:Nat->Nat->Prop}{alo ahi blo bhi:Nat}(h:BT H alo ahi blo bhi L){r:T3}(p:0<r.2.2)(R:A0 H alo ahi blo bhi r.1 r.2.1 r.2.2){K:T3->Prop}(W:∀s,K s->s∈L/\s≠r)(O:∀s∈L,Bef s r->K s):(∀s,K s->Cmp s r)↔r∈L:=
 #[λc=>h.KC r p R λs U b=>c s (O s U b),λhr s ks=>BV h.ok.2.1 (W s ks).1 hr (W s ks).2]
def oG {α W:Type}{f:α->W}{g:W->α}(O:∀a,g (f a)=a){U:List W}{l:List α}(h:U.Perm (l.map f)):∃s:List α,s.Perm l/\U=s.map f:=by
 apply#[U.map g,?_,?_]
 ·have:=h.map g;rw[jk,show g ∘ f=id from funext O,List.map_id]at this;show this
 ·rw[jk];apply(List.map_id _).symm.trans (dB λx J=>?_);have#[a,_,rfl]:=fj.mp (h.mem_iff.mp J);show(di f (O a)).symm
def JI {A:List T3}(I:L.Pairwise um)(pos:∀t∈L,0<t.2.2)(hA:A.Pairwise λa b=>a.1<=b.1)(nd:A.Nodup)(J:∀t,t∈A↔t∈L):A=L:=by
 have U:L.Pairwise λa b:T3=>a.1<b.1:=vq (λ{a b} W _ h=>by have:=pos a W;unfold um at h;(show fb .B .b .a2 .X h.1 this)) I;have O:L.Nodup:=U.imp λh e=>by rw[e]at h;show je _ h
 apply List.Perm.eq_of_pairwise (le:=λa b:T3=>a.1<=b.1) (λa b W hb h1 h2=>?_) hA (U.imp λh=>gy h) ((List.perm_ext_iff_of_nodup nd O).mpr J);have W:=(J a).mp W;by_cases e:a=b
 ·show e
 ·have p1:=pos a W;have z:=pos b hb;rcases BV I W hb e with c|c<;>(unfold um at c;(first|show False.elim (oq .ff .j .A .X (.k .Q .A) h2 p1 c.1)|show False.elim (oq .ff .j .A .X (.k .Q .A) h1 z c.1)|omega))
def oX {C:Cal}{ρ:Fr}{σ:St}{K:Fl->Fr->St->Prop}{x:Nat}{e:Ex}{b ss:pq}{n:Nat}(Inv:Nat->Fr->St->Prop)(z:evV σ ρ e=some (.int n))(J:n<2^39)(h0:Inv 0 ρ σ)
  (step:∀i ρ' σ' (kk:Fr->St->Prop) (K':Fl->Fr->St->Prop),i<n->Inv i ρ' σ'->(∀W σ2,Inv (i+1) W σ2->kk W σ2)->gq C b (upd ρ' x (.int (i:Nat))) σ' (wi kk K'))
  (fin:∀ρ' σ',Inv n ρ' σ'->gq C ss ρ' σ' K):gq C (.cons (.each (.v x) (.rng1 e) b) ss) ρ σ K:=by
 apply jm (Q:=_) e z #[n,rfl,by show(Ar.nab _).elim (λU=>(gj .a1 .b (.l .B (.n (2^39))) (.ie .L .P) J U.2)) λU=>(av .a1 .a .bK U.2),?_];apply qe Inv ?_ (λρ' σ' I=>?_) h0
 ·intro i v ρ' σ' O I;have#[hi,rfl]:=iR (a:=0) O;rw[mj]at hi ⊢;apply#[trivial,λkk hk=>step _ _ _ kk _ hi I hk]
 ·have e:(rp 0 (n:Int)).length=n:=gD (a:=0);rw[e]at I;apply#[trivial,fin _ _ I]
def vi {σ:St}{ρ:Fr}{α:Type}{u:α->V}{x:Nat}{l:Addr}{zs:List α}(W:ρ x=some (.L l))(hl:σ.L l=some (zs.map u)):evV σ ρ (.bf .len %[.l x|0])=some (.int zs.length):=by
 rw[KJ,gn,qy,W];show CZ σ .len [.L l]=_;rw[CY,hl];show some (V.int ((zs.map u).length:Nat))=_;rw[aw]
section
variable {σ:St}{ρ:Fr}{a b:Ex}{m n:Nat}
def qT (W:evV σ ρ a=some (.int m))(hb:evV σ ρ b=some (.int n)):evT σ ρ (.c .le a b)=some (decide (m<=n)):=by
 rw[kO,W,hb];show di some (ui.mpr Int.ofNat_le)
def GY {p q:Prop}[Decidable p][Decidable q](W:evT σ ρ a=some (decide p))(hb:evT σ ρ b=some (decide q)):evT σ ρ (.or a b)=some (decide (p\/q)):=by
 rw[KL,W];by_cases h:p
 ·rw[gp h];show di some (gp (.inl h)).symm
 ·rw[fp h];show hb.trans (di some (ui.mpr #[.inr,λx=>x.resolve_left h]))
def CW {p:Prop}[Decidable p](W:evT σ ρ a=some (decide p)):evT σ ρ (.not a)=some (decide (¬p)):=by
 rw[GZ,W];show di some (by by_cases h:p<;>simp[h])
end
def CX {σ:St}{ρ:Fr}{la lb:Addr}{xs ys:List Int}{x0 x1 x2 i j s:Nat}(W:σ.L la=some (iV xs))(U:σ.L lb=some (iV ys))(J:ρ 0=some (.L la))(B:ρ 1=some (.L lb))(O:ρ x0=some (.int i))(I:ρ x1=some (.int j))(rs:ρ x2=some (.int s)) :
  evT σ ρ (.and (.c .lt (.b .add (.l x0) (.l x2)) (.bf .len %[.l 0|0])) (.and (.c .lt (.b .add (.l x1) (.l x2)) (.bf .len %[.l 1|0])) (.c .eq (.sub (.l 0) (.b .add (.l x0) (.l x2))) (.sub (.l 1) (.b .add (.l x1) (.l x2))))))=some (decide (i+s<xs.length/\j+s<ys.length/\xs[i+s]?=ys[j+s]?)):=by
 by_cases c1:i+s<xs.length
 ·by_cases c2:j+s<ys.length
  ·have e1:xs[i+s]?=some xs[i+s]:=aq c1;have z:ys[j+s]?=some ys[j+s]:=aq c2;have v1:=mK (e:=.b .add (.l x0) (.l x2)) (v:=.int xs[i+s]) J W (km O rs) (by rw[dq,e1];rfl);have v2:=mK (e:=.b .add (.l x1) (.l x2)) (v:=.int ys[j+s]) B U (km I rs) (by rw[dq,z];rfl);have v3:evT σ ρ (.c .eq (.sub (.l 0) (.b .add (.l x0) (.l x2))) (.sub (.l 1) (.b .add (.l x1) (.l x2))))=some (decide (xs[i+s]?=ys[j+s]?)):=by
    rw[kO,v1,v2];show some (decide (xs[i+s]=ys[j+s]))=_;rw[e1,z];show di some (ui.mpr (Option.some_inj).symm)
   show vn (vd (km O rs) (vi J W)) (vn (vd (km I rs) (vi B U)) v3)
  ·rw[fp (λq=>c2 q.2.1),kP,vd (km (a:=.l x0) (b:=.l x2) O rs) (vi J W),gp c1];show evT σ ρ _=_;rw[kP,vd (km (a:=.l x1) (b:=.l x2) I rs) (vi B U),fp c2];rfl
 ·rw[fp (λq=>c1 q.1),kP,vd (km (a:=.l x0) (b:=.l x2) O rs) (vi J W),fp c1];rfl
structure rq (xs ys:List Int)(i j n:Nat):Prop where
 li:i+n<=xs.length
 lj:j+n<=ys.length
 eq:∀t,t<n->xs[i+t]?=ys[j+t]?
def rq.cut {xs ys:List Int}{i j n m:Nat}(h:rq xs ys i j n)(W:m<=n):rq xs ys i j m:=#[by have:=h.li;(show fy .F .b .c2 .bR W this),by have:=h.lj;(show fy .F .b .c2 .bR W this),λt U=>h.eq t (fb .B .b .H .I W U)]
def rq.nil {xs ys:List Int}{i j:Nat}(hi:i<=xs.length)(U:j<=ys.length):rq xs ys i j 0:=#[hi,U,λt W=>absurd W (ou _)]
def rq.grow {xs ys:List Int}{i j s:Nat}(h:rq xs ys i j s)(c:i+s<xs.length/\j+s<ys.length/\xs[i+s]?=ys[j+s]?):rq xs ys i j (s+1):=
 ⟨by show fc .K .a .J c.1,by show fc .K .a .J c.2.1,λt W=>by
  rcases jj (Nat.le_of_lt_succ W) with q|rfl
  ·show h.eq t q
  ·show c.2.2⟩
def rq.stop {xs ys:List Int}{i j s n:Nat}(c:¬(i+s<xs.length/\j+s<ys.length/\xs[i+s]?=ys[j+s]?))(h:rq xs ys i j n):n<=s:=by
 rcases ix s n with q|q
 ·show absurd #[by have:=h.li;(show fy .J .b .W .bR q this),by have:=h.lj;(show fy .J .b .W .bR q this),h.eq s q] c
 ·show q
structure zq (xs ys:List Int)(R:List T3)(i j s:Nat):Prop where
 nd:R.Nodup
 mem:∀r,r∈R↔0<r.2.2/\rq xs ys r.1 r.2.1 r.2.2/\(r.1<i\/(r.1=i/\(r.2.1<j\/(r.2.1=j/\r.2.2<=s))))
 len:R.length<=(i*63+j)*63+s
section
variable {xs ys:List Int}{R:List T3}{i j s:Nat}
def zq.start:zq xs ys [] 0 0 0:=#[.nil,λr=>#[λh=>(nomatch h),λh=>by show False.elim (h.2.2.elim (λU=>(fh .ff .i .b9 U)) λU=>(U.2.elim (λW=>(fh .ff .i .b9 W)) λW=>(nZ .ff .c .C (.k .A .O) h.1 W.2)))],bq _]
def zq.grow (h:zq xs ys R i j s)(r:rq xs ys i j (s+1)):zq xs ys (R++[(i,j,s+1)]) i j (s+1):=by
 apply#[List.nodup_append.mpr #[h.nd,jv _ _,λa ha b hb e=>?_],λt=>?_,?_]
 ·subst e;have rfl:=ak.mp hb;have:=((h.mem _).mp ha).2.2;simp only at this
  (show this.elim (λO=>(fh .ff .i (.l .A .A) O)) λO=>(O.2.elim (λU=>(fh .ff .i (.l .A .A) U)) λU=>(fh .ff .i (.k .M .A) U.2)))
 ·rw[cu,h.mem,ak];constructor
  ·rintro (⟨p,q,z⟩|rfl)
   ·apply#[p,q,by show jz λO=>(z.elim (λU=>(gj .ff .c .bH .B (tq.mp O).1 U)) λU=>((cm.mp (tq.mp O).2).elim (λJ=>((ae J).elim (λW=>(gj .ff [[0,-1,1]] .D .B U.1 W)) λW=>(gj .ff .c .D .Y U.1 W))) λJ=>(U.2.elim (λW=>(gj .ff .c .bH .B (tq.mp J).1 W)) λW=>((cm.mp (tq.mp J).2).elim (λq5=>((ae q5).elim (λI=>(gj .ff [[0,-1,1]] .D .B W.1 I)) λI=>(gj .ff .c .D .Y W.1 I))) λq5=>(gj .ff .c .A (.j .A .P) W.2 q5)))))]
   ·apply#[Nat.succ_pos _,r,.inr #[rfl,.inr #[rfl,au _]]]
  ·rintro ⟨p,q,z⟩;by_cases e:t=(i,j,s+1)
   ·show .inr e
   ·apply .inl #[p,q,?_];have:¬(t.1=i/\t.2.1=j/\t.2.2=s+1):=λq=>e (eF q.1 (eF q.2.1 q.2.2));omega
 ·rw[bg,kf];have:=h.len;(show kA (.k .M (.a .aK .a0)) .a (.k .A (.a .aK .D)) this)
def zq.nextJ (h:zq xs ys R i j s)(hs:s<=63)(m:∀n,rq xs ys i j n->n<=s):zq xs ys R i (j+1) 0:=by
 apply#[h.nd,λt=>?_,by have:=h.len;(show fy (.k .A (.a (.r (.a (.r .B 63) .T) 63) .O)) .b (.k .D (.n 63)) (.k .A (.a .aK .D)) hs this)];rw[h.mem];constructor
 ·rintro ⟨p,q,z⟩;apply#[p,q,by show jz λq1=>(z.elim (λW=>(gj .ff .c .bH .B (tq.mp q1).1 W)) λW=>((cm.mp (tq.mp q1).2).elim (λJ=>((ae J).elim (λU=>(gj .ff [[0,-1,1]] .D .B W.1 U)) λU=>(gj .ff .c .D .Y W.1 U))) λJ=>(W.2.elim (λU=>(gj .ff .c (.g .A .P) .B (tq.mp J).1 U)) λU=>(gj .ff .c (.g .A .P) .D (tq.mp J).1 U.1))))]
 ·rintro ⟨p,q,z⟩;apply#[p,q,?_];by_cases e:t.1=i/\t.2.1=j
  ·have:=m t.2.2 (by rw[<- e.1,<- e.2];show q)
   (show .inr #[(av .D .l .D e.1),(.inr #[(av .D .l .D e.2),(av .A .a .A this)])])
  ·(show jz λq1=>(z.elim (λW=>(gj .ff .c .bH .B (tq.mp q1).1 W)) λW=>(W.2.elim (λJ=>((cm.mp e).elim (λU=>((ae U).elim (λI=>(gj .ff [[0,-1,1]] .D .B W.1 I)) λI=>(gj .ff .c .D .Y W.1 I))) λU=>((ae U).elim (λI=>((cm.mp (tq.mp q1).2).elim (λq6=>((ae q6).elim (λq7=>(gj .ff [[0,-1,1]] .D .B W.1 q7)) λq7=>(gj .ff .c .D .Y W.1 q7))) λq6=>(gj .ff .c .B .bH I (tq.mp q6).1))) λI=>(gj .ff .c .aM .Y J I)))) λJ=>(nZ .ff .c .C (.k .A .O) p J.2))))
def zq.LS (h:zq xs ys R i ys.length 0)(hs:ys.length<=63):zq xs ys R (i+1) 0 0:=by
 apply#[h.nd,λt=>?_,by have:=h.len;(show fb (.k .A (.a (.r (.a (.r .P 63) .O) 63) .O)) [[1,63,1]] (.k .C (.n 63)) (.k .A (.a .aK .O)) hs this)];rw[h.mem];constructor
 ·rintro ⟨p,q,z⟩;apply#[p,q,by show .inl (z.elim (λW=>(av .aM .a .B W)) λW=>(av .aM .a .D W.1))]
 ·rintro ⟨p,q,z⟩;have:=q.lj;apply#[p,q,by show jz λW=>((cm.mp (tq.mp W).2).elim (λq2=>((ae q2).elim (λI=>(gj .ff .c .bH .B (tq.mp W).1 I)) λI=>(z.elim (λJ=>(gj .ff .c .B (.l .B .M) I J)) λJ=>(J.2.elim (λU=>(fh .ff .i .b9 U)) λU=>(nZ .ff .c .C (.k .A .O) p U.2))))) λq2=>(oq .ff .j .C (.k .Z .C) (.g .B .C) p this (tq.mp q2).1))]
def zq.fin (h:zq xs ys R xs.length 0 0)(r:T3):r∈R↔0<r.2.2/\rq xs ys r.1 r.2.1 r.2.2:=by
 rw[h.mem];constructor
 ·rintro ⟨p,q,z⟩;apply#[p,q]
 ·rintro ⟨p,q⟩;have:=q.li;apply#[p,q,by show .inl (fb .B .b .X .a2 p this)]
end
public abbrev CU (r s:T3):Prop:=(r.1+r.2.2<=s.1/\r.2.1+r.2.2<=s.2.1)\/(s.1+s.2.2<=r.1/\s.2.1+s.2.2<=r.2.1)
abbrev dQ (K:List T3)(r:T3):Bool:=K.all λs=>decide (CU r s)
abbrev grK (K:List T3)(r:T3):List T3:=if dQ K r=true then K++[r] else K
abbrev grS (S:List T3):List T3:=S.foldl grK []
def vJ {K:List T3}{r:T3}:dQ K r=true↔∀s∈K,CU r s:=by
 unfold dQ;rw[jo];apply#[λh s W=>bw (h s W),λh s W=>gp (h s W)]
def xO (S:List T3):(grS S).length<=S.length:=by
 have:∀(S K:List T3),(S.foldl grK K).length<=K.length+S.length:=λS=>by
  induction S with
  |nil=>show λK=>au _
  |cons r S W =>
   intro K;rw[List.foldl_cons,iq];have:=W (grK K r);have U:(grK K r).length<=K.length+1:=by
    unfold grK;split
    ·rw[bg];show au _
    ·show fO _
   (show fy (.k .A .aM) .b (.k .A .aP) (.k .D .P) this U)
 have h:=this S []
 rwa [List.length_nil,mj]at h
def vH {S:List T3}{p:T3->Bool}(h:∀t (U:t<S.length),dQ ((S.take t).filter p) S[t]=p S[t]):grS S=S.filter p:=by
 have:∀t,t<=S.length->grS (S.take t)=(S.take t).filter p:=λt=>by
  induction t with
  |zero=>show λ_=>rfl
  |succ t O =>
   intro U;have W:t<S.length:=U;rw[ee W,List.filter_append];unfold grS at O ⊢;rw[List.foldl_append,O (gy U)];show grK _ _=_;unfold grK;rw[h t W];cases q:p S[t] with
   |true=>rw[cp rfl,List.filter_cons_of_pos q];rfl
   |false=>rw[bb gx,List.filter_cons_of_neg (by rw[q];show gx)];show(dk _).symm
 have:=this S.length (au _)
 rwa [fx]at this
end MP
end
section
namespace MP
open PySem SM
section
variable (w:Int->Nat)
abbrev spread (xs:List Int):List Int:=xs.flatMap λx=>(List.range (w x)).map λk:Nat=>40*x+k
abbrev pos (xs:List Int)(i:Nat):Nat:=(spread w (xs.take i)).length
end
section
variable {xs:List Int}{i j:Nat}
variable {w:Int->Nat}
def zv (xs ys:List Int):spread w (xs++ys)=spread w xs++spread w ys:=dD
def fU (x:Int):(spread w [x]).length=w x:=by
 show(((List.range (w x)).map λk:Nat=>40*x+k)++[]).length=_;rw[dk,aw,yd]
def BY (xs:List Int):pos w xs 0=0:=rfl
def pos_succ (h:i<xs.length):pos w xs (i+1)=pos w xs i+w xs[i]:=by
 unfold pos;rw[ee h,zv,bg,fU]
def eO (xs:List Int):pos w xs xs.length=(spread w xs).length:=by unfold pos;rw[fx]
def pos_at {k:Nat}(h:i<xs.length)(hk:k<w xs[i]):(spread w xs)[pos w xs i+k]?=some (40*xs[i]+k):=by
 have e:xs=xs.take i++([xs[i]]++xs.drop (i+1)):=by rw[kE,<- cg h,dz]
 have W:spread w xs=spread w (xs.take i)++(spread w [xs[i]]++spread w (xs.drop (i+1))):=by rw[<- zv,<- zv,<- e]
 rw[W];unfold pos;rw[bh (gv _ _),kq,er (by rw[fU];show hk)];show(((List.range (w xs[i])).map λk:Nat=>40*xs[i]+k)++[])[k]?=_;rw[dk,dq,dC hk];rfl
variable (hw:∀x,0<w x/\w x<=40)
include hw
def uQ (h:i<j)(O:j<=xs.length):pos w xs i<pos w xs j:=by
 induction j with
 |zero=>cases h
 |succ j J =>
  have W:j<xs.length:=O;rw[pos_succ W];have:=(hw xs[j]).1;rcases jj (Nat.le_of_lt_succ h) with q|rfl
  ·have:=J q (gy O);(show fc (.l .A .Q) .a .B this)
  ·(show av (.l .A .L) .a .U this)
def nq (h:i<=j)(W:j<=xs.length):pos w xs i<=pos w xs j:=by
 rcases jj h with q|rfl
 ·show gy (uQ hw q W)
 ·show au _
def kr (hi:i<=xs.length)(W:j<=xs.length):pos w xs i<=pos w xs j↔i<=j:=
 #[λh=>Nat.le_of_not_lt λq=>by have:=uQ hw q hi;(show gj .ff .c .A .Y h this),λh=>nq hw h W]
def iJ:∀{n p:Nat},n<=xs.length->p<pos w xs n->∃i k,∃h:i<xs.length,k<w xs[i]/\i<n/\p=pos w xs i+k
 |0,p=>λ_ W=>by rw[BY]at W;cases W
 |n+1,p=>λO W=>by
  have U:n<xs.length:=O;rcases ix p (pos w xs n) with q|q
  ·have#[i,k,h,z,I,J]:=iJ (gy O) q;apply#[i,k,h,z,yb I,J]
  ·rw[pos_succ U]at W;apply#[n,p-pos w xs n,U,by(first|show fy .B .b .cI .b1 W (aa (av .A .a .A q)) Ar.y|omega),uj _,by show fc .a5 .f (.e .a8 .A) (aa (av .A .a .A q))]
def lI {p:Nat}(W:p<(spread w xs).length):∃i k,∃h:i<xs.length,k<w xs[i]/\p=pos w xs i+k:=by
 rw[<- eO]at W;have#[i,k,h,O,_,U]:=iJ hw (au _) W;apply#[i,k,h,O,U]
def dP {ys:List Int}{k l:Nat}(hi:i<xs.length)(hk:k<w xs[i])(W:j<ys.length)(hl:l<w ys[j]):dZ (ks (spread w xs)) (ks (spread w ys)) (pos w xs i+k) (pos w ys j+l)↔xs[i]=ys[j]/\k=l:=by
 rw[dZ.ints,pos_at hi hk,pos_at W hl];have I:=(hw xs[i]).2;have J:=(hw ys[j]).2;constructor
 ·rintro ⟨c,O,U⟩;have e:=ah (O.trans U.symm);omega
 ·rintro ⟨e,rfl⟩;apply#[_,rfl,by rw[e]]
end
section
variable {r s:T3}
variable {w:Int->Nat}{xs ys:List Int}
def rq.same {i j n:Nat}(h:rq xs ys i j n):pos w xs (i+n)+pos w ys j=pos w ys (j+n)+pos w xs i:=by
 induction n with
 |zero=>show Nat.add_comm _ _
 |succ n O =>
  have U:=h.li;have W:=h.lj;have e:=h.eq n (uj _);rw[aq (fc .J .a .K U),aq (fc .J .a .K W)]at e;have e:=ah e;have:=O (h.cut (fO _));rw[<- nt,<- nt,pos_succ (fc .J .a .K U),pos_succ (fc .J .a .K W),e]
  (show N0 (.e (.a .L .C) (.a .aA .F)) .l (.e .S .X) this)
abbrev imW (w:Int->Nat)(xs ys:List Int)(r:T3):T3:=(pos w xs r.1,pos w ys r.2.1,pos w xs (r.1+r.2.2)-pos w xs r.1)
variable (hw:∀x,0<w x/\w x<=40)
include hw
def rq.run {i j n:Nat}(h:rq xs ys i j n):A0 (dZ (ks (spread w xs)) (ks (spread w ys))) 0 (spread w xs).length 0 (spread w ys).length (imW w xs ys (i,j,n)).1 (imW w xs ys (i,j,n)).2.1 (imW w xs ys (i,j,n)).2.2:=by
 have s:=h.same (w:=w);have a:=nq hw (xs:=xs) (gv i n) h.li;have b:=nq hw (xs:=ys) (gv j n) h.lj;have c:=nq hw (xs:=xs) h.li (au _);have d:=nq hw (xs:=ys) h.lj (au _);rw[eO]at c d;apply#[bq _,?_,bq _,?_,λt ht=>?_]
 ·show pos w xs i+(pos w xs (i+n)-pos w xs i)<=_;(show fy .F .b .bU (.e .Z .D) c (aa (av .A .a .A a)))
 ·show pos w ys j+(pos w xs (i+n)-pos w xs i)<=_;(show zm .F .e (.e (.a .D .A) .a9) .aZ (.e (.a .B .G) .D) s d (aa (av .A .a .A a)))
 ·have ht:t<pos w xs (i+n)-pos w xs i:=ht;have#[i',k,U,hk,I,e]:=iJ hw h.li (show pos w xs i+t<pos w xs (i+n) by show fy .J .b .W .O ht (aa (av .A .a .A a)));have ag:i<=i':=by
   rcases ix i' i with q|q
   ·have:=nq hw (xs:=xs) (show i'+1<=i from q) (by have:=h.li;(show fc .A .a .a2 this));rw[pos_succ U]at this;(show DN .A .j .V (.e .a9 (.a .H .C)) (.k (.a .H .D) .F) hk e this)
   ·show q
  have#[m,rfl]:∃m,i'=i+m:=#[i'-i,by show fc .a5 .f (.e .a8 .A) (aa (av .A .a .A ag))];have hm:m<n:=by(show fc .B .a (.l .a7 .a8) I)
  have s2:=(h.cut (gy hm)).same (w:=w);have e2:=h.eq m hm;have z:j+m<ys.length:=by have:=h.lj;(show oz .J .b (.l .aA .X) (.k .aD .C) I this)
  rw[aq U,aq z]at e2;have e2:=ah e2;show dZ _ _ (pos w xs i+t) (pos w ys j+t);rw[e,show pos w ys j+t=pos w ys (j+m)+k by(show OA .bC .q (.e .aI (.a .G .D)) (.e (.a .G .A) .aL) e s2)];show(dP hw U hk z (by rw[<- e2];show hk)).mpr #[e2,rfl]
def kX {b d:Nat}(hb:b<=xs.length)(hd:d<=ys.length):∀(m:Nat) {k i j:Nat},k<=m->i<=xs.length->j<=ys.length->pos w xs i+k<=pos w xs b->pos w ys j+k<=pos w ys d->(∀t,t<k->dZ (ks (spread w xs)) (ks (spread w ys)) (pos w xs i+t) (pos w ys j+t)) ->
  ¬(pos w xs i+k<pos w xs b/\pos w ys j+k<pos w ys d/\dZ (ks (spread w xs)) (ks (spread w ys)) (pos w xs i+k) (pos w ys j+k))->∃n,rq xs ys i j n/\pos w xs i+k=pos w xs (i+n)
 |0,k,i,j=>λhk hi hj _ _ _ _=>by
  obtain rfl:k=0:=by(show fh .N .t (.k .A .O) hk)
  apply#[0,#[hi,hj,λt ht=>absurd ht (ou _)],rfl]
 |m+1,k,i,j=>λhk hi hj h1 h2 h3 h4=>by
  by_cases k0:k=0
  ·subst k0;apply#[0,#[hi,hj,λt ht=>absurd ht (ou _)],rfl]
  have ib:i<b:=by
   rcases ix i b with q|q
   ·show q
   ·have:=nq hw q hi;(show(ae k0).elim (λq1=>(fc .B .i (.l .C .O) q1)) λq1=>(ll .B .j (.k .R .F) .aZ (.l .O .D) h1 this q1))
  have jd:j<d:=by
   rcases ix j d with q|q
   ·show q
   ·have:=nq hw q hj;(show(ae k0).elim (λq1=>(fc .B .i (.l .C .O) q1)) λq1=>(ll .B .j (.k .R .F) .aZ (.l .O .D) h2 this q1))
  have z:i<xs.length:=by(show fb .B .b .H .I hb ib)
  have U:j<ys.length:=by(show fb .B .b .H .I hd jd)
  have w1:=(hw xs[i]).1;have w2:=(hw ys[j]).1;have#[e,_]:=(dP hw z w1 U w2).mp (h3 0 ((ae k0).elim (λq1=>(fh .C .i .b9 q1)) λq1=>(fh .C .a .C q1)));have pb:=nq hw (xs:=xs) (show i+1<=b from ib) hb;have pd:=nq hw (xs:=ys) (show j+1<=d from jd) hd;rw[pos_succ z]at pb;rw[pos_succ U]at pd;rw[<- e]at pd w2;have kw:w xs[i]<=k:=by
   rcases ix k (w xs[i]) with q|q
   ·show(h4 #[by show fy .J .b .bR .W pb q,by show fy .J .b .bR .W pd q,(dP hw z q U (by rw[<- e];show q)).mpr #[e,rfl]]).elim
   ·show q
  have s1:pos w xs (i+1)=pos w xs i+w xs[i]:=pos_succ z;have s2:pos w ys (j+1)=pos w ys j+w xs[i]:=by rw[pos_succ U,<- e]
  have#[n,R,en]:=kX hb hd m (k:=k-w xs[i]) (i:=i+1) (j:=j+1) (mr .A .e .c4 (.l .O .D) .b1 hk w1 (aa (av .A .a .A kw))) z U (zm .F .e .aW (.e .A (.a .D .G)) .c0 h1 s1 (aa (av .A .a .A kw))) (zm .F .e .aW (.e .A (.a .D .G)) .c0 h2 s2 (aa (av .A .a .A kw))) (λt ht=>by
   rw[s1,s2,nt,nt];show h3 _ (fy .J .b .W .O ht (aa (av .A .a .A kw)))) (λq=>h4 (by
   rw[show pos w xs (i+1)+(k-w xs[i])=pos w xs i+k by show oz .bC .q (.e .A .aL) .bM s1 (aa (av .A .a .A kw)),show pos w ys (j+1)+(k-w xs[i])=pos w ys j+k by(show oz .bC .q (.e .A .aL) .bM s2 (aa (av .A .a .A kw)))]at q;show q))
  apply#[n+1,#[by have:=R.li;(show fc .K .a .bF this),by have:=R.lj;(show fc .K .a .bF this),λt ht=>?_],?_]
  ·cases t with
   |zero=>show xs[i]?=ys[j]?;rw[aq z,aq U,e]
   |succ t =>
    have:=R.eq t (Nat.lt_of_succ_lt_succ ht)
    rwa [show i+(t+1)=i+1+t by show my .bV .n,show j+(t+1)=j+1+t by(show my .bV .n)]
  ·rw[show i+(n+1)=i+1+n by show my .bV .n,<- en];(show oz .bC [[1,1,1],[1,-1,-1]] (.e .C .aD) (.e .X .B) s1 (aa (av .A .a .A kw)))
def BT.words {alo ahi blo bhi:Nat}{L:List T3}(h:BT (dZ (ks (spread w xs)) (ks (spread w ys))) alo ahi blo bhi L){a b c d:Nat}(ea:alo=pos w xs a)(eb:ahi=pos w xs b)(ec:blo=pos w ys c)(ed:bhi=pos w ys d)(hb:b<=xs.length)(hd:d<=ys.length)(ha:a<=xs.length)(hc:c<=ys.length) :
  ∀t∈L,∃i j n,0<n/\rq xs ys i j n/\t=imW w xs ys (i,j,n):=by
 induction h generalizing a b c d with
 |nil=>show λt ht=>nomatch ht
 | @node alo ahi blo bhi i j k L R B bl br aj ag =>
  subst ea eb ec ed;have Rn:=B.run;have h1:=Rn.ai;have h2:=Rn.ia;have h3:=Rn.bj;have h4:=Rn.jb;have kp:=B.pos;have li:i<(spread w xs).length:=by rw[<- eO];have:=nq hw (xs:=xs) hb (au _);(show mr .B .e (.k .S .D) .X .c3 h2 kp this)
  have lj:j<(spread w ys).length:=by rw[<- eO];have:=nq hw (xs:=ys) hd (au _);(show mr .B .e (.k .S .D) .X .c3 h4 kp this)
  have#[i',e,U,he,I]:=lI hw li;have#[j',f,W,hf,J]:=lI hw lj;have h0:=Rn.eq 0 kp;rw[yc,yc,I,J]at h0;have#[eq,rfl]:=(dP hw U he W hf).mp h0;have ai:a<=i':=by
   rcases ix i' a with q|q
   ·have:=nq hw (xs:=xs) (show i'+1<=a from q) ha;rw[pos_succ U]at this;(show HR .A [[0,1,1,1,1]] .a0 (.l .F .G) (.e .D (.a .H .F)) (.k (.a .H .G) .C) h1 he I this)
   ·show q
  have cj:c<=j':=by
   rcases ix j' c with q|q
   ·have:=nq hw (xs:=ys) (show j'+1<=c from q) hc;rw[pos_succ W]at this;(show HR .A [[0,1,1,1,1]] .a0 (.l .F .G) (.e .D (.a .H .F)) (.k (.a .H .G) .C) h3 hf J this)
   ·show q
  have pa:=nq hw (xs:=xs) ai (gy U);have pc:=nq hw (xs:=ys) cj (gy W);have e0:e=0:=by
   rcases eH e with q|q
   ·show q
   ·have:=B.max (i-1) (j-1) (k+1) (Nat.succ_pos _) ⟨by show j5 .A [[1,-1,1,1,-1]] (.e .C .X) .aH (.l .O .F) (.e .P .C) I pa q (aa (fb .G .k .a5 .X I q)),by show fy .K .b (.k .aA .C) (.e .M .D) h2 (aa (fb .G .k .a5 .X I q)),by show j5 .A [[1,-1,1,1,-1]] (.e .C .X) .aH (.l .O .F) (.e .P .C) J pc q (aa (fb .G .k .a5 .X J q)),by show fy .K .b (.k .aA .C) (.e .M .D) h4 (aa (fb .G .k .a5 .X J q)),λt ht=>by
     cases t with
     |zero =>
      rw[show i-1+0=pos w xs i'+(e-1) by show ll (.e (.a .A .O) .Q) .z (.e .D .a3) (.e .M .D) (.e .T .F) I (aa (fb .G .k .a5 .X I q)) (aa (fh .G .a .C q)),show j-1+0=pos w ys j'+(e-1) by(show ll (.e (.a .A .O) .Q) .z (.e .D .a3) (.e .M .D) (.e .T .F) J (aa (fb .G .k .a5 .X J q)) (aa (fh .G .a .C q)))];show(dP hw U (fb .B .b .Q .a8 he (aa (fh .G .a .C q))) W (fb .B .b .Q .a8 hf (aa (fh .G .a .C q)))).mpr #[eq,rfl]
     |succ t =>
      rw[show i-1+(t+1)=i+t by show fc (.e .a4 .a8) .l .a8 (aa (fb .G .k .a5 .X I q)),show j-1+(t+1)=j+t by(show fc (.e .a4 .a8) .l .a8 (aa (fb .G .k .a5 .X J q)))];show Rn.eq t (av .B .a (.l .M .P) ht)⟩
    (show this.elim (λq1=>(av .N [[0,1],[0,1]] (.l .P .B) q1)) λq1=>(av .N [[0,1],[0,1]] (.e .P .B) q1.1))
  subst e0;rw[yc]at I J;subst I J;have#[n,Rw,en]:=kX hw (b:=b) (d:=d) hb hd k (au _) (gy U) (gy W) h2 h4 Rn.eq λq=>by
   have:=B.max (pos w xs i') (pos w ys j') (k+1) (Nat.succ_pos _) ⟨h1,q.1,h3,q.2.1,λt ht=>by
    rcases jj (Nat.le_of_lt_succ ht) with z|rfl
    ·show Rn.eq t z
    ·show q.2.2⟩
   (show this.elim (λq1=>(fh .ff .i (.l .M .A) q1)) λq1=>(fh .ff .i (.e .M .A) q1.1))
  have n0:0<n:=by
   rcases eH n with rfl|q
   ·rw[yc]at en;(show gj (.l .O .O) .c .C (.e .Z .B) kp en)
   ·show q
  have s:=Rw.same (w:=w);intro t ht;rcases cu.mp ht with q|q
  ·show aj rfl rfl rfl rfl (gy U) (gy W) ha hc t q
  ·rcases cz.mp q with rfl|q
   ·apply#[i',j',n,n0,Rw,?_];show(pos w xs i',pos w ys j',k)=(pos w xs i',pos w ys j',pos w xs (i'+n)-pos w xs i');rw[<- en,kq]
   ·show ag (a:=i'+n) (c:=j'+n) en rfl (oz .T .q (.e .aA .F) (.e .aR .R) en s) rfl hb hd Rw.li Rw.lj t q
def zW (hr:rq xs ys r.1 r.2.1 r.2.2)(O:rq xs ys s.1 s.2.1 s.2.2)(h:Bef (imW w xs ys s) (imW w xs ys r)) :
  (imW w xs ys r).2.2<(imW w xs ys s).2.2\/((imW w xs ys r).2.2=(imW w xs ys s).2.2/\(s.1<r.1\/(s.1=r.1/\s.2.1<r.2.1))):=by
 have U:=hr.li;have I:=hr.lj;have W:=O.li;have J:=O.lj;have p1:=kr hw (xs:=xs) (i:=r.1) (j:=s.1) (fc .A .a .a2 U) (fc .A .a .a2 W);have z:=kr hw (xs:=xs) (i:=s.1) (j:=r.1) (fc .A .a .a2 W) (fc .A .a .a2 U);have B:=kr hw (xs:=ys) (i:=r.2.1) (j:=s.2.1) (fc .A .a .a2 I) (fc .A .a .a2 J);have h:(imW w xs ys r).2.2<(imW w xs ys s).2.2\/((imW w xs ys r).2.2=(imW w xs ys s).2.2/\(pos w xs s.1<pos w xs r.1\/(pos w xs s.1=pos w xs r.1/\pos w ys s.2.1<pos w ys r.2.1))):=h;omega
def pB (hr:rq xs ys r.1 r.2.1 r.2.2)(z:rq xs ys s.1 s.2.1 s.2.2):Cmp (imW w xs ys s) (imW w xs ys r)↔((r.1+r.2.2<=s.1/\r.2.1+r.2.2<=s.2.1)\/(s.1+s.2.2<=r.1/\s.2.1+s.2.2<=r.2.1)):=by
 have B:=hr.li;have l2:=hr.lj;have I:=z.li;have l4:=z.lj;have p1:=kr hw (xs:=xs) (i:=r.1+r.2.2) (j:=s.1) (fc .F .a .F B) (fc .A .a .a2 I);have p2:=kr hw (xs:=xs) (i:=s.1+s.2.2) (j:=r.1) (fc .F .a .F I) (fc .A .a .a2 B);have p3:=kr hw (xs:=ys) (i:=r.2.1+r.2.2) (j:=s.2.1) (fc .F .a .F l2) (fc .A .a .a2 l4);have p4:=kr hw (xs:=ys) (i:=s.2.1+s.2.2) (j:=r.2.1) (fc .F .a .F l4) (fc .A .a .a2 l2);have s1:=hr.same (w:=w);have s2:=z.same (w:=w);have a1:=nq hw (xs:=xs) (gv r.1 r.2.2) B;have a2:=nq hw (xs:=xs) (gv s.1 s.2.2) I;rw[<- p1,<- p2,<- p3,<- p4];show(pos w xs s.1+(pos w xs (s.1+s.2.2)-pos w xs s.1)<=pos w xs r.1/\pos w ys s.2.1+(pos w xs (s.1+s.2.2)-pos w xs s.1)<=pos w ys r.2.1)\/(pos w xs r.1+(pos w xs (r.1+r.2.2)-pos w xs r.1)<=pos w xs s.1/\pos w ys r.2.1+(pos w xs (r.1+r.2.2)-pos w xs r.1)<=pos w ys s.2.1)↔_
 (show#[λJ=>(jz λO=>(J.elim (λU=>((cm.mp (tq.mp O).2).elim (λW=>(mr .ff [[0,-1,1,1]] .T (.k .Z .D) (.j .C .D) (aa (av .A .a .A a2)) U.1 W)) λW=>(xy .ff [[0,-1,-1,1,1]] .bC (.e .aG .A) (.k .a3 .G) (.j .C .G) s2 (aa (av .A .a .A a2)) U.2 W))) λU=>((cm.mp (tq.mp O).1).elim (λW=>(mr .ff [[0,-1,1,1]] .T (.k .Z .D) (.j .C .D) (aa (av .A .a .A a1)) U.1 W)) λW=>(xy .ff [[0,-1,-1,1,1]] .bC (.e .aG .A) (.k .a3 .G) (.j .C .G) s1 (aa (av .A .a .A a1)) U.2 W)))),λJ=>(jz λO=>(J.elim (λU=>((cm.mp (tq.mp O).2).elim (λW=>(mr .ff .j .T .a0 (.j .Z .D) (aa (av .A .a .A a1)) U.1 W)) λW=>(xy .ff [[0,1,1,1,1]] .bC (.e .aG .A) (.k .C .G) (.j .a3 .G) s1 (aa (av .A .a .A a1)) U.2 W))) λU=>((cm.mp (tq.mp O).1).elim (λW=>(mr .ff .j .T .a0 (.j .Z .D) (aa (av .A .a .A a2)) U.1 W)) λW=>(xy .ff [[0,1,1,1,1]] .bC (.e .aG .A) (.k .C .G) (.j .a3 .G) s2 (aa (av .A .a .A a2)) U.2 W))))])
def CM (hr:rq xs ys r.1 r.2.1 r.2.2)(I:rq xs ys s.1 s.2.1 s.2.2)(e:imW w xs ys r=imW w xs ys s):r=s:=by
 have U:=hr.li;have J:=hr.lj;have W:=I.li;have O:=I.lj;have e1:pos w xs r.1=pos w xs s.1:=di (·.1) e;have e2:pos w ys r.2.1=pos w ys s.2.1:=di (·.2.1) e;have e3:pos w xs (r.1+r.2.2)-pos w xs r.1=pos w xs (s.1+s.2.2)-pos w xs s.1:=di (·.2.2) e;have p1:=kr hw (xs:=xs) (i:=r.1) (j:=s.1) (fc .A .a .a2 U) (fc .A .a .a2 W);have p2:=kr hw (xs:=xs) (i:=s.1) (j:=r.1) (fc .A .a .a2 W) (fc .A .a .a2 U);have p3:=kr hw (xs:=ys) (i:=r.2.1) (j:=s.2.1) (fc .A .a .a2 J) (fc .A .a .a2 O);have p4:=kr hw (xs:=ys) (i:=s.2.1) (j:=r.2.1) (fc .A .a .a2 O) (fc .A .a .a2 J);have z:=kr hw (xs:=xs) (i:=r.1+r.2.2) (j:=s.1+s.2.2) (fc .F .a .F U) (fc .F .a .F W);have B:=kr hw (xs:=xs) (i:=s.1+s.2.2) (j:=r.1+r.2.2) (fc .F .a .F W) (fc .F .a .F U);have a1:=nq hw (xs:=xs) (gv r.1 r.2.2) U;have a2:=nq hw (xs:=xs) (gv s.1 s.2.2) W;show eF (by omega) (eF (by omega) (by omega))
end
end MP
end
section
namespace MP
namespace R7
open PySem SM
abbrev wt (w:Int->Nat)(xs:List Int)(r:T3):Nat:=pos w xs (r.1+r.2.2)-pos w xs r.1
abbrev eW (w:Int->Nat)(xs:List Int)(r:T3):List Int:=[-(wt w xs r:Nat),r.1,r.2.1,r.2.2]
abbrev lT (w:Int->Nat)(xs:List Int)(r:T3):List Int:=[r.1,r.2.1,r.2.2,(wt w xs r:Nat)]
structure RK (ρ:Fr)(la lb ld lr:Addr):Prop where
 r0:ρ 0=some (.L la)
 r1:ρ 1=some (.L lb)
 r2:ρ 2=some (.dct ld)
 r3:ρ 3=some (.L lr)
structure Wd (σ:St)(la lb ld:Addr)(w:Int->Nat)(xs ys:List Int)(es:List (Key×V)):Prop where
 a:σ.L la=some (iV xs)
 b:σ.L lb=some (iV ys)
 d:σ.D ld=some es
 e:∀x∈xs,es.lookup (.int x)=some (.int (w x))
 na:xs.length<=61
 nb:ys.length<=61
def Wd.ext {σ σ':St}{la lb ld:Addr}{w:Int->Nat}{xs ys:List Int}{es:List (Key×V)}(h:Wd σ la lb ld w xs ys es)(E:Ext σ σ'):Wd σ' la lb ld w xs ys es:=#[E.L _ _ h.a,E.L _ _ h.b,E.D _ _ h.d,h.e,h.na,h.nb]
section
variable {C:Cal}{σ:St}{la lb ld lr:Addr}{w:Int->Nat}{xs ys:List Int}{es:List (Key×V)}{K:Fl->Fr->St->Prop}
public abbrev rV (w:Int->Nat)(xs:List Int)(R:List T3):List V:=R.map λr=>iT (eW w xs r)
inductive N4 (σ:St)(la lb ld lr:Addr)(w:Int->Nat)(xs ys:List Int)(i j:Nat)(n:Nat)(ρ:Fr)(σ':St):Prop
 |mk (s:Nat) (R:List T3):n=xs.length-(i+s)->RK ρ la lb ld lr->ρ 4=some (.int i)->ρ 5=some (.int j)->ρ 6=some (.int s)->ρ 7=some (.int (wt w xs (i,j,s):Nat))->σ'=σ.ew lr (rV w xs R)->rq xs ys i j s->zq xs ys R i j s->N4 σ la lb ld lr w xs ys i j n ρ σ'
def zG (W:Wd σ la lb ld w xs ys es)(ao:σ.L lr=none){i j:Nat}{R:List T3}{ρ:Fr}(hi:i<=xs.length)(hj:j<=ys.length)(H:RK ρ la lb ld lr)(r4:ρ 4=some (.int i))(r5:ρ 5=some (.int j))(r6:ρ 6=some (.int 0))(r7:ρ 7=some (.int 0))(I:zq xs ys R i j 0)
  (h:∀ρ' R',RK ρ' la lb ld lr->ρ' 4=some (.int i)->zq xs ys R' i (j+1) 0->K .next ρ' (σ.ew lr (rV w xs R'))) :
  wpS C (.loop (.and (.c .lt (.b .add (.l 4) (.l 6)) (.bf .len %[.l 0|0])) (.and (.c .lt (.b .add (.l 5) (.l 6)) (.bf .len %[.l 1|0])) (.c .eq (.sub (.l 0) (.b .add (.l 4) (.l 6))) (.sub (.l 1) (.b .add (.l 5) (.l 6)))))) (.cons (.aug 7 .add (.sub (.l 2) (.sub (.l 0) (.b .add (.l 4) (.l 6)))))
 (.cons (.aug 6 .add (.int 1))
 (.cons (.expr (.bm .append (.l 3) %[.T %[.neg (.l 7),.l 4,.l 5,.l 6|0]|0]))
 .nil)))) ρ (σ.ew lr (rV w xs R)) K:=by
 have w0:wt w xs (i,j,0)=0:=Nat.sub_self _;apply#[xs.length+1,zg (N4 σ la lb ld lr w xs ys i j) ?_ (xs.length+1) (xs.length-(i+0)) (fc .aM .a (.e (.a .A (.a .C .O)) .B) (aa (av (.k (.a .A .O) .B) .a .A hi))) #[0,R,rfl,H,r4,r5,r6,by rw[w0];show r7,rfl,rq.nil hi hj,I]];intro n ρ' σ' hI again ar;have#[s,R',rfl,H',U,ai,ag,aj,rfl,Rn,I']:=hI;have W':=W.ext ((Ext.refl σ).ew (xs:=rV w xs R') ao);have hL:(σ.ew lr (rV w xs R')).L lr=some (rV w xs R'):=cn _ _ _;have hs:=Rn.li;have na:=W.na;apply xw _ (CX W'.a W'.b H'.r0 H'.r1 U ai ag) ?_;by_cases c:i+s<xs.length/\j+s<ys.length/\xs[i+s]?=ys[j+s]?
 ·rw[gp c];apply iP ?_;have hx:xs[i+s]?=some xs[i+s]:=aq c.1;have he:=W.e _ (du c.1);have hw:wt w xs (i,j,s+1)=wt w xs (i,j,s)+w xs[i+s]:=by
   have:=pos_succ (w:=w) c.1;have le:pos w xs i<=pos w xs (i+s):=by
    have:∀s,i+s<=xs.length->pos w xs i<=pos w xs (i+s):=λs=>by
     induction s with
     |zero=>show λ_=>au _
     |succ s ih =>
      intro h;have hh:i+s<xs.length:=h;rw[<- nt,pos_succ (w:=w) hh];have:=ih (fP h);(show fc (.k .A .Q) .a .A this)
    show this s hs
   show pos w xs (i+(s+1))-pos w xs i=pos w xs (i+s)-pos w xs i+_;rw[<- nt];(show zm .a5 .z (.e .D .aQ) (.e (.a .A .G) .D) .c0 this (aa (fy .A .k (.e .B .R) .L this le)) (aa (av .A .a .A le)))
  apply#[_,aj,_,H'.r2,?_];apply jm (Q:=_) _ (mK H'.r0 W'.a (km U ag) (by rw[dq,hx];rfl)) #[es,.int xs[i+s],.int (w xs[i+s]),W'.d,rfl,he,?_];have q7:V.int ((wt w xs (i,j,s):Nat)+(w xs[i+s]:Nat):Int)=.int (wt w xs (i,j,s+1):Nat):=by rw[hw];rfl
  show gq C _ (upd ρ' 7 (V.int ((wt w xs (i,j,s):Nat)+(w xs[i+s]:Nat):Int))) _ _;rw[q7];apply#[_,ag,?_];show gq C _ (upd (upd ρ' 7 (V.int (wt w xs (i,j,s+1):Nat))) 6 (.int (s+1:Nat))) _ _;apply fJ (iT (eW w xs (i,j,s+1))) H'.r3 hL ?_ (by rw[aw];have:=I'.len;have:=Rn.lj;have:=W.nb;unfold bz;(rename_i z2 z1;show mY .bA [[1,63,3969,3969,1,63]] .b0 (.k .D (.n 61)) (.l .a9 .D) (.k .A (.a (.r (.a (.r .F 63) .B) 63) .G)) (.k .C (.n 61)) hj na c.1 z2 this)) ?_
  ·rw[aO,gn,xV,gn,gn,gn,tK,qy,qy,qy,qy];rw[show upd (upd ρ' 7 (V.int (wt w xs (i,j,s+1):Nat))) 6 (.int (s+1:Nat)) 4=some (.int i) from U,show upd (upd ρ' 7 (V.int (wt w xs (i,j,s+1):Nat))) 6 (.int (s+1:Nat)) 5=some (.int j) from ai];rfl
  ·have e:rV w xs R'++[iT (eW w xs (i,j,s+1))]=rV w xs (R'++[(i,j,s+1)]):=(fu (l₁:=R') (l₂:=[(i,j,s+1)])).symm;rw[e,xi];show oo (ar _ _ _ (oz .B .d (.e (.a .A .aT) .F) (.e (.a .B .R) .F) (aa (fc .K .a .J c.1)) (aa (fc .F .a .F hs))) #[s+1,_,rfl,#[H'.r0,H'.r1,H'.r2,H'.r3],U,ai,rfl,rfl,rfl,Rn.grow c,I'.grow (Rn.grow c)])
 ·rw[fp c];show iQ (h _ _ H' U (I'.nextJ (fb .cH .b (.k .Z .C) (.k .C (.n 61)) hs na) λn q=>q.stop c))
end
end R7
namespace R7
open PySem SM
inductive nB (w:Int->Nat)(xs ys:List Int)(K:List T3):Prop
 |mk (R S:List T3):zq xs ys R xs.length 0 0->S.Perm R->(S.Pairwise λr s=>ju (eW w xs s) (eW w xs r)=false)->K.Perm (grS S)->(K.Pairwise λr s=>ju (lT w xs s) (lT w xs r)=false)->nB w xs ys K
abbrev NZ (l:List Int):T3:=((l.getD 1 0).toNat,(l.getD 2 0).toNat,(l.getD 3 0).toNat)
abbrev O0 (l:List Int):T3:=((l.getD 0 0).toNat,(l.getD 1 0).toNat,(l.getD 2 0).toNat)
section
variable {C:Cal}{σ:St}{la lb ld lr kl:Addr}{w:Int->Nat}{xs ys:List Int}{es:List (Key×V)}{K:Fl->Fr->St->Prop}
public abbrev kV (w:Int->Nat)(xs:List Int)(R:List T3):List V:=R.map λr=>iT (lT w xs r)
structure RG (ρ:Fr)(kl:Addr)(w:Int->Nat)(xs:List Int)(r:T3):Prop where
 r8:ρ 8=some (.L kl)
 r9:ρ 9=some (.int (-(wt w xs r:Nat)))
 r4:ρ 4=some (.int r.1)
 r5:ρ 5=some (.int r.2.1)
 r6:ρ 6=some (.int r.2.2)
def CT {k:Fr->St->Prop}{r s:T3}{ρ:Fr}{b:Bool}(H:RG ρ kl w xs r)(I:ρ 10=some (.bool b))(h:∀ρ',RG ρ' kl w xs r->ρ' 10=some (.bool (b&&decide (CU r s)))->k ρ' σ) :
  qi (.T [11,12,13,7]) (iT (lT w xs s)) σ ρ λρ=>gq C (.cons (.C (.not (.or (.and (.c .le (.b .add (.l 4) (.l 6)) (.l 11)) (.c .le (.b .add (.l 5) (.l 6)) (.l 12))) (.and (.c .le (.b .add (.l 11) (.l 13)) (.l 4)) (.c .le (.b .add (.l 12) (.l 13)) (.l 5))))) (.cons (.a [(.v 10)] (.bool false))
 .nil) .nil)
 .nil) ρ σ (wi k K):=by
 apply#[_,rfl,rfl,?_];have q:∀{ρ':Fr},(∀i,i<11->i≠7->ρ' i=ρ i)->RG ρ' kl w xs r:=λ{ρ'} q=>#[(q 8 (by decide) (by decide)).trans H.r8,(q 9 (by decide) (by decide)).trans H.r9,(q 4 (by decide) (by decide)).trans H.r4,(q 5 (by decide) (by decide)).trans H.r5,(q 6 (by decide) (by decide)).trans H.r6];have H1:RG (gr [11,12,13,7] [.int s.1,.int s.2.1,.int s.2.2,.int (wt w xs s:Nat)] ρ) kl w xs r:=#[H.r8,H.r9,H.r4,H.r5,H.r6];have J:gr [11,12,13,7] [.int s.1,.int s.2.1,.int s.2.2,.int (wt w xs s:Nat)] ρ 10=some (.bool b):=I;have O:gr [11,12,13,7] [.int s.1,.int s.2.1,.int s.2.2,.int (wt w xs s:Nat)] ρ 11=some (.int s.1):=rfl;have U:gr [11,12,13,7] [.int s.1,.int s.2.1,.int s.2.2,.int (wt w xs s:Nat)] ρ 12=some (.int s.2.1):=rfl;have W:gr [11,12,13,7] [.int s.1,.int s.2.1,.int s.2.2,.int (wt w xs s:Nat)] ρ 13=some (.int s.2.2):=rfl;show gq C _ (gr [11,12,13,7] [.int s.1,.int s.2.1,.int s.2.2,.int (wt w xs s:Nat)] ρ) σ _;generalize gr [11,12,13,7] [.int s.1,.int s.2.1,.int s.2.2,.int (wt w xs s:Nat)] ρ=B at H1 J O U W;apply rM (¬CU r s) (CW (GY (vn (qT (km H1.r4 H1.r6) O) (qT (km H1.r5 H1.r6) U)) (vn (qT (km O W) H1.r4) (qT (km U W) H1.r5)))) (λc=>?_) λc=>?_
 ·apply jQ (.bool false) rfl (dX (oo (h _ #[H1.r8,H1.r9,H1.r4,H1.r5,H1.r6] ?_)));rw[fp c,Bool.and_false];rfl
 ·apply dX (oo (h _ H1 ?_));rw[gp (fS.mp c),Bool.and_true];show J
def CP {S:List T3}{t:Nat}(h:t<S.length):grS (S.take (t+1))=grK (grS (S.take t)) S[t]:=by
 unfold grS;rw[ee h,List.foldl_append];rfl
def CE {n:Nat}{Q:V->St->Prop}(W:Wd σ la lb ld w xs ys es)(h:∀c σ' K',Ext σ σ'->σ'.L c=some (kV w xs K')->nB w xs ys K'->Q (.L c) σ'):jc P (n+1) 11 [.L la,.L lb,.dct ld] σ Q:=by
 apply#[GV,rfl,au 3,au 3,?_];apply u9 [] rfl (bq _) λlr ao=>?_;have H0:RK (upd (frameOf GV [.L la,.L lb,.dct ld]) 3 (.L lr)) la lb ld lr:=#[rfl,rfl,rfl,rfl];generalize upd (frameOf GV [.L la,.L lb,.dct ld]) 3 (.L lr)=ρ at H0;have W1:∀R,Wd (σ.ew lr (rV w xs R)) la lb ld w xs ys es:=λR=>W.ext ((Ext.refl σ).ew ao);have na:=W.na;have nb:=W.nb;show gq _ _ ρ (σ.ew lr (rV w xs [])) _;apply oX (n:=xs.length) (λi ρ' σ'=>∃R,RK ρ' la lb ld lr/\σ'=σ.ew lr (rV w xs R)/\zq xs ys R i 0 0) (vi H0.r0 (W1 []).a) (fh (.l .A (.n (2^39))) .a .b4 na) #[[],H0,rfl,zq.start] (λi ρ' σ' kk K' hi hI hk=>?_) λρ' σ' hI=>?_
 ·have#[R,H,rfl,I]:=hI;have H1:RK (upd ρ' 4 (.int i)) la lb ld lr:=#[H.r0,H.r1,H.r2,H.r3];apply oX (n:=ys.length) (λj ρ' σ'=>∃R,RK ρ' la lb ld lr/\ρ' 4=some (.int i)/\σ'=σ.ew lr (rV w xs R)/\zq xs ys R i j 0) (vi H1.r1 (W1 R).b) (fh (.l .A (.n (2^39))) .a .b4 nb) #[R,H1,rfl,rfl,I] (λj U σ2 k2 K2 hj hI cb=>?_) λU σ2 hI=>?_
  ·have#[R,H2,q4,rfl,I]:=hI;show gq _ _ (upd (upd (upd U 5 (.int j)) 6 (.int 0)) 7 (.int 0)) _ _;apply zG (K:=kW (λρ σ=>gq (jc P n) .nil ρ σ (wi k2 K2)) (wi k2 K2)) W ao (gy hi) (gy hj) #[H2.r0,H2.r1,H2.r2,H2.r3] q4 rfl rfl rfl I λbr R' H3 q4 I'=>?_;show cb _ _ #[R',H3,q4,rfl,I']
  ·have#[R,H2,q4,rfl,I]:=hI;show oo (hk _ _ #[R,H2,rfl,I.LS (fh .cH .a .b4 nb)])
 have#[R,H,rfl,I]:=hI;have ch:R.length<=bz:=by have:=I.len;unfold bz;(show gj .b3 [[1,3969,1]] .aA (.k .A (.a (.r (.a (.r .B 63) .O) 63) .O)) na this)
 apply u9 [] rfl (bq _) λkl ai=>?_;have E1:Ext σ (σ.ew lr (rV w xs R)):=(Ext.refl σ).ew ao;have E2:Ext σ ((σ.ew lr (rV w xs R)).ew kl []):=E1.ew (E1.noL ai);have bv:lr≠kl:=λq=>by
  rw[<- q]at ai;rw[show(σ.ew lr (rV w xs R)).L lr=_ from cn _ _ _]at ai;cases ai
 have bl:((σ.ew lr (rV w xs R)).ew kl []).L lr=some ((R.map (eW w xs)).map iT):=(fg bv).trans ((cn _ _ _).trans (by rw[jk];rfl));have ax:((σ.ew lr (rV w xs R)).ew kl []).L kl=some []:=cn _ _ _;have r3:upd ρ' 8 (.L kl) 3=some (.L lr):=H.r3;have r8:upd ρ' 8 (.L kl) 8=some (.L kl):=rfl;generalize upd ρ' 8 (.L kl)=cl at r3 r8;generalize (σ.ew lr (rV w xs R)).ew kl []=σ2 at E2 bl ax;apply#[_,r3,R.map (eW w xs),4,by decide,bl,(λt ht=>by have#[r,_,rfl]:=fj.mp ht;rfl),λcx hp hs c hc=>?_];have#[S,hS,rfl]:=oG (f:=eW w xs) (g:=NZ) (λa=>rfl) hp;have hs:=fR.mp hs;have ar:c≠kl:=λq=>by rw[q,ax]at hc;cases hc
 have E3:Ext σ (σ2.ew c ((S.map (eW w xs)).map iT)):=E2.ew (E2.noL hc);have aj:(σ2.ew c ((S.map (eW w xs)).map iT)).L c=some ((S.map (eW w xs)).map iT):=cn _ _ _;have bc:(σ2.ew c ((S.map (eW w xs)).map iT)).L kl=some []:=(fg (j9 ar)).trans ax;have cd:S.length<=bz:=by rw[hS.length_eq];show ch
 have ca:σ.L kl=none:=E1.noL ai;generalize σ2.ew c ((S.map (eW w xs)).map iT)=z at E3 aj bc;apply#[_,aj,?_];apply qe (λt ρ σ'=>ρ 8=some (.L kl)/\σ'=z.ew kl (kV w xs (grS (S.take t)))) ?_ ?_ #[r8,(uw bc).symm]
 ·intro t v U σ' hv zz;have#[q8,rfl]:=zz;rw[jk,dq]at hv;have#[r,hr,rfl]:=omap hv;have#[ht,rfl]:=cy.mp hr;apply#[(fg ar).trans aj,λkk be=>#[_,rfl,rfl,?_]];have hl:(grS (S.take t)).length<bz:=by
   have:=xO (S.take t);rw[eh]at this
   (show j5 .B .o .H .bB (.k .A .F) (.k .F .D) cd ht this (Ar.iz _ _).1)
  have hg:=CP ht;generalize S[t]=r at hg;generalize grS (S.take t)=Kp at hg hl;have J:(z.ew kl (kV w xs Kp)).L kl=some (kV w xs Kp):=cn _ _ _;apply jQ (.bool true) rfl ?_;have G1:RG (upd (gr [9,4,5,6] [.int (-(wt w xs r:Nat)),.int r.1,.int r.2.1,.int r.2.2] U) 10 (.bool true)) kl w xs r:=#[q8,rfl,rfl,rfl,rfl];have bn:upd (gr [9,4,5,6] [.int (-(wt w xs r:Nat)),.int r.1,.int r.2.1,.int r.2.2] U) 10 (.bool true) 10=some (.bool true):=rfl;show gq _ _ (upd (gr [9,4,5,6] [.int (-(wt w xs r:Nat)),.int r.1,.int r.2.1,.int r.2.2] U) 10 (.bool true)) _ _;generalize upd (gr [9,4,5,6] [.int (-(wt w xs r:Nat)),.int r.1,.int r.2.1,.int r.2.2] U) 10 (.bool true)=br at G1 bn;apply#[_,G1.r8,_,J,?_];apply qe (λm ρ σ'=>RG ρ kl w xs r/\σ'=z.ew kl (kV w xs Kp)/\ρ 10=some (.bool (dQ (Kp.take m) r))) ?_ ?_ #[G1,rfl,bn]
  ·intro m v bp ay hv zz;have#[G4,rfl,ag]:=zz;rw[dq]at hv;have#[s,hs,rfl]:=omap hv;have#[hm,rfl]:=cy.mp hs;apply#[J,λk4 bd=>CT G4 ag λck G5 ag=>bd _ _ #[G5,rfl,?_]];rw[ag,ee hm];unfold dQ;rw[List.all_append];show _=some (V.bool (_&&(decide (CU r Kp[m])&&true)));rw[Bool.and_true]
  ·intro bp ay zz;have#[G4,rfl,ag]:=zz;rw[aw,fx]at ag;apply#[J,?_];unfold grK at hg;apply rN (dQ Kp r) (by rw[xW,ag];rfl) ?_;cases q:dQ Kp r with
   |true =>
    rw[q,cp rfl]at hg;apply iP (fJ (iT (lT w xs r)) G4.r8 J ?_ (by rw[aw];show hl) ?_)
    ·rw[aO,gn,gn,gn,gn,tK,xV,qy,qy,qy,qy,G4.r4,G4.r5,G4.r6,G4.r9];show some (V.T [.int r.1,.int r.2.1,.int r.2.2,.int (- -(wt w xs r:Nat))])=_;rw[Int.neg_neg];rfl
    ·have e:kV w xs Kp++[iT (lT w xs r)]=kV w xs (Kp++[r]):=(fu (l₁:=Kp) (l₂:=[r])).symm;rw[e,xi];show dX (oo (be _ _ #[G4.r8,by rw[hg]]))
   |false =>
    rw[q,bb gx]at hg;show iQ (dX (oo (be _ _ #[G4.r8,by rw[hg]])))
 ·intro U σ' zz;have#[q8,rfl]:=zz;rw[aw,aw,fx];apply#[(fg ar).trans aj,?_];have E4:Ext σ (z.ew kl (kV w xs (grS S))):=E3.ew ca;have J:(z.ew kl (kV w xs (grS S))).L kl=some (((grS S).map (lT w xs)).map iT):=(cn _ _ _).trans (by rw[jk];rfl);generalize z.ew kl (kV w xs (grS S))=ay at E4 J;apply#[_,q8,(grS S).map (lT w xs),4,by decide,J,(λt ht=>by have#[r,_,rfl]:=fj.mp ht;rfl),λct bu bt c2 cc=>?_];have#[K',cj,rfl]:=oG (f:=lT w xs) (g:=O0) (λa=>rfl) bu;apply h c2 _ K' (E4.ew (E4.noL cc)) ((cn _ _ _).trans (by rw[jk];rfl)) #[R,S,I,hS,hs,cj,fR.mp bt]
end
end R7
namespace R7
open PySem SM
variable {σ:St}
def xr {a b:Int}{as bs:List Int}(h:a<b\/(a=b/\ju as bs=true)):ju (a::as) (b::bs)=true:=by
 show(if a=b then ju as bs else decide (a<b))=true;rcases h with h|⟨rfl,h⟩
 ·rw[bb (sh (.iu .A .B) [[-1,1]] .aJ h)];show gp h
 ·rw[cp rfl];show h
section
variable {w:Int->Nat}(hw:∀x,0<w x/\w x<=40){xs ys:List Int}
include hw
def J6 {r s:T3}(hr:rq xs ys r.1 r.2.1 r.2.2)(W:rq xs ys s.1 s.2.1 s.2.2)(h:Bef (imW w xs ys s) (imW w xs ys r)):ju (eW w xs s) (eW w xs r)=true:=by
 have:=zW hw hr W h;have this:wt w xs r<wt w xs s\/(wt w xs r=wt w xs s/\(s.1<r.1\/(s.1=r.1/\s.2.1<r.2.1))):=this;unfold eW;rcases this with h|⟨e,h|⟨U,h⟩⟩
 ·show xr (.inl (av (.il (.g .L) (.g .P)) .a .Y h))
 ·show xr (.inr #[by show av (.ie (.g .L) (.g .P)) .l .cB e,xr (.inl (av (.il .L .P) .a .B h))])
 ·show xr (.inr #[by show av (.ie (.g .L) (.g .P)) .l .cB e,xr (.inr #[by show av (.ie .L .P) .l .D U,xr (.inl (av (.il .L .P) .a .B h))])])
def tF {K:List T3}(h:nB w xs ys K){L:List T3}(bt:BT (dZ (ks (spread w xs)) (ks (spread w ys))) 0 (spread w xs).length 0 (spread w ys).length L):K.map (imW w xs ys)=L:=by
 have#[R,S,I,hS,hs,hK,hk]:=h;have hR:∀r,r∈S↔0<r.2.2/\rq xs ys r.1 r.2.1 r.2.2:=λr=>hS.mem_iff.trans (I.fin r);have ao:S.Nodup:=hS.nodup_iff.mpr I.nd;have J:=bt.words hw (a:=0) (b:=xs.length) (c:=0) (d:=ys.length) rfl (eO xs).symm rfl (eO ys).symm (au _) (au _) (bq _) (bq _);have ar:∀u∈L,∃s∈S,u=imW w xs ys s:=λu hu=>by
  have#[i,j,n,n0,R',e]:=J u hu;apply#[(i,j,n),(hR _).mpr #[n0,R'],e]
 have ay:∀{t:Nat} (ht:t<S.length),S[t]∉S.take t:=λ{t} ht q=>by
  have:=ao;rw[<- dz t S,cg ht]at this;show(List.nodup_append.mp this).2.2 _ q _ (.head _) rfl
 have hf:grS S=S.filter λr=>decide (imW w xs ys r∈L):=vH λt ht=>by
  have hr:=(hR _).mp (du ht);apply Bool.eq_iff_iff.mpr ?_;rw[vJ,decide_eq_true_iff];rw[<- bt.fits (r:=imW w xs ys S[t]) (show 0<pos w xs (S[t].1+S[t].2.2)-pos w xs S[t].1 by
   have:=uQ hw (xs:=xs) (show S[t].1<S[t].1+S[t].2.2 by show av (.l .A .L) .a .U hr.1) hr.2.li;(show fb .C .d .aQ .T this (aa (av .A .a .B this)))) (hr.2.run hw) (K:=λu=>∃s∈(S.take t).filter (λr=>decide (imW w xs ys r∈L)),u=imW w xs ys s) (λu z=>?_) λu hu hb=>?_]
  ·constructor
   ·intro h u zz;have#[s,W,rfl]:=zz;show(pB hw hr.2 ((hR s).mp (jg (List.mem_filter.mp W).1)).2).mpr (h s W)
   ·intro h s W;show(pB hw hr.2 ((hR s).mp (jg (List.mem_filter.mp W).1)).2).mp (h _ #[s,W,rfl])
  ·have#[s,W,rfl]:=z;have#[h1,h2]:=List.mem_filter.mp W;apply#[bw h2,λe=>?_];have:=CM hw ((hR s).mp (jg h1)).2 hr.2 e;rw[this]at h1;show ay ht h1
  ·have#[s,ax,rfl]:=ar u hu;have bd:=(hR s).mp ax;apply#[s,List.mem_filter.mpr #[?_,gp hu],rfl];have ai:=ax;rw[<- dz t S,cg ht]at ai;have ag:=J6 hw hr.2 bd.2 hb;rcases cu.mp ai with q|q
   ·show q
   ·have hp:=hs;rw[<- dz t S,cg ht]at hp;have hp:=(og.mp (mq.mp hp).2.1).1;rcases cz.mp q with e|q
    ·rw[e,gA]at ag;cases ag
    ·rw[hp s q]at ag;cases ag
 have aj:∀r,r∈K↔r∈S/\imW w xs ys r∈L:=λr=>by
  rw[hK.mem_iff,hf,List.mem_filter,decide_eq_true_iff]
 have bc:K.Nodup:=hK.nodup_iff.mpr (by rw[hf];show ao.filter _);have O:∀r∈K,rq xs ys r.1 r.2.1 r.2.2:=λr hr=>((hR r).mp ((aj r).mp hr).1).2;apply JI bt.ok.2.1 (λt ht=>(bt.ok.1 t ht).2) (fR.mpr (vq (λ{a b} ha hb h=>?_) hk)) (fR.mpr (vq (λ{a b} ha hb h e=>h (CM hw (O a ha) (O b hb) e)) bc)) λt=>?_
 ·show pos w xs a.1<=pos w xs b.1;apply nq hw ?_ (by have:=(O b hb).li;(show fc .A .a .a2 this));rcases ix b.1 a.1 with q|q
  ·rw[show ju (lT w xs b) (lT w xs a)=true from xr (.inl (av (.il .L .P) .a .B q))]at h;cases h
  ·show q
 ·constructor
  ·intro h;have#[r,hr,rfl]:=fj.mp h;show((aj r).mp hr).2
  ·intro h;have#[s,W,rfl]:=ar t h;show fj.mpr #[s,(aj s).mpr #[W,h],rfl]
end
def lZ {α:Type}{G:St->Prop}{T:V->Fr->List V->St->(Fr->List V->St->Prop)->Prop}(f:α->V)(g:α->List V)(Inv:Fr->Prop){N:Nat}(B:G σ):∀{us:List α},(∀v∈us,∀ρ acc K',Inv ρ->acc.length+(g v).length<=N->(∀ρ',Inv ρ'->K' ρ' (acc++g v) σ)->T (f v) ρ acc σ K') ->
  ∀{ρ:Fr} {acc:List V} {K:Fr->List V->St->Prop},Inv ρ->acc.length+(us.flatMap g).length<=N->(∀ρ',Inv ρ'->K ρ' (acc++us.flatMap g) σ)->mF (us.map f) G T ρ acc σ K
 | [],_,ρ,acc,K=>λhi _ I=>#[B,by have:=I ρ hi;rwa [List.flatMap_nil,dk]at this]
 |v::us,z,ρ,acc,K=>λhi J I=>by
  rw[List.flatMap_cons,bg]at J;apply#[B,z v (.head _) ρ acc _ hi (kA .F .a (.k (.a .A .aJ) .C) J) λρ' O=>lZ f g Inv B (λu hu=>z u (.tail _ hu)) O (by rw[bg];(show kA (.k (.a .L .C) .D) .a .bZ J)) λW U=>?_];rw[az];show I W U
def tJ {C:Cal}{more:Gens}{x:Nat}{v:V}{ρ:Fr}{acc:List V}{K:Fr->List V->St->Prop}(h:fT C more (upd ρ x v) acc σ K) :
  qi (.v x) v σ ρ λρ'=>yi C .nil ρ' σ λok σ=>if ok then fT C more ρ' acc σ K else K ρ' acc σ:=h
def iO {n:Nat}{lw ld:Addr}{w:Int->Nat}{ws:List Int}{es:List (Key×V)}{Q:V->St->Prop}(hL:σ.L lw=some (iV ws))(hD:σ.D ld=some es)(he:∀x∈ws,es.lookup (.int x)=some (.int (w x)))(hn:(spread w ws).length<=bz)(hw:∀x,w x<=40)
  (h:∀c σ',Ext σ σ'->σ.L c=none->σ'.L c=some (iV (spread w ws))->Q (.L c) σ'):jc P (n+1) 10 [.L lw,.dct ld] σ Q:=by
 apply#[M7,rfl,au 2,au 2,?_];show wpE _ (.K _ _ _ _ _) _ _ _;rw[s8,s6];apply#[_,rfl,_,hL,?_];have e:iV (spread w ws)=ws.flatMap λx=>(List.range (w x)).flatMap λk:Nat=>[V.int (40*x+k)]:=by
  show(ws.flatMap _).map V.int=_;rw[List.map_flatMap]
  congr 1
  funext x
  rw[jk];generalize List.range (w x)=l;induction l with
  |nil=>rfl
  |cons k l ih=>show di _ ih
 rw[e]at h;have I:(ws.flatMap λx=>(List.range (w x)).flatMap λk:Nat=>[V.int (40*x+k)]).length<=bz:=by rw[<- e,aw];show hn
 apply lZ (N:=bz) V.int (λx=>(List.range (w x)).flatMap λk:Nat=>[V.int (40*x+k)]) (λρ=>ρ 4=some (.dct ld)) hL (λx hx ρ acc K' r4 hN hK=>?_) rfl (by rw[List.length_nil,mj];show I) λρ' _ c hc=>h c _ ((Ext.refl σ).ew hc) hc (by rw[List.nil_append];show cn _ _ _);have ai:=hw x;have J:upd ρ 1 (.int x) 4=some (.dct ld):=r4;have U:upd ρ 1 (.int x) 1=some (.int x):=rfl;apply tJ ?_;show uB _ (.rng1 _) (upd ρ 1 (.int x)) σ _;generalize upd ρ 1 (.int x)=aj at J U;apply#[_,J,_,U,es,.int x,.int (w x),hD,rfl,he x hx,w x,rfl,by show(Ar.nab _).elim (λU=>(gj .a1 .b (.k .B (.n 40)) (.ie .L .P) ai U.2)) λU=>(av .a1 .a .bK U.2),?_];have ei:rp 0 (w x:Int)=(List.range (w x)).map λk:Nat=>V.int k:=by
  unfold rp;rw[Int.sub_zero,ph];apply dB λk _=>?_;rw[rz]
 rw[ei];apply lZ (N:=bz) (λk:Nat=>V.int k) (λk:Nat=>[V.int (40*x+k)]) (λρ=>ρ 4=some (.dct ld)/\ρ 1=some (.int x)) trivial (λk hk W O K2 hi z ag=>?_) #[J,U] hN λW hi=>hK W hi.1;apply tJ ?_;show wpE _ _ (upd W 2 (.int k)) σ _;apply jm (Q:=_) (v:=.int (40*x+k)) _ ?_ ⟨by
  have:O.length+1<=bz:=z
  (show av .B .a .S this),ag _ #[hi.1,hi.2]⟩
 rw[xf,xf,GX,qy,show upd W 2 (.int k) 1=some (.int x) from hi.2,qy];show(mw ((40:Int).natAbs<2^60\/x.natAbs<2^60) (V.int (40*x))).bind _=_;unfold mw;rw[cp (.inl (by decide))];rfl
def fV {w:Int->Nat}(hw:∀x,w x<=40)(ws:List Int):(spread w ws).length<=40*ws.length:=by
 induction ws with
 |nil=>show bq _
 |cons x ws W =>
  rw[show x::ws=[x]++ws from rfl,zv,bg,fU,bg];have:=hw x;show _<=40*(1+ws.length)
  (show fb (.k .L (.m 40 (.a .U .C))) .b (.k .B (.m 40 .C)) (.k .A (.n 40)) W this)
def D5 {f:Int->Int}{ns:List Int}{x:Int}(h:x∈ns):(dOf f ns).lookup (.int x)=some (.int (f x)):=by
 have:∀(ns:List Int) (es:List (Key×V)),(x∈ns\/es.lookup (.int x)=some (.int (f x)))->(ns.foldl (λes n=>putD es (.int n) (.int (f n))) es).lookup (.int x)=some (.int (f x)):=λns=>by
  induction ns with
  |nil=>show λes h=>h.resolve_left (λh=>nomatch h)
  |cons n ns W =>
   intro es h;rw[List.foldl_cons];apply W _ ?_;by_cases e:x=n
   ·subst e;show .inr (by rw[gB,cp rfl])
   ·rcases h with h|h
    ·show .inl ((cz.mp h).resolve_left e)
    ·apply .inr ?_;rw[gB,bb (λq=>e (Key.int.inj q))];show h
 show this ns [] (.inl h)
end R7
namespace R7
open PySem SM
variable {ρ:Fr}{σ:St}{ld:Addr}{w:Int->Nat}{es:List (Key×V)}
def gP {C:Cal}{k:Nat}{es:Exs}{Q:V->St->Prop}:wpE C (.call k es) ρ σ Q=uv C es ρ σ λvs σ=>C k vs σ Q:=rfl
abbrev fOf (fig x:Int):Int:=((fig.fdiv ((40:Int)^(x.fmod 8).toNat)).fmod 40)+1
abbrev wOf (fig x:Int):Nat:=(fOf fig x).toNat
def CV (fig x:Int):1<=fOf fig x/\fOf fig x<=40:=by
 unfold fOf;generalize fig.fdiv _=y;rw[uh _ (by decide)]
 (show#[(kh (.ik .U (.a .A .U)) .a .a9 (Ar.imod _ 40 (by decide)).1),(kh (.ik (.a .A .U) (.n 40)) .a (.il .A (.n 40)) (Ar.imod _ 40 (by decide)).2.1)])
def IZ (fig x:Int):0<wOf fig x/\wOf fig x<=40:=by
 have:=CV fig x;unfold wOf;(show#[((Ar.ton _).elim (λW=>(sg .C .d (.ik .U .A) .aG this.1 W.2)) λW=>(sg .C .c (.ik .U .A) .aP this.1 W.1)),((Ar.ton _).elim (λW=>(sg (.k .A (.n 40)) .b (.ik .A (.n 40)) .aG this.2 W.2)) λW=>(fh (.k .A (.n 40)) .a .N W.2))])
def J0 (fig x:Int):(wOf fig x:Int)=fOf fig x:=by
 have:=CV fig x;unfold wOf;(show(Ar.ton _).elim (λW=>(DP .aG .l .aG W.2)) λW=>(IQ .aG [[1,0,1,0],[1,1,0,1]] (.ik .U .A) .aP .N this.1 W.1 W.2))
abbrev gOf (way x:Int):Int:=if 0<way%4 then x%(way%4+2) else x
def jO {α W:Type}{f:α->W}:∀{L:List α},(L.flatMap λx=>[f x])=L.map f
 | []=>rfl
 |x::L=>di (f x::·) (jO (L:=L))
def uC (ns:List Int):∃a b:Int,(ns.map V.int++[V.int 0,V.int 0]).take 2=[.int a,.int b]:=by
 cases ns with
 |nil=>refine#[0,0,rfl]
 |cons a ns =>
  cases ns with
  |nil=>refine#[a,0,rfl]
  |cons b ns=>refine#[a,b,rfl]
structure RL (ρ:Fr)(la lb ld:Addr):Prop where
 r5:ρ 5=some (.dct ld)
 r7:ρ 7=some (.L la)
 r8:ρ 8=some (.L lb)
def GI {la lb kl:Addr}{xs ys:List Int}{K:List T3}(hw:∀x,0<w x/\w x<=40)(H:RL ρ la lb ld)(J:ρ 9=some (.L kl))(W:Wd σ la lb ld w xs ys es)(hb:∀x∈ys,es.lookup (.int x)=some (.int (w x)))(hk:σ.L kl=some ((K.map (imW w xs ys)).map tV))(kK:nB w xs ys K) :
  gq (jc P 6) (.cons (.a [.T [14,15]] (.T %[.call 10 %[.l 7,.l 5|0],.call 10 %[.l 8,.l 5|0]|0]))
 (.cons (.a [(.v 16)] (.meth (.n %[.none,.l 14,.l 15,.bool false|0]) 7 .nil))
 (.cons (.ret (.c .eq (.l 16) (.call 12 %[.l 9,.bf .len %[.l 14|0],.bf .len %[.l 15|0]|0])))
 .nil))) ρ σ (uN λv _=>v=.bool true):=by
 have na:=W.na;have nb:=W.nb;have lx:=fV (λx=>(hw x).2) xs;have ly:=fV (λx=>(hw x).2) ys;rw[jA,pN,nc,gP];apply#[_,H.r7,_,H.r5,iO (n:=5) W.a W.d W.e (by unfold bz;(show gj .b3 [[1,40,1]] .aA .cQ na lx)) (λx=>(hw x).2) λc1 σ1 E1 _ h1=>?_];rw[nc,gP];apply#[_,H.r8,_,H.r5,iO (n:=5) (E1.L _ _ W.b) (E1.D _ _ W.d) hb (by unfold bz;(show gj .b3 [[1,40,1]] .aA .cQ nb ly)) (λx=>(hw x).2) λc2 σ2 E2 _ h2=>?_];have h1:=E2.L _ _ h1;have hk:=E2.L _ _ (E1.L _ _ hk);apply#[bx rfl,_,rfl,rfl,?_];have r14:gr [14,15] [.L c1,.L c2] ρ 14=some (.L c1):=rfl;have r15:gr [14,15] [.L c1,.L c2] ρ 15=some (.L c2):=rfl;have J:gr [14,15] [.L c1,.L c2] ρ 9=some (.L kl):=J;show gq _ _ (gr [14,15] [.L c1,.L c2] ρ) σ2 _;generalize gr [14,15] [.L c1,.L c2] ρ=U at r14 r15 J;apply DU ?_;apply SM.told (P:=P) rfl rfl rfl rfl rfl rfl rfl rfl (.inl rfl) (aj:=false) (λe=>nomatch e) (n:=2) (la:=c1) (lb:=c2) (λQ q=>#[_,r14,_,r15,q]) h1 h2 (gj .cG [[1,40,1]] .aA .cQ na lx) (gj .cG [[1,40,1]] .aA .cQ nb ly) λag c L E3 z _ hc=>?_;have eK:=tF hw kK z;rw[eK]at hk;have r16:upd U 16 (.L c) 16=some (.L c):=rfl;have r14:upd U 16 (.L c) 14=some (.L c1):=r14;have r15:upd U 16 (.L c) 15=some (.L c2):=r15;have J:upd U 16 (.L c) 9=some (.L kl):=J;generalize upd U 16 (.L c)=ai at r14 r15 J r16;apply#[_,r16,?_];show wpE (jc P 6) (.call 12 _) ai ag _;rw[gP];apply#[_,J,?_];show uv (jc P 6) (.cons _ _) ai ag _;rw[nc];apply jm _ (vi r14 (E3.L _ _ h1)) ?_;rw[nc];apply jm _ (vi r15 (E3.L _ _ h2)) ?_;have ao:L.length<=(spread w xs).length:=by
  have:=eU (lo:=0) z.ok.1 z.ok.2.1 (λ_ _=>bq _) (bq _)
  (show av .A .a (.k (.a .O .A) .B) this)
 have I:u7 0 0 (L++[((spread w xs).length,(spread w ys).length,0)]):=u7.of (mq.mpr ⟨z.ok.2.1,.cons (λu hu=>(by cases hu)) .nil,λa ha b hb=>by
  rw[ak.mp hb];apply#[(z.ok.1 a ha).1.2.1,(z.ok.1 a ha).1.2.2.2]⟩) λ_ _=>#[bq _,bq _]
 apply CF (P:=P) (k:=12) (n:=5) rfl (E3.L _ _ hk) (oq (.l .A (.n 100000)) [[1,40,1,1]] .aA (.k .C (.m 40 .B)) .L na lx ao) I λld ar E4 _ hd=>?_;show IX (K:=λr=>V.bool r=.bool true) (E4.L _ _ hc) hd tY rfl
def oQ {J:Addr}{ws:List Int}{x y i:Nat}{Q:V->St->Prop}(hw:∀x,0<w x/\w x<=40)(rx:ρ x=some (.L J))(ry:ρ y=some (.int i))(r5:ρ 5=some (.dct ld))(hL:σ.L J=some (iV ws))(hD:σ.D ld=some es)(he:∀x∈ws,es.lookup (.int x)=some (.int (w x)))(I:ws.length<=61)(hi:i<=ws.length)
  (h:∀σ',Ext σ σ'->Q (.int (pos w ws i)) σ'):wpE (jc P 6) (.bf .len %[.call 10 %[.slc (.l x) .none (.l y),.l 5|0]|0]) ρ σ Q:=by
 show wpE (jc P 6) (.call 10 _) ρ σ _;rw[gP,nc];have U:=Gv.slc (C:=jc P 6) (lo:=.none) (hi:=.l y) (i:=0) (j:=i) (Gv.l rx hL) (λ_ _=>#[_,rfl,rfl]) (λ_ _=>#[_,ry,rfl]) (by decide) ((Ar.nab _).elim (λW=>(oq .M .e .aA .H (.ie .L .R) I hi W.2)) λW=>(av .M .a .bK W.2));rw[aw,gG,xj hi,qq,<- gL]at U;apply U σ _ (Ext.refl σ) λc z B _ hc=>#[_,r5,?_];have O:=fV (λx=>(hw x).2) (ws.take i);rw[eh]at O;apply iO (n:=5) hc (B.D _ _ hD) (λx hx=>he x (jg hx)) (by unfold bz;(show oq .b3 [[1,40,1,40]] .aA (.k .A (.m 40 .C)) .H I O (Ar.iz _ _).2.1)) (λx=>(hw x).2) λc2 σ2 E2 _ h2=>?_;apply#[iV (spread w (ws.take i)),h2,?_];rw[aw];show h σ2 (B.trans E2)
def CD {la lb:Addr}{xs ys:List Int}{ss:pq}{KK:Fl->Fr->St->Prop}(hw:∀x,0<w x/\w x<=40)(H:RL ρ la lb ld)(W:Wd σ la lb ld w xs ys es)(hb:∀x∈ys,es.lookup (.int x)=some (.int (w x)))
  (h:∀ρ' σ' kl K,RL ρ' la lb ld->ρ' 9=some (.L kl)->Wd σ' la lb ld w xs ys es->σ'.L kl=some ((K.map (imW w xs ys)).map tV)->nB w xs ys K->gq (jc P 6) ss ρ' σ' KK) :
  gq (jc P 6) (.cons (.a [(.v 9)] (.L .nil))
 (.cons (.each (.T [10,11,12,13]) (.seq (.call 11 %[.l 7,.l 8,.l 5|0])) (.cons (.expr (.bm .append (.l 9) %[.T %[.bf .len %[.call 10 %[.slc (.l 7) .none (.l 10),.l 5|0]|0],.bf .len %[.call 10 %[.slc (.l 8) .none (.l 11),.l 5|0]|0],.l 13|0]|0]))
 .nil)) ss)) ρ σ KK:=by
 apply u9 [] rfl (bq _) λkl aj=>?_;have E0:Ext σ (σ.ew kl []):=(Ext.refl σ).ew aj;have be:(σ.ew kl []).L kl=some []:=cn _ _ _;have W0:=W.ext E0;have H0:RL (upd ρ 9 (.L kl)) la lb ld:=#[H.r5,H.r7,H.r8];have r9:upd ρ 9 (.L kl) 9=some (.L kl):=rfl;have br:la≠kl:=λq=>by have:=W.a;rw[q,aj]at this;cases this
 have bp:lb≠kl:=λq=>by have:=W.b;rw[q,aj]at this;cases this
 generalize upd ρ 9 (.L kl)=cc at H0 r9;generalize σ.ew kl []=σ1 at W0 be;clear E0;apply#[_,H0.r7,_,H0.r8,_,H0.r5,CE (n:=5) W0 λc σ2 K E2 hc kK=>#[_,hc,?_]];have ao:=E2.L _ _ be;have W2:=W0.ext E2;have ag:c≠kl\/K=[]:=by
  by_cases q:c=kl
  ·rw[q,ao]at hc;show .inr (List.map_eq_nil_iff.mp (ah hc).symm)
  ·show .inl q
 have fin:∀ρ' σ',RL ρ' la lb ld->ρ' 9=some (.L kl)->Wd σ' la lb ld w xs ys es->σ'.L kl=some ((K.map (imW w xs ys)).map tV)->gq (jc P 6) ss ρ' σ' KK:=λρ' σ' a b c d=>h ρ' σ' kl K a b c d kK;rcases ag with ag|rfl
 ·have bd:K.length<bz:=by
   have#[R,S,I,hS,_,hp,_]:=kK;have g:=xO S;have l:=I.len;have na:=W.na;rw[hp.length_eq];rw[hS.length_eq]at g;unfold bz;(show oq .bA [[1,1,1,3969]] .A (.k .B (.a (.r (.a (.r .C 63) .O) 63) .O)) (.k .C (.n 61)) g l na)
  have ar:∀r∈K,rq xs ys r.1 r.2.1 r.2.2:=λr hr=>by
   have#[R,S,I,hS,_,hp,_]:=kK;have sub:∀(S K:List T3),∀r∈S.foldl grK K,r∈K\/r∈S:=λS=>by
    induction S with
    |nil=>show λK r h=>.inl h
    |cons u S ih =>
     intro K r h;rcases ih _ r h with h|h
     ·unfold grK at h;split at h
      ·rcases cu.mp h with h|h
       ·show .inl h
       ·rw[ak.mp h];show .inr (.head _)
      ·show .inl h
     ·show .inr (.tail _ h)
   rcases sub S [] r (hp.mem_iff.mp hr) with h|h
   ·cases h
   ·show((I.fin r).mp (hS.mem_iff.mp h)).2
  clear kK;apply qe (λt ρ' σ'=>RL ρ' la lb ld/\ρ' 9=some (.L kl)/\Wd σ' la lb ld w xs ys es/\σ'.L c=some (kV w xs K)/\σ'.L kl=some (((K.take t).map (imW w xs ys)).map tV)/\t<bz) ?_ ?_ #[H0,r9,W2,hc,ao,by unfold bz;decide]
  ·intro t v ρ' σ' hv zz;have#[H',z,W',J,U,ht]:=zz;rw[dq]at hv;have#[r,hr,rfl]:=omap hv;have#[ai,bt]:=cy.mp hr;have Rr:=ar r (fk hr);apply#[J,λkk ca=>#[_,rfl,rfl,?_]];have H2:RL (gr [10,11,12,13] [.int r.1,.int r.2.1,.int r.2.2,.int (wt w xs r:Nat)] ρ') la lb ld:=#[H'.r5,H'.r7,H'.r8];have z:gr [10,11,12,13] [.int r.1,.int r.2.1,.int r.2.2,.int (wt w xs r:Nat)] ρ' 9=some (.L kl):=z;have bc:gr [10,11,12,13] [.int r.1,.int r.2.1,.int r.2.2,.int (wt w xs r:Nat)] ρ' 10=some (.int r.1):=rfl;have ay:gr [10,11,12,13] [.int r.1,.int r.2.1,.int r.2.2,.int (wt w xs r:Nat)] ρ' 11=some (.int r.2.1):=rfl;have ax:gr [10,11,12,13] [.int r.1,.int r.2.1,.int r.2.2,.int (wt w xs r:Nat)] ρ' 13=some (.int (wt w xs r:Nat)):=rfl;show gq _ _ (gr [10,11,12,13] [.int r.1,.int r.2.1,.int r.2.2,.int (wt w xs r:Nat)] ρ') σ' _;generalize gr [10,11,12,13] [.int r.1,.int r.2.1,.int r.2.2,.int (wt w xs r:Nat)] ρ'=bn at H2 z bc ay ax;apply#[_,z,by show(σ'.L kl).isSome=true;rw[U];rfl,?_];rw[nc,pN,nc];apply oQ hw H2.r7 bc H2.r5 W'.a W'.d W'.e W'.na (by have:=Rr.li;(show fc .A .a .a2 this)) λcb E3=>?_;rw[nc];have W3:=W'.ext E3;apply oQ hw H2.r8 ay H2.r5 W3.b W3.d hb W3.nb (by have:=Rr.lj;(show fc .A .a .a2 this)) λbl E4=>?_;have W4:=W3.ext E4;have bu:=E4.L _ _ (E3.L _ _ U);have bv:=E4.L _ _ (E3.L _ _ J);apply#[_,ax,bx rfl,_,bu,by rw[aw,aw,eh];(show mr .B .e .Q .bB .aH bd ai (Ar.iz _ _).1),rfl,?_];have e:((K.take t).map (imW w xs ys)).map tV++[V.T [.int (pos w xs r.1),.int (pos w ys r.2.1),.int (wt w xs r:Nat)]]=((K.take (t+1)).map (imW w xs ys)).map tV:=by
    rw[ee ai,fu,fu,bt];rfl
   rw[e];show ca bn (bl.ew kl _) #[H2,z,#[(fg br).trans W4.a,(fg bp).trans W4.b,W4.d,W4.e,W4.na,W4.nb],(fg ag).trans bv,cn _ _ _,by show fb .Z .b .Q .I bd ai]
  ·intro ρ' σ' zz;have#[H',z,W',J,U,_]:=zz;rw[aw,fx]at U;apply#[J,fin _ _ H' z W' U]
 ·apply#[hc,fin _ _ H0 r9 W2 ao]
def oM {σ:St}{c:Addr}{ms:List Int}{way fig:Int}(r1:ρ 1=some (.int way))(r2:ρ 2=some (.int fig))(r3:ρ 3=some (.L c))(hm:ms.length<=61)(hc:σ.L c=some (iV ms)) :
  gq (jc P 6) (.cons (.a [(.v 4)] (.K [(2,1)] (.seq (.l 3)) (.v 1) .nil (.elt (.I (.c .gt (.b .mod (.l 2) (.int 4)) (.int 0)) (.b .mod (.l 1) (.b .add (.b .mod (.l 2) (.int 4)) (.int 2))) (.l 1)))))
 (.cons (.dcompA 5 [(2,2)] (.l 4) 1 (.b .add (.b .mod (.b .fdiv (.l 2) (.b .pow (.int 40) (.b .mod (.l 1) (.int 8)))) (.int 40)) (.int 1)))
 (.cons (.a [(.v 6)] (.b .mod (.b .add (.b .fdiv (.l 1) (.int 4)) (.b .fdiv (.bf .len %[.l 4|0]) (.int 2))) (.b .add (.bf .len %[.l 4|0]) (.int 1))))
 (.cons (.a [.T [7,8]] (.T %[.slc (.l 4) .none (.l 6),.slc (.l 4) (.l 6) .none|0]))
 (.cons (.a [(.v 9)] (.L .nil))
 (.cons (.each (.T [10,11,12,13]) (.seq (.call 11 %[.l 7,.l 8,.l 5|0])) (.cons (.expr (.bm .append (.l 9) %[.T %[.bf .len %[.call 10 %[.slc (.l 7) .none (.l 10),.l 5|0]|0],.bf .len %[.call 10 %[.slc (.l 8) .none (.l 11),.l 5|0]|0],.l 13|0]|0]))
 .nil))
 (.cons (.a [.T [14,15]] (.T %[.call 10 %[.l 7,.l 5|0],.call 10 %[.l 8,.l 5|0]|0]))
 (.cons (.a [(.v 16)] (.meth (.n %[.none,.l 14,.l 15,.bool false|0]) 7 .nil))
 (.cons (.ret (.c .eq (.l 16) (.call 12 %[.l 9,.bf .len %[.l 14|0],.bf .len %[.l 15|0]|0])))
 .nil))))))))) ρ σ (uN λv _=>v=.bool true):=by
 have hw:=IZ fig;apply L3 (Fv.K (u:=V.int) (λx=>[V.int (gOf way x)]) (λρ'=>ρ' 2=some (.int way)) (Gv.l r3 hc) r1 (by unfold bz;(show fh .b3 .a .b4 hm)) λσ' E x hx ρ' q2 K' bl=>bl _ q2 (Gives.one ?_)) λlw σ2 E2 _ I=>?_
 ·have be:evT σ' (upd ρ' 1 (.int x)) (.c .gt (.b .mod (.l 2) (.int 4)) (.int 0))=some (decide (0<way%4)):=by
   have:upd ρ' 1 (.int x) 2=some (.int way):=q2;simp[mw,this]
  show(evT σ' (upd ρ' 1 (.int x)) _).bind (λt=>if t then _ else _)=_;rw[be];unfold gOf;by_cases c:0<way%4
  ·rw[gp c,cp c];show evV σ' (upd ρ' 1 (.int x)) (.b .mod (.l 1) (.b .add (.b .mod (.l 2) (.int 4)) (.int 2)))=_;have h2:upd ρ' 1 (.int x) 2=some (.int way):=q2;have h1:upd ρ' 1 (.int x) 1=some (.int x):=rfl;simp[mw,h1,h2]
   (show kh (.il .O (.a .A .W)) .a .bL c)
  ·rw[fp c,bb c];rfl
 rw[jO]at I;have I:σ2.L lw=some (iV (ms.map (gOf way))):=by rw[I];show di some (jk ..).symm
 have z:(ms.map (gOf way)).length<=61:=by rw[aw];show hm
 generalize ms.map (gOf way)=ws at I z;have J:upd ρ 4 (.L lw) 1=some (.int way):=r1;have q2:upd ρ 4 (.L lw) 2=some (.int fig):=r2;have q4:upd ρ 4 (.L lw) 4=some (.L lw):=rfl;generalize upd ρ 4 (.L lw)=ag at J q2 q4;clear r1 r2 r3;apply#[_,q4,ws,fOf fig,I,λx hx=>?_,λld ay=>?_]
 ·have h8:=Int.emod_nonneg x (show(8:Int)≠0 by decide);have h9:=Int.emod_lt_of_pos x (show(0:Int)<8 by decide);have e8:x.fmod 8=x%8:=uh _ (by decide);have hp:((40:Int)^(x.fmod 8).toNat)≠0/\((40:Int)^(x.fmod 8).toNat).natAbs<2^60:=by
   rw[e8];have#[m,hm,ax]:∃m:Nat,m<8/\(x%8).toNat=m:=#[_,by show(Ar.ton _).elim (λJ=>(sg (.l .A (.n 8)) .b (.il .A (.n 8)) .aG h9 J.2)) λJ=>(fh (.l .A (.n 8)) .a .N J.2),rfl];rw[ax];have:∀m:Fin 8,((40:Int)^m.1)≠0/\((40:Int)^m.1).natAbs<2^60:=by decide
   show this #[m,hm]
  apply#[_,1,#[_,40,#[fig,_,q2,#[40,_,rfl,#[x,8,rfl,rfl,by decide,rfl],by rw[e8];(show kh .a9 .a .a9 h8),by rw[e8];(show kh (.ik .A (.n 1000)) .a (.il .A (.n 8)) h9),by decide,rfl],hp.1,hp.2,rfl],rfl,by decide,rfl],rfl,rfl]
 have E3:Ext σ2 (σ2.nj ld (dOf (fOf fig) ws)):=(Ext.refl σ2).nj ay;have hD:(σ2.nj ld (dOf (fOf fig) ws)).D ld=some (dOf (fOf fig) ws):=cn _ _ _;have aj:∀x∈ws,(dOf (fOf fig) ws).lookup (.int x)=some (.int (wOf fig x)):=λx hx=>by rw[D5 hx,J0]
 have I:=E3.L _ _ I;have J:upd ag 5 (.dct ld) 1=some (.int way):=J;have q4:upd ag 5 (.dct ld) 4=some (.L lw):=q4;have q5:upd ag 5 (.dct ld) 5=some (.dct ld):=rfl;show gq _ _ (upd ag 5 (.dct ld)) _ _;generalize upd ag 5 (.dct ld)=ai at J q4 q5;generalize σ2.nj ld (dOf (fOf fig) ws)=ao at I hD;generalize dOf (fOf fig) ws=es at hD aj;clear E3 E2 q2;have#[c,hc,ec]:∃c:Nat,c<=ws.length/\(way/4+(ws.length:Int)/2)%((ws.length:Int)+1)=c:=by
  have h1:=Int.emod_nonneg (way/4+(ws.length:Int)/2) (show((ws.length:Int)+1)≠0 by show nu (.iu (.a .L .U) .O) .h);have h2:=Int.emod_lt_of_pos (way/4+(ws.length:Int)/2) (show(0:Int)<(ws.length:Int)+1 by show nu (.il .O (.a .L .U)) .h);apply#[((way/4+(ws.length:Int)/2)%((ws.length:Int)+1)).toNat,by show(Ar.ton _).elim (λJ=>(DO .A .b (.il .A (.a .P .U)) .aG h2 J.2)) λJ=>(av .A .a .N J.2),by show(Ar.ton _).elim (λJ=>(DP (.ie .A .L) .f .aG J.2)) λJ=>(IQ (.ie .A .L) .m .a9 .aP .N h1 J.1 J.2)]
 apply jQ (.int c) ?_ ?_
 ·have el:=vi (σ:=ao) q4 I;rw[xf,xf,xf,xf,xf,el,qy,J];show((mw ((0:Int)<4/\(4:Int).natAbs<2^60) (V.int (way/4))).bind λva=>(mw ((0:Int)<2/\(2:Int).natAbs<2^60) (V.int ((ws.length:Int)/2))).bind λvb=>dS .add va vb).bind (λva=>dS .mod va (.int ((ws.length:Int)+1)))=_;unfold mw;rw[cp (by decide),cp (by decide)];show mw ((0:Int)<(ws.length:Int)+1) (V.int ((way/4+(ws.length:Int)/2)%((ws.length:Int)+1)))=_;unfold mw;rw[cp (nu (.il .O (.a .L .U)) .h),ec]
 have q4:upd ai 6 (.int c) 4=some (.L lw):=q4;have q5:upd ai 6 (.int c) 5=some (.dct ld):=q5;have q6:upd ai 6 (.int c) 6=some (.int c):=rfl;generalize upd ai 6 (.int c)=bt at q4 q5 q6;rw[jA,pN,nc];have s1:=Gv.slc (C:=jc P 6) (lo:=.none) (hi:=.l 6) (i:=0) (j:=c) (Gv.l q4 I) (λ_ _=>#[_,rfl,rfl]) (λ_ _=>#[_,q6,rfl]) (by decide) ((Ar.nab _).elim (λJ=>(oq .M .e .aA .H (.ie .L .R) z hc J.2)) λJ=>(av .M .a .bK J.2));rw[aw,gG,xj hc,qq,<- gL]at s1;apply s1 ao _ (Ext.refl ao) λla ar E5 _ bd=>?_;rw[nc];have s2:=Gv.slc (C:=jc P 6) (lo:=.l 6) (hi:=.none) (i:=c) (j:=ws.length) (Gv.l q4 (E5.L _ _ I)) (λ_ _=>#[_,q6,rfl]) (λ_ _=>#[_,rfl,di (λm:Nat=>some (m:Int)) (aw _)]) ((Ar.nab _).elim (λJ=>(oq .M .e .aA .H (.ie .L .R) z hc J.2)) λJ=>(av .M .a .bK J.2)) ((Ar.nab _).elim (λJ=>(gj .M .b .aA (.ie .L .P) z J.2)) λJ=>(av .M .a .bK J.2));rw[aw,xj hc,xj (au _),<- gL,fx,<- List.map_drop]at s2;apply s2 ar _ (Ext.refl ar) λlb bp E6 _ bc=>?_;apply#[bx rfl,_,rfl,rfl,?_];apply CD (la:=la) (lb:=lb) (ld:=ld) (xs:=ws.take c) (ys:=ws.drop c) hw #[q5,rfl,rfl] #[E6.L _ _ bd,bc,E6.D _ _ (E5.D _ _ hD),λx hx=>aj x (jg hx),by rw[eh];(show gj .b4 .b .aA .A z (Ar.iz _ _).2.1),by rw[gh];(show fb .b4 .b .aA (.e .S .B) z (aa (av .A .a .A hc)))] (λx hx=>aj x (pg hx)) λbr bn kl K H5 r9 W5 hk kK=>?_;show GI hw H5 r9 W5 (λx hx=>aj x (pg hx)) hk kK
def NS (ns:List Int)(U:ns.length<=63)(σ:St):jc P 7 13 [.ro ns] σ λv σ=>v=.bool true:=by
 apply#[GU,rfl,au 1,au 1,?_];have h0:frameOf GU [.ro ns] 0=some (.ro ns):=rfl;generalize frameOf GU [.ro ns]=ρ at h0;have hz:ns.length<=bz:=by unfold bz;(show fh .b3 .a .cH U)
 apply#[_,h0,bx rfl,λc1 aj=>#[ns.map V.int,[.int 0,.int 0],rfl,cn _ _ _,by rw[aw];unfold bz;show ns.length+2<=_;(show fh (.k .aN .Y) .a .cH U),λc2 ai=>?_]];apply#[_,0,2,cn _ _ _,rfl,rfl,by decide,by decide,λc3 ag=>?_];have#[way,fig,e2]:=uC ns;have e3:((ns.map V.int++[V.int 0,V.int 0]).take (iw (ns.map V.int++[V.int 0,V.int 0]).length 2)).drop (iw (ns.map V.int++[V.int 0,V.int 0]).length 0)=[.int way,.int fig]:=by
  rw[gG,qq,show iw (ns.map V.int++[V.int 0,V.int 0]).length 2=2 from xj (i:=2) (by rw[bg];show Nat.le_add_left 2 _)];show e2
 rw[e3];apply#[_,cn _ _ _,rfl,?_];have r0:gr [1,2] [.int way,.int fig] ρ 0=some (.ro ns):=h0;have z:gr [1,2] [.int way,.int fig] ρ 1=some (.int way):=rfl;have I:gr [1,2] [.int way,.int fig] ρ 2=some (.int fig):=rfl;show gq _ _ (gr [1,2] [.int way,.int fig] ρ) _ _;generalize gr [1,2] [.int way,.int fig] ρ=J at r0 z I;generalize ((σ.ew c1 [V.int 0,V.int 0]).ew c2 (ns.map V.int++[V.int 0,V.int 0])).ew c3 [V.int way,V.int fig]=O;clear h0 e3 e2 aj ai ag;apply DU ?_;apply#[_,r0,hz,?_];show if decide ((2:Int)<ns.length)=true then wpE (jc P 6) (.slc (.l 0) (.int 2) (.int 63)) J O _ else wpE (jc P 6) (.L _) J O _
 by_cases hl:(2:Int)<ns.length
 ·rw[gp hl];apply iP #[_,r0,2,63,hz,rfl,rfl,by decide,by decide,λc hc=>?_];apply oM (ms:=(ns.take (iw ns.length 63)).drop (iw ns.length 2)) (way:=way) (fig:=fig) z I rfl ?_ (cn _ _ _);rw[show iw ns.length 2=2 from xj (i:=2) (fh (.k .W .A) .a (.il .W .L) hl),gh,eh]
  (show Ar.sub _ _ (λq1 p1=>(oq .b4 .e (.k .B (.n 63)) .H (.e .aN .C) U (Ar.iz _ _).2.1 p1)) λq1 p1=>(fh .b4 .a .N p1))
 ·rw[fp hl];apply iQ #[bx rfl,λc hc=>?_];show oM (ms:=[1,0,1]) (way:=way) (fig:=fig) z I rfl (bx rfl) (cn _ _ _)
end R7
end MP
end
section
open PySem PySem.W PyProof.Rows
namespace Mine
def NW:rw7.Holds:=NX λns h=>MP.R7.NS ns h st0
end Mine
end
end Mine.Internal
theorem PySem.Challenge.cw_dm0056_07_holds : PySem.Challenge.rw_dm0056_07.Holds :=
 Mine.Internal.Mine.NW
